import JvmDerived
import JvmDerived.Pilot.@@N@@Statement
import JvmDerived.Pilot.@@N@@Code
set_option linter.unusedVariables false
set_option linter.unusedSimpArgs false

namespace Jvm.Pilot.@@N@@
open Jvm Jvm.ClassFile Sem Op Lib Jvm.Free Jvm.Stand Jvm.LawKit Jvm.RoadKit Bundle Jvm.Pilot.@@N@@.Jvm.D
section Own
variable {p : Program} {l : Launch} {e : Env} {R : Room} {s : State} {m : MethodId} {args : Array Value} {below : List Frame} {meth : Method} {c : Code} {T : State} {locs : List Loc} {cells slots : Nat} {Z : State} {h h' : Heap}
/-- the run from A comes to the method's end as Q says, with at most kc new cells and ks new slots -/
def own_E (p : Program) (e : Env) (below : List Frame) (s : State) (Q : Option Value → Heap → List Loc → Prop) (kc ks : Nat) (A : State) : Prop :=
  ∃ s₂ o, Steps p.tables e below A s₂ ∧ s₂.status = .running ∧ Ended s₂ below o ∧ ∃ v L, o = .returned v ∧ Q v s₂.heap L ∧ FrameEnd s o s₂ L kc ks
variable {Q : Option Value → Heap → List Loc → Prop} {kc ks : Nat} {A B : State}
theorem own_st (k : ∀ t, Steps p.tables e below B t → Steps p.tables e below A t) (h : own_E p e below s Q kc ks B) : own_E p e below s Q kc ks A := by
  obtain ⟨t, o, h1, h2⟩ := h
  exact ⟨t, o, k t h1, h2⟩
theorem own_end (X : Stand p l e R s m args below meth c T locs cells slots) {v : Option Value} (hv : meth.sig.returnType = none → v = none) (hlk : meth.locks = false)
    (hk : ∀ fs, (∀ (f : JFrame) (acts : List Action), f.method = m → f.locked = none → f.entered = [] → (doReturn e (T.setTop f) acts v).1 = T.setFrames fs) → Steps p.tables e below A (T.setFrames fs)) (hc : cells ≤ kc) (hs : slots ≤ ks) (hQ : Q v T.heap locs) : own_E p e below s Q kc ks A := by
  obtain ⟨fs, hr, hrun, hended, hW, hsame⟩ := X.leave (v := v) hv hlk
  exact ⟨_, _, hk fs hr, hrun, hended, _, _, rfl, hQ, ⟨_, rfl⟩, hW, hsame.mono hc hs⟩
theorem own_retN (X : Stand p l e R s m args below meth c T locs cells slots) (hx : p.tables.exec = Jvm.exec) {pc : Nat} {Ls : Array Slot} {z z' : Int32} {t : FieldType} {rest : List Value} (hret : meth.sig.returnType = some t) (ht : t = .boolean ∨ t = .byte ∨ t = .char ∨ t = .short) (hlk : meth.locks = false)
    (hd : decode c.code pc = .ok (.ireturn, 1)) (hz : nar t z = z') (hc : cells ≤ kc) (hs : slots ≤ ks) (hQ : Q (some (.int z')) T.heap locs) : own_E p e below s Q kc ks (T.setTop (mkF m pc Ls (.int z :: rest))) := by
  subst hz
  exact own_end X (fun q => by rw [hret] at q; cases q) hlk (fun fs hr => retN X hx hret ht hd hr) hc hs hQ
theorem own_retI (X : Stand p l e R s m args below meth c T locs cells slots) (hx : p.tables.exec = Jvm.exec) {pc : Nat} {Ls : Array Slot} {z : Int32} {rest : List Value} (hret : meth.sig.returnType = some .int) (hlk : meth.locks = false)
    (hd : decode c.code pc = .ok (.ireturn, 1)) (hc : cells ≤ kc) (hs : slots ≤ ks) (hQ : Q (some (.int z)) T.heap locs) : own_E p e below s Q kc ks (T.setTop (mkF m pc Ls (.int z :: rest))) := by
  refine own_end X (fun q => by rw [hret] at q; cases q) hlk (fun fs hr => ?_) hc hs hQ
  have hm' : T.vm.method? m = some meth := X.method'
  have hn : narrow .int (.int z) = .int z := rfl
  show Steps p.tables e below (T.setTop { method := m, pc := pc, locals := Ls, stack := _ :: rest, locked := none }) _
  jvm_step X.here [X.here.top, hx, hd, hm', hret, hn]
  first | (intro acts; rw [hr _ acts rfl rfl rfl]) | rw [hr _ _ rfl rfl rfl]
  exact Steps.refl _
theorem own_retJ (X : Stand p l e R s m args below meth c T locs cells slots) (hx : p.tables.exec = Jvm.exec) {pc : Nat} {Ls : Array Slot} {z : Int64} (hret : meth.sig.returnType = some .long) (hlk : meth.locks = false)
    (hd : decode c.code pc = .ok (.lreturn, 1)) (hc : cells ≤ kc) (hs : slots ≤ ks) (hQ : Q (some (.long z)) T.heap locs) : own_E p e below s Q kc ks (T.setTop (mkF m pc Ls [.long z])) :=
  own_end X (fun q => by rw [hret] at q; cases q) hlk (fun fs hr => X.lreturnOut hx hret hd hr) hc hs hQ
theorem own_retR (X : Stand p l e R s m args below meth c T locs cells slots) (hx : p.tables.exec = Jvm.exec) {pc : Nat} {Ls : Array Slot} {w : Value} {t : FieldType} (hw : w.isRef = true) (hret : meth.sig.returnType = some t) (ht : t.isReference = true) (hlk : meth.locks = false)
    (hd : decode c.code pc = .ok (.areturn, 1)) (hc : cells ≤ kc) (hs : slots ≤ ks) (hQ : Q (some w) T.heap locs) : own_E p e below s Q kc ks (T.setTop (mkF m pc Ls [w])) :=
  own_end X (fun q => by rw [hret] at q; cases q) hlk (fun fs hr => X.areturnOut hx hw hret ht hd hr) hc hs hQ
theorem own_retV (X : Stand p l e R s m args below meth c T locs cells slots) (hx : p.tables.exec = Jvm.exec) {pc : Nat} {Ls : Array Slot} (hret : meth.sig.returnType = none) (hlk : meth.locks = false)
    (hd : decode c.code pc = .ok (.return_, 1)) (hc : cells ≤ kc) (hs : slots ≤ ks) (hQ : Q none T.heap locs) : own_E p e below s Q kc ks (T.setTop (mkF m pc Ls [])) :=
  own_end X (fun _ => rfl) hlk (fun fs hr => X.returnOut hx hret hd hr) hc hs hQ
/-- the same where the run may have interned strings -/
def own_EW (p : Program) (e : Env) (below : List Frame) (s : State) (Q : Option Value → Heap → List Loc → Prop) (kc ks : Nat) (A : State) : Prop :=
  ∃ s₂ o, Steps p.tables e below A s₂ ∧ s₂.status = .running ∧ Ended s₂ below o ∧ ∃ v L, o = .returned v ∧ Q v s₂.heap L ∧ ReturnedEndW s o s₂ L kc ks
theorem own_stW (k : ∀ t, Steps p.tables e below B t → Steps p.tables e below A t) (h : own_EW p e below s Q kc ks B) : own_EW p e below s Q kc ks A := by
  obtain ⟨t, o, h1, h2⟩ := h
  exact ⟨t, o, k t h1, h2⟩
theorem own_endW {vm₁ : Vm} (X : Stand p l e R (s.setVm vm₁) m args below meth c T locs cells slots) {k0 : Nat} (hS : s.Since vm₁ k0) (hk0 : k0 ≤ T.heap.size) {v : Option Value} (hv : meth.sig.returnType = none → v = none) (hlk : meth.locks = false)
    (hk : ∀ fs, (∀ (f : JFrame) (acts : List Action), f.method = m → f.locked = none → f.entered = [] → (doReturn e (T.setTop f) acts v).1 = T.setFrames fs) → Steps p.tables e below A (T.setFrames fs)) (hc : cells ≤ kc) (hs : slots ≤ ks) (hQ : Q v T.heap locs) : own_EW p e below s Q kc ks A := by
  obtain ⟨fs, hr, hrun, hended, h1, h2, h3, h4⟩ := X.leaveW hS hk0 (v := v) hv hlk
  exact ⟨_, _, hk fs hr, hrun, hended, _, _, rfl, hQ, h1, h2, h3, h4.mono hc hs⟩
theorem own_retNW {vm₁ : Vm} (X : Stand p l e R (s.setVm vm₁) m args below meth c T locs cells slots) {k0 : Nat} (hS : s.Since vm₁ k0) (hk0 : k0 ≤ T.heap.size) (hx : p.tables.exec = Jvm.exec) {pc : Nat} {Ls : Array Slot} {z z' : Int32} {t : FieldType} {rest : List Value} (hret : meth.sig.returnType = some t) (ht : t = .boolean ∨ t = .byte ∨ t = .char ∨ t = .short) (hlk : meth.locks = false)
    (hd : decode c.code pc = .ok (.ireturn, 1)) (hz : nar t z = z') (hc : cells ≤ kc) (hs : slots ≤ ks) (hQ : Q (some (.int z')) T.heap locs) : own_EW p e below s Q kc ks (T.setTop (mkF m pc Ls (.int z :: rest))) := by
  subst hz
  exact own_endW X hS hk0 (fun q => by rw [hret] at q; cases q) hlk (fun fs hr => retN X hx hret ht hd hr) hc hs hQ
theorem own_retRW {vm₁ : Vm} (X : Stand p l e R (s.setVm vm₁) m args below meth c T locs cells slots) {k0 : Nat} (hS : s.Since vm₁ k0) (hk0 : k0 ≤ T.heap.size) (hx : p.tables.exec = Jvm.exec) {pc : Nat} {Ls : Array Slot} {w : Value} {t : FieldType} (hw : w.isRef = true) (hret : meth.sig.returnType = some t) (ht : t.isReference = true) (hlk : meth.locks = false)
    (hd : decode c.code pc = .ok (.areturn, 1)) (hc : cells ≤ kc) (hs : slots ≤ ks) (hQ : Q (some w) T.heap locs) : own_EW p e below s Q kc ks (T.setTop (mkF m pc Ls [w])) :=
  own_endW X hS hk0 (fun q => by rw [hret] at q; cases q) hlk (fun fs hr => X.areturnOut hx hw hret ht hd hr) hc hs hQ
/-- a boolean as the machine holds it -/
def own_b (b : Bool) : Int32 := if b then 1 else 0
theorem own_b1 {P : Prop} [Decidable P] (h : P) : own_b (decide P) = 1 := by simp [own_b, h]
theorem own_bz {P : Prop} [Decidable P] (h : ¬ P) : own_b (decide P) = 0 := by simp [own_b, h]
theorem own_lt32 {x y : Int32} (h : x < y) : x.toInt < y.toInt := Int32.lt_iff_toInt_lt.mp h
theorem own_nlt32 {x y : Int32} (h : ¬ x < y) : ¬ x.toInt < y.toInt := fun q => h (Int32.lt_iff_toInt_lt.mpr q)
theorem own_eq32 {x y : Int32} (h : x = y) : x.toInt = y.toInt := congrArg _ h
theorem own_neq32 {x y : Int32} (h : ¬ x = y) : ¬ x.toInt = y.toInt := fun q => h (Int32.toInt_inj.mp q)
theorem own_lt64 {x y : Int64} (h : x < y) : x.toInt < y.toInt := Int64.lt_iff_toInt_lt.mp h
theorem own_nlt64 {x y : Int64} (h : ¬ x < y) : ¬ x.toInt < y.toInt := fun q => h (Int64.lt_iff_toInt_lt.mpr q)
theorem own_eq64 {x y : Int64} (h : x = y) : x.toInt = y.toInt := congrArg _ h
theorem own_neq64 {x y : Int64} (h : ¬ x = y) : ¬ x.toInt = y.toInt := fun q => h (Int64.toInt_inj.mp q)
theorem own_b0 {b : Bool} : own_b b = 0 ↔ b = false := by cases b <;> decide
theorem own_bT {b : Bool} (h : ¬ b = false) : own_b b = 1 := by cases b <;> first | rfl | exact absurd rfl h
theorem own_bF {b : Bool} (h : b = false) : own_b b = 0 := by rw [h]; rfl
theorem own_nb (b : Bool) : nar .boolean (own_b b) = own_b b := by cases b <;> rfl
theorem own_nbb (x : Int32) : nar .byte (x.toInt8.toInt32) = x.toInt8.toInt32 := by
  show x.toInt8.toInt32.toInt8.toInt32 = x.toInt8.toInt32
  rw [Int8.toInt8_toInt32]
theorem own_stV {l : Array Slot} {i : Nat} {v : Value} {o : Slot} (hold : l[i]? = some o) (ho : o = .unset ∨ ∃ w, o = .val w ∧ w.category = 1) (hv : v.category = 1) : storeLocals l i v = some (l.setIfInBounds i (.val v)) := XS.store1 hold ho hv
theorem own_narV {ty : FieldType} {v : Value} (hv : v.isRef = true) : narrow ty v = v := by
  rcases ref_cases hv with rfl | ⟨a, rfl⟩ <;> cases ty <;> rfl
theorem own_fitV {ty : FieldType} {v : Value} (ht : ty.isReference = true) (hv : v.isRef = true) : fits ty v = true := by
  rcases ref_cases hv with rfl | ⟨a, rfl⟩ <;> cases ty <;> first | rfl | (cases ht; done)
/-- an array of n places, whose place j holds f j -/
def own_A (Z : State) (h : Heap) (a : Addr) (ty : FieldType) (n : Nat) (f : Nat → Int32) : Prop := ∃ c : Cell, Arr Z h a c ty ∧ c.slots.size = n ∧ n < 2 ^ 31 ∧ (∀ j, j < n → c.slots[j]? = some (.int (f j))) ∧ ∀ j, j < n → fits ty (.int (f j)) = true
def own_up (f : Nat → Int32) (i : Nat) (v : Int32) (k : Nat) : Int32 := if k = i then v else f k
theorem own_up_same (f : Nat → Int32) (i : Nat) (v : Int32) : own_up f i v i = v := if_pos rfl
theorem own_up_ne (f : Nat → Int32) {i k : Nat} (v : Int32) (h : ¬ k = i) : own_up f i v k = f k := if_neg h
theorem own_catV {v : Value} (h : v.isRef = true) : v.category = 1 := by rcases ref_cases h with rfl | ⟨a, rfl⟩ <;> rfl
abbrev own_ix (j : Int32) (i : Nat) : Prop := ¬ j < 0 ∧ j.toNatClampNeg = i
variable {a b : Addr} {ty : FieldType} {n i : Nat} {f : Nat → Int32} {j x : Int32} {pc : Nat} {Ls : Array Slot} {rest : List Value} {sl : Nat} {v : Value} {ws : List Addr}
theorem own_A.lt (F : own_A Z h a ty n f) : a < h.size := by obtain ⟨c, A, -⟩ := F; exact A.lt
theorem own_A.ext (F : own_A Z h a ty n f) (E : Ext h h') : own_A Z h' a ty n f := by obtain ⟨c, A, r⟩ := F; exact ⟨c, A.ext E, r⟩
theorem own_A.other (F : own_A Z h b ty n f) (W : Wr h h' a sl v) (q : b ≠ a) : own_A Z h' b ty n f := by obtain ⟨c, A, r⟩ := F; exact ⟨c, A.other W q, r⟩
theorem own_A.keep (F : own_A Z h a ty n f) (K : Keep h h' ws) (q : a ∉ ws) : own_A Z h' a ty n f := by obtain ⟨c, A, r⟩ := F; exact ⟨c, ⟨K.2.1 a c A.1 q, A.2⟩, r⟩
theorem own_A.congr {g : Nat → Int32} (F : own_A Z h a ty n f) (q : ∀ j, j < n → f j = g j) : own_A Z h a ty n g := by obtain ⟨c, A, r1, r2, r3, r4⟩ := F; exact ⟨c, A, r1, r2, fun j hj => by rw [← q j hj]; exact r3 j hj, fun j hj => by rw [← q j hj]; exact r4 j hj⟩
theorem own_A.new {k : ClassId} {z : Int32} (A : Arr Z h a (newA k ty z) ty) (q : ¬ z < 0) (hz : z.toNatClampNeg = n) (hd : defaultValue ty = .int 0 := by rfl) : own_A Z h a ty n (fun _ => 0) := by
  subst hz
  exact ⟨_, A, sz_new _ _ _, (back32 q).2, fun j hj => by simp [newA, hj, hd], fun j hj => by rw [← hd]; cases ty <;> rfl⟩
theorem own_A.set (F : own_A Z h a ty n f) (hj : own_ix j i) (W : Wr h h' a j.toNatClampNeg (.int x)) (hf : fits ty (.int x) = true) : own_A Z h' a ty n (own_up f i x) := by
  obtain ⟨c, A, r1, r2, r3, r4⟩ := F
  obtain ⟨hj1, rfl⟩ := hj
  refine ⟨_, A.same W, by rw [sz_set]; exact r1, r2, fun k hk => ?_, fun k hk => ?_⟩ <;> by_cases q : k = j.toNatClampNeg
  · subst q; simp [Cell.setSlot, own_up, r1, hk]
  · simp only [Cell.setSlot, own_up, if_neg q]; rw [Array.getElem?_setIfInBounds_ne (Ne.symm q)]; exact r3 k hk
  · simp only [own_up, if_pos q]; exact hf
  · simp only [own_up, if_neg q]; exact r4 k hk
theorem own_in (hj : own_ix j i) (hi : i < n) {c : Cell} (hc : c.slots.size = n) : ¬ (j < 0 ∨ c.slots.size ≤ j.toNatClampNeg) := by
  rintro (q | q)
  · exact hj.1 q
  · rw [hj.2, hc] at q; omega
theorem own_stB (X : Stand p l e R s m args below meth c T locs cells slots) (hx : p.tables.exec = Jvm.exec) (hZ : Z.Warmed39 s.vm) (eT : T.heap = h) (A : own_A Z h a .byte n f) (hj : own_ix j i) (hi : i < n) (hd : decode c.code pc = .ok (.bastore, 1)) :
    ∃ T' h', Stand p l e R s m args below meth c T' (locs ++ [⟨a, j.toNatClampNeg⟩]) cells slots ∧ T'.heap = h' ∧ Wr h h' a j.toNatClampNeg (.int (nar .byte x)) ∧ own_A Z h' a .byte n (own_up f i (nar .byte x)) ∧ ∀ t, Steps p.tables e below (T'.setTop (mkF m (pc + 1) Ls rest)) t → Steps p.tables e below (T.setTop (mkF m pc Ls (.int x :: .int j :: .ref a :: rest))) t := by
  have A0 := A
  obtain ⟨cl, A1, r1, r2, r3, r4⟩ := A
  obtain ⟨T', h', X', e', W, st⟩ := stB X hx hZ eT A1 (j := j) (x := x) (own_in hj hi r1) (g := mkF m pc Ls (.int x :: .int j :: .ref a :: rest)) rfl rfl hd
  exact ⟨T', h', X', e', W, A0.set hj W (fits_nar_byte x), st⟩
theorem own_stI (X : Stand p l e R s m args below meth c T locs cells slots) (hx : p.tables.exec = Jvm.exec) (hZ : Z.Warmed39 s.vm) (eT : T.heap = h) (A : own_A Z h a .int n f) (hj : own_ix j i) (hi : i < n) (hd : decode c.code pc = .ok (.iastore, 1)) :
    ∃ T' h', Stand p l e R s m args below meth c T' (locs ++ [⟨a, j.toNatClampNeg⟩]) cells slots ∧ T'.heap = h' ∧ Wr h h' a j.toNatClampNeg (.int x) ∧ own_A Z h' a .int n (own_up f i x) ∧ ∀ t, Steps p.tables e below (T'.setTop (mkF m (pc + 1) Ls rest)) t → Steps p.tables e below (T.setTop (mkF m pc Ls (.int x :: .int j :: .ref a :: rest))) t := by
  have A0 := A
  obtain ⟨cl, A1, r1, r2, r3, r4⟩ := A
  obtain ⟨T', h', X', e', W, st⟩ := stI X hx hZ eT A1 (j := j) (x := x) (own_in hj hi r1) (g := mkF m pc Ls (.int x :: .int j :: .ref a :: rest)) rfl rfl hd
  exact ⟨T', h', X', e', W, A0.set hj W rfl, st⟩
theorem own_ldB (X : Stand p l e R s m args below meth c T locs cells slots) (hx : p.tables.exec = Jvm.exec) (hZ : Z.Warmed39 s.vm) (eT : T.heap = h) (A : own_A Z h a .byte n f) (hj : own_ix j i) (hi : i < n) (hd : decode c.code pc = .ok (.baload, 1)) (t : State)
    (k : Steps p.tables e below (T.setTop (mkF m (pc + 1) Ls (.int (f i) :: rest))) t) : Steps p.tables e below (T.setTop (mkF m pc Ls (.int j :: .ref a :: rest))) t := by
  obtain ⟨cl, A1, r1, r2, r3, r4⟩ := A
  exact X.baloadBytes hx (j := j) (v := .int (f i)) (by rw [eT]; exact A1.1) (State.isArrayOf_alike hZ.alike A1.2.1) A1.2.2 (own_in hj hi r1) (by rw [hj.2]; exact r3 i hi) (g := mkF m pc Ls (.int j :: .ref a :: rest)) rfl rfl hd t k
theorem own_ldI (X : Stand p l e R s m args below meth c T locs cells slots) (hx : p.tables.exec = Jvm.exec) (hZ : Z.Warmed39 s.vm) (eT : T.heap = h) (A : own_A Z h a .int n f) (hj : own_ix j i) (hi : i < n) (hd : decode c.code pc = .ok (.iaload, 1)) (t : State)
    (k : Steps p.tables e below (T.setTop (mkF m (pc + 1) Ls (.int (f i) :: rest))) t) : Steps p.tables e below (T.setTop (mkF m pc Ls (.int j :: .ref a :: rest))) t := by
  obtain ⟨cl, A1, r1, r2, r3, r4⟩ := A
  exact X.iaload hx (j := j) (v := .int (f i)) (by rw [eT]; exact A1.1) (State.isArrayOf_alike hZ.alike A1.2.1) A1.2.2 (own_in hj hi r1) (by rw [hj.2]; exact r3 i hi) (g := mkF m pc Ls (.int j :: .ref a :: rest)) rfl rfl hd t k
theorem own_len {z : Int32} (X : Stand p l e R s m args below meth c T locs cells slots) (hx : p.tables.exec = Jvm.exec) (hZ : Z.Warmed39 s.vm) (eT : T.heap = h) (A : own_A Z h a ty n f) (hz : n.toInt32 = z) (hd : decode c.code pc = .ok (.arraylength, 1)) (t : State)
    (k : Steps p.tables e below (T.setTop (mkF m (pc + 1) Ls (.int z :: rest))) t) : Steps p.tables e below (T.setTop (mkF m pc Ls (.ref a :: rest))) t := by
  obtain ⟨cl, A1, r1, r2, r3, r4⟩ := A
  subst hz
  refine X.arraylength hx (by rw [eT]; exact A1.1) (State.isArrayOf_alike hZ.alike A1.2.1) (g := mkF m pc Ls (.ref a :: rest)) rfl rfl hd t ?_
  rw [r1]; exact k
theorem own_clone (X : Stand p l e R s m args below meth c T locs cells slots) (hx : p.tables.exec = Jvm.exec) (hZ : Z.Warmed39 s.vm) {a0 : Array Value} {own ad : String} {index : Nat} (hown : s.vm.findClass own = some m.cls)
    (w1 : (Cond.methodLink own index ⟨ad, "clone", "()Ljava/lang/Object;"⟩).before a0 Z = true) (w2 : (Cond.sameMethod ad "java/lang/Object" "clone" "()Ljava/lang/Object;").before a0 Z = true) (w3 : (Cond.native ⟨"java/lang/Object", "clone", "()Ljava/lang/Object;"⟩).before a0 Z = true)
    (w4 : (Cond.instanceMethod ⟨"java/lang/Object", "clone", "()Ljava/lang/Object;"⟩).before a0 Z = true) (w5 : (Cond.selects ad ⟨ad, "clone", "()Ljava/lang/Object;"⟩ ⟨"java/lang/Object", "clone", "()Ljava/lang/Object;"⟩).before a0 Z = true) (w6 : (Cond.castable ad "java/lang/Cloneable").before a0 Z = true)
    (eT : T.heap = h) (A : own_A Z h a ty n f) (E : Exa Z h a ad) (hsize : Ls.size = c.maxLocals) (hd : decode c.code pc = .ok (.invokevirtual index, 3))
    (hf : 1 ≤ R.frames) {W cap : Nat} (hW : 2 * 0 + (rest.map fun v => v.category).sum ≤ W) (hl : W + 14 ≤ R.locals) (hcap : n ≤ cap) (hc : cells + 1 ≤ R.cells) (hsl : slots + cap ≤ R.slots) :
    ∃ T' h', Stand p l e R s m args below meth c T' locs (cells + 1) (slots + cap) ∧ T'.heap = h' ∧ Ext h h' ∧ own_A Z h' h.size ty n f ∧ Exa Z h' h.size ad ∧
      ∀ t, Steps p.tables e below (T'.setTop (mkF m (pc + 3) Ls (.ref h.size :: rest))) t → Steps p.tables e below (T.setTop (mkF m pc Ls (.ref a :: rest))) t := by
  obtain ⟨cl, A1, r1, r2, r3, r4⟩ := A
  have FC : FitC Z cl := fitC_of A1 fun i hi v hv => by rw [r1] at hi; rw [r3 i hi] at hv; cases hv; exact r4 i hi
  obtain ⟨T', h', X', e', ex, A', E', st⟩ := cloneA X hx hZ hown w1 w2 w3 w4 w5 w6 eT A1 E FC (g := mkF m pc Ls (.ref a :: rest)) rfl hsize rfl hd hf hW hl (by rw [r1]; exact hcap) hc hsl
  exact ⟨T', h', X', e', ex, ⟨cloneOf cl, A', r1, r2, r3, r4⟩, E', st⟩
theorem own_selP {s : State} {args : Array Value} {y : MethodName} {n : Nat} (hin : (Cond.instantiable y.cls n).before args s = true) (hpriv : s.PrivateAt y) (hinst : (Cond.instanceMethod y).before args s = true) (hy : y.cls ≠ "java/lang/invoke/MethodHandle" ∧ y.cls ≠ "java/lang/invoke/VarHandle") : (Cond.selects y.cls y y).before args s = true := by
  obtain ⟨c, k, h1, h2, -, h4, -⟩ := Cond.instantiable_spec hin
  exact selects_self_of_private h1 h2 (Bool.or_eq_false_iff.mp h4).1 hpriv hinst hy
theorem own_ixa (h : own_ix j i) (k : Nat) (hi : i + k < 2 ^ 31) : own_ix (j + Int32.ofNat k) (i + k) := by
  obtain ⟨h1, h2⟩ := h
  have e0 : (0 : Int32).toInt = 0 := rfl
  have e1 : (Int32.ofNat k).toInt = k := Int32.toInt_ofNat_of_lt (by omega)
  rw [Int32.lt_iff_toInt_lt, e0] at h1
  simp only [Int32.toNatClampNeg] at h2
  have h3 := c_iadd j (Int32.ofNat k); have h4 := rng32 (j + Int32.ofNat k)
  rw [e1] at h3
  refine ⟨by rw [Int32.lt_iff_toInt_lt, e0]; omega, ?_⟩
  simp only [Int32.toNatClampNeg]; omega
theorem own_ixI (h : own_ix j i) : j.toInt = i := by
  obtain ⟨h1, h2⟩ := h
  have e0 : (0 : Int32).toInt = 0 := rfl
  rw [Int32.lt_iff_toInt_lt, e0] at h1
  simp only [Int32.toNatClampNeg] at h2; omega
theorem own_ixof (h : j.toInt = i) : own_ix j i := by
  have e0 : (0 : Int32).toInt = 0 := rfl
  refine ⟨by rw [Int32.lt_iff_toInt_lt, e0]; omega, ?_⟩
  simp only [Int32.toNatClampNeg]; omega
theorem own_ixs (h : ¬ j < 0) : own_ix j j.toNatClampNeg := ⟨h, rfl⟩
theorem own_and3 (x : Int32) (k : Nat) (hk : k < 2 ^ 31) : ¬ (x &&& Int32.ofNat k) < 0 ∧ (x &&& Int32.ofNat k).toNatClampNeg ≤ k := by
  have h0 : 0 ≤ (Int32.ofNat k).toInt := by rw [Int32.toInt_ofNat_of_lt hk]; omega
  have h1 := (c_andS x (Int32.ofNat k)).2.2 h0
  have e0 : (0 : Int32).toInt = 0 := rfl
  refine ⟨by rw [Int32.lt_iff_toInt_lt, e0]; omega, ?_⟩
  have hb : (x &&& Int32.ofNat k).toBitVec.toNat ≤ k := by
    have : (x &&& Int32.ofNat k).toBitVec.toNat = x.toBitVec.toNat &&& (Int32.ofNat k).toBitVec.toNat := by rw [Int32.toBitVec_and, BitVec.toNat_and]
    rw [this]
    refine Nat.le_trans Nat.and_le_right ?_
    show (BitVec.ofNat 32 k).toNat ≤ k
    rw [BitVec.toNat_ofNat]; exact Nat.mod_le _ _
  have e : (x &&& Int32.ofNat k).toInt = ((x &&& Int32.ofNat k).toBitVec.toNat : Int) := by
    show (x &&& Int32.ofNat k).toBitVec.toInt = _
    rw [BitVec.toInt_eq_toNat_cond]; split
    · rfl
    · omega
  simp only [Int32.toNatClampNeg, e]; omega
end Own

def own_eqs (n1 n2 : Nat) (f1 f2 : Nat → Int32) : Bool := decide (n1 = n2 ∧ ∀ j, j < n1 → f1 j = f2 j)
theorem own_eqT {n1 n2 : Nat} {f1 f2 : Nat → Int32} (h : n1 = n2) (h1 : ∀ j, j < n1 → f1 j = f2 j) : own_b (own_eqs n1 n2 f1 f2) = 1 := own_b1 ⟨h, h1⟩
theorem own_eqN {n1 n2 : Nat} {f1 f2 : Nat → Int32} (h : ¬ n1 = n2) : own_b (own_eqs n1 n2 f1 f2) = 0 := own_bz fun q => h q.1
theorem own_eqJ {n1 n2 : Nat} {f1 f2 : Nat → Int32} {j : Nat} (h : j < n1) (h1 : ¬ f1 j = f2 j) : own_b (own_eqs n1 n2 f1 f2) = 0 := own_bz fun q => h1 (q.2 j h)
theorem own_same {Z : State} {h : Heap} {a b z1 z2 : Addr} {C n d : String} {ty : FieldType} {n1 n2 : Nat} {f1 f2 : Nat → Int32} (hab : a = b) (F1 : Fld Z h a C n d (.ref z1)) (F2 : Fld Z h b C n d (.ref z2)) (A1 : own_A Z h z1 ty n1 f1) (A2 : own_A Z h z2 ty n2 f2) : own_b (own_eqs n1 n2 f1 f2) = 1 := by
  have hz : z1 = z2 := Classical.byContradiction fun q => Fld.ne F1 F2 (fun e => q (Value.ref.inj e)) hab
  subst hz
  obtain ⟨c1, a1, s1, -, v1, -⟩ := A1
  obtain ⟨c2, a2, s2, -, v2, -⟩ := A2
  cases a1.1.symm.trans a2.1
  have hn : n1 = n2 := s1.symm.trans s2
  refine own_eqT hn fun j hj => ?_
  have := (v1 j hj).symm.trans (v2 j (hn ▸ hj))
  exact Value.int.inj (Option.some.inj this)
theorem own_tI {n : Nat} (h : n < 10000) : (Nat.toInt32 n).toInt = n := Int32.toInt_ofNat_of_lt (by omega)
theorem own_ofArv {Z : State} {h : Heap} {a : Addr} {k : ClassId} {ty : FieldType} {z : Int32} {l : List Int32} {n : Nat} (F : Arv Z h a k ty z (l.map Value.int) (.int 0)) (hn : z.toNatClampNeg = n) (hz : ¬ z < 0) : own_A Z h a ty n (fun j => l.getD j 0) := by
  obtain ⟨c, A, -, S, -, H, G⟩ := F
  subst hn
  have e : ∀ j, (l.map Value.int).getD j (.int 0) = .int (l.getD j 0) := fun j => by
    simp only [List.getD_eq_getElem?_getD, List.getElem?_map]; cases l[j]? <;> rfl
  exact ⟨c, A, S, (back32 hz).2, fun j hj => by rw [← e]; exact H j (by rw [S]; exact hj), fun j hj => by rw [← e]; exact G j (by rw [S]; exact hj)⟩
theorem own_b5_d0 : decode jdk_43_method_13_code 0 = .ok (.aload_n 0, 1) := by decide +kernel
theorem own_b5_d1 : decode jdk_43_method_13_code 1 = .ok (.arraylength, 1) := by decide +kernel
theorem own_b5_d2 : decode jdk_43_method_13_code 2 = .ok (.aload_n 1, 1) := by decide +kernel
theorem own_b5_d3 : decode jdk_43_method_13_code 3 = .ok (.arraylength, 1) := by decide +kernel
theorem own_b5_d4 : decode jdk_43_method_13_code 4 = .ok (.if_icmp .ne 30, 3) := by decide +kernel
theorem own_b5_d7 : decode jdk_43_method_13_code 7 = .ok (.iconst 0, 1) := by decide +kernel
theorem own_b5_d8 : decode jdk_43_method_13_code 8 = .ok (.istore_n 2, 1) := by decide +kernel
theorem own_b5_d9 : decode jdk_43_method_13_code 9 = .ok (.iload_n 2, 1) := by decide +kernel
theorem own_b5_d10 : decode jdk_43_method_13_code 10 = .ok (.aload_n 0, 1) := by decide +kernel
theorem own_b5_d11 : decode jdk_43_method_13_code 11 = .ok (.arraylength, 1) := by decide +kernel
theorem own_b5_d12 : decode jdk_43_method_13_code 12 = .ok (.if_icmp .ge 20, 3) := by decide +kernel
theorem own_b5_d15 : decode jdk_43_method_13_code 15 = .ok (.aload_n 0, 1) := by decide +kernel
theorem own_b5_d16 : decode jdk_43_method_13_code 16 = .ok (.iload_n 2, 1) := by decide +kernel
theorem own_b5_d17 : decode jdk_43_method_13_code 17 = .ok (.baload, 1) := by decide +kernel
theorem own_b5_d18 : decode jdk_43_method_13_code 18 = .ok (.aload_n 1, 1) := by decide +kernel
theorem own_b5_d19 : decode jdk_43_method_13_code 19 = .ok (.iload_n 2, 1) := by decide +kernel
theorem own_b5_d20 : decode jdk_43_method_13_code 20 = .ok (.baload, 1) := by decide +kernel
theorem own_b5_d21 : decode jdk_43_method_13_code 21 = .ok (.if_icmp .eq 5, 3) := by decide +kernel
theorem own_b5_d24 : decode jdk_43_method_13_code 24 = .ok (.iconst 0, 1) := by decide +kernel
theorem own_b5_d25 : decode jdk_43_method_13_code 25 = .ok (.ireturn, 1) := by decide +kernel
theorem own_b5_d26 : decode jdk_43_method_13_code 26 = .ok (.iinc 2 1, 3) := by decide +kernel
theorem own_b5_d29 : decode jdk_43_method_13_code 29 = .ok (.goto (-20), 3) := by decide +kernel
theorem own_b5_d32 : decode jdk_43_method_13_code 32 = .ok (.iconst 1, 1) := by decide +kernel
theorem own_b5_d33 : decode jdk_43_method_13_code 33 = .ok (.ireturn, 1) := by decide +kernel
theorem own_b5_d34 : decode jdk_43_method_13_code 34 = .ok (.iconst 0, 1) := by decide +kernel
theorem own_b5_d35 : decode jdk_43_method_13_code 35 = .ok (.ireturn, 1) := by decide +kernel
theorem own_pn0 : plainName "java/lang/StringLatin1" = true := by first | (simp [plainName, overriddenIn]; done) | decide +kernel
theorem own_ef_rm5 (m : MethodId) (x0 : Addr) (x1 : Addr) : entryFrame m #[(.ref x0), (.ref x1)] 3 = mkF m 0 #[.val (.ref x0), .val (.ref x1), .unset] [] := by first | (simp [entryFrame, mkF, argsToLocals, Value.category]; done) | rfl
def Q5 (Z : State) (a1 : Addr) (a2 : Addr) (n1 : Nat) (n2 : Nat) (f1 : Nat → Int32) (f2 : Nat → Int32) (h0 : Heap) (n0 : Nat) (v : Option Value) (h : Heap) (L : List Loc) : Prop := v = some (.int (own_b (own_eqs n1 n2 f1 f2))) ∧ Fr n0 L ∧ h = h0
set_option maxRecDepth 65536 in
set_option maxHeartbeats 40000000 in
theorem rm5 (l : Launch) (Z : State) (a0 : Array Value) (hw : ∀ d ∈ tables_1, d.before a0 Z = true) (ws : List Jvm.Cond) (a1 : Addr) (a2 : Addr) (n1 : Nat) (n2 : Nat) (f1 : Nat → Int32) (f2 : Nat → Int32) (h0 : Heap) (n0 : Nat) (Z0 : n0 ≤ h0.size) (A1 : own_A Z h0 a1 .byte n1 f1) (A2 : own_A Z h0 a2 .byte n2 f2) (hn1 : n1 < 10000) (hn2 : n2 < 10000) :
    MetFree l (⟨"java/lang/StringLatin1", "equals", "([B[B)Z"⟩ : MethodName) (head1 (Jvm.Cond.code (⟨"java/lang/StringLatin1", "equals", "([B[B)Z"⟩ : MethodName) jdk_43_method_13_code 3 (some .boolean) :: ws) ({ frames := 0, cells := 0, slots := 0, locals := 0 } : Room)) (fun aa_ U_ => aa_ = #[(.ref a1), (.ref a2)] ∧ Z.Warmed39 U_.vm ∧ U_.heap = h0) (fun _ _ _ _ _ => True) (fun _ U_ o_ U1_ => ∃ v_ L_, o_ = .returned v_ ∧ Q5 Z a1 a2 n1 n2 f1 f2 h0 n0 v_ U1_.heap L_ ∧ FrameEnd U_ o_ U1_ L_ ({ frames := 0, cells := 0, slots := 0, locals := 0 } : Room).cells ({ frames := 0, cells := 0, slots := 0, locals := 0 } : Room).slots) := by
  refine MetFree.of_bodySF (plainFor_of_name own_pn0) hisR ?_
  intro p e s m args below meth c s₁ Bd hml0 hP hK
  obtain ⟨rfl, hZ, hh⟩ := hP
  have hx := Bd.exec
  have hby := Bd.bytes
  have hlk := Bd.notSynchronized
  have hml : c.maxLocals = 3 := hml0
  have hown : s.vm.findClass "java/lang/StringLatin1" = some m.cls := findClass_of_methodNamed Bd.named
  have hnm := (name_of_methodNamed Bd.named Bd.method).1
  have X0 : Stand p l e ({ frames := 0, cells := 0, slots := 0, locals := 0 } : Room) s m #[(.ref a1), (.ref a2)] below meth c s₁ [] 0 0 := Stand.of_body Bd
  have e0 : s₁.heap = h0 := by rw [← hh, Bd.state]; rfl
  have N0 := Fr.nil n0
  show own_E p e below s (Q5 Z a1 a2 n1 n2 f1 f2 h0 n0) ({ frames := 0, cells := 0, slots := 0, locals := 0 } : Room).cells ({ frames := 0, cells := 0, slots := 0, locals := 0 } : Room).slots (s₁.setTop (entryFrame m #[(.ref a1), (.ref a2)] 3))
  refine own_st (B := s₁.setTop (mkF m 0 #[.val (.ref a1), .val (.ref a2), .unset] [])) (fun t_ k_ => castTop (own_ef_rm5 m a1 a2) k_) ?_
  have h1I := own_tI hn1; have h2I := own_tI hn2
  refine own_st (B := s₁.setTop (mkF m 1 #[.val (.ref a1), .val (.ref a2), .unset] [(.ref a1)])) (fun t_ k_ => XS.aloadN X0.here hx rfl (hb hby own_b5_d0) rfl rfl k_) ?_
  refine own_st (B := s₁.setTop (mkF m 2 #[.val (.ref a1), .val (.ref a2), .unset] [(.int (Nat.toInt32 n1))])) (fun t_ k_ => own_len X0 hx hZ e0 A1 (z := (Nat.toInt32 n1)) rfl (hb hby own_b5_d1) t_ k_) ?_
  refine own_st (B := s₁.setTop (mkF m 3 #[.val (.ref a1), .val (.ref a2), .unset] [(.ref a2), (.int (Nat.toInt32 n1))])) (fun t_ k_ => XS.aloadN X0.here hx rfl (hb hby own_b5_d2) rfl rfl k_) ?_
  refine own_st (B := s₁.setTop (mkF m 4 #[.val (.ref a1), .val (.ref a2), .unset] [(.int (Nat.toInt32 n2)), (.int (Nat.toInt32 n1))])) (fun t_ k_ => own_len X0 hx hZ e0 A2 (z := (Nat.toInt32 n2)) rfl (hb hby own_b5_d3) t_ k_) ?_
  by_cases hc1 : (Nat.toInt32 n1) = (Nat.toInt32 n2)
  · have hd1 := own_eq32 hc1
    refine own_st (B := s₁.setTop (mkF m 7 #[.val (.ref a1), .val (.ref a2), .unset] [])) (fun t_ k_ => XS.icmpNo X0.here hx rfl (hb hby own_b5_d4) rfl (teq hc1).2 k_) ?_
    refine own_st (B := s₁.setTop (mkF m 8 #[.val (.ref a1), .val (.ref a2), .unset] [(.int (0 : Int32))])) (fun t_ k_ => XS.iconst X0.here hx rfl (hb hby own_b5_d7) k_) ?_
    refine own_st (B := s₁.setTop (mkF m 9 #[.val (.ref a1), .val (.ref a2), .val (.int (0 : Int32))] [])) (fun t_ k_ => XS.istoreN X0.here hx rfl (hb hby own_b5_d8) rfl (l' := #[.val (.ref a1), .val (.ref a2), .val (.int (0 : Int32))]) rfl k_) ?_
    have hnn : n1 = n2 := by omega
    have lp2 : ∀ (q : Nat)  (i : Nat) (j : Int32), (q + i = n1) → (own_ix j i) → (∀ x, x < i → f1 x = f2 x) → own_E p e below s (Q5 Z a1 a2 n1 n2 f1 f2 h0 n0) ({ frames := 0, cells := 0, slots := 0, locals := 0 } : Room).cells ({ frames := 0, cells := 0, slots := 0, locals := 0 } : Room).slots (s₁.setTop (mkF m 9 #[.val (.ref a1), .val (.ref a2), .val (.int j)] [])) := by
      intro q
      induction q using Nat.strongRecOn with
      | _ q ih =>
        intro i j hq hj hall
        have hji := own_ixI hj
        refine own_st (B := s₁.setTop (mkF m 10 #[.val (.ref a1), .val (.ref a2), .val (.int j)] [(.int j)])) (fun t_ k_ => XS.iloadN X0.here hx rfl (hb hby own_b5_d9) rfl k_) ?_
        refine own_st (B := s₁.setTop (mkF m 11 #[.val (.ref a1), .val (.ref a2), .val (.int j)] [(.ref a1), (.int j)])) (fun t_ k_ => XS.aloadN X0.here hx rfl (hb hby own_b5_d10) rfl rfl k_) ?_
        refine own_st (B := s₁.setTop (mkF m 12 #[.val (.ref a1), .val (.ref a2), .val (.int j)] [(.int (Nat.toInt32 n1)), (.int j)])) (fun t_ k_ => own_len X0 hx hZ e0 A1 (z := (Nat.toInt32 n1)) rfl (hb hby own_b5_d11) t_ k_) ?_
        by_cases hc3 : j < (Nat.toInt32 n1)
        · have hd3 := own_lt32 hc3
          refine own_st (B := s₁.setTop (mkF m 15 #[.val (.ref a1), .val (.ref a2), .val (.int j)] [])) (fun t_ k_ => XS.icmpNo X0.here hx rfl (hb hby own_b5_d12) rfl (tlt hc3).2.1 k_) ?_
          refine own_st (B := s₁.setTop (mkF m 16 #[.val (.ref a1), .val (.ref a2), .val (.int j)] [(.ref a1)])) (fun t_ k_ => XS.aloadN X0.here hx rfl (hb hby own_b5_d15) rfl rfl k_) ?_
          refine own_st (B := s₁.setTop (mkF m 17 #[.val (.ref a1), .val (.ref a2), .val (.int j)] [(.int j), (.ref a1)])) (fun t_ k_ => XS.iloadN X0.here hx rfl (hb hby own_b5_d16) rfl k_) ?_
          refine own_st (B := s₁.setTop (mkF m 18 #[.val (.ref a1), .val (.ref a2), .val (.int j)] [(.int (f1 i))])) (fun t_ k_ => own_ldB X0 hx hZ e0 A1 (i := i) hj (by omega) (hb hby own_b5_d17) t_ k_) ?_
          refine own_st (B := s₁.setTop (mkF m 19 #[.val (.ref a1), .val (.ref a2), .val (.int j)] [(.ref a2), (.int (f1 i))])) (fun t_ k_ => XS.aloadN X0.here hx rfl (hb hby own_b5_d18) rfl rfl k_) ?_
          refine own_st (B := s₁.setTop (mkF m 20 #[.val (.ref a1), .val (.ref a2), .val (.int j)] [(.int j), (.ref a2), (.int (f1 i))])) (fun t_ k_ => XS.iloadN X0.here hx rfl (hb hby own_b5_d19) rfl k_) ?_
          refine own_st (B := s₁.setTop (mkF m 21 #[.val (.ref a1), .val (.ref a2), .val (.int j)] [(.int (f2 i)), (.int (f1 i))])) (fun t_ k_ => own_ldB X0 hx hZ e0 A2 (i := i) hj (by omega) (hb hby own_b5_d20) t_ k_) ?_
          by_cases hc4 : (f1 i) = (f2 i)
          · have hd4 := own_eq32 hc4
            refine own_st (B := s₁.setTop (mkF m 26 #[.val (.ref a1), .val (.ref a2), .val (.int j)] [])) (fun t_ k_ => XS.icmpYes X0.here hx rfl (pc0 := 21) (pc' := 26) rfl (hb hby own_b5_d21) rfl (teq hc4).1 (by decide) (by decide) k_) ?_
            refine own_st (B := s₁.setTop (mkF m 29 #[.val (.ref a1), .val (.ref a2), .val (.int (j + (1 : Int32)))] [])) (fun t_ k_ => XS.iinc X0.here hx rfl (hb hby own_b5_d26) rfl (l' := #[.val (.ref a1), .val (.ref a2), .val (.int (j + (1 : Int32)))]) rfl k_) ?_
            refine own_st (B := s₁.setTop (mkF m 9 #[.val (.ref a1), .val (.ref a2), .val (.int (j + (1 : Int32)))] [])) (fun t_ k_ => XS.goto X0.here hx rfl (pc0 := 29) (pc' := 9) rfl (hb hby own_b5_d29) (by decide) (by decide) k_) ?_
            exact ih (q - 1) (by omega) (i + 1) (j + (1 : Int32)) (by omega) (own_ixa hj 1 (by omega)) (fun x hx => by
                by_cases e' : x = i
                · subst e'; exact hc4
                · exact hall x (by omega))
          · have hd4 := own_neq32 hc4
            refine own_st (B := s₁.setTop (mkF m 24 #[.val (.ref a1), .val (.ref a2), .val (.int j)] [])) (fun t_ k_ => XS.icmpNo X0.here hx rfl (hb hby own_b5_d21) rfl (feq hc4).1 k_) ?_
            refine own_st (B := s₁.setTop (mkF m 25 #[.val (.ref a1), .val (.ref a2), .val (.int j)] [(.int (0 : Int32))])) (fun t_ k_ => XS.iconst X0.here hx rfl (hb hby own_b5_d24) k_) ?_
            refine own_retN X0 hx (t := .boolean) Bd.returns (by simp) hlk (hb hby own_b5_d25) (z' := (0 : Int32)) (by first | rfl | exact own_nb _) (by decide) (by decide) ?_
            show Q5 Z a1 a2 n1 n2 f1 f2 h0 n0 _ s₁.heap _
            rw [e0]
            exact ⟨by rw [own_eqJ (j := i) (by omega) hc4], N0, rfl⟩
        · have hd3 := own_nlt32 hc3
          refine own_st (B := s₁.setTop (mkF m 32 #[.val (.ref a1), .val (.ref a2), .val (.int j)] [])) (fun t_ k_ => XS.icmpYes X0.here hx rfl (pc0 := 12) (pc' := 32) rfl (hb hby own_b5_d12) rfl (flt hc3).2.1 (by decide) (by decide) k_) ?_
          refine own_st (B := s₁.setTop (mkF m 33 #[.val (.ref a1), .val (.ref a2), .val (.int j)] [(.int (1 : Int32))])) (fun t_ k_ => XS.iconst X0.here hx rfl (hb hby own_b5_d32) k_) ?_
          refine own_retN X0 hx (t := .boolean) Bd.returns (by simp) hlk (hb hby own_b5_d33) (z' := (1 : Int32)) (by first | rfl | exact own_nb _) (by decide) (by decide) ?_
          show Q5 Z a1 a2 n1 n2 f1 f2 h0 n0 _ s₁.heap _
          rw [e0]
          exact ⟨by rw [own_eqT hnn (fun x hx => hall x (by omega))], N0, rfl⟩
    exact lp2 n1 0 (0 : Int32) (by omega) (by decide) (fun x hx => absurd hx (by omega))
  · have hd1 := own_neq32 hc1
    refine own_st (B := s₁.setTop (mkF m 34 #[.val (.ref a1), .val (.ref a2), .unset] [])) (fun t_ k_ => XS.icmpYes X0.here hx rfl (pc0 := 4) (pc' := 34) rfl (hb hby own_b5_d4) rfl (feq hc1).2 (by decide) (by decide) k_) ?_
    refine own_st (B := s₁.setTop (mkF m 35 #[.val (.ref a1), .val (.ref a2), .unset] [(.int (0 : Int32))])) (fun t_ k_ => XS.iconst X0.here hx rfl (hb hby own_b5_d34) k_) ?_
    refine own_retN X0 hx (t := .boolean) Bd.returns (by simp) hlk (hb hby own_b5_d35) (z' := (0 : Int32)) (by first | rfl | exact own_nb _) (by decide) (by decide) ?_
    show Q5 Z a1 a2 n1 n2 f1 f2 h0 n0 _ s₁.heap _
    rw [e0]
    exact ⟨by rw [own_eqN (show ¬ n1 = n2 by omega)], N0, rfl⟩
theorem own_pd0 : parseMethodDescriptor "([B[B)Z" = some ⟨[(.array .byte), (.array .byte)], some .boolean⟩ := by decide +kernel
theorem own_b4_d0 : decode jdk_42_method_66_code 0 = .ok (.aload_n 0, 1) := by decide +kernel
theorem own_b4_d1 : decode jdk_42_method_66_code 1 = .ok (.aload_n 1, 1) := by decide +kernel
theorem own_b4_d2 : decode jdk_42_method_66_code 2 = .ok (.if_acmp .ne 5, 3) := by decide +kernel
theorem own_b4_d5 : decode jdk_42_method_66_code 5 = .ok (.iconst 1, 1) := by decide +kernel
theorem own_b4_d6 : decode jdk_42_method_66_code 6 = .ok (.ireturn, 1) := by decide +kernel
theorem own_b4_d7 : decode jdk_42_method_66_code 7 = .ok (.aload_n 1, 1) := by decide +kernel
theorem own_b4_d8 : decode jdk_42_method_66_code 8 = .ok (.instanceof 10, 3) := by decide +kernel
theorem own_b4_d11 : decode jdk_42_method_66_code 11 = .ok (.ifCond .eq 43, 3) := by decide +kernel
theorem own_b4_d14 : decode jdk_42_method_66_code 14 = .ok (.aload_n 1, 1) := by decide +kernel
theorem own_b4_d15 : decode jdk_42_method_66_code 15 = .ok (.checkcast 10, 3) := by decide +kernel
theorem own_b4_d18 : decode jdk_42_method_66_code 18 = .ok (.astore_n 2, 1) := by decide +kernel
theorem own_b4_d19 : decode jdk_42_method_66_code 19 = .ok (.getstatic 38, 3) := by decide +kernel
theorem own_b4_d22 : decode jdk_42_method_66_code 22 = .ok (.ifCond .eq 14, 3) := by decide +kernel
theorem own_b4_d25 : decode jdk_42_method_66_code 25 = .ok (.aload_n 0, 1) := by decide +kernel
theorem own_b4_d26 : decode jdk_42_method_66_code 26 = .ok (.getfield 15, 3) := by decide +kernel
theorem own_b4_d29 : decode jdk_42_method_66_code 29 = .ok (.aload_n 2, 1) := by decide +kernel
theorem own_b4_d30 : decode jdk_42_method_66_code 30 = .ok (.getfield 15, 3) := by decide +kernel
theorem own_b4_d33 : decode jdk_42_method_66_code 33 = .ok (.if_icmp .ne 21, 3) := by decide +kernel
theorem own_b4_d36 : decode jdk_42_method_66_code 36 = .ok (.aload_n 0, 1) := by decide +kernel
theorem own_b4_d37 : decode jdk_42_method_66_code 37 = .ok (.getfield 9, 3) := by decide +kernel
theorem own_b4_d40 : decode jdk_42_method_66_code 40 = .ok (.aload_n 2, 1) := by decide +kernel
theorem own_b4_d41 : decode jdk_42_method_66_code 41 = .ok (.getfield 9, 3) := by decide +kernel
theorem own_b4_d44 : decode jdk_42_method_66_code 44 = .ok (.invokestatic 541, 3) := by decide +kernel
theorem own_b4_d47 : decode jdk_42_method_66_code 47 = .ok (.ifCond .eq 7, 3) := by decide +kernel
theorem own_b4_d50 : decode jdk_42_method_66_code 50 = .ok (.iconst 1, 1) := by decide +kernel
theorem own_b4_d51 : decode jdk_42_method_66_code 51 = .ok (.goto 4, 3) := by decide +kernel
theorem own_b4_d54 : decode jdk_42_method_66_code 54 = .ok (.iconst 0, 1) := by decide +kernel
theorem own_b4_d55 : decode jdk_42_method_66_code 55 = .ok (.ireturn, 1) := by decide +kernel
theorem own_pn1 : plainName "java/lang/String" = true := by first | (simp [plainName, overriddenIn]; done) | decide +kernel
theorem own_ef_rm4 (m : MethodId) (x0 : Addr) (x1 : Addr) : entryFrame m #[(.ref x0), (.ref x1)] 3 = mkF m 0 #[.val (.ref x0), .val (.ref x1), .unset] [] := by first | (simp [entryFrame, mkF, argsToLocals, Value.category]; done) | rfl
def Q4 (Z : State) (a : Addr) (b : Addr) (a1 : Addr) (a2 : Addr) (n1 : Nat) (n2 : Nat) (f1 : Nat → Int32) (f2 : Nat → Int32) (cs : Int32) (h0 : Heap) (n0 : Nat) (v : Option Value) (h : Heap) (L : List Loc) : Prop := v = some (.int (own_b (own_eqs n1 n2 f1 f2))) ∧ Fr n0 L ∧ h = h0
set_option maxRecDepth 65536 in
set_option maxHeartbeats 40000000 in
theorem rm4 (l : Launch) (Z : State) (a0 : Array Value) (hw : ∀ d ∈ tables_1, d.before a0 Z = true) (ws : List Jvm.Cond) (a : Addr) (b : Addr) (a1 : Addr) (a2 : Addr) (n1 : Nat) (n2 : Nat) (f1 : Nat → Int32) (f2 : Nat → Int32) (cs : Int32) (h0 : Heap) (n0 : Nat) (Z0 : n0 ≤ h0.size) (Eb : Exa Z h0 b "java/lang/String") (Ca : Fld Z h0 a "java/lang/String" "coder" "B" (.int (0 : Int32))) (Cb : Fld Z h0 b "java/lang/String" "coder" "B" (.int (0 : Int32))) (Va : Fld Z h0 a "java/lang/String" "value" "[B" (.ref a1)) (Vb : Fld Z h0 b "java/lang/String" "value" "[B" (.ref a2)) (A1 : own_A Z h0 a1 .byte n1 f1) (A2 : own_A Z h0 a2 .byte n2 f2) (hn1 : n1 < 10000) (hn2 : n2 < 10000) (Sc : Sta Z h0 "java/lang/String" "COMPACT_STRINGS" "Z" (.int cs)) (hcs : ¬ cs = 0) :
    MetFree l (⟨"java/lang/String", "equals", "(Ljava/lang/Object;)Z"⟩ : MethodName) (head1 (Jvm.Cond.code (⟨"java/lang/String", "equals", "(Ljava/lang/Object;)Z"⟩ : MethodName) jdk_42_method_66_code 3 (some .boolean) :: ws) ({ frames := 1, cells := 0, slots := 0, locals := 14 } : Room)) (fun aa_ U_ => aa_ = #[(.ref a), (.ref b)] ∧ Z.Warmed39 U_.vm ∧ U_.heap = h0) (fun _ _ _ _ _ => True) (fun _ U_ o_ U1_ => ∃ v_ L_, o_ = .returned v_ ∧ Q4 Z a b a1 a2 n1 n2 f1 f2 cs h0 n0 v_ U1_.heap L_ ∧ FrameEnd U_ o_ U1_ L_ ({ frames := 1, cells := 0, slots := 0, locals := 14 } : Room).cells ({ frames := 1, cells := 0, slots := 0, locals := 14 } : Room).slots) := by
  refine MetFree.of_bodySF (plainFor_of_name own_pn1) hisR ?_
  intro p e s m args below meth c s₁ Bd hml0 hP hK
  obtain ⟨rfl, hZ, hh⟩ := hP
  have hx := Bd.exec
  have hby := Bd.bytes
  have hlk := Bd.notSynchronized
  have hml : c.maxLocals = 3 := hml0
  have hown : s.vm.findClass "java/lang/String" = some m.cls := findClass_of_methodNamed Bd.named
  have hnm := (name_of_methodNamed Bd.named Bd.method).1
  have X0 : Stand p l e ({ frames := 1, cells := 0, slots := 0, locals := 14 } : Room) s m #[(.ref a), (.ref b)] below meth c s₁ [] 0 0 := Stand.of_body Bd
  have e0 : s₁.heap = h0 := by rw [← hh, Bd.state]; rfl
  have N0 := Fr.nil n0
  show own_E p e below s (Q4 Z a b a1 a2 n1 n2 f1 f2 cs h0 n0) ({ frames := 1, cells := 0, slots := 0, locals := 14 } : Room).cells ({ frames := 1, cells := 0, slots := 0, locals := 14 } : Room).slots (s₁.setTop (entryFrame m #[(.ref a), (.ref b)] 3))
  refine own_st (B := s₁.setTop (mkF m 0 #[.val (.ref a), .val (.ref b), .unset] [])) (fun t_ k_ => castTop (own_ef_rm4 m a b) k_) ?_
  refine own_st (B := s₁.setTop (mkF m 1 #[.val (.ref a), .val (.ref b), .unset] [(.ref a)])) (fun t_ k_ => XS.aloadN X0.here hx rfl (hb hby own_b4_d0) rfl rfl k_) ?_
  refine own_st (B := s₁.setTop (mkF m 2 #[.val (.ref a), .val (.ref b), .unset] [(.ref b), (.ref a)])) (fun t_ k_ => XS.aloadN X0.here hx rfl (hb hby own_b4_d1) rfl rfl k_) ?_
  by_cases hab1 : a = b
  · refine own_st (B := s₁.setTop (mkF m 5 #[.val (.ref a), .val (.ref b), .unset] [])) (fun t_ k_ => Jvm.RoadKit.acmp (g := (mkF m 2 #[.val (.ref a), .val (.ref b), .unset] [(.ref b), (.ref a)])) X0 hx rfl rfl rfl (pc0 := 2) (pc' := 5) (same := true) rfl (hb hby own_b4_d2) rfl (decide_eq_true (congrArg Value.ref hab1)) (by decide) (by decide) k_) ?_
    refine own_st (B := s₁.setTop (mkF m 6 #[.val (.ref a), .val (.ref b), .unset] [(.int (1 : Int32))])) (fun t_ k_ => XS.iconst X0.here hx rfl (hb hby own_b4_d5) k_) ?_
    refine own_retN X0 hx (t := .boolean) Bd.returns (by simp) hlk (hb hby own_b4_d6) (z' := (1 : Int32)) (by first | rfl | exact own_nb _) (by decide) (by decide) ?_
    show Q4 Z a b a1 a2 n1 n2 f1 f2 cs h0 n0 _ s₁.heap _
    rw [e0]
    exact ⟨by rw [own_same hab1 Va Vb A1 A2], N0, rfl⟩
  · refine own_st (B := s₁.setTop (mkF m 7 #[.val (.ref a), .val (.ref b), .unset] [])) (fun t_ k_ => Jvm.RoadKit.acmp (g := (mkF m 2 #[.val (.ref a), .val (.ref b), .unset] [(.ref b), (.ref a)])) X0 hx rfl rfl rfl (pc0 := 2) (pc' := 7) (same := false) rfl (hb hby own_b4_d2) rfl (decide_eq_false fun q => hab1 (Value.ref.inj q)) (by decide) (by decide) k_) ?_
    refine own_st (B := s₁.setTop (mkF m 8 #[.val (.ref a), .val (.ref b), .unset] [(.ref b)])) (fun t_ k_ => XS.aloadN X0.here hx rfl (hb hby own_b4_d7) rfl rfl k_) ?_
    obtain ⟨T2, X2, e2, st2⟩ := instY X0 hx hZ hown (hw _ (List.mem_of_getElem? (i := 37) rfl)) e0 (Ins.self Eb) (g := (mkF m 8 #[.val (.ref a), .val (.ref b), .unset] [(.ref b)])) rfl rfl (hb hby own_b4_d8)
    refine own_st (B := T2.setTop (mkF m 11 #[.val (.ref a), .val (.ref b), .unset] [(.int (1 : Int32))])) st2 ?_
    refine own_st (B := T2.setTop (mkF m 14 #[.val (.ref a), .val (.ref b), .unset] [])) (fun t_ k_ => XS.ifNo X2.here hx rfl (hb hby own_b4_d11) rfl ((if0 _ _).trans (feq (by decide : ¬ ((1 : Int32) = (0 : Int32)))).1) k_) ?_
    refine own_st (B := T2.setTop (mkF m 15 #[.val (.ref a), .val (.ref b), .unset] [(.ref b)])) (fun t_ k_ => XS.aloadN X2.here hx rfl (hb hby own_b4_d14) rfl rfl k_) ?_
    obtain ⟨T3, X3, e3, st3⟩ := castY X2 hx hZ hown (hw _ (List.mem_of_getElem? (i := 37) rfl)) e2 (Ins.self Eb) (g := (mkF m 15 #[.val (.ref a), .val (.ref b), .unset] [(.ref b)])) rfl rfl (hb hby own_b4_d15)
    refine own_st (B := T3.setTop (mkF m 18 #[.val (.ref a), .val (.ref b), .unset] [(.ref b)])) st3 ?_
    refine own_st (B := T3.setTop (mkF m 19 #[.val (.ref a), .val (.ref b), .val (.ref b)] [])) (fun t_ k_ => XS.astoreN X3.here hx rfl (hb hby own_b4_d18) rfl rfl (l' := #[.val (.ref a), .val (.ref b), .val (.ref b)]) rfl k_) ?_
    obtain ⟨T4, X4, e4, st4⟩ := getS2 X3 hx hZ hown (host := "") (Or.inl (hw _ (List.mem_of_getElem? (i := 39) rfl))) Via.refl e3 Sc (g := (mkF m 19 #[.val (.ref a), .val (.ref b), .val (.ref b)] [])) rfl (hb hby own_b4_d19)
    refine own_st (B := T4.setTop (mkF m 22 #[.val (.ref a), .val (.ref b), .val (.ref b)] [(.int cs)])) st4 ?_
    have hc5 : ¬ (cs = (0 : Int32)) := hcs
    have hd5 := own_neq32 hc5
    rw [show (0 : Int32).toInt = 0 from rfl] at hd5
    refine own_st (B := T4.setTop (mkF m 25 #[.val (.ref a), .val (.ref b), .val (.ref b)] [])) (fun t_ k_ => XS.ifNo X4.here hx rfl (hb hby own_b4_d22) rfl ((if0 _ _).trans (feq hc5).1) k_) ?_
    refine own_st (B := T4.setTop (mkF m 26 #[.val (.ref a), .val (.ref b), .val (.ref b)] [(.ref a)])) (fun t_ k_ => XS.aloadN X4.here hx rfl (hb hby own_b4_d25) rfl rfl k_) ?_
    obtain ⟨T6, X6, e6, st6⟩ := getF X4 hx hZ hown (host := "") (Or.inl (hw _ (List.mem_of_getElem? (i := 40) rfl))) Via.refl e4 Ca (g := (mkF m 26 #[.val (.ref a), .val (.ref b), .val (.ref b)] [(.ref a)])) rfl rfl (hb hby own_b4_d26)
    refine own_st (B := T6.setTop (mkF m 29 #[.val (.ref a), .val (.ref b), .val (.ref b)] [(.int (0 : Int32))])) st6 ?_
    refine own_st (B := T6.setTop (mkF m 30 #[.val (.ref a), .val (.ref b), .val (.ref b)] [(.ref b), (.int (0 : Int32))])) (fun t_ k_ => XS.aloadN X6.here hx rfl (hb hby own_b4_d29) rfl rfl k_) ?_
    obtain ⟨T7, X7, e7, st7⟩ := getF X6 hx hZ hown (host := "") (Or.inl (hw _ (List.mem_of_getElem? (i := 40) rfl))) Via.refl e6 Cb (g := (mkF m 30 #[.val (.ref a), .val (.ref b), .val (.ref b)] [(.ref b), (.int (0 : Int32))])) rfl rfl (hb hby own_b4_d30)
    refine own_st (B := T7.setTop (mkF m 33 #[.val (.ref a), .val (.ref b), .val (.ref b)] [(.int (0 : Int32)), (.int (0 : Int32))])) st7 ?_
    refine own_st (B := T7.setTop (mkF m 36 #[.val (.ref a), .val (.ref b), .val (.ref b)] [])) (fun t_ k_ => XS.icmpNo X7.here hx rfl (hb hby own_b4_d33) rfl (teq (by decide : (0 : Int32) = (0 : Int32))).2 k_) ?_
    refine own_st (B := T7.setTop (mkF m 37 #[.val (.ref a), .val (.ref b), .val (.ref b)] [(.ref a)])) (fun t_ k_ => XS.aloadN X7.here hx rfl (hb hby own_b4_d36) rfl rfl k_) ?_
    obtain ⟨T8, X8, e8, st8⟩ := getF X7 hx hZ hown (host := "") (Or.inl (hw _ (List.mem_of_getElem? (i := 41) rfl))) Via.refl e7 Va (g := (mkF m 37 #[.val (.ref a), .val (.ref b), .val (.ref b)] [(.ref a)])) rfl rfl (hb hby own_b4_d37)
    refine own_st (B := T8.setTop (mkF m 40 #[.val (.ref a), .val (.ref b), .val (.ref b)] [(.ref a1)])) st8 ?_
    refine own_st (B := T8.setTop (mkF m 41 #[.val (.ref a), .val (.ref b), .val (.ref b)] [(.ref b), (.ref a1)])) (fun t_ k_ => XS.aloadN X8.here hx rfl (hb hby own_b4_d40) rfl rfl k_) ?_
    obtain ⟨T9, X9, e9, st9⟩ := getF X8 hx hZ hown (host := "") (Or.inl (hw _ (List.mem_of_getElem? (i := 41) rfl))) Via.refl e8 Vb (g := (mkF m 41 #[.val (.ref a), .val (.ref b), .val (.ref b)] [(.ref b), (.ref a1)])) rfl rfl (hb hby own_b4_d41)
    refine own_st (B := T9.setTop (mkF m 44 #[.val (.ref a), .val (.ref b), .val (.ref b)] [(.ref a2), (.ref a1)])) st9 ?_
    obtain ⟨_, _, ⟨T10, Lq10, kq10, nq10⟩, -, X10, ⟨Lc10, hQ10, lq10, yq10, zq10⟩, st10⟩ := Jvm.LawKit.callS X9 hx (y := (⟨"java/lang/StringLatin1", "equals", "([B[B)Z"⟩ : MethodName)) hown (mvT hZ (hw _ (List.mem_of_getElem? (i := 42) rfl))) (mvT hZ (hw _ (List.mem_of_getElem? (i := 43) rfl))) (mvT hZ (hw _ (List.mem_of_getElem? (i := 44) rfl))) (mvT hZ (hw _ (List.mem_of_getElem? (i := 45) rfl))) (by decide) (backOf (W := 0) (rm5 l Z a0 hw [] a1 a2 n1 n2 f1 f2 h0 n0 Z0 A1 A2 hn1 hn2) hZ (hw _ (List.mem_of_getElem? (i := 45) rfl)) (hw _ (List.mem_of_getElem? (i := 44) rfl)) (by decide) (by decide)) (g := (mkF m 44 #[.val (.ref a), .val (.ref b), .val (.ref b)] [(.ref a2), (.ref a1)])) rfl (by rw [hml]; rfl) (argsL := [(.ref a1), (.ref a2)]) (rest := []) (lenOf own_pd0 rfl) rfl (by show 2 * 0 + _ ≤ _; exact Nat.le_of_eq rfl) (hb hby own_b4_d44) (fun _ _ => ⟨rfl, e9, (by decide : 0 + 0 ≤ _), (by decide : 0 + 0 ≤ _)⟩)
    dsimp only [Pt.U, Pt.locs, Pt.cells, Pt.slots] at X10 lq10 yq10 zq10 st10 hQ10
    rw [lq10, yq10, zq10] at X10
    have X10 : Stand p l e _ _ m _ below meth c T10 _ 0 0 := X10
    obtain ⟨rfl, N10q, eh10⟩ := hQ10
    have N10 := Fr.app N0 N10q
    refine own_st (B := T10.setTop (mkF m 47 #[.val (.ref a), .val (.ref b), .val (.ref b)] [(.int (own_b (own_eqs n1 n2 f1 f2)))])) st10 ?_
    by_cases hc11 : (own_eqs n1 n2 f1 f2) = false
    · refine own_st (B := T10.setTop (mkF m 54 #[.val (.ref a), .val (.ref b), .val (.ref b)] [])) (fun t_ k_ => XS.ifYes X10.here hx rfl (pc0 := 47) (pc' := 54) rfl (hb hby own_b4_d47) rfl ((if0 _ _).trans (teq (own_b0.mpr hc11)).1) (by decide) (by decide) k_) ?_
      refine own_st (B := T10.setTop (mkF m 55 #[.val (.ref a), .val (.ref b), .val (.ref b)] [(.int (0 : Int32))])) (fun t_ k_ => XS.iconst X10.here hx rfl (hb hby own_b4_d54) k_) ?_
      refine own_retN X10 hx (t := .boolean) Bd.returns (by simp) hlk (hb hby own_b4_d55) (z' := (0 : Int32)) (by first | rfl | exact own_nb _) (by decide) (by decide) ?_
      show Q4 Z a b a1 a2 n1 n2 f1 f2 cs h0 n0 _ T10.heap _
      rw [eh10]
      exact ⟨by rw [own_bF hc11], N10, rfl⟩
    · refine own_st (B := T10.setTop (mkF m 50 #[.val (.ref a), .val (.ref b), .val (.ref b)] [])) (fun t_ k_ => XS.ifNo X10.here hx rfl (hb hby own_b4_d47) rfl ((if0 _ _).trans (feq (fun q => hc11 (own_b0.mp q))).1) k_) ?_
      refine own_st (B := T10.setTop (mkF m 51 #[.val (.ref a), .val (.ref b), .val (.ref b)] [(.int (1 : Int32))])) (fun t_ k_ => XS.iconst X10.here hx rfl (hb hby own_b4_d50) k_) ?_
      refine own_st (B := T10.setTop (mkF m 55 #[.val (.ref a), .val (.ref b), .val (.ref b)] [(.int (1 : Int32))])) (fun t_ k_ => XS.goto X10.here hx rfl (pc0 := 51) (pc' := 55) rfl (hb hby own_b4_d51) (by decide) (by decide) k_) ?_
      refine own_retN X10 hx (t := .boolean) Bd.returns (by simp) hlk (hb hby own_b4_d55) (z' := (1 : Int32)) (by first | rfl | exact own_nb _) (by decide) (by decide) ?_
      show Q4 Z a b a1 a2 n1 n2 f1 f2 cs h0 n0 _ T10.heap _
      rw [eh10]
      exact ⟨by rw [own_bT hc11], N10, rfl⟩
theorem own_b1_d0 : decode method_2_code 0 = .ok (.iload_n 0, 1) := by decide +kernel
theorem own_b1_d1 : decode method_2_code 1 = .ok (.ifCond .ne 7, 3) := by decide +kernel
theorem own_b1_d4 : decode method_2_code 4 = .ok (.getstatic 7, 3) := by decide +kernel
theorem own_b1_d7 : decode method_2_code 7 = .ok (.areturn, 1) := by decide +kernel
theorem own_pn2 : plainName "com/example/histrix/histrix/ActionAdditivePinLaw" = true := by first | (simp [plainName, overriddenIn]; done) | decide +kernel
theorem own_ef_rm1_0 (m : MethodId) (x0 : Int32) : entryFrame m #[(.int x0)] 1 = mkF m 0 #[.val (.int x0)] [] := by first | (simp [entryFrame, mkF, argsToLocals, Value.category]; done) | rfl
def Q1_0 (Z : State) (x : Addr) (h0 : Heap) (n0 : Nat) (v : Option Value) (h : Heap) (L : List Loc) : Prop := v = some (.ref x) ∧ Fr n0 L ∧ h = h0
set_option maxRecDepth 65536 in
set_option maxHeartbeats 40000000 in
theorem rm1_0 (l : Launch) (Z : State) (a0 : Array Value) (hw : ∀ d ∈ tables_1, d.before a0 Z = true) (ws : List Jvm.Cond) (x : Addr) (h0 : Heap) (n0 : Nat) (Z0 : n0 ≤ h0.size) (Sx : Sta Z h0 "com/example/histrix/histrix/Action" "READ" "Lcom/example/histrix/histrix/Action;" (.ref x)) :
    MetFree l (⟨"com/example/histrix/histrix/ActionAdditivePinLaw", "pick", "(I)Lcom/example/histrix/histrix/Action;"⟩ : MethodName) (head1 (Jvm.Cond.code (⟨"com/example/histrix/histrix/ActionAdditivePinLaw", "pick", "(I)Lcom/example/histrix/histrix/Action;"⟩ : MethodName) method_2_code 1 (some (.object "com/example/histrix/histrix/Action")) :: ws) ({ frames := 0, cells := 0, slots := 0, locals := 0 } : Room)) (fun aa_ U_ => aa_ = #[(.int (0 : Int32))] ∧ Z.Warmed39 U_.vm ∧ U_.heap = h0) (fun _ _ _ _ _ => True) (fun _ U_ o_ U1_ => ∃ v_ L_, o_ = .returned v_ ∧ Q1_0 Z x h0 n0 v_ U1_.heap L_ ∧ FrameEnd U_ o_ U1_ L_ ({ frames := 0, cells := 0, slots := 0, locals := 0 } : Room).cells ({ frames := 0, cells := 0, slots := 0, locals := 0 } : Room).slots) := by
  refine MetFree.of_bodySF (plainFor_of_name own_pn2) hisR ?_
  intro p e s m args below meth c s₁ Bd hml0 hP hK
  obtain ⟨rfl, hZ, hh⟩ := hP
  have hx := Bd.exec
  have hby := Bd.bytes
  have hlk := Bd.notSynchronized
  have hml : c.maxLocals = 1 := hml0
  have hown : s.vm.findClass "com/example/histrix/histrix/ActionAdditivePinLaw" = some m.cls := findClass_of_methodNamed Bd.named
  have hnm := (name_of_methodNamed Bd.named Bd.method).1
  have X0 : Stand p l e ({ frames := 0, cells := 0, slots := 0, locals := 0 } : Room) s m #[(.int (0 : Int32))] below meth c s₁ [] 0 0 := Stand.of_body Bd
  have e0 : s₁.heap = h0 := by rw [← hh, Bd.state]; rfl
  have N0 := Fr.nil n0
  show own_E p e below s (Q1_0 Z x h0 n0) ({ frames := 0, cells := 0, slots := 0, locals := 0 } : Room).cells ({ frames := 0, cells := 0, slots := 0, locals := 0 } : Room).slots (s₁.setTop (entryFrame m #[(.int (0 : Int32))] 1))
  refine own_st (B := s₁.setTop (mkF m 0 #[.val (.int (0 : Int32))] [])) (fun t_ k_ => castTop (own_ef_rm1_0 m (0 : Int32)) k_) ?_
  refine own_st (B := s₁.setTop (mkF m 1 #[.val (.int (0 : Int32))] [(.int (0 : Int32))])) (fun t_ k_ => XS.iloadN X0.here hx rfl (hb hby own_b1_d0) rfl k_) ?_
  refine own_st (B := s₁.setTop (mkF m 4 #[.val (.int (0 : Int32))] [])) (fun t_ k_ => XS.ifNo X0.here hx rfl (hb hby own_b1_d1) rfl ((if0 _ _).trans (teq (by decide : (0 : Int32) = (0 : Int32))).2) k_) ?_
  obtain ⟨T1, X1, e1, st1⟩ := getS2 X0 hx hZ hown (host := "") (Or.inl (hw _ (List.mem_of_getElem? (i := 5) rfl))) Via.refl e0 Sx (g := (mkF m 4 #[.val (.int (0 : Int32))] [])) rfl (hb hby own_b1_d4)
  refine own_st (B := T1.setTop (mkF m 7 #[.val (.int (0 : Int32))] [(.ref x)])) st1 ?_
  refine own_retR X1 hx rfl Bd.returns rfl hlk (hb hby own_b1_d7) (by decide) (by decide) ?_
  show Q1_0 Z x h0 n0 _ T1.heap _
  rw [e1]
  exact ⟨rfl, N0, rfl⟩
theorem own_b1_d8 : decode method_2_code 8 = .ok (.iload_n 0, 1) := by decide +kernel
theorem own_b1_d9 : decode method_2_code 9 = .ok (.iconst 1, 1) := by decide +kernel
theorem own_b1_d10 : decode method_2_code 10 = .ok (.if_icmp .ne 7, 3) := by decide +kernel
theorem own_b1_d13 : decode method_2_code 13 = .ok (.getstatic 13, 3) := by decide +kernel
theorem own_b1_d16 : decode method_2_code 16 = .ok (.areturn, 1) := by decide +kernel
theorem own_ef_rm1_1 (m : MethodId) (x0 : Int32) : entryFrame m #[(.int x0)] 1 = mkF m 0 #[.val (.int x0)] [] := by first | (simp [entryFrame, mkF, argsToLocals, Value.category]; done) | rfl
def Q1_1 (Z : State) (x : Addr) (h0 : Heap) (n0 : Nat) (v : Option Value) (h : Heap) (L : List Loc) : Prop := v = some (.ref x) ∧ Fr n0 L ∧ h = h0
set_option maxRecDepth 65536 in
set_option maxHeartbeats 40000000 in
theorem rm1_1 (l : Launch) (Z : State) (a0 : Array Value) (hw : ∀ d ∈ tables_1, d.before a0 Z = true) (ws : List Jvm.Cond) (x : Addr) (h0 : Heap) (n0 : Nat) (Z0 : n0 ≤ h0.size) (Sx : Sta Z h0 "com/example/histrix/histrix/Action" "WRITE" "Lcom/example/histrix/histrix/Action;" (.ref x)) :
    MetFree l (⟨"com/example/histrix/histrix/ActionAdditivePinLaw", "pick", "(I)Lcom/example/histrix/histrix/Action;"⟩ : MethodName) (head1 (Jvm.Cond.code (⟨"com/example/histrix/histrix/ActionAdditivePinLaw", "pick", "(I)Lcom/example/histrix/histrix/Action;"⟩ : MethodName) method_2_code 1 (some (.object "com/example/histrix/histrix/Action")) :: ws) ({ frames := 0, cells := 0, slots := 0, locals := 0 } : Room)) (fun aa_ U_ => aa_ = #[(.int (1 : Int32))] ∧ Z.Warmed39 U_.vm ∧ U_.heap = h0) (fun _ _ _ _ _ => True) (fun _ U_ o_ U1_ => ∃ v_ L_, o_ = .returned v_ ∧ Q1_1 Z x h0 n0 v_ U1_.heap L_ ∧ FrameEnd U_ o_ U1_ L_ ({ frames := 0, cells := 0, slots := 0, locals := 0 } : Room).cells ({ frames := 0, cells := 0, slots := 0, locals := 0 } : Room).slots) := by
  refine MetFree.of_bodySF (plainFor_of_name own_pn2) hisR ?_
  intro p e s m args below meth c s₁ Bd hml0 hP hK
  obtain ⟨rfl, hZ, hh⟩ := hP
  have hx := Bd.exec
  have hby := Bd.bytes
  have hlk := Bd.notSynchronized
  have hml : c.maxLocals = 1 := hml0
  have hown : s.vm.findClass "com/example/histrix/histrix/ActionAdditivePinLaw" = some m.cls := findClass_of_methodNamed Bd.named
  have hnm := (name_of_methodNamed Bd.named Bd.method).1
  have X0 : Stand p l e ({ frames := 0, cells := 0, slots := 0, locals := 0 } : Room) s m #[(.int (1 : Int32))] below meth c s₁ [] 0 0 := Stand.of_body Bd
  have e0 : s₁.heap = h0 := by rw [← hh, Bd.state]; rfl
  have N0 := Fr.nil n0
  show own_E p e below s (Q1_1 Z x h0 n0) ({ frames := 0, cells := 0, slots := 0, locals := 0 } : Room).cells ({ frames := 0, cells := 0, slots := 0, locals := 0 } : Room).slots (s₁.setTop (entryFrame m #[(.int (1 : Int32))] 1))
  refine own_st (B := s₁.setTop (mkF m 0 #[.val (.int (1 : Int32))] [])) (fun t_ k_ => castTop (own_ef_rm1_1 m (1 : Int32)) k_) ?_
  refine own_st (B := s₁.setTop (mkF m 1 #[.val (.int (1 : Int32))] [(.int (1 : Int32))])) (fun t_ k_ => XS.iloadN X0.here hx rfl (hb hby own_b1_d0) rfl k_) ?_
  refine own_st (B := s₁.setTop (mkF m 8 #[.val (.int (1 : Int32))] [])) (fun t_ k_ => XS.ifYes X0.here hx rfl (pc0 := 1) (pc' := 8) rfl (hb hby own_b1_d1) rfl ((if0 _ _).trans (feq (by decide : ¬ ((1 : Int32) = (0 : Int32)))).2) (by decide) (by decide) k_) ?_
  refine own_st (B := s₁.setTop (mkF m 9 #[.val (.int (1 : Int32))] [(.int (1 : Int32))])) (fun t_ k_ => XS.iloadN X0.here hx rfl (hb hby own_b1_d8) rfl k_) ?_
  refine own_st (B := s₁.setTop (mkF m 10 #[.val (.int (1 : Int32))] [(.int (1 : Int32)), (.int (1 : Int32))])) (fun t_ k_ => XS.iconst X0.here hx rfl (hb hby own_b1_d9) k_) ?_
  refine own_st (B := s₁.setTop (mkF m 13 #[.val (.int (1 : Int32))] [])) (fun t_ k_ => XS.icmpNo X0.here hx rfl (hb hby own_b1_d10) rfl (teq (by decide : (1 : Int32) = (1 : Int32))).2 k_) ?_
  obtain ⟨T1, X1, e1, st1⟩ := getS2 X0 hx hZ hown (host := "") (Or.inl (hw _ (List.mem_of_getElem? (i := 49) rfl))) Via.refl e0 Sx (g := (mkF m 13 #[.val (.int (1 : Int32))] [])) rfl (hb hby own_b1_d13)
  refine own_st (B := T1.setTop (mkF m 16 #[.val (.int (1 : Int32))] [(.ref x)])) st1 ?_
  refine own_retR X1 hx rfl Bd.returns rfl hlk (hb hby own_b1_d16) (by decide) (by decide) ?_
  show Q1_1 Z x h0 n0 _ T1.heap _
  rw [e1]
  exact ⟨rfl, N0, rfl⟩
theorem own_b1_d17 : decode method_2_code 17 = .ok (.iload_n 0, 1) := by decide +kernel
theorem own_b1_d18 : decode method_2_code 18 = .ok (.iconst 2, 1) := by decide +kernel
theorem own_b1_d19 : decode method_2_code 19 = .ok (.if_icmp .ne 7, 3) := by decide +kernel
theorem own_b1_d22 : decode method_2_code 22 = .ok (.getstatic 16, 3) := by decide +kernel
theorem own_b1_d25 : decode method_2_code 25 = .ok (.areturn, 1) := by decide +kernel
theorem own_ef_rm1_2 (m : MethodId) (x0 : Int32) : entryFrame m #[(.int x0)] 1 = mkF m 0 #[.val (.int x0)] [] := by first | (simp [entryFrame, mkF, argsToLocals, Value.category]; done) | rfl
def Q1_2 (Z : State) (x : Addr) (h0 : Heap) (n0 : Nat) (v : Option Value) (h : Heap) (L : List Loc) : Prop := v = some (.ref x) ∧ Fr n0 L ∧ h = h0
set_option maxRecDepth 65536 in
set_option maxHeartbeats 40000000 in
theorem rm1_2 (l : Launch) (Z : State) (a0 : Array Value) (hw : ∀ d ∈ tables_1, d.before a0 Z = true) (ws : List Jvm.Cond) (x : Addr) (h0 : Heap) (n0 : Nat) (Z0 : n0 ≤ h0.size) (Sx : Sta Z h0 "com/example/histrix/histrix/Action" "INCREMENT" "Lcom/example/histrix/histrix/Action;" (.ref x)) :
    MetFree l (⟨"com/example/histrix/histrix/ActionAdditivePinLaw", "pick", "(I)Lcom/example/histrix/histrix/Action;"⟩ : MethodName) (head1 (Jvm.Cond.code (⟨"com/example/histrix/histrix/ActionAdditivePinLaw", "pick", "(I)Lcom/example/histrix/histrix/Action;"⟩ : MethodName) method_2_code 1 (some (.object "com/example/histrix/histrix/Action")) :: ws) ({ frames := 0, cells := 0, slots := 0, locals := 0 } : Room)) (fun aa_ U_ => aa_ = #[(.int (2 : Int32))] ∧ Z.Warmed39 U_.vm ∧ U_.heap = h0) (fun _ _ _ _ _ => True) (fun _ U_ o_ U1_ => ∃ v_ L_, o_ = .returned v_ ∧ Q1_2 Z x h0 n0 v_ U1_.heap L_ ∧ FrameEnd U_ o_ U1_ L_ ({ frames := 0, cells := 0, slots := 0, locals := 0 } : Room).cells ({ frames := 0, cells := 0, slots := 0, locals := 0 } : Room).slots) := by
  refine MetFree.of_bodySF (plainFor_of_name own_pn2) hisR ?_
  intro p e s m args below meth c s₁ Bd hml0 hP hK
  obtain ⟨rfl, hZ, hh⟩ := hP
  have hx := Bd.exec
  have hby := Bd.bytes
  have hlk := Bd.notSynchronized
  have hml : c.maxLocals = 1 := hml0
  have hown : s.vm.findClass "com/example/histrix/histrix/ActionAdditivePinLaw" = some m.cls := findClass_of_methodNamed Bd.named
  have hnm := (name_of_methodNamed Bd.named Bd.method).1
  have X0 : Stand p l e ({ frames := 0, cells := 0, slots := 0, locals := 0 } : Room) s m #[(.int (2 : Int32))] below meth c s₁ [] 0 0 := Stand.of_body Bd
  have e0 : s₁.heap = h0 := by rw [← hh, Bd.state]; rfl
  have N0 := Fr.nil n0
  show own_E p e below s (Q1_2 Z x h0 n0) ({ frames := 0, cells := 0, slots := 0, locals := 0 } : Room).cells ({ frames := 0, cells := 0, slots := 0, locals := 0 } : Room).slots (s₁.setTop (entryFrame m #[(.int (2 : Int32))] 1))
  refine own_st (B := s₁.setTop (mkF m 0 #[.val (.int (2 : Int32))] [])) (fun t_ k_ => castTop (own_ef_rm1_2 m (2 : Int32)) k_) ?_
  refine own_st (B := s₁.setTop (mkF m 1 #[.val (.int (2 : Int32))] [(.int (2 : Int32))])) (fun t_ k_ => XS.iloadN X0.here hx rfl (hb hby own_b1_d0) rfl k_) ?_
  refine own_st (B := s₁.setTop (mkF m 8 #[.val (.int (2 : Int32))] [])) (fun t_ k_ => XS.ifYes X0.here hx rfl (pc0 := 1) (pc' := 8) rfl (hb hby own_b1_d1) rfl ((if0 _ _).trans (feq (by decide : ¬ ((2 : Int32) = (0 : Int32)))).2) (by decide) (by decide) k_) ?_
  refine own_st (B := s₁.setTop (mkF m 9 #[.val (.int (2 : Int32))] [(.int (2 : Int32))])) (fun t_ k_ => XS.iloadN X0.here hx rfl (hb hby own_b1_d8) rfl k_) ?_
  refine own_st (B := s₁.setTop (mkF m 10 #[.val (.int (2 : Int32))] [(.int (1 : Int32)), (.int (2 : Int32))])) (fun t_ k_ => XS.iconst X0.here hx rfl (hb hby own_b1_d9) k_) ?_
  refine own_st (B := s₁.setTop (mkF m 17 #[.val (.int (2 : Int32))] [])) (fun t_ k_ => XS.icmpYes X0.here hx rfl (pc0 := 10) (pc' := 17) rfl (hb hby own_b1_d10) rfl (feq (by decide : ¬ ((2 : Int32) = (1 : Int32)))).2 (by decide) (by decide) k_) ?_
  refine own_st (B := s₁.setTop (mkF m 18 #[.val (.int (2 : Int32))] [(.int (2 : Int32))])) (fun t_ k_ => XS.iloadN X0.here hx rfl (hb hby own_b1_d17) rfl k_) ?_
  refine own_st (B := s₁.setTop (mkF m 19 #[.val (.int (2 : Int32))] [(.int (2 : Int32)), (.int (2 : Int32))])) (fun t_ k_ => XS.iconst X0.here hx rfl (hb hby own_b1_d18) k_) ?_
  refine own_st (B := s₁.setTop (mkF m 22 #[.val (.int (2 : Int32))] [])) (fun t_ k_ => XS.icmpNo X0.here hx rfl (hb hby own_b1_d19) rfl (teq (by decide : (2 : Int32) = (2 : Int32))).2 k_) ?_
  obtain ⟨T1, X1, e1, st1⟩ := getS2 X0 hx hZ hown (host := "") (Or.inl (hw _ (List.mem_of_getElem? (i := 48) rfl))) Via.refl e0 Sx (g := (mkF m 22 #[.val (.int (2 : Int32))] [])) rfl (hb hby own_b1_d22)
  refine own_st (B := T1.setTop (mkF m 25 #[.val (.int (2 : Int32))] [(.ref x)])) st1 ?_
  refine own_retR X1 hx rfl Bd.returns rfl hlk (hb hby own_b1_d25) (by decide) (by decide) ?_
  show Q1_2 Z x h0 n0 _ T1.heap _
  rw [e1]
  exact ⟨rfl, N0, rfl⟩
theorem own_b1_d26 : decode method_2_code 26 = .ok (.iload_n 0, 1) := by decide +kernel
theorem own_b1_d27 : decode method_2_code 27 = .ok (.iconst 3, 1) := by decide +kernel
theorem own_b1_d28 : decode method_2_code 28 = .ok (.if_icmp .ne 7, 3) := by decide +kernel
theorem own_b1_d31 : decode method_2_code 31 = .ok (.getstatic 19, 3) := by decide +kernel
theorem own_b1_d34 : decode method_2_code 34 = .ok (.areturn, 1) := by decide +kernel
theorem own_ef_rm1_3 (m : MethodId) (x0 : Int32) : entryFrame m #[(.int x0)] 1 = mkF m 0 #[.val (.int x0)] [] := by first | (simp [entryFrame, mkF, argsToLocals, Value.category]; done) | rfl
def Q1_3 (Z : State) (x : Addr) (h0 : Heap) (n0 : Nat) (v : Option Value) (h : Heap) (L : List Loc) : Prop := v = some (.ref x) ∧ Fr n0 L ∧ h = h0
set_option maxRecDepth 65536 in
set_option maxHeartbeats 40000000 in
theorem rm1_3 (l : Launch) (Z : State) (a0 : Array Value) (hw : ∀ d ∈ tables_1, d.before a0 Z = true) (ws : List Jvm.Cond) (x : Addr) (h0 : Heap) (n0 : Nat) (Z0 : n0 ≤ h0.size) (Sx : Sta Z h0 "com/example/histrix/histrix/Action" "DECREMENT" "Lcom/example/histrix/histrix/Action;" (.ref x)) :
    MetFree l (⟨"com/example/histrix/histrix/ActionAdditivePinLaw", "pick", "(I)Lcom/example/histrix/histrix/Action;"⟩ : MethodName) (head1 (Jvm.Cond.code (⟨"com/example/histrix/histrix/ActionAdditivePinLaw", "pick", "(I)Lcom/example/histrix/histrix/Action;"⟩ : MethodName) method_2_code 1 (some (.object "com/example/histrix/histrix/Action")) :: ws) ({ frames := 0, cells := 0, slots := 0, locals := 0 } : Room)) (fun aa_ U_ => aa_ = #[(.int (3 : Int32))] ∧ Z.Warmed39 U_.vm ∧ U_.heap = h0) (fun _ _ _ _ _ => True) (fun _ U_ o_ U1_ => ∃ v_ L_, o_ = .returned v_ ∧ Q1_3 Z x h0 n0 v_ U1_.heap L_ ∧ FrameEnd U_ o_ U1_ L_ ({ frames := 0, cells := 0, slots := 0, locals := 0 } : Room).cells ({ frames := 0, cells := 0, slots := 0, locals := 0 } : Room).slots) := by
  refine MetFree.of_bodySF (plainFor_of_name own_pn2) hisR ?_
  intro p e s m args below meth c s₁ Bd hml0 hP hK
  obtain ⟨rfl, hZ, hh⟩ := hP
  have hx := Bd.exec
  have hby := Bd.bytes
  have hlk := Bd.notSynchronized
  have hml : c.maxLocals = 1 := hml0
  have hown : s.vm.findClass "com/example/histrix/histrix/ActionAdditivePinLaw" = some m.cls := findClass_of_methodNamed Bd.named
  have hnm := (name_of_methodNamed Bd.named Bd.method).1
  have X0 : Stand p l e ({ frames := 0, cells := 0, slots := 0, locals := 0 } : Room) s m #[(.int (3 : Int32))] below meth c s₁ [] 0 0 := Stand.of_body Bd
  have e0 : s₁.heap = h0 := by rw [← hh, Bd.state]; rfl
  have N0 := Fr.nil n0
  show own_E p e below s (Q1_3 Z x h0 n0) ({ frames := 0, cells := 0, slots := 0, locals := 0 } : Room).cells ({ frames := 0, cells := 0, slots := 0, locals := 0 } : Room).slots (s₁.setTop (entryFrame m #[(.int (3 : Int32))] 1))
  refine own_st (B := s₁.setTop (mkF m 0 #[.val (.int (3 : Int32))] [])) (fun t_ k_ => castTop (own_ef_rm1_3 m (3 : Int32)) k_) ?_
  refine own_st (B := s₁.setTop (mkF m 1 #[.val (.int (3 : Int32))] [(.int (3 : Int32))])) (fun t_ k_ => XS.iloadN X0.here hx rfl (hb hby own_b1_d0) rfl k_) ?_
  refine own_st (B := s₁.setTop (mkF m 8 #[.val (.int (3 : Int32))] [])) (fun t_ k_ => XS.ifYes X0.here hx rfl (pc0 := 1) (pc' := 8) rfl (hb hby own_b1_d1) rfl ((if0 _ _).trans (feq (by decide : ¬ ((3 : Int32) = (0 : Int32)))).2) (by decide) (by decide) k_) ?_
  refine own_st (B := s₁.setTop (mkF m 9 #[.val (.int (3 : Int32))] [(.int (3 : Int32))])) (fun t_ k_ => XS.iloadN X0.here hx rfl (hb hby own_b1_d8) rfl k_) ?_
  refine own_st (B := s₁.setTop (mkF m 10 #[.val (.int (3 : Int32))] [(.int (1 : Int32)), (.int (3 : Int32))])) (fun t_ k_ => XS.iconst X0.here hx rfl (hb hby own_b1_d9) k_) ?_
  refine own_st (B := s₁.setTop (mkF m 17 #[.val (.int (3 : Int32))] [])) (fun t_ k_ => XS.icmpYes X0.here hx rfl (pc0 := 10) (pc' := 17) rfl (hb hby own_b1_d10) rfl (feq (by decide : ¬ ((3 : Int32) = (1 : Int32)))).2 (by decide) (by decide) k_) ?_
  refine own_st (B := s₁.setTop (mkF m 18 #[.val (.int (3 : Int32))] [(.int (3 : Int32))])) (fun t_ k_ => XS.iloadN X0.here hx rfl (hb hby own_b1_d17) rfl k_) ?_
  refine own_st (B := s₁.setTop (mkF m 19 #[.val (.int (3 : Int32))] [(.int (2 : Int32)), (.int (3 : Int32))])) (fun t_ k_ => XS.iconst X0.here hx rfl (hb hby own_b1_d18) k_) ?_
  refine own_st (B := s₁.setTop (mkF m 26 #[.val (.int (3 : Int32))] [])) (fun t_ k_ => XS.icmpYes X0.here hx rfl (pc0 := 19) (pc' := 26) rfl (hb hby own_b1_d19) rfl (feq (by decide : ¬ ((3 : Int32) = (2 : Int32)))).2 (by decide) (by decide) k_) ?_
  refine own_st (B := s₁.setTop (mkF m 27 #[.val (.int (3 : Int32))] [(.int (3 : Int32))])) (fun t_ k_ => XS.iloadN X0.here hx rfl (hb hby own_b1_d26) rfl k_) ?_
  refine own_st (B := s₁.setTop (mkF m 28 #[.val (.int (3 : Int32))] [(.int (3 : Int32)), (.int (3 : Int32))])) (fun t_ k_ => XS.iconst X0.here hx rfl (hb hby own_b1_d27) k_) ?_
  refine own_st (B := s₁.setTop (mkF m 31 #[.val (.int (3 : Int32))] [])) (fun t_ k_ => XS.icmpNo X0.here hx rfl (hb hby own_b1_d28) rfl (teq (by decide : (3 : Int32) = (3 : Int32))).2 k_) ?_
  obtain ⟨T1, X1, e1, st1⟩ := getS2 X0 hx hZ hown (host := "") (Or.inl (hw _ (List.mem_of_getElem? (i := 47) rfl))) Via.refl e0 Sx (g := (mkF m 31 #[.val (.int (3 : Int32))] [])) rfl (hb hby own_b1_d31)
  refine own_st (B := T1.setTop (mkF m 34 #[.val (.int (3 : Int32))] [(.ref x)])) st1 ?_
  refine own_retR X1 hx rfl Bd.returns rfl hlk (hb hby own_b1_d34) (by decide) (by decide) ?_
  show Q1_3 Z x h0 n0 _ T1.heap _
  rw [e1]
  exact ⟨rfl, N0, rfl⟩
theorem own_b1_d35 : decode method_2_code 35 = .ok (.iload_n 0, 1) := by decide +kernel
theorem own_b1_d36 : decode method_2_code 36 = .ok (.iconst 4, 1) := by decide +kernel
theorem own_b1_d37 : decode method_2_code 37 = .ok (.if_icmp .ne 7, 3) := by decide +kernel
theorem own_b1_d40 : decode method_2_code 40 = .ok (.getstatic 22, 3) := by decide +kernel
theorem own_b1_d43 : decode method_2_code 43 = .ok (.areturn, 1) := by decide +kernel
theorem own_ef_rm1_4 (m : MethodId) (x0 : Int32) : entryFrame m #[(.int x0)] 1 = mkF m 0 #[.val (.int x0)] [] := by first | (simp [entryFrame, mkF, argsToLocals, Value.category]; done) | rfl
def Q1_4 (Z : State) (x : Addr) (h0 : Heap) (n0 : Nat) (v : Option Value) (h : Heap) (L : List Loc) : Prop := v = some (.ref x) ∧ Fr n0 L ∧ h = h0
set_option maxRecDepth 65536 in
set_option maxHeartbeats 40000000 in
theorem rm1_4 (l : Launch) (Z : State) (a0 : Array Value) (hw : ∀ d ∈ tables_1, d.before a0 Z = true) (ws : List Jvm.Cond) (x : Addr) (h0 : Heap) (n0 : Nat) (Z0 : n0 ≤ h0.size) (Sx : Sta Z h0 "com/example/histrix/histrix/Action" "COMMIT" "Lcom/example/histrix/histrix/Action;" (.ref x)) :
    MetFree l (⟨"com/example/histrix/histrix/ActionAdditivePinLaw", "pick", "(I)Lcom/example/histrix/histrix/Action;"⟩ : MethodName) (head1 (Jvm.Cond.code (⟨"com/example/histrix/histrix/ActionAdditivePinLaw", "pick", "(I)Lcom/example/histrix/histrix/Action;"⟩ : MethodName) method_2_code 1 (some (.object "com/example/histrix/histrix/Action")) :: ws) ({ frames := 0, cells := 0, slots := 0, locals := 0 } : Room)) (fun aa_ U_ => aa_ = #[(.int (4 : Int32))] ∧ Z.Warmed39 U_.vm ∧ U_.heap = h0) (fun _ _ _ _ _ => True) (fun _ U_ o_ U1_ => ∃ v_ L_, o_ = .returned v_ ∧ Q1_4 Z x h0 n0 v_ U1_.heap L_ ∧ FrameEnd U_ o_ U1_ L_ ({ frames := 0, cells := 0, slots := 0, locals := 0 } : Room).cells ({ frames := 0, cells := 0, slots := 0, locals := 0 } : Room).slots) := by
  refine MetFree.of_bodySF (plainFor_of_name own_pn2) hisR ?_
  intro p e s m args below meth c s₁ Bd hml0 hP hK
  obtain ⟨rfl, hZ, hh⟩ := hP
  have hx := Bd.exec
  have hby := Bd.bytes
  have hlk := Bd.notSynchronized
  have hml : c.maxLocals = 1 := hml0
  have hown : s.vm.findClass "com/example/histrix/histrix/ActionAdditivePinLaw" = some m.cls := findClass_of_methodNamed Bd.named
  have hnm := (name_of_methodNamed Bd.named Bd.method).1
  have X0 : Stand p l e ({ frames := 0, cells := 0, slots := 0, locals := 0 } : Room) s m #[(.int (4 : Int32))] below meth c s₁ [] 0 0 := Stand.of_body Bd
  have e0 : s₁.heap = h0 := by rw [← hh, Bd.state]; rfl
  have N0 := Fr.nil n0
  show own_E p e below s (Q1_4 Z x h0 n0) ({ frames := 0, cells := 0, slots := 0, locals := 0 } : Room).cells ({ frames := 0, cells := 0, slots := 0, locals := 0 } : Room).slots (s₁.setTop (entryFrame m #[(.int (4 : Int32))] 1))
  refine own_st (B := s₁.setTop (mkF m 0 #[.val (.int (4 : Int32))] [])) (fun t_ k_ => castTop (own_ef_rm1_4 m (4 : Int32)) k_) ?_
  refine own_st (B := s₁.setTop (mkF m 1 #[.val (.int (4 : Int32))] [(.int (4 : Int32))])) (fun t_ k_ => XS.iloadN X0.here hx rfl (hb hby own_b1_d0) rfl k_) ?_
  refine own_st (B := s₁.setTop (mkF m 8 #[.val (.int (4 : Int32))] [])) (fun t_ k_ => XS.ifYes X0.here hx rfl (pc0 := 1) (pc' := 8) rfl (hb hby own_b1_d1) rfl ((if0 _ _).trans (feq (by decide : ¬ ((4 : Int32) = (0 : Int32)))).2) (by decide) (by decide) k_) ?_
  refine own_st (B := s₁.setTop (mkF m 9 #[.val (.int (4 : Int32))] [(.int (4 : Int32))])) (fun t_ k_ => XS.iloadN X0.here hx rfl (hb hby own_b1_d8) rfl k_) ?_
  refine own_st (B := s₁.setTop (mkF m 10 #[.val (.int (4 : Int32))] [(.int (1 : Int32)), (.int (4 : Int32))])) (fun t_ k_ => XS.iconst X0.here hx rfl (hb hby own_b1_d9) k_) ?_
  refine own_st (B := s₁.setTop (mkF m 17 #[.val (.int (4 : Int32))] [])) (fun t_ k_ => XS.icmpYes X0.here hx rfl (pc0 := 10) (pc' := 17) rfl (hb hby own_b1_d10) rfl (feq (by decide : ¬ ((4 : Int32) = (1 : Int32)))).2 (by decide) (by decide) k_) ?_
  refine own_st (B := s₁.setTop (mkF m 18 #[.val (.int (4 : Int32))] [(.int (4 : Int32))])) (fun t_ k_ => XS.iloadN X0.here hx rfl (hb hby own_b1_d17) rfl k_) ?_
  refine own_st (B := s₁.setTop (mkF m 19 #[.val (.int (4 : Int32))] [(.int (2 : Int32)), (.int (4 : Int32))])) (fun t_ k_ => XS.iconst X0.here hx rfl (hb hby own_b1_d18) k_) ?_
  refine own_st (B := s₁.setTop (mkF m 26 #[.val (.int (4 : Int32))] [])) (fun t_ k_ => XS.icmpYes X0.here hx rfl (pc0 := 19) (pc' := 26) rfl (hb hby own_b1_d19) rfl (feq (by decide : ¬ ((4 : Int32) = (2 : Int32)))).2 (by decide) (by decide) k_) ?_
  refine own_st (B := s₁.setTop (mkF m 27 #[.val (.int (4 : Int32))] [(.int (4 : Int32))])) (fun t_ k_ => XS.iloadN X0.here hx rfl (hb hby own_b1_d26) rfl k_) ?_
  refine own_st (B := s₁.setTop (mkF m 28 #[.val (.int (4 : Int32))] [(.int (3 : Int32)), (.int (4 : Int32))])) (fun t_ k_ => XS.iconst X0.here hx rfl (hb hby own_b1_d27) k_) ?_
  refine own_st (B := s₁.setTop (mkF m 35 #[.val (.int (4 : Int32))] [])) (fun t_ k_ => XS.icmpYes X0.here hx rfl (pc0 := 28) (pc' := 35) rfl (hb hby own_b1_d28) rfl (feq (by decide : ¬ ((4 : Int32) = (3 : Int32)))).2 (by decide) (by decide) k_) ?_
  refine own_st (B := s₁.setTop (mkF m 36 #[.val (.int (4 : Int32))] [(.int (4 : Int32))])) (fun t_ k_ => XS.iloadN X0.here hx rfl (hb hby own_b1_d35) rfl k_) ?_
  refine own_st (B := s₁.setTop (mkF m 37 #[.val (.int (4 : Int32))] [(.int (4 : Int32)), (.int (4 : Int32))])) (fun t_ k_ => XS.iconst X0.here hx rfl (hb hby own_b1_d36) k_) ?_
  refine own_st (B := s₁.setTop (mkF m 40 #[.val (.int (4 : Int32))] [])) (fun t_ k_ => XS.icmpNo X0.here hx rfl (hb hby own_b1_d37) rfl (teq (by decide : (4 : Int32) = (4 : Int32))).2 k_) ?_
  obtain ⟨T1, X1, e1, st1⟩ := getS2 X0 hx hZ hown (host := "") (Or.inl (hw _ (List.mem_of_getElem? (i := 53) rfl))) Via.refl e0 Sx (g := (mkF m 40 #[.val (.int (4 : Int32))] [])) rfl (hb hby own_b1_d40)
  refine own_st (B := T1.setTop (mkF m 43 #[.val (.int (4 : Int32))] [(.ref x)])) st1 ?_
  refine own_retR X1 hx rfl Bd.returns rfl hlk (hb hby own_b1_d43) (by decide) (by decide) ?_
  show Q1_4 Z x h0 n0 _ T1.heap _
  rw [e1]
  exact ⟨rfl, N0, rfl⟩
theorem own_b1_d44 : decode method_2_code 44 = .ok (.getstatic 25, 3) := by decide +kernel
theorem own_b1_d47 : decode method_2_code 47 = .ok (.areturn, 1) := by decide +kernel
theorem own_ef_rm1_5 (m : MethodId) (x0 : Int32) : entryFrame m #[(.int x0)] 1 = mkF m 0 #[.val (.int x0)] [] := by first | (simp [entryFrame, mkF, argsToLocals, Value.category]; done) | rfl
def Q1_5 (Z : State) (x : Addr) (h0 : Heap) (n0 : Nat) (v : Option Value) (h : Heap) (L : List Loc) : Prop := v = some (.ref x) ∧ Fr n0 L ∧ h = h0
set_option maxRecDepth 65536 in
set_option maxHeartbeats 40000000 in
theorem rm1_5 (l : Launch) (Z : State) (a0 : Array Value) (hw : ∀ d ∈ tables_1, d.before a0 Z = true) (ws : List Jvm.Cond) (x : Addr) (h0 : Heap) (n0 : Nat) (Z0 : n0 ≤ h0.size) (Sx : Sta Z h0 "com/example/histrix/histrix/Action" "ABORT" "Lcom/example/histrix/histrix/Action;" (.ref x)) :
    MetFree l (⟨"com/example/histrix/histrix/ActionAdditivePinLaw", "pick", "(I)Lcom/example/histrix/histrix/Action;"⟩ : MethodName) (head1 (Jvm.Cond.code (⟨"com/example/histrix/histrix/ActionAdditivePinLaw", "pick", "(I)Lcom/example/histrix/histrix/Action;"⟩ : MethodName) method_2_code 1 (some (.object "com/example/histrix/histrix/Action")) :: ws) ({ frames := 0, cells := 0, slots := 0, locals := 0 } : Room)) (fun aa_ U_ => aa_ = #[(.int (5 : Int32))] ∧ Z.Warmed39 U_.vm ∧ U_.heap = h0) (fun _ _ _ _ _ => True) (fun _ U_ o_ U1_ => ∃ v_ L_, o_ = .returned v_ ∧ Q1_5 Z x h0 n0 v_ U1_.heap L_ ∧ FrameEnd U_ o_ U1_ L_ ({ frames := 0, cells := 0, slots := 0, locals := 0 } : Room).cells ({ frames := 0, cells := 0, slots := 0, locals := 0 } : Room).slots) := by
  refine MetFree.of_bodySF (plainFor_of_name own_pn2) hisR ?_
  intro p e s m args below meth c s₁ Bd hml0 hP hK
  obtain ⟨rfl, hZ, hh⟩ := hP
  have hx := Bd.exec
  have hby := Bd.bytes
  have hlk := Bd.notSynchronized
  have hml : c.maxLocals = 1 := hml0
  have hown : s.vm.findClass "com/example/histrix/histrix/ActionAdditivePinLaw" = some m.cls := findClass_of_methodNamed Bd.named
  have hnm := (name_of_methodNamed Bd.named Bd.method).1
  have X0 : Stand p l e ({ frames := 0, cells := 0, slots := 0, locals := 0 } : Room) s m #[(.int (5 : Int32))] below meth c s₁ [] 0 0 := Stand.of_body Bd
  have e0 : s₁.heap = h0 := by rw [← hh, Bd.state]; rfl
  have N0 := Fr.nil n0
  show own_E p e below s (Q1_5 Z x h0 n0) ({ frames := 0, cells := 0, slots := 0, locals := 0 } : Room).cells ({ frames := 0, cells := 0, slots := 0, locals := 0 } : Room).slots (s₁.setTop (entryFrame m #[(.int (5 : Int32))] 1))
  refine own_st (B := s₁.setTop (mkF m 0 #[.val (.int (5 : Int32))] [])) (fun t_ k_ => castTop (own_ef_rm1_5 m (5 : Int32)) k_) ?_
  refine own_st (B := s₁.setTop (mkF m 1 #[.val (.int (5 : Int32))] [(.int (5 : Int32))])) (fun t_ k_ => XS.iloadN X0.here hx rfl (hb hby own_b1_d0) rfl k_) ?_
  refine own_st (B := s₁.setTop (mkF m 8 #[.val (.int (5 : Int32))] [])) (fun t_ k_ => XS.ifYes X0.here hx rfl (pc0 := 1) (pc' := 8) rfl (hb hby own_b1_d1) rfl ((if0 _ _).trans (feq (by decide : ¬ ((5 : Int32) = (0 : Int32)))).2) (by decide) (by decide) k_) ?_
  refine own_st (B := s₁.setTop (mkF m 9 #[.val (.int (5 : Int32))] [(.int (5 : Int32))])) (fun t_ k_ => XS.iloadN X0.here hx rfl (hb hby own_b1_d8) rfl k_) ?_
  refine own_st (B := s₁.setTop (mkF m 10 #[.val (.int (5 : Int32))] [(.int (1 : Int32)), (.int (5 : Int32))])) (fun t_ k_ => XS.iconst X0.here hx rfl (hb hby own_b1_d9) k_) ?_
  refine own_st (B := s₁.setTop (mkF m 17 #[.val (.int (5 : Int32))] [])) (fun t_ k_ => XS.icmpYes X0.here hx rfl (pc0 := 10) (pc' := 17) rfl (hb hby own_b1_d10) rfl (feq (by decide : ¬ ((5 : Int32) = (1 : Int32)))).2 (by decide) (by decide) k_) ?_
  refine own_st (B := s₁.setTop (mkF m 18 #[.val (.int (5 : Int32))] [(.int (5 : Int32))])) (fun t_ k_ => XS.iloadN X0.here hx rfl (hb hby own_b1_d17) rfl k_) ?_
  refine own_st (B := s₁.setTop (mkF m 19 #[.val (.int (5 : Int32))] [(.int (2 : Int32)), (.int (5 : Int32))])) (fun t_ k_ => XS.iconst X0.here hx rfl (hb hby own_b1_d18) k_) ?_
  refine own_st (B := s₁.setTop (mkF m 26 #[.val (.int (5 : Int32))] [])) (fun t_ k_ => XS.icmpYes X0.here hx rfl (pc0 := 19) (pc' := 26) rfl (hb hby own_b1_d19) rfl (feq (by decide : ¬ ((5 : Int32) = (2 : Int32)))).2 (by decide) (by decide) k_) ?_
  refine own_st (B := s₁.setTop (mkF m 27 #[.val (.int (5 : Int32))] [(.int (5 : Int32))])) (fun t_ k_ => XS.iloadN X0.here hx rfl (hb hby own_b1_d26) rfl k_) ?_
  refine own_st (B := s₁.setTop (mkF m 28 #[.val (.int (5 : Int32))] [(.int (3 : Int32)), (.int (5 : Int32))])) (fun t_ k_ => XS.iconst X0.here hx rfl (hb hby own_b1_d27) k_) ?_
  refine own_st (B := s₁.setTop (mkF m 35 #[.val (.int (5 : Int32))] [])) (fun t_ k_ => XS.icmpYes X0.here hx rfl (pc0 := 28) (pc' := 35) rfl (hb hby own_b1_d28) rfl (feq (by decide : ¬ ((5 : Int32) = (3 : Int32)))).2 (by decide) (by decide) k_) ?_
  refine own_st (B := s₁.setTop (mkF m 36 #[.val (.int (5 : Int32))] [(.int (5 : Int32))])) (fun t_ k_ => XS.iloadN X0.here hx rfl (hb hby own_b1_d35) rfl k_) ?_
  refine own_st (B := s₁.setTop (mkF m 37 #[.val (.int (5 : Int32))] [(.int (4 : Int32)), (.int (5 : Int32))])) (fun t_ k_ => XS.iconst X0.here hx rfl (hb hby own_b1_d36) k_) ?_
  refine own_st (B := s₁.setTop (mkF m 44 #[.val (.int (5 : Int32))] [])) (fun t_ k_ => XS.icmpYes X0.here hx rfl (pc0 := 37) (pc' := 44) rfl (hb hby own_b1_d37) rfl (feq (by decide : ¬ ((5 : Int32) = (4 : Int32)))).2 (by decide) (by decide) k_) ?_
  obtain ⟨T1, X1, e1, st1⟩ := getS2 X0 hx hZ hown (host := "") (Or.inl (hw _ (List.mem_of_getElem? (i := 51) rfl))) Via.refl e0 Sx (g := (mkF m 44 #[.val (.int (5 : Int32))] [])) rfl (hb hby own_b1_d44)
  refine own_st (B := T1.setTop (mkF m 47 #[.val (.int (5 : Int32))] [(.ref x)])) st1 ?_
  refine own_retR X1 hx rfl Bd.returns rfl hlk (hb hby own_b1_d47) (by decide) (by decide) ?_
  show Q1_5 Z x h0 n0 _ T1.heap _
  rw [e1]
  exact ⟨rfl, N0, rfl⟩
theorem own_b2_d0 : decode prog_1_method_6_code 0 = .ok (.aload_n 0, 1) := by decide +kernel
theorem own_b2_d1 : decode prog_1_method_6_code 1 = .ok (.getstatic 10, 3) := by decide +kernel
theorem own_b2_d4 : decode prog_1_method_6_code 4 = .ok (.if_acmp .eq 10, 3) := by decide +kernel
theorem own_b2_d14 : decode prog_1_method_6_code 14 = .ok (.iconst 1, 1) := by decide +kernel
theorem own_b2_d15 : decode prog_1_method_6_code 15 = .ok (.goto 4, 3) := by decide +kernel
theorem own_b2_d19 : decode prog_1_method_6_code 19 = .ok (.ireturn, 1) := by decide +kernel
theorem own_pn3 : plainName "com/example/histrix/histrix/Action" = true := by first | (simp [plainName, overriddenIn]; done) | decide +kernel
theorem own_ef_rm2_I (m : MethodId) (x0 : Addr) : entryFrame m #[(.ref x0)] 1 = mkF m 0 #[.val (.ref x0)] [] := by first | (simp [entryFrame, mkF, argsToLocals, Value.category]; done) | rfl
def Q2_I (Z : State) (x2 : Addr) (h0 : Heap) (n0 : Nat) (v : Option Value) (h : Heap) (L : List Loc) : Prop := v = some (.int 1) ∧ Fr n0 L ∧ h = h0
set_option maxRecDepth 65536 in
set_option maxHeartbeats 40000000 in
theorem rm2_I (l : Launch) (Z : State) (a0 : Array Value) (hw : ∀ d ∈ tables_1, d.before a0 Z = true) (ws : List Jvm.Cond) (x2 : Addr) (h0 : Heap) (n0 : Nat) (Z0 : n0 ≤ h0.size) (S2 : Sta Z h0 "com/example/histrix/histrix/Action" "INCREMENT" "Lcom/example/histrix/histrix/Action;" (.ref x2)) :
    MetFree l (⟨"com/example/histrix/histrix/Action", "additive", "()Z"⟩ : MethodName) (head1 (Jvm.Cond.code (⟨"com/example/histrix/histrix/Action", "additive", "()Z"⟩ : MethodName) prog_1_method_6_code 1 (some .boolean) :: ws) ({ frames := 0, cells := 0, slots := 0, locals := 0 } : Room)) (fun aa_ U_ => aa_ = #[(.ref x2)] ∧ Z.Warmed39 U_.vm ∧ U_.heap = h0) (fun _ _ _ _ _ => True) (fun _ U_ o_ U1_ => ∃ v_ L_, o_ = .returned v_ ∧ Q2_I Z x2 h0 n0 v_ U1_.heap L_ ∧ FrameEnd U_ o_ U1_ L_ ({ frames := 0, cells := 0, slots := 0, locals := 0 } : Room).cells ({ frames := 0, cells := 0, slots := 0, locals := 0 } : Room).slots) := by
  refine MetFree.of_bodySF (plainFor_of_name own_pn3) hisR ?_
  intro p e s m args below meth c s₁ Bd hml0 hP hK
  obtain ⟨rfl, hZ, hh⟩ := hP
  have hx := Bd.exec
  have hby := Bd.bytes
  have hlk := Bd.notSynchronized
  have hml : c.maxLocals = 1 := hml0
  have hown : s.vm.findClass "com/example/histrix/histrix/Action" = some m.cls := findClass_of_methodNamed Bd.named
  have hnm := (name_of_methodNamed Bd.named Bd.method).1
  have X0 : Stand p l e ({ frames := 0, cells := 0, slots := 0, locals := 0 } : Room) s m #[(.ref x2)] below meth c s₁ [] 0 0 := Stand.of_body Bd
  have e0 : s₁.heap = h0 := by rw [← hh, Bd.state]; rfl
  have N0 := Fr.nil n0
  show own_E p e below s (Q2_I Z x2 h0 n0) ({ frames := 0, cells := 0, slots := 0, locals := 0 } : Room).cells ({ frames := 0, cells := 0, slots := 0, locals := 0 } : Room).slots (s₁.setTop (entryFrame m #[(.ref x2)] 1))
  refine own_st (B := s₁.setTop (mkF m 0 #[.val (.ref x2)] [])) (fun t_ k_ => castTop (own_ef_rm2_I m x2) k_) ?_
  refine own_st (B := s₁.setTop (mkF m 1 #[.val (.ref x2)] [(.ref x2)])) (fun t_ k_ => XS.aloadN X0.here hx rfl (hb hby own_b2_d0) rfl rfl k_) ?_
  obtain ⟨T1, X1, e1, st1⟩ := getS2 X0 hx hZ hown (host := "") (Or.inl (hw _ (List.mem_of_getElem? (i := 13) rfl))) Via.refl e0 S2 (g := (mkF m 1 #[.val (.ref x2)] [(.ref x2)])) rfl (hb hby own_b2_d1)
  refine own_st (B := T1.setTop (mkF m 4 #[.val (.ref x2)] [(.ref x2), (.ref x2)])) st1 ?_
  refine own_st (B := T1.setTop (mkF m 14 #[.val (.ref x2)] [])) (fun t_ k_ => Jvm.RoadKit.acmp (g := (mkF m 4 #[.val (.ref x2)] [(.ref x2), (.ref x2)])) X1 hx rfl rfl rfl (pc0 := 4) (pc' := 14) (same := true) rfl (hb hby own_b2_d4) rfl (decide_eq_true rfl) (by decide) (by decide) k_) ?_
  refine own_st (B := T1.setTop (mkF m 15 #[.val (.ref x2)] [(.int (1 : Int32))])) (fun t_ k_ => XS.iconst X1.here hx rfl (hb hby own_b2_d14) k_) ?_
  refine own_st (B := T1.setTop (mkF m 19 #[.val (.ref x2)] [(.int (1 : Int32))])) (fun t_ k_ => XS.goto X1.here hx rfl (pc0 := 15) (pc' := 19) rfl (hb hby own_b2_d15) (by decide) (by decide) k_) ?_
  refine own_retN X1 hx (t := .boolean) Bd.returns (by simp) hlk (hb hby own_b2_d19) (z' := (1 : Int32)) (by first | rfl | exact own_nb _) (by decide) (by decide) ?_
  show Q2_I Z x2 h0 n0 _ T1.heap _
  rw [e1]
  exact ⟨rfl, N0, rfl⟩
theorem own_b2_d7 : decode prog_1_method_6_code 7 = .ok (.aload_n 0, 1) := by decide +kernel
theorem own_b2_d8 : decode prog_1_method_6_code 8 = .ok (.getstatic 13, 3) := by decide +kernel
theorem own_b2_d11 : decode prog_1_method_6_code 11 = .ok (.if_acmp .ne 7, 3) := by decide +kernel
theorem own_ef_rm2_D (m : MethodId) (x0 : Addr) : entryFrame m #[(.ref x0)] 1 = mkF m 0 #[.val (.ref x0)] [] := by first | (simp [entryFrame, mkF, argsToLocals, Value.category]; done) | rfl
def Q2_D (Z : State) (x2 : Addr) (x3 : Addr) (h0 : Heap) (n0 : Nat) (v : Option Value) (h : Heap) (L : List Loc) : Prop := v = some (.int 1) ∧ Fr n0 L ∧ h = h0
set_option maxRecDepth 65536 in
set_option maxHeartbeats 40000000 in
theorem rm2_D (l : Launch) (Z : State) (a0 : Array Value) (hw : ∀ d ∈ tables_1, d.before a0 Z = true) (ws : List Jvm.Cond) (x2 : Addr) (x3 : Addr) (h0 : Heap) (n0 : Nat) (Z0 : n0 ≤ h0.size) (S2 : Sta Z h0 "com/example/histrix/histrix/Action" "INCREMENT" "Lcom/example/histrix/histrix/Action;" (.ref x2)) (S3 : Sta Z h0 "com/example/histrix/histrix/Action" "DECREMENT" "Lcom/example/histrix/histrix/Action;" (.ref x3)) (h32 : x3 ≠ x2) :
    MetFree l (⟨"com/example/histrix/histrix/Action", "additive", "()Z"⟩ : MethodName) (head1 (Jvm.Cond.code (⟨"com/example/histrix/histrix/Action", "additive", "()Z"⟩ : MethodName) prog_1_method_6_code 1 (some .boolean) :: ws) ({ frames := 0, cells := 0, slots := 0, locals := 0 } : Room)) (fun aa_ U_ => aa_ = #[(.ref x3)] ∧ Z.Warmed39 U_.vm ∧ U_.heap = h0) (fun _ _ _ _ _ => True) (fun _ U_ o_ U1_ => ∃ v_ L_, o_ = .returned v_ ∧ Q2_D Z x2 x3 h0 n0 v_ U1_.heap L_ ∧ FrameEnd U_ o_ U1_ L_ ({ frames := 0, cells := 0, slots := 0, locals := 0 } : Room).cells ({ frames := 0, cells := 0, slots := 0, locals := 0 } : Room).slots) := by
  refine MetFree.of_bodySF (plainFor_of_name own_pn3) hisR ?_
  intro p e s m args below meth c s₁ Bd hml0 hP hK
  obtain ⟨rfl, hZ, hh⟩ := hP
  have hx := Bd.exec
  have hby := Bd.bytes
  have hlk := Bd.notSynchronized
  have hml : c.maxLocals = 1 := hml0
  have hown : s.vm.findClass "com/example/histrix/histrix/Action" = some m.cls := findClass_of_methodNamed Bd.named
  have hnm := (name_of_methodNamed Bd.named Bd.method).1
  have X0 : Stand p l e ({ frames := 0, cells := 0, slots := 0, locals := 0 } : Room) s m #[(.ref x3)] below meth c s₁ [] 0 0 := Stand.of_body Bd
  have e0 : s₁.heap = h0 := by rw [← hh, Bd.state]; rfl
  have N0 := Fr.nil n0
  show own_E p e below s (Q2_D Z x2 x3 h0 n0) ({ frames := 0, cells := 0, slots := 0, locals := 0 } : Room).cells ({ frames := 0, cells := 0, slots := 0, locals := 0 } : Room).slots (s₁.setTop (entryFrame m #[(.ref x3)] 1))
  refine own_st (B := s₁.setTop (mkF m 0 #[.val (.ref x3)] [])) (fun t_ k_ => castTop (own_ef_rm2_D m x3) k_) ?_
  refine own_st (B := s₁.setTop (mkF m 1 #[.val (.ref x3)] [(.ref x3)])) (fun t_ k_ => XS.aloadN X0.here hx rfl (hb hby own_b2_d0) rfl rfl k_) ?_
  obtain ⟨T1, X1, e1, st1⟩ := getS2 X0 hx hZ hown (host := "") (Or.inl (hw _ (List.mem_of_getElem? (i := 13) rfl))) Via.refl e0 S2 (g := (mkF m 1 #[.val (.ref x3)] [(.ref x3)])) rfl (hb hby own_b2_d1)
  refine own_st (B := T1.setTop (mkF m 4 #[.val (.ref x3)] [(.ref x2), (.ref x3)])) st1 ?_
  refine own_st (B := T1.setTop (mkF m 7 #[.val (.ref x3)] [])) (fun t_ k_ => Jvm.RoadKit.acmp (g := (mkF m 4 #[.val (.ref x3)] [(.ref x2), (.ref x3)])) X1 hx rfl rfl rfl (pc0 := 4) (pc' := 7) (same := false) rfl (hb hby own_b2_d4) rfl (decide_eq_false fun q => h32 (Value.ref.inj q)) (by decide) (by decide) k_) ?_
  refine own_st (B := T1.setTop (mkF m 8 #[.val (.ref x3)] [(.ref x3)])) (fun t_ k_ => XS.aloadN X1.here hx rfl (hb hby own_b2_d7) rfl rfl k_) ?_
  obtain ⟨T2, X2, e2, st2⟩ := getS2 X1 hx hZ hown (host := "") (Or.inl (hw _ (List.mem_of_getElem? (i := 15) rfl))) Via.refl e1 S3 (g := (mkF m 8 #[.val (.ref x3)] [(.ref x3)])) rfl (hb hby own_b2_d8)
  refine own_st (B := T2.setTop (mkF m 11 #[.val (.ref x3)] [(.ref x3), (.ref x3)])) st2 ?_
  refine own_st (B := T2.setTop (mkF m 14 #[.val (.ref x3)] [])) (fun t_ k_ => Jvm.RoadKit.acmp (g := (mkF m 11 #[.val (.ref x3)] [(.ref x3), (.ref x3)])) X2 hx rfl rfl rfl (pc0 := 11) (pc' := 14) (same := true) rfl (hb hby own_b2_d11) rfl (decide_eq_true rfl) (by decide) (by decide) k_) ?_
  refine own_st (B := T2.setTop (mkF m 15 #[.val (.ref x3)] [(.int (1 : Int32))])) (fun t_ k_ => XS.iconst X2.here hx rfl (hb hby own_b2_d14) k_) ?_
  refine own_st (B := T2.setTop (mkF m 19 #[.val (.ref x3)] [(.int (1 : Int32))])) (fun t_ k_ => XS.goto X2.here hx rfl (pc0 := 15) (pc' := 19) rfl (hb hby own_b2_d15) (by decide) (by decide) k_) ?_
  refine own_retN X2 hx (t := .boolean) Bd.returns (by simp) hlk (hb hby own_b2_d19) (z' := (1 : Int32)) (by first | rfl | exact own_nb _) (by decide) (by decide) ?_
  show Q2_D Z x2 x3 h0 n0 _ T2.heap _
  rw [e2]
  exact ⟨rfl, N0, rfl⟩
theorem own_b2_d18 : decode prog_1_method_6_code 18 = .ok (.iconst 0, 1) := by decide +kernel
theorem own_ef_rm2_N (m : MethodId) (x0 : Addr) : entryFrame m #[(.ref x0)] 1 = mkF m 0 #[.val (.ref x0)] [] := by first | (simp [entryFrame, mkF, argsToLocals, Value.category]; done) | rfl
def Q2_N (Z : State) (a : Addr) (x2 : Addr) (x3 : Addr) (h0 : Heap) (n0 : Nat) (v : Option Value) (h : Heap) (L : List Loc) : Prop := v = some (.int 0) ∧ Fr n0 L ∧ h = h0
set_option maxRecDepth 65536 in
set_option maxHeartbeats 40000000 in
theorem rm2_N (l : Launch) (Z : State) (a0 : Array Value) (hw : ∀ d ∈ tables_1, d.before a0 Z = true) (ws : List Jvm.Cond) (a : Addr) (x2 : Addr) (x3 : Addr) (h0 : Heap) (n0 : Nat) (Z0 : n0 ≤ h0.size) (S2 : Sta Z h0 "com/example/histrix/histrix/Action" "INCREMENT" "Lcom/example/histrix/histrix/Action;" (.ref x2)) (S3 : Sta Z h0 "com/example/histrix/histrix/Action" "DECREMENT" "Lcom/example/histrix/histrix/Action;" (.ref x3)) (ha2 : a ≠ x2) (ha3 : a ≠ x3) :
    MetFree l (⟨"com/example/histrix/histrix/Action", "additive", "()Z"⟩ : MethodName) (head1 (Jvm.Cond.code (⟨"com/example/histrix/histrix/Action", "additive", "()Z"⟩ : MethodName) prog_1_method_6_code 1 (some .boolean) :: ws) ({ frames := 0, cells := 0, slots := 0, locals := 0 } : Room)) (fun aa_ U_ => aa_ = #[(.ref a)] ∧ Z.Warmed39 U_.vm ∧ U_.heap = h0) (fun _ _ _ _ _ => True) (fun _ U_ o_ U1_ => ∃ v_ L_, o_ = .returned v_ ∧ Q2_N Z a x2 x3 h0 n0 v_ U1_.heap L_ ∧ FrameEnd U_ o_ U1_ L_ ({ frames := 0, cells := 0, slots := 0, locals := 0 } : Room).cells ({ frames := 0, cells := 0, slots := 0, locals := 0 } : Room).slots) := by
  refine MetFree.of_bodySF (plainFor_of_name own_pn3) hisR ?_
  intro p e s m args below meth c s₁ Bd hml0 hP hK
  obtain ⟨rfl, hZ, hh⟩ := hP
  have hx := Bd.exec
  have hby := Bd.bytes
  have hlk := Bd.notSynchronized
  have hml : c.maxLocals = 1 := hml0
  have hown : s.vm.findClass "com/example/histrix/histrix/Action" = some m.cls := findClass_of_methodNamed Bd.named
  have hnm := (name_of_methodNamed Bd.named Bd.method).1
  have X0 : Stand p l e ({ frames := 0, cells := 0, slots := 0, locals := 0 } : Room) s m #[(.ref a)] below meth c s₁ [] 0 0 := Stand.of_body Bd
  have e0 : s₁.heap = h0 := by rw [← hh, Bd.state]; rfl
  have N0 := Fr.nil n0
  show own_E p e below s (Q2_N Z a x2 x3 h0 n0) ({ frames := 0, cells := 0, slots := 0, locals := 0 } : Room).cells ({ frames := 0, cells := 0, slots := 0, locals := 0 } : Room).slots (s₁.setTop (entryFrame m #[(.ref a)] 1))
  refine own_st (B := s₁.setTop (mkF m 0 #[.val (.ref a)] [])) (fun t_ k_ => castTop (own_ef_rm2_N m a) k_) ?_
  refine own_st (B := s₁.setTop (mkF m 1 #[.val (.ref a)] [(.ref a)])) (fun t_ k_ => XS.aloadN X0.here hx rfl (hb hby own_b2_d0) rfl rfl k_) ?_
  obtain ⟨T1, X1, e1, st1⟩ := getS2 X0 hx hZ hown (host := "") (Or.inl (hw _ (List.mem_of_getElem? (i := 13) rfl))) Via.refl e0 S2 (g := (mkF m 1 #[.val (.ref a)] [(.ref a)])) rfl (hb hby own_b2_d1)
  refine own_st (B := T1.setTop (mkF m 4 #[.val (.ref a)] [(.ref x2), (.ref a)])) st1 ?_
  refine own_st (B := T1.setTop (mkF m 7 #[.val (.ref a)] [])) (fun t_ k_ => Jvm.RoadKit.acmp (g := (mkF m 4 #[.val (.ref a)] [(.ref x2), (.ref a)])) X1 hx rfl rfl rfl (pc0 := 4) (pc' := 7) (same := false) rfl (hb hby own_b2_d4) rfl (decide_eq_false fun q => ha2 (Value.ref.inj q)) (by decide) (by decide) k_) ?_
  refine own_st (B := T1.setTop (mkF m 8 #[.val (.ref a)] [(.ref a)])) (fun t_ k_ => XS.aloadN X1.here hx rfl (hb hby own_b2_d7) rfl rfl k_) ?_
  obtain ⟨T2, X2, e2, st2⟩ := getS2 X1 hx hZ hown (host := "") (Or.inl (hw _ (List.mem_of_getElem? (i := 15) rfl))) Via.refl e1 S3 (g := (mkF m 8 #[.val (.ref a)] [(.ref a)])) rfl (hb hby own_b2_d8)
  refine own_st (B := T2.setTop (mkF m 11 #[.val (.ref a)] [(.ref x3), (.ref a)])) st2 ?_
  refine own_st (B := T2.setTop (mkF m 18 #[.val (.ref a)] [])) (fun t_ k_ => Jvm.RoadKit.acmp (g := (mkF m 11 #[.val (.ref a)] [(.ref x3), (.ref a)])) X2 hx rfl rfl rfl (pc0 := 11) (pc' := 18) (same := false) rfl (hb hby own_b2_d11) rfl (decide_eq_false fun q => ha3 (Value.ref.inj q)) (by decide) (by decide) k_) ?_
  refine own_st (B := T2.setTop (mkF m 19 #[.val (.ref a)] [(.int (0 : Int32))])) (fun t_ k_ => XS.iconst X2.here hx rfl (hb hby own_b2_d18) k_) ?_
  refine own_retN X2 hx (t := .boolean) Bd.returns (by simp) hlk (hb hby own_b2_d19) (z' := (0 : Int32)) (by first | rfl | exact own_nb _) (by decide) (by decide) ?_
  show Q2_N Z a x2 x3 h0 n0 _ T2.heap _
  rw [e2]
  exact ⟨rfl, N0, rfl⟩
theorem own_b3_d0 : decode prog_1_method_4_code 0 = .ok (.aload_n 0, 1) := by decide +kernel
theorem own_b3_d1 : decode prog_1_method_4_code 1 = .ok (.getfield 41, 3) := by decide +kernel
theorem own_b3_d4 : decode prog_1_method_4_code 4 = .ok (.areturn, 1) := by decide +kernel
theorem own_ef_rm3 (m : MethodId) (x0 : Addr) : entryFrame m #[(.ref x0)] 1 = mkF m 0 #[.val (.ref x0)] [] := by first | (simp [entryFrame, mkF, argsToLocals, Value.category]; done) | rfl
def Q3 (Z : State) (a : Addr) (u : Value) (h0 : Heap) (n0 : Nat) (v : Option Value) (h : Heap) (L : List Loc) : Prop := v = some u ∧ Fr n0 L ∧ h = h0
set_option maxRecDepth 65536 in
set_option maxHeartbeats 40000000 in
theorem rm3 (l : Launch) (Z : State) (a0 : Array Value) (hw : ∀ d ∈ tables_1, d.before a0 Z = true) (ws : List Jvm.Cond) (a : Addr) (u : Value) (h0 : Heap) (n0 : Nat) (Z0 : n0 ≤ h0.size) (hu : u.isRef = true) (F : Fld Z h0 a "com/example/histrix/histrix/Action" "symbol" "Ljava/lang/String;" u) :
    MetFree l (⟨"com/example/histrix/histrix/Action", "symbol", "()Ljava/lang/String;"⟩ : MethodName) (head1 (Jvm.Cond.code (⟨"com/example/histrix/histrix/Action", "symbol", "()Ljava/lang/String;"⟩ : MethodName) prog_1_method_4_code 1 (some (.object "java/lang/String")) :: ws) ({ frames := 0, cells := 0, slots := 0, locals := 0 } : Room)) (fun aa_ U_ => aa_ = #[(.ref a)] ∧ Z.Warmed39 U_.vm ∧ U_.heap = h0) (fun _ _ _ _ _ => True) (fun _ U_ o_ U1_ => ∃ v_ L_, o_ = .returned v_ ∧ Q3 Z a u h0 n0 v_ U1_.heap L_ ∧ FrameEnd U_ o_ U1_ L_ ({ frames := 0, cells := 0, slots := 0, locals := 0 } : Room).cells ({ frames := 0, cells := 0, slots := 0, locals := 0 } : Room).slots) := by
  refine MetFree.of_bodySF (plainFor_of_name own_pn3) hisR ?_
  intro p e s m args below meth c s₁ Bd hml0 hP hK
  obtain ⟨rfl, hZ, hh⟩ := hP
  have hx := Bd.exec
  have hby := Bd.bytes
  have hlk := Bd.notSynchronized
  have hml : c.maxLocals = 1 := hml0
  have hown : s.vm.findClass "com/example/histrix/histrix/Action" = some m.cls := findClass_of_methodNamed Bd.named
  have hnm := (name_of_methodNamed Bd.named Bd.method).1
  have X0 : Stand p l e ({ frames := 0, cells := 0, slots := 0, locals := 0 } : Room) s m #[(.ref a)] below meth c s₁ [] 0 0 := Stand.of_body Bd
  have e0 : s₁.heap = h0 := by rw [← hh, Bd.state]; rfl
  have N0 := Fr.nil n0
  show own_E p e below s (Q3 Z a u h0 n0) ({ frames := 0, cells := 0, slots := 0, locals := 0 } : Room).cells ({ frames := 0, cells := 0, slots := 0, locals := 0 } : Room).slots (s₁.setTop (entryFrame m #[(.ref a)] 1))
  refine own_st (B := s₁.setTop (mkF m 0 #[.val (.ref a)] [])) (fun t_ k_ => castTop (own_ef_rm3 m a) k_) ?_
  refine own_st (B := s₁.setTop (mkF m 1 #[.val (.ref a)] [(.ref a)])) (fun t_ k_ => XS.aloadN X0.here hx rfl (hb hby own_b3_d0) rfl rfl k_) ?_
  obtain ⟨T1, X1, e1, st1⟩ := getF X0 hx hZ hown (host := "") (Or.inl (hw _ (List.mem_of_getElem? (i := 22) rfl))) Via.refl e0 F (g := (mkF m 1 #[.val (.ref a)] [(.ref a)])) rfl rfl (hb hby own_b3_d1)
  refine own_st (B := T1.setTop (mkF m 4 #[.val (.ref a)] [u])) st1 ?_
  refine own_retR X1 hx hu Bd.returns rfl hlk (hb hby own_b3_d4) (by decide) (by decide) ?_
  show Q3 Z a u h0 n0 _ T1.heap _
  rw [e1]
  exact ⟨rfl, N0, rfl⟩
theorem own_r6 (x : Int32) : ((x &&& (2147483647 : Int32)) % (6 : Int32)) = 0 ∨ ((x &&& (2147483647 : Int32)) % (6 : Int32)) = 1 ∨ ((x &&& (2147483647 : Int32)) % (6 : Int32)) = 2 ∨ ((x &&& (2147483647 : Int32)) % (6 : Int32)) = 3 ∨ ((x &&& (2147483647 : Int32)) % (6 : Int32)) = 4 ∨ ((x &&& (2147483647 : Int32)) % (6 : Int32)) = 5 := by
  have h1 := c_and x 2147483647 (by decide)
  have h2 := (c_irem (x &&& 2147483647) 6 6 rfl).1 h1.1
  generalize (x &&& 2147483647) % 6 = y at *
  simp only [← Int32.toInt_inj, Int32.reduceToInt]; omega
theorem own_pd1 : parseMethodDescriptor "(I)Lcom/example/histrix/histrix/Action;" = some ⟨[.int], some (.object "com/example/histrix/histrix/Action")⟩ := by decide +kernel
theorem own_pd2 : parseMethodDescriptor "()Z" = some ⟨[], some .boolean⟩ := by decide +kernel
theorem own_pd3 : parseMethodDescriptor "()Ljava/lang/String;" = some ⟨[], some (.object "java/lang/String")⟩ := by decide +kernel
theorem own_pd4 : parseMethodDescriptor "(Ljava/lang/Object;)Z" = some ⟨[(.object "java/lang/Object")], some .boolean⟩ := by decide +kernel
theorem own_ef_rm0 (m : MethodId) (x0 : Int32) : entryFrame m #[(.int x0)] maxLocals = mkF m 0 #[.val (.int x0), .unset, .unset, .unset, .unset, .unset, .unset] [] := by first | (simp [entryFrame, mkF, argsToLocals, Value.category, maxLocals]; done) | rfl
def Q0 (Z : State) (u0 : Int32) (cs : Int32) (x0 : Addr) (y0 : Addr) (z0 : Addr) (x1 : Addr) (y1 : Addr) (z1 : Addr) (x2 : Addr) (y2 : Addr) (z2 : Addr) (x3 : Addr) (y3 : Addr) (z3 : Addr) (x4 : Addr) (y4 : Addr) (z4 : Addr) (x5 : Addr) (y5 : Addr) (z5 : Addr) (h0 : Heap) (n0 : Nat) (v : Option Value) (h : Heap) (L : List Loc) : Prop := v = some (.int 1) ∧ Fr n0 L
set_option maxRecDepth 65536 in
set_option maxHeartbeats 40000000 in
theorem rm0 (l : Launch) (Z : State) (a0 : Array Value) (hw : ∀ d ∈ tables_1, d.before a0 Z = true) (ws : List Jvm.Cond) (u0 : Int32) (cs : Int32) (x0 : Addr) (y0 : Addr) (z0 : Addr) (x1 : Addr) (y1 : Addr) (z1 : Addr) (x2 : Addr) (y2 : Addr) (z2 : Addr) (x3 : Addr) (y3 : Addr) (z3 : Addr) (x4 : Addr) (y4 : Addr) (z4 : Addr) (x5 : Addr) (y5 : Addr) (z5 : Addr) (h0 : Heap) (n0 : Nat) (Z0 : n0 ≤ h0.size) (hn0 : h0.size ≤ n0) (hcw : Jvm.Lit.compactW.before a0 Z = true) (hh43 : Jvm.Lit.constHeld Z "com/example/histrix/histrix/ActionAdditivePinLaw" 43) (hh51 : Jvm.Lit.constHeld Z "com/example/histrix/histrix/ActionAdditivePinLaw" 51) (Sc : Sta Z h0 "java/lang/String" "COMPACT_STRINGS" "Z" (.int cs)) (hcs : ¬ cs = 0) (S0 : Sta Z h0 "com/example/histrix/histrix/Action" "READ" "Lcom/example/histrix/histrix/Action;" (.ref x0)) (E0 : Exa Z h0 x0 "com/example/histrix/histrix/Action") (F0 : Fld Z h0 x0 "com/example/histrix/histrix/Action" "symbol" "Ljava/lang/String;" (.ref y0)) (G0 : Exa Z h0 y0 "java/lang/String") (C0 : Fld Z h0 y0 "java/lang/String" "coder" "B" (.int (0 : Int32))) (V0 : Fld Z h0 y0 "java/lang/String" "value" "[B" (.ref z0)) (A0 : own_A Z h0 z0 .byte 1 (fun j => ([114] : List Int32).getD j 0)) (S1 : Sta Z h0 "com/example/histrix/histrix/Action" "WRITE" "Lcom/example/histrix/histrix/Action;" (.ref x1)) (E1 : Exa Z h0 x1 "com/example/histrix/histrix/Action") (F1 : Fld Z h0 x1 "com/example/histrix/histrix/Action" "symbol" "Ljava/lang/String;" (.ref y1)) (G1 : Exa Z h0 y1 "java/lang/String") (C1 : Fld Z h0 y1 "java/lang/String" "coder" "B" (.int (0 : Int32))) (V1 : Fld Z h0 y1 "java/lang/String" "value" "[B" (.ref z1)) (A1 : own_A Z h0 z1 .byte 1 (fun j => ([119] : List Int32).getD j 0)) (S2 : Sta Z h0 "com/example/histrix/histrix/Action" "INCREMENT" "Lcom/example/histrix/histrix/Action;" (.ref x2)) (E2 : Exa Z h0 x2 "com/example/histrix/histrix/Action") (F2 : Fld Z h0 x2 "com/example/histrix/histrix/Action" "symbol" "Ljava/lang/String;" (.ref y2)) (G2 : Exa Z h0 y2 "java/lang/String") (C2 : Fld Z h0 y2 "java/lang/String" "coder" "B" (.int (0 : Int32))) (V2 : Fld Z h0 y2 "java/lang/String" "value" "[B" (.ref z2)) (A2 : own_A Z h0 z2 .byte 3 (fun j => ([105, 110, 99] : List Int32).getD j 0)) (S3 : Sta Z h0 "com/example/histrix/histrix/Action" "DECREMENT" "Lcom/example/histrix/histrix/Action;" (.ref x3)) (E3 : Exa Z h0 x3 "com/example/histrix/histrix/Action") (F3 : Fld Z h0 x3 "com/example/histrix/histrix/Action" "symbol" "Ljava/lang/String;" (.ref y3)) (G3 : Exa Z h0 y3 "java/lang/String") (C3 : Fld Z h0 y3 "java/lang/String" "coder" "B" (.int (0 : Int32))) (V3 : Fld Z h0 y3 "java/lang/String" "value" "[B" (.ref z3)) (A3 : own_A Z h0 z3 .byte 3 (fun j => ([100, 101, 99] : List Int32).getD j 0)) (S4 : Sta Z h0 "com/example/histrix/histrix/Action" "COMMIT" "Lcom/example/histrix/histrix/Action;" (.ref x4)) (E4 : Exa Z h0 x4 "com/example/histrix/histrix/Action") (F4 : Fld Z h0 x4 "com/example/histrix/histrix/Action" "symbol" "Ljava/lang/String;" (.ref y4)) (G4 : Exa Z h0 y4 "java/lang/String") (C4 : Fld Z h0 y4 "java/lang/String" "coder" "B" (.int (0 : Int32))) (V4 : Fld Z h0 y4 "java/lang/String" "value" "[B" (.ref z4)) (A4 : own_A Z h0 z4 .byte 1 (fun j => ([99] : List Int32).getD j 0)) (S5 : Sta Z h0 "com/example/histrix/histrix/Action" "ABORT" "Lcom/example/histrix/histrix/Action;" (.ref x5)) (E5 : Exa Z h0 x5 "com/example/histrix/histrix/Action") (F5 : Fld Z h0 x5 "com/example/histrix/histrix/Action" "symbol" "Ljava/lang/String;" (.ref y5)) (G5 : Exa Z h0 y5 "java/lang/String") (C5 : Fld Z h0 y5 "java/lang/String" "coder" "B" (.int (0 : Int32))) (V5 : Fld Z h0 y5 "java/lang/String" "value" "[B" (.ref z5)) (A5 : own_A Z h0 z5 .byte 1 (fun j => ([97] : List Int32).getD j 0)) (ne3_2 : x3 ≠ x2) (ne0_2 : x0 ≠ x2) (ne0_3 : x0 ≠ x3) (ne1_2 : x1 ≠ x2) (ne1_3 : x1 ≠ x3) (ne4_2 : x4 ≠ x2) (ne4_3 : x4 ≠ x3) (ne5_2 : x5 ≠ x2) (ne5_3 : x5 ≠ x3) :
    MetFree l x (head1 (Jvm.Cond.code x code maxLocals ret :: ws) room_1) (fun aa_ U_ => aa_ = #[(.int u0)] ∧ Z.Warmed39 U_.vm ∧ U_.heap = h0 ∧ U_ = Z) (fun _ _ _ _ _ => True) (fun _ U_ o_ U1_ => ∃ v_ L_, o_ = .returned v_ ∧ Q0 Z u0 cs x0 y0 z0 x1 y1 z1 x2 y2 z2 x3 y3 z3 x4 y4 z4 x5 y5 z5 h0 n0 v_ U1_.heap L_ ∧ ReturnedEndW U_ o_ U1_ L_ 4 32) := by
  refine MetFree.of_bodySF (plainFor_of_name own_pn2) hisR ?_
  intro p e s m args below meth c s₁ Bd hml0 hP hK
  obtain ⟨rfl, hZ, hh, hUZ⟩ := hP
  have hx := Bd.exec
  have hby := Bd.bytes
  have hlk := Bd.notSynchronized
  have hml : c.maxLocals = 7 := hml0
  have hown : s.vm.findClass "com/example/histrix/histrix/ActionAdditivePinLaw" = some m.cls := findClass_of_methodNamed Bd.named
  have hnm := (name_of_methodNamed Bd.named Bd.method).1
  have X0 : Stand p l e room_1 s m #[(.int u0)] below meth c s₁ [] 0 0 := Stand.of_body Bd
  have e0 : s₁.heap = h0 := by rw [← hh, Bd.state]; rfl
  have N0 := Fr.nil n0
  show own_EW p e below s (Q0 Z u0 cs x0 y0 z0 x1 y1 z1 x2 y2 z2 x3 y3 z3 x4 y4 z4 x5 y5 z5 h0 n0) 4 32 (s₁.setTop (entryFrame m #[(.int u0)] maxLocals))
  refine own_stW (B := s₁.setTop (mkF m 0 #[.val (.int u0), .unset, .unset, .unset, .unset, .unset, .unset] [])) (fun t_ k_ => castTop (own_ef_rm0 m u0) k_) ?_
  have wS : ∀ d ∈ Bundle.stringAtoms, d.before a0 Z = true := fun d hd => by
    simp only [Bundle.stringAtoms, Bundle.sN, List.mem_cons, List.not_mem_nil, or_false] at hd
    rcases hd with rfl | rfl | rfl | rfl | rfl | rfl | rfl
    · exact (hw _ (List.mem_of_getElem? (i := 25) rfl))
    · exact (hw _ (List.mem_of_getElem? (i := 26) rfl))
    · exact (hw _ (List.mem_of_getElem? (i := 27) rfl))
    · exact (hw _ (List.mem_of_getElem? (i := 28) rfl))
    · exact (hw _ (List.mem_of_getElem? (i := 29) rfl))
    · exact (hw _ (List.mem_of_getElem? (i := 30) rfl))
    · exact (hw _ (List.mem_of_getElem? (i := 31) rfl))
  have hkeep : ∀ (b : Addr) (cl : Cell), Z.heap[b]? = some cl → s.heap[b]? = some cl := fun b cl q => by rw [hUZ]; exact q
  have hSi : s.Since s.vm 0 := State.WarmedH.since (State.WarmedH.refl s) 0
  have Ii : IB Z s.vm [] := by rw [hUZ]; exact IB.start
  refine own_stW (B := s₁.setTop (mkF m 1 #[.val (.int u0), .unset, .unset, .unset, .unset, .unset, .unset] [(.int u0)])) (fun t_ k_ => XS.iloadN X0.here hx rfl (hb hby at_0) rfl k_) ?_
  refine own_stW (B := s₁.setTop (mkF m 3 #[.val (.int u0), .unset, .unset, .unset, .unset, .unset, .unset] [(.int (2147483647 : Int32)), (.int u0)])) (fun t_ k_ => X0.ldcInt hx hown (mvT hZ (hw _ (List.mem_of_getElem? (i := 0) rfl))) (g := (mkF m 1 #[.val (.int u0), .unset, .unset, .unset, .unset, .unset, .unset] [(.int u0)])) rfl (hb hby at_1) t_ k_) ?_
  refine own_stW (B := s₁.setTop (mkF m 4 #[.val (.int u0), .unset, .unset, .unset, .unset, .unset, .unset] [(.int (u0 &&& (2147483647 : Int32)))])) (fun t_ k_ => XS.iand X0.here hx rfl (hb hby at_3) rfl k_) ?_
  refine own_stW (B := s₁.setTop (mkF m 6 #[.val (.int u0), .unset, .unset, .unset, .unset, .unset, .unset] [(.int (6 : Int32)), (.int (u0 &&& (2147483647 : Int32)))])) (fun t_ k_ => XS.bipush X0.here hx rfl (hb hby at_4) k_) ?_
  refine own_stW (B := s₁.setTop (mkF m 7 #[.val (.int u0), .unset, .unset, .unset, .unset, .unset, .unset] [(.int ((u0 &&& (2147483647 : Int32)) % (6 : Int32)))])) (fun t_ k_ => iremM X0 hx rfl (hb hby at_6) rfl (by decide) k_) ?_
  refine own_stW (B := s₁.setTop (mkF m 8 #[.val (.int u0), .val (.int ((u0 &&& (2147483647 : Int32)) % (6 : Int32))), .unset, .unset, .unset, .unset, .unset] [])) (fun t_ k_ => XS.istoreN X0.here hx rfl (hb hby at_7) rfl (l' := #[.val (.int u0), .val (.int ((u0 &&& (2147483647 : Int32)) % (6 : Int32))), .unset, .unset, .unset, .unset, .unset]) rfl k_) ?_
  have hk6 := own_r6 u0
  obtain ⟨y1_, h_y1_⟩ : ∃ z_, z_ = ((u0 &&& (2147483647 : Int32)) % (6 : Int32)) := ⟨_, rfl⟩
  rw [← h_y1_] at hk6 ⊢
  clear h_y1_
  rcases hk6 with hk6 | hk6 | hk6 | hk6 | hk6 | hk6
  · rw [hk6]
    refine own_stW (B := s₁.setTop (mkF m 9 #[.val (.int u0), .val (.int (0 : Int32)), .unset, .unset, .unset, .unset, .unset] [(.int (0 : Int32))])) (fun t_ k_ => XS.iloadN X0.here hx rfl (hb hby at_8) rfl k_) ?_
    obtain ⟨_, _, ⟨T1, Lq1, kq1, nq1⟩, -, X1, ⟨Lc1, hQ1, lq1, yq1, zq1⟩, st1⟩ := Jvm.LawKit.callS X0 hx (y := (⟨"com/example/histrix/histrix/ActionAdditivePinLaw", "pick", "(I)Lcom/example/histrix/histrix/Action;"⟩ : MethodName)) hown (mvT hZ (hw _ (List.mem_of_getElem? (i := 1) rfl))) (mvT hZ (hw _ (List.mem_of_getElem? (i := 2) rfl))) (mvT hZ (hw _ (List.mem_of_getElem? (i := 3) rfl))) (mvT hZ (hw _ (List.mem_of_getElem? (i := 4) rfl))) (by decide) (backOf (W := 0) (rm1_0 l Z a0 hw [] x0 h0 n0 Z0 S0) hZ (hw _ (List.mem_of_getElem? (i := 4) rfl)) (hw _ (List.mem_of_getElem? (i := 3) rfl)) (by decide) (by decide)) (g := (mkF m 9 #[.val (.int u0), .val (.int (0 : Int32)), .unset, .unset, .unset, .unset, .unset] [(.int (0 : Int32))])) rfl (by rw [hml]; rfl) (argsL := [(.int (0 : Int32))]) (rest := []) (lenOf own_pd1 rfl) rfl (by show 2 * 0 + _ ≤ _; exact Nat.le_of_eq rfl) (hb hby at_9) (fun _ _ => ⟨rfl, e0, (by decide : 0 + 0 ≤ _), (by decide : 0 + 0 ≤ _)⟩)
    dsimp only [Pt.U, Pt.locs, Pt.cells, Pt.slots] at X1 lq1 yq1 zq1 st1 hQ1
    rw [lq1, yq1, zq1] at X1
    have X1 : Stand p l e _ _ m _ below meth c T1 _ 0 0 := X1
    obtain ⟨rfl, N1q, eh1⟩ := hQ1
    have N1 := Fr.app N0 N1q
    refine own_stW (B := T1.setTop (mkF m 12 #[.val (.int u0), .val (.int (0 : Int32)), .unset, .unset, .unset, .unset, .unset] [(.ref x0)])) st1 ?_
    refine own_stW (B := T1.setTop (mkF m 13 #[.val (.int u0), .val (.int (0 : Int32)), .val (.ref x0), .unset, .unset, .unset, .unset] [])) (fun t_ k_ => XS.astoreN X1.here hx rfl (hb hby at_12) rfl rfl (l' := #[.val (.int u0), .val (.int (0 : Int32)), .val (.ref x0), .unset, .unset, .unset, .unset]) rfl k_) ?_
    refine own_stW (B := T1.setTop (mkF m 14 #[.val (.int u0), .val (.int (0 : Int32)), .val (.ref x0), .unset, .unset, .unset, .unset] [(.ref x0)])) (fun t_ k_ => XS.aloadN X1.here hx rfl (hb hby at_13) rfl rfl k_) ?_
    obtain ⟨cq2, kr2, q2a, q2b, q2c⟩ := isOf hZ eh1 E0
    obtain ⟨_, _, ⟨T2, Lq2, kq2, nq2⟩, -, X2, ⟨Lc2, hQ2, lq2, yq2, zq2⟩, st2⟩ := X1.virtualBack hx (y := (⟨"com/example/histrix/histrix/Action", "additive", "()Z"⟩ : MethodName)) (z := (⟨"com/example/histrix/histrix/Action", "additive", "()Z"⟩ : MethodName)) hown (mvT hZ (hw _ (List.mem_of_getElem? (i := 8) rfl))) (mvT hZ (hw _ (List.mem_of_getElem? (i := 9) rfl))) (notFace_of_selects (args := #[]) (mvT hZ (hw _ (List.mem_of_getElem? (i := 11) rfl)))) (mvT hZ (hw _ (List.mem_of_getElem? (i := 11) rfl))) (mvT hZ (hw _ (List.mem_of_getElem? (i := 10) rfl))) (by decide) (backOf (W := 0) (rm2_N l Z a0 hw [] x0 x2 x3 h0 n0 Z0 S2 S3 ne0_2 ne0_3) hZ (hw _ (List.mem_of_getElem? (i := 12) rfl)) (hw _ (List.mem_of_getElem? (i := 6) rfl)) (by decide) (by decide)) q2a q2c (g := (mkF m 14 #[.val (.int u0), .val (.int (0 : Int32)), .val (.ref x0), .unset, .unset, .unset, .unset] [(.ref x0)])) rfl (by rw [hml]; rfl) (Steps.refl _) (argsL := []) (rest := []) (lenOf own_pd2 rfl) rfl (by show 2 * 0 + _ ≤ _; exact Nat.le_of_eq rfl) (hb hby at_14) (fun _ _ => ⟨rfl, eh1, (by decide : 0 + 0 ≤ _), (by decide : 0 + 0 ≤ _)⟩)
    dsimp only [Pt.U, Pt.locs, Pt.cells, Pt.slots] at X2 lq2 yq2 zq2 st2 hQ2
    rw [lq2, yq2, zq2] at X2
    have X2 : Stand p l e _ _ m _ below meth c T2 _ 0 0 := X2
    obtain ⟨rfl, N2q, eh2⟩ := hQ2
    have N2 := Fr.app N1 N2q
    refine own_stW (B := T2.setTop (mkF m 17 #[.val (.int u0), .val (.int (0 : Int32)), .val (.ref x0), .unset, .unset, .unset, .unset] [(.int (0 : Int32))])) (fun t_ k_ => st2.trans k_) ?_
    refine own_stW (B := T2.setTop (mkF m 18 #[.val (.int u0), .val (.int (0 : Int32)), .val (.ref x0), .val (.int (0 : Int32)), .unset, .unset, .unset] [])) (fun t_ k_ => XS.istoreN X2.here hx rfl (hb hby at_17) rfl (l' := #[.val (.int u0), .val (.int (0 : Int32)), .val (.ref x0), .val (.int (0 : Int32)), .unset, .unset, .unset]) rfl k_) ?_
    refine own_stW (B := T2.setTop (mkF m 19 #[.val (.int u0), .val (.int (0 : Int32)), .val (.ref x0), .val (.int (0 : Int32)), .unset, .unset, .unset] [(.int (0 : Int32))])) (fun t_ k_ => XS.iloadN X2.here hx rfl (hb hby at_18) rfl k_) ?_
    refine own_stW (B := T2.setTop (mkF m 20 #[.val (.int u0), .val (.int (0 : Int32)), .val (.ref x0), .val (.int (0 : Int32)), .unset, .unset, .unset] [(.int (2 : Int32)), (.int (0 : Int32))])) (fun t_ k_ => XS.iconst X2.here hx rfl (hb hby at_19) k_) ?_
    refine own_stW (B := T2.setTop (mkF m 23 #[.val (.int u0), .val (.int (0 : Int32)), .val (.ref x0), .val (.int (0 : Int32)), .unset, .unset, .unset] [])) (fun t_ k_ => XS.icmpNo X2.here hx rfl (hb hby at_20) rfl (feq (by decide : ¬ ((0 : Int32) = (2 : Int32)))).1 k_) ?_
    refine own_stW (B := T2.setTop (mkF m 24 #[.val (.int u0), .val (.int (0 : Int32)), .val (.ref x0), .val (.int (0 : Int32)), .unset, .unset, .unset] [(.int (0 : Int32))])) (fun t_ k_ => XS.iloadN X2.here hx rfl (hb hby at_23) rfl k_) ?_
    refine own_stW (B := T2.setTop (mkF m 25 #[.val (.int u0), .val (.int (0 : Int32)), .val (.ref x0), .val (.int (0 : Int32)), .unset, .unset, .unset] [(.int (3 : Int32)), (.int (0 : Int32))])) (fun t_ k_ => XS.iconst X2.here hx rfl (hb hby at_24) k_) ?_
    refine own_stW (B := T2.setTop (mkF m 32 #[.val (.int u0), .val (.int (0 : Int32)), .val (.ref x0), .val (.int (0 : Int32)), .unset, .unset, .unset] [])) (fun t_ k_ => XS.icmpYes X2.here hx rfl (pc0 := 25) (pc' := 32) rfl (hb hby at_25) rfl (feq (by decide : ¬ ((0 : Int32) = (3 : Int32)))).2 (by decide) (by decide) k_) ?_
    refine own_stW (B := T2.setTop (mkF m 33 #[.val (.int u0), .val (.int (0 : Int32)), .val (.ref x0), .val (.int (0 : Int32)), .unset, .unset, .unset] [(.int (0 : Int32))])) (fun t_ k_ => XS.iconst X2.here hx rfl (hb hby at_32) k_) ?_
    refine own_stW (B := T2.setTop (mkF m 35 #[.val (.int u0), .val (.int (0 : Int32)), .val (.ref x0), .val (.int (0 : Int32)), .val (.int (0 : Int32)), .unset, .unset] [])) (fun t_ k_ => XS.istore X2.here hx rfl (hb hby at_33) rfl (l' := #[.val (.int u0), .val (.int (0 : Int32)), .val (.ref x0), .val (.int (0 : Int32)), .val (.int (0 : Int32)), .unset, .unset]) rfl k_) ?_
    refine own_stW (B := T2.setTop (mkF m 36 #[.val (.int u0), .val (.int (0 : Int32)), .val (.ref x0), .val (.int (0 : Int32)), .val (.int (0 : Int32)), .unset, .unset] [(.ref x0)])) (fun t_ k_ => XS.aloadN X2.here hx rfl (hb hby at_35) rfl rfl k_) ?_
    obtain ⟨cq3, kr3, q3a, q3b, q3c⟩ := isOf hZ eh2 E0
    obtain ⟨_, _, ⟨T3, Lq3, kq3, nq3⟩, -, X3, ⟨Lc3, hQ3, lq3, yq3, zq3⟩, st3⟩ := X2.virtualBack hx (y := (⟨"com/example/histrix/histrix/Action", "symbol", "()Ljava/lang/String;"⟩ : MethodName)) (z := (⟨"com/example/histrix/histrix/Action", "symbol", "()Ljava/lang/String;"⟩ : MethodName)) hown (mvT hZ (hw _ (List.mem_of_getElem? (i := 17) rfl))) (mvT hZ (hw _ (List.mem_of_getElem? (i := 18) rfl))) (notFace_of_selects (args := #[]) (mvT hZ (hw _ (List.mem_of_getElem? (i := 20) rfl)))) (mvT hZ (hw _ (List.mem_of_getElem? (i := 20) rfl))) (mvT hZ (hw _ (List.mem_of_getElem? (i := 19) rfl))) (by decide) (backOf (W := 0) (rm3 l Z a0 hw [] x0 (.ref y0) h0 n0 Z0 rfl F0) hZ (hw _ (List.mem_of_getElem? (i := 21) rfl)) (hw _ (List.mem_of_getElem? (i := 6) rfl)) (by decide) (by decide)) q3a q3c (g := (mkF m 36 #[.val (.int u0), .val (.int (0 : Int32)), .val (.ref x0), .val (.int (0 : Int32)), .val (.int (0 : Int32)), .unset, .unset] [(.ref x0)])) rfl (by rw [hml]; rfl) (Steps.refl _) (argsL := []) (rest := []) (lenOf own_pd3 rfl) rfl (by show 2 * 0 + _ ≤ _; exact Nat.le_of_eq rfl) (hb hby at_36) (fun _ _ => ⟨rfl, eh2, (by decide : 0 + 0 ≤ _), (by decide : 0 + 0 ≤ _)⟩)
    dsimp only [Pt.U, Pt.locs, Pt.cells, Pt.slots] at X3 lq3 yq3 zq3 st3 hQ3
    rw [lq3, yq3, zq3] at X3
    have X3 : Stand p l e _ _ m _ below meth c T3 _ 0 0 := X3
    obtain ⟨rfl, N3q, eh3⟩ := hQ3
    have N3 := Fr.app N2 N3q
    refine own_stW (B := T3.setTop (mkF m 39 #[.val (.int u0), .val (.int (0 : Int32)), .val (.ref x0), .val (.int (0 : Int32)), .val (.int (0 : Int32)), .unset, .unset] [(.ref y0)])) (fun t_ k_ => st3.trans k_) ?_
    refine own_stW (B := T3.setTop (mkF m 41 #[.val (.int u0), .val (.int (0 : Int32)), .val (.ref x0), .val (.int (0 : Int32)), .val (.int (0 : Int32)), .val (.ref y0), .unset] [])) (fun t_ k_ => XS.astore X3.here hx rfl (hb hby at_39) rfl rfl (l' := #[.val (.int u0), .val (.int (0 : Int32)), .val (.ref x0), .val (.int (0 : Int32)), .val (.int (0 : Int32)), .val (.ref y0), .unset]) rfl k_) ?_
    refine own_stW (B := T3.setTop (mkF m 43 #[.val (.int u0), .val (.int (0 : Int32)), .val (.ref x0), .val (.int (0 : Int32)), .val (.int (0 : Int32)), .val (.ref y0), .unset] [(.ref y0)])) (fun t_ k_ => XS.aload X3.here hx rfl (hb hby at_41) rfl rfl k_) ?_
    have Xw4 : Stand p l e _ (s.setVm s.vm) m _ below meth c T3 _ 0 0 := X3
    obtain ⟨al4, T4, h4, k1_4, bl4, kl4, X4, e4, E4, hS4, hk4, hZ, hown, Es4, Fc4, Fv4, Av4, la4, lb4, I4, st4⟩ := ldcSV Xw4 hx hZ hown (hw _ (List.mem_of_getElem? (i := 24) rfl)) wS eh3 hSi (Nat.zero_le _) (fun y hy => Nat.le_trans (by rw [hh]; exact hn0) (N3 y hy)) hkeep Ii (by decide) hh43 hcw (vs := ([105, 110, 99] : List Int32).map Value.int) (z := 3) ⟨by decide, by decide⟩ (by decide) (by decide) (g := (mkF m 43 #[.val (.int u0), .val (.int (0 : Int32)), .val (.ref x0), .val (.int (0 : Int32)), .val (.int (0 : Int32)), .val (.ref y0), .unset] [(.ref y0)])) rfl (hb hby at_43) (n := 12) (by decide) (by decide) (by decide) (by decide)
    have Z5 := Nat.le_trans Z0 E4.1
    have X4 : Stand p l e _ _ m _ below meth c T4 _ 2 16 := X4
    have Aa4 := own_ofArv (l := [105, 110, 99]) Av4 rfl (by decide)
    refine own_stW (B := T4.setTop (mkF m 45 #[.val (.int u0), .val (.int (0 : Int32)), .val (.ref x0), .val (.int (0 : Int32)), .val (.int (0 : Int32)), .val (.ref y0), .unset] [(.ref al4), (.ref y0)])) st4 ?_
    have u7 := C0.ext E4
    have u8 := V0.ext E4
    have u9 := A0.ext E4
    have u10 := Sc.ext E4
    have u11 := G0.ext E4
    obtain ⟨cq6, kr6, q6a, q6b, q6c⟩ := isOf hZ e4 u11
    obtain ⟨_, _, ⟨T6, Lq6, kq6, nq6⟩, -, X6, ⟨Lc6, hQ6, lq6, yq6, zq6⟩, st6⟩ := X4.virtualBack hx (y := (⟨"java/lang/String", "equals", "(Ljava/lang/Object;)Z"⟩ : MethodName)) (z := (⟨"java/lang/String", "equals", "(Ljava/lang/Object;)Z"⟩ : MethodName)) hown (mvT hZ (hw _ (List.mem_of_getElem? (i := 32) rfl))) (mvT hZ (hw _ (List.mem_of_getElem? (i := 33) rfl))) (notFace_of_selects (args := #[]) (mvT hZ (hw _ (List.mem_of_getElem? (i := 35) rfl)))) (mvT hZ (hw _ (List.mem_of_getElem? (i := 35) rfl))) (mvT hZ (hw _ (List.mem_of_getElem? (i := 34) rfl))) (by decide) (backOf (W := 0) (rm4 l Z a0 hw [] y0 al4 z0 bl4 1 3 (fun j => ([114] : List Int32).getD j 0) (fun j => ([105, 110, 99] : List Int32).getD j 0) cs h4 n0 Z5 Es4 u7 Fc4 u8 Fv4 u9 Aa4 (by decide) (by decide) u10 hcs) hZ (hw _ (List.mem_of_getElem? (i := 36) rfl)) (hw _ (List.mem_of_getElem? (i := 25) rfl)) (by decide) (by decide)) q6a q6c (g := (mkF m 45 #[.val (.int u0), .val (.int (0 : Int32)), .val (.ref x0), .val (.int (0 : Int32)), .val (.int (0 : Int32)), .val (.ref y0), .unset] [(.ref al4), (.ref y0)])) rfl (by rw [hml]; rfl) (Steps.refl _) (argsL := [(.ref al4)]) (rest := []) (lenOf own_pd4 rfl) rfl (by show 2 * 0 + _ ≤ _; exact Nat.le_of_eq rfl) (hb hby at_45) (fun _ _ => ⟨rfl, e4, (by decide : 2 + 0 ≤ _), (by decide : 16 + 0 ≤ _)⟩)
    dsimp only [Pt.U, Pt.locs, Pt.cells, Pt.slots] at X6 lq6 yq6 zq6 st6 hQ6
    rw [lq6, yq6, zq6] at X6
    have X6 : Stand p l e _ _ m _ below meth c T6 _ 2 16 := X6
    obtain ⟨rfl, N6q, eh6⟩ := hQ6
    have N6 := Fr.app N3 N6q
    refine own_stW (B := T6.setTop (mkF m 48 #[.val (.int u0), .val (.int (0 : Int32)), .val (.ref x0), .val (.int (0 : Int32)), .val (.int (0 : Int32)), .val (.ref y0), .unset] [(.int (own_b (own_eqs 1 3 (fun j => ([114] : List Int32).getD j 0) (fun j => ([105, 110, 99] : List Int32).getD j 0))))])) (fun t_ k_ => st6.trans k_) ?_
    have hc12 : (own_eqs 1 3 (fun j => ([114] : List Int32).getD j 0) (fun j => ([105, 110, 99] : List Int32).getD j 0)) = false := by decide
    refine own_stW (B := T6.setTop (mkF m 51 #[.val (.int u0), .val (.int (0 : Int32)), .val (.ref x0), .val (.int (0 : Int32)), .val (.int (0 : Int32)), .val (.ref y0), .unset] [])) (fun t_ k_ => XS.ifNo X6.here hx rfl (hb hby at_48) rfl ((if0 _ _).trans (teq (own_b0.mpr hc12)).2) k_) ?_
    refine own_stW (B := T6.setTop (mkF m 53 #[.val (.int u0), .val (.int (0 : Int32)), .val (.ref x0), .val (.int (0 : Int32)), .val (.int (0 : Int32)), .val (.ref y0), .unset] [(.ref y0)])) (fun t_ k_ => XS.aload X6.here hx rfl (hb hby at_51) rfl rfl k_) ?_
    have Xw13 : Stand p l e _ (s.setVm T4.vm) m _ below meth c T6 _ 2 16 := X6
    obtain ⟨al13, T13, h13, k1_13, bl13, kl13, X13, e13, E13, hS13, hk13, hZ, hown, Es13, Fc13, Fv13, Av13, la13, lb13, I13, st13⟩ := ldcSV Xw13 hx hZ hown (hw _ (List.mem_of_getElem? (i := 46) rfl)) wS eh6 hS4 hk4 (fun y hy => Nat.le_trans (by rw [hh]; exact hn0) (N6 y hy)) hkeep I4 (by decide) hh51 hcw (vs := ([100, 101, 99] : List Int32).map Value.int) (z := 3) ⟨by decide, by decide⟩ (by decide) (by decide) (g := (mkF m 53 #[.val (.int u0), .val (.int (0 : Int32)), .val (.ref x0), .val (.int (0 : Int32)), .val (.int (0 : Int32)), .val (.ref y0), .unset] [(.ref y0)])) rfl (hb hby at_53) (n := 12) (by decide) (by decide) (by decide) (by decide)
    have Z14 := Nat.le_trans Z5 E13.1
    have X13 : Stand p l e _ _ m _ below meth c T13 _ 4 32 := X13
    have Aa13 := own_ofArv (l := [100, 101, 99]) Av13 rfl (by decide)
    refine own_stW (B := T13.setTop (mkF m 55 #[.val (.int u0), .val (.int (0 : Int32)), .val (.ref x0), .val (.int (0 : Int32)), .val (.int (0 : Int32)), .val (.ref y0), .unset] [(.ref al13), (.ref y0)])) st13 ?_
    have u16 := u7.ext E13
    have u17 := u8.ext E13
    have u18 := u9.ext E13
    have u19 := u10.ext E13
    have u20 := u11.ext E13
    obtain ⟨cq15, kr15, q15a, q15b, q15c⟩ := isOf hZ e13 u20
    obtain ⟨_, _, ⟨T15, Lq15, kq15, nq15⟩, -, X15, ⟨Lc15, hQ15, lq15, yq15, zq15⟩, st15⟩ := X13.virtualBack hx (y := (⟨"java/lang/String", "equals", "(Ljava/lang/Object;)Z"⟩ : MethodName)) (z := (⟨"java/lang/String", "equals", "(Ljava/lang/Object;)Z"⟩ : MethodName)) hown (mvT hZ (hw _ (List.mem_of_getElem? (i := 32) rfl))) (mvT hZ (hw _ (List.mem_of_getElem? (i := 33) rfl))) (notFace_of_selects (args := #[]) (mvT hZ (hw _ (List.mem_of_getElem? (i := 35) rfl)))) (mvT hZ (hw _ (List.mem_of_getElem? (i := 35) rfl))) (mvT hZ (hw _ (List.mem_of_getElem? (i := 34) rfl))) (by decide) (backOf (W := 0) (rm4 l Z a0 hw [] y0 al13 z0 bl13 1 3 (fun j => ([114] : List Int32).getD j 0) (fun j => ([100, 101, 99] : List Int32).getD j 0) cs h13 n0 Z14 Es13 u16 Fc13 u17 Fv13 u18 Aa13 (by decide) (by decide) u19 hcs) hZ (hw _ (List.mem_of_getElem? (i := 36) rfl)) (hw _ (List.mem_of_getElem? (i := 25) rfl)) (by decide) (by decide)) q15a q15c (g := (mkF m 55 #[.val (.int u0), .val (.int (0 : Int32)), .val (.ref x0), .val (.int (0 : Int32)), .val (.int (0 : Int32)), .val (.ref y0), .unset] [(.ref al13), (.ref y0)])) rfl (by rw [hml]; rfl) (Steps.refl _) (argsL := [(.ref al13)]) (rest := []) (lenOf own_pd4 rfl) rfl (by show 2 * 0 + _ ≤ _; exact Nat.le_of_eq rfl) (hb hby at_55) (fun _ _ => ⟨rfl, e13, (by decide : 4 + 0 ≤ _), (by decide : 32 + 0 ≤ _)⟩)
    dsimp only [Pt.U, Pt.locs, Pt.cells, Pt.slots] at X15 lq15 yq15 zq15 st15 hQ15
    rw [lq15, yq15, zq15] at X15
    have X15 : Stand p l e _ _ m _ below meth c T15 _ 4 32 := X15
    obtain ⟨rfl, N15q, eh15⟩ := hQ15
    have N15 := Fr.app N6 N15q
    refine own_stW (B := T15.setTop (mkF m 58 #[.val (.int u0), .val (.int (0 : Int32)), .val (.ref x0), .val (.int (0 : Int32)), .val (.int (0 : Int32)), .val (.ref y0), .unset] [(.int (own_b (own_eqs 1 3 (fun j => ([114] : List Int32).getD j 0) (fun j => ([100, 101, 99] : List Int32).getD j 0))))])) (fun t_ k_ => st15.trans k_) ?_
    have hc21 : (own_eqs 1 3 (fun j => ([114] : List Int32).getD j 0) (fun j => ([100, 101, 99] : List Int32).getD j 0)) = false := by decide
    refine own_stW (B := T15.setTop (mkF m 65 #[.val (.int u0), .val (.int (0 : Int32)), .val (.ref x0), .val (.int (0 : Int32)), .val (.int (0 : Int32)), .val (.ref y0), .unset] [])) (fun t_ k_ => XS.ifYes X15.here hx rfl (pc0 := 58) (pc' := 65) rfl (hb hby at_58) rfl ((if0 _ _).trans (teq (own_b0.mpr hc21)).1) (by decide) (by decide) k_) ?_
    refine own_stW (B := T15.setTop (mkF m 66 #[.val (.int u0), .val (.int (0 : Int32)), .val (.ref x0), .val (.int (0 : Int32)), .val (.int (0 : Int32)), .val (.ref y0), .unset] [(.int (0 : Int32))])) (fun t_ k_ => XS.iconst X15.here hx rfl (hb hby at_65) k_) ?_
    refine own_stW (B := T15.setTop (mkF m 68 #[.val (.int u0), .val (.int (0 : Int32)), .val (.ref x0), .val (.int (0 : Int32)), .val (.int (0 : Int32)), .val (.ref y0), .val (.int (0 : Int32))] [])) (fun t_ k_ => XS.istore X15.here hx rfl (hb hby at_66) rfl (l' := #[.val (.int u0), .val (.int (0 : Int32)), .val (.ref x0), .val (.int (0 : Int32)), .val (.int (0 : Int32)), .val (.ref y0), .val (.int (0 : Int32))]) rfl k_) ?_
    refine own_stW (B := T15.setTop (mkF m 69 #[.val (.int u0), .val (.int (0 : Int32)), .val (.ref x0), .val (.int (0 : Int32)), .val (.int (0 : Int32)), .val (.ref y0), .val (.int (0 : Int32))] [(.int (0 : Int32))])) (fun t_ k_ => XS.iloadN X15.here hx rfl (hb hby at_68) rfl k_) ?_
    refine own_stW (B := T15.setTop (mkF m 71 #[.val (.int u0), .val (.int (0 : Int32)), .val (.ref x0), .val (.int (0 : Int32)), .val (.int (0 : Int32)), .val (.ref y0), .val (.int (0 : Int32))] [(.int (0 : Int32)), (.int (0 : Int32))])) (fun t_ k_ => XS.iload X15.here hx rfl (hb hby at_69) rfl k_) ?_
    refine own_stW (B := T15.setTop (mkF m 74 #[.val (.int u0), .val (.int (0 : Int32)), .val (.ref x0), .val (.int (0 : Int32)), .val (.int (0 : Int32)), .val (.ref y0), .val (.int (0 : Int32))] [])) (fun t_ k_ => XS.icmpNo X15.here hx rfl (hb hby at_71) rfl (teq (by decide : (0 : Int32) = (0 : Int32))).2 k_) ?_
    refine own_stW (B := T15.setTop (mkF m 75 #[.val (.int u0), .val (.int (0 : Int32)), .val (.ref x0), .val (.int (0 : Int32)), .val (.int (0 : Int32)), .val (.ref y0), .val (.int (0 : Int32))] [(.int (0 : Int32))])) (fun t_ k_ => XS.iloadN X15.here hx rfl (hb hby at_74) rfl k_) ?_
    refine own_stW (B := T15.setTop (mkF m 77 #[.val (.int u0), .val (.int (0 : Int32)), .val (.ref x0), .val (.int (0 : Int32)), .val (.int (0 : Int32)), .val (.ref y0), .val (.int (0 : Int32))] [(.int (0 : Int32)), (.int (0 : Int32))])) (fun t_ k_ => XS.iload X15.here hx rfl (hb hby at_75) rfl k_) ?_
    refine own_stW (B := T15.setTop (mkF m 80 #[.val (.int u0), .val (.int (0 : Int32)), .val (.ref x0), .val (.int (0 : Int32)), .val (.int (0 : Int32)), .val (.ref y0), .val (.int (0 : Int32))] [])) (fun t_ k_ => XS.icmpNo X15.here hx rfl (hb hby at_77) rfl (teq (by decide : (0 : Int32) = (0 : Int32))).2 k_) ?_
    refine own_stW (B := T15.setTop (mkF m 81 #[.val (.int u0), .val (.int (0 : Int32)), .val (.ref x0), .val (.int (0 : Int32)), .val (.int (0 : Int32)), .val (.ref y0), .val (.int (0 : Int32))] [(.int (1 : Int32))])) (fun t_ k_ => XS.iconst X15.here hx rfl (hb hby at_80) k_) ?_
    refine own_stW (B := T15.setTop (mkF m 85 #[.val (.int u0), .val (.int (0 : Int32)), .val (.ref x0), .val (.int (0 : Int32)), .val (.int (0 : Int32)), .val (.ref y0), .val (.int (0 : Int32))] [(.int (1 : Int32))])) (fun t_ k_ => XS.goto X15.here hx rfl (pc0 := 81) (pc' := 85) rfl (hb hby at_81) (by decide) (by decide) k_) ?_
    have Xr : Stand p l e _ (s.setVm T13.vm) m _ below meth c T15 _ 4 32 := X15
    refine own_retNW Xr hS13 (by rw [eh15]; exact hk13) hx (t := .boolean) Bd.returns (by simp) hlk (hb hby at_85) (z' := (1 : Int32)) (by first | rfl | exact own_nb _) (by decide) (by decide) ?_
    show Q0 Z u0 cs x0 y0 z0 x1 y1 z1 x2 y2 z2 x3 y3 z3 x4 y4 z4 x5 y5 z5 h0 n0 _ T15.heap _
    rw [eh15]
    exact ⟨rfl, N15⟩
  · rw [hk6]
    refine own_stW (B := s₁.setTop (mkF m 9 #[.val (.int u0), .val (.int (1 : Int32)), .unset, .unset, .unset, .unset, .unset] [(.int (1 : Int32))])) (fun t_ k_ => XS.iloadN X0.here hx rfl (hb hby at_8) rfl k_) ?_
    obtain ⟨_, _, ⟨T22, Lq22, kq22, nq22⟩, -, X22, ⟨Lc22, hQ22, lq22, yq22, zq22⟩, st22⟩ := Jvm.LawKit.callS X0 hx (y := (⟨"com/example/histrix/histrix/ActionAdditivePinLaw", "pick", "(I)Lcom/example/histrix/histrix/Action;"⟩ : MethodName)) hown (mvT hZ (hw _ (List.mem_of_getElem? (i := 1) rfl))) (mvT hZ (hw _ (List.mem_of_getElem? (i := 2) rfl))) (mvT hZ (hw _ (List.mem_of_getElem? (i := 3) rfl))) (mvT hZ (hw _ (List.mem_of_getElem? (i := 4) rfl))) (by decide) (backOf (W := 0) (rm1_1 l Z a0 hw [] x1 h0 n0 Z0 S1) hZ (hw _ (List.mem_of_getElem? (i := 4) rfl)) (hw _ (List.mem_of_getElem? (i := 3) rfl)) (by decide) (by decide)) (g := (mkF m 9 #[.val (.int u0), .val (.int (1 : Int32)), .unset, .unset, .unset, .unset, .unset] [(.int (1 : Int32))])) rfl (by rw [hml]; rfl) (argsL := [(.int (1 : Int32))]) (rest := []) (lenOf own_pd1 rfl) rfl (by show 2 * 0 + _ ≤ _; exact Nat.le_of_eq rfl) (hb hby at_9) (fun _ _ => ⟨rfl, e0, (by decide : 0 + 0 ≤ _), (by decide : 0 + 0 ≤ _)⟩)
    dsimp only [Pt.U, Pt.locs, Pt.cells, Pt.slots] at X22 lq22 yq22 zq22 st22 hQ22
    rw [lq22, yq22, zq22] at X22
    have X22 : Stand p l e _ _ m _ below meth c T22 _ 0 0 := X22
    obtain ⟨rfl, N22q, eh22⟩ := hQ22
    have N22 := Fr.app N0 N22q
    refine own_stW (B := T22.setTop (mkF m 12 #[.val (.int u0), .val (.int (1 : Int32)), .unset, .unset, .unset, .unset, .unset] [(.ref x1)])) st22 ?_
    refine own_stW (B := T22.setTop (mkF m 13 #[.val (.int u0), .val (.int (1 : Int32)), .val (.ref x1), .unset, .unset, .unset, .unset] [])) (fun t_ k_ => XS.astoreN X22.here hx rfl (hb hby at_12) rfl rfl (l' := #[.val (.int u0), .val (.int (1 : Int32)), .val (.ref x1), .unset, .unset, .unset, .unset]) rfl k_) ?_
    refine own_stW (B := T22.setTop (mkF m 14 #[.val (.int u0), .val (.int (1 : Int32)), .val (.ref x1), .unset, .unset, .unset, .unset] [(.ref x1)])) (fun t_ k_ => XS.aloadN X22.here hx rfl (hb hby at_13) rfl rfl k_) ?_
    obtain ⟨cq23, kr23, q23a, q23b, q23c⟩ := isOf hZ eh22 E1
    obtain ⟨_, _, ⟨T23, Lq23, kq23, nq23⟩, -, X23, ⟨Lc23, hQ23, lq23, yq23, zq23⟩, st23⟩ := X22.virtualBack hx (y := (⟨"com/example/histrix/histrix/Action", "additive", "()Z"⟩ : MethodName)) (z := (⟨"com/example/histrix/histrix/Action", "additive", "()Z"⟩ : MethodName)) hown (mvT hZ (hw _ (List.mem_of_getElem? (i := 8) rfl))) (mvT hZ (hw _ (List.mem_of_getElem? (i := 9) rfl))) (notFace_of_selects (args := #[]) (mvT hZ (hw _ (List.mem_of_getElem? (i := 11) rfl)))) (mvT hZ (hw _ (List.mem_of_getElem? (i := 11) rfl))) (mvT hZ (hw _ (List.mem_of_getElem? (i := 10) rfl))) (by decide) (backOf (W := 0) (rm2_N l Z a0 hw [] x1 x2 x3 h0 n0 Z0 S2 S3 ne1_2 ne1_3) hZ (hw _ (List.mem_of_getElem? (i := 12) rfl)) (hw _ (List.mem_of_getElem? (i := 6) rfl)) (by decide) (by decide)) q23a q23c (g := (mkF m 14 #[.val (.int u0), .val (.int (1 : Int32)), .val (.ref x1), .unset, .unset, .unset, .unset] [(.ref x1)])) rfl (by rw [hml]; rfl) (Steps.refl _) (argsL := []) (rest := []) (lenOf own_pd2 rfl) rfl (by show 2 * 0 + _ ≤ _; exact Nat.le_of_eq rfl) (hb hby at_14) (fun _ _ => ⟨rfl, eh22, (by decide : 0 + 0 ≤ _), (by decide : 0 + 0 ≤ _)⟩)
    dsimp only [Pt.U, Pt.locs, Pt.cells, Pt.slots] at X23 lq23 yq23 zq23 st23 hQ23
    rw [lq23, yq23, zq23] at X23
    have X23 : Stand p l e _ _ m _ below meth c T23 _ 0 0 := X23
    obtain ⟨rfl, N23q, eh23⟩ := hQ23
    have N23 := Fr.app N22 N23q
    refine own_stW (B := T23.setTop (mkF m 17 #[.val (.int u0), .val (.int (1 : Int32)), .val (.ref x1), .unset, .unset, .unset, .unset] [(.int (0 : Int32))])) (fun t_ k_ => st23.trans k_) ?_
    refine own_stW (B := T23.setTop (mkF m 18 #[.val (.int u0), .val (.int (1 : Int32)), .val (.ref x1), .val (.int (0 : Int32)), .unset, .unset, .unset] [])) (fun t_ k_ => XS.istoreN X23.here hx rfl (hb hby at_17) rfl (l' := #[.val (.int u0), .val (.int (1 : Int32)), .val (.ref x1), .val (.int (0 : Int32)), .unset, .unset, .unset]) rfl k_) ?_
    refine own_stW (B := T23.setTop (mkF m 19 #[.val (.int u0), .val (.int (1 : Int32)), .val (.ref x1), .val (.int (0 : Int32)), .unset, .unset, .unset] [(.int (1 : Int32))])) (fun t_ k_ => XS.iloadN X23.here hx rfl (hb hby at_18) rfl k_) ?_
    refine own_stW (B := T23.setTop (mkF m 20 #[.val (.int u0), .val (.int (1 : Int32)), .val (.ref x1), .val (.int (0 : Int32)), .unset, .unset, .unset] [(.int (2 : Int32)), (.int (1 : Int32))])) (fun t_ k_ => XS.iconst X23.here hx rfl (hb hby at_19) k_) ?_
    refine own_stW (B := T23.setTop (mkF m 23 #[.val (.int u0), .val (.int (1 : Int32)), .val (.ref x1), .val (.int (0 : Int32)), .unset, .unset, .unset] [])) (fun t_ k_ => XS.icmpNo X23.here hx rfl (hb hby at_20) rfl (feq (by decide : ¬ ((1 : Int32) = (2 : Int32)))).1 k_) ?_
    refine own_stW (B := T23.setTop (mkF m 24 #[.val (.int u0), .val (.int (1 : Int32)), .val (.ref x1), .val (.int (0 : Int32)), .unset, .unset, .unset] [(.int (1 : Int32))])) (fun t_ k_ => XS.iloadN X23.here hx rfl (hb hby at_23) rfl k_) ?_
    refine own_stW (B := T23.setTop (mkF m 25 #[.val (.int u0), .val (.int (1 : Int32)), .val (.ref x1), .val (.int (0 : Int32)), .unset, .unset, .unset] [(.int (3 : Int32)), (.int (1 : Int32))])) (fun t_ k_ => XS.iconst X23.here hx rfl (hb hby at_24) k_) ?_
    refine own_stW (B := T23.setTop (mkF m 32 #[.val (.int u0), .val (.int (1 : Int32)), .val (.ref x1), .val (.int (0 : Int32)), .unset, .unset, .unset] [])) (fun t_ k_ => XS.icmpYes X23.here hx rfl (pc0 := 25) (pc' := 32) rfl (hb hby at_25) rfl (feq (by decide : ¬ ((1 : Int32) = (3 : Int32)))).2 (by decide) (by decide) k_) ?_
    refine own_stW (B := T23.setTop (mkF m 33 #[.val (.int u0), .val (.int (1 : Int32)), .val (.ref x1), .val (.int (0 : Int32)), .unset, .unset, .unset] [(.int (0 : Int32))])) (fun t_ k_ => XS.iconst X23.here hx rfl (hb hby at_32) k_) ?_
    refine own_stW (B := T23.setTop (mkF m 35 #[.val (.int u0), .val (.int (1 : Int32)), .val (.ref x1), .val (.int (0 : Int32)), .val (.int (0 : Int32)), .unset, .unset] [])) (fun t_ k_ => XS.istore X23.here hx rfl (hb hby at_33) rfl (l' := #[.val (.int u0), .val (.int (1 : Int32)), .val (.ref x1), .val (.int (0 : Int32)), .val (.int (0 : Int32)), .unset, .unset]) rfl k_) ?_
    refine own_stW (B := T23.setTop (mkF m 36 #[.val (.int u0), .val (.int (1 : Int32)), .val (.ref x1), .val (.int (0 : Int32)), .val (.int (0 : Int32)), .unset, .unset] [(.ref x1)])) (fun t_ k_ => XS.aloadN X23.here hx rfl (hb hby at_35) rfl rfl k_) ?_
    obtain ⟨cq24, kr24, q24a, q24b, q24c⟩ := isOf hZ eh23 E1
    obtain ⟨_, _, ⟨T24, Lq24, kq24, nq24⟩, -, X24, ⟨Lc24, hQ24, lq24, yq24, zq24⟩, st24⟩ := X23.virtualBack hx (y := (⟨"com/example/histrix/histrix/Action", "symbol", "()Ljava/lang/String;"⟩ : MethodName)) (z := (⟨"com/example/histrix/histrix/Action", "symbol", "()Ljava/lang/String;"⟩ : MethodName)) hown (mvT hZ (hw _ (List.mem_of_getElem? (i := 17) rfl))) (mvT hZ (hw _ (List.mem_of_getElem? (i := 18) rfl))) (notFace_of_selects (args := #[]) (mvT hZ (hw _ (List.mem_of_getElem? (i := 20) rfl)))) (mvT hZ (hw _ (List.mem_of_getElem? (i := 20) rfl))) (mvT hZ (hw _ (List.mem_of_getElem? (i := 19) rfl))) (by decide) (backOf (W := 0) (rm3 l Z a0 hw [] x1 (.ref y1) h0 n0 Z0 rfl F1) hZ (hw _ (List.mem_of_getElem? (i := 21) rfl)) (hw _ (List.mem_of_getElem? (i := 6) rfl)) (by decide) (by decide)) q24a q24c (g := (mkF m 36 #[.val (.int u0), .val (.int (1 : Int32)), .val (.ref x1), .val (.int (0 : Int32)), .val (.int (0 : Int32)), .unset, .unset] [(.ref x1)])) rfl (by rw [hml]; rfl) (Steps.refl _) (argsL := []) (rest := []) (lenOf own_pd3 rfl) rfl (by show 2 * 0 + _ ≤ _; exact Nat.le_of_eq rfl) (hb hby at_36) (fun _ _ => ⟨rfl, eh23, (by decide : 0 + 0 ≤ _), (by decide : 0 + 0 ≤ _)⟩)
    dsimp only [Pt.U, Pt.locs, Pt.cells, Pt.slots] at X24 lq24 yq24 zq24 st24 hQ24
    rw [lq24, yq24, zq24] at X24
    have X24 : Stand p l e _ _ m _ below meth c T24 _ 0 0 := X24
    obtain ⟨rfl, N24q, eh24⟩ := hQ24
    have N24 := Fr.app N23 N24q
    refine own_stW (B := T24.setTop (mkF m 39 #[.val (.int u0), .val (.int (1 : Int32)), .val (.ref x1), .val (.int (0 : Int32)), .val (.int (0 : Int32)), .unset, .unset] [(.ref y1)])) (fun t_ k_ => st24.trans k_) ?_
    refine own_stW (B := T24.setTop (mkF m 41 #[.val (.int u0), .val (.int (1 : Int32)), .val (.ref x1), .val (.int (0 : Int32)), .val (.int (0 : Int32)), .val (.ref y1), .unset] [])) (fun t_ k_ => XS.astore X24.here hx rfl (hb hby at_39) rfl rfl (l' := #[.val (.int u0), .val (.int (1 : Int32)), .val (.ref x1), .val (.int (0 : Int32)), .val (.int (0 : Int32)), .val (.ref y1), .unset]) rfl k_) ?_
    refine own_stW (B := T24.setTop (mkF m 43 #[.val (.int u0), .val (.int (1 : Int32)), .val (.ref x1), .val (.int (0 : Int32)), .val (.int (0 : Int32)), .val (.ref y1), .unset] [(.ref y1)])) (fun t_ k_ => XS.aload X24.here hx rfl (hb hby at_41) rfl rfl k_) ?_
    have Xw25 : Stand p l e _ (s.setVm s.vm) m _ below meth c T24 _ 0 0 := X24
    obtain ⟨al25, T25, h25, k1_25, bl25, kl25, X25, e25, E25, hS25, hk25, hZ, hown, Es25, Fc25, Fv25, Av25, la25, lb25, I25, st25⟩ := ldcSV Xw25 hx hZ hown (hw _ (List.mem_of_getElem? (i := 24) rfl)) wS eh24 hSi (Nat.zero_le _) (fun y hy => Nat.le_trans (by rw [hh]; exact hn0) (N24 y hy)) hkeep Ii (by decide) hh43 hcw (vs := ([105, 110, 99] : List Int32).map Value.int) (z := 3) ⟨by decide, by decide⟩ (by decide) (by decide) (g := (mkF m 43 #[.val (.int u0), .val (.int (1 : Int32)), .val (.ref x1), .val (.int (0 : Int32)), .val (.int (0 : Int32)), .val (.ref y1), .unset] [(.ref y1)])) rfl (hb hby at_43) (n := 12) (by decide) (by decide) (by decide) (by decide)
    have Z26 := Nat.le_trans Z0 E25.1
    have X25 : Stand p l e _ _ m _ below meth c T25 _ 2 16 := X25
    have Aa25 := own_ofArv (l := [105, 110, 99]) Av25 rfl (by decide)
    refine own_stW (B := T25.setTop (mkF m 45 #[.val (.int u0), .val (.int (1 : Int32)), .val (.ref x1), .val (.int (0 : Int32)), .val (.int (0 : Int32)), .val (.ref y1), .unset] [(.ref al25), (.ref y1)])) st25 ?_
    have u28 := C1.ext E25
    have u29 := V1.ext E25
    have u30 := A1.ext E25
    have u31 := Sc.ext E25
    have u32 := G1.ext E25
    obtain ⟨cq27, kr27, q27a, q27b, q27c⟩ := isOf hZ e25 u32
    obtain ⟨_, _, ⟨T27, Lq27, kq27, nq27⟩, -, X27, ⟨Lc27, hQ27, lq27, yq27, zq27⟩, st27⟩ := X25.virtualBack hx (y := (⟨"java/lang/String", "equals", "(Ljava/lang/Object;)Z"⟩ : MethodName)) (z := (⟨"java/lang/String", "equals", "(Ljava/lang/Object;)Z"⟩ : MethodName)) hown (mvT hZ (hw _ (List.mem_of_getElem? (i := 32) rfl))) (mvT hZ (hw _ (List.mem_of_getElem? (i := 33) rfl))) (notFace_of_selects (args := #[]) (mvT hZ (hw _ (List.mem_of_getElem? (i := 35) rfl)))) (mvT hZ (hw _ (List.mem_of_getElem? (i := 35) rfl))) (mvT hZ (hw _ (List.mem_of_getElem? (i := 34) rfl))) (by decide) (backOf (W := 0) (rm4 l Z a0 hw [] y1 al25 z1 bl25 1 3 (fun j => ([119] : List Int32).getD j 0) (fun j => ([105, 110, 99] : List Int32).getD j 0) cs h25 n0 Z26 Es25 u28 Fc25 u29 Fv25 u30 Aa25 (by decide) (by decide) u31 hcs) hZ (hw _ (List.mem_of_getElem? (i := 36) rfl)) (hw _ (List.mem_of_getElem? (i := 25) rfl)) (by decide) (by decide)) q27a q27c (g := (mkF m 45 #[.val (.int u0), .val (.int (1 : Int32)), .val (.ref x1), .val (.int (0 : Int32)), .val (.int (0 : Int32)), .val (.ref y1), .unset] [(.ref al25), (.ref y1)])) rfl (by rw [hml]; rfl) (Steps.refl _) (argsL := [(.ref al25)]) (rest := []) (lenOf own_pd4 rfl) rfl (by show 2 * 0 + _ ≤ _; exact Nat.le_of_eq rfl) (hb hby at_45) (fun _ _ => ⟨rfl, e25, (by decide : 2 + 0 ≤ _), (by decide : 16 + 0 ≤ _)⟩)
    dsimp only [Pt.U, Pt.locs, Pt.cells, Pt.slots] at X27 lq27 yq27 zq27 st27 hQ27
    rw [lq27, yq27, zq27] at X27
    have X27 : Stand p l e _ _ m _ below meth c T27 _ 2 16 := X27
    obtain ⟨rfl, N27q, eh27⟩ := hQ27
    have N27 := Fr.app N24 N27q
    refine own_stW (B := T27.setTop (mkF m 48 #[.val (.int u0), .val (.int (1 : Int32)), .val (.ref x1), .val (.int (0 : Int32)), .val (.int (0 : Int32)), .val (.ref y1), .unset] [(.int (own_b (own_eqs 1 3 (fun j => ([119] : List Int32).getD j 0) (fun j => ([105, 110, 99] : List Int32).getD j 0))))])) (fun t_ k_ => st27.trans k_) ?_
    have hc33 : (own_eqs 1 3 (fun j => ([119] : List Int32).getD j 0) (fun j => ([105, 110, 99] : List Int32).getD j 0)) = false := by decide
    refine own_stW (B := T27.setTop (mkF m 51 #[.val (.int u0), .val (.int (1 : Int32)), .val (.ref x1), .val (.int (0 : Int32)), .val (.int (0 : Int32)), .val (.ref y1), .unset] [])) (fun t_ k_ => XS.ifNo X27.here hx rfl (hb hby at_48) rfl ((if0 _ _).trans (teq (own_b0.mpr hc33)).2) k_) ?_
    refine own_stW (B := T27.setTop (mkF m 53 #[.val (.int u0), .val (.int (1 : Int32)), .val (.ref x1), .val (.int (0 : Int32)), .val (.int (0 : Int32)), .val (.ref y1), .unset] [(.ref y1)])) (fun t_ k_ => XS.aload X27.here hx rfl (hb hby at_51) rfl rfl k_) ?_
    have Xw34 : Stand p l e _ (s.setVm T25.vm) m _ below meth c T27 _ 2 16 := X27
    obtain ⟨al34, T34, h34, k1_34, bl34, kl34, X34, e34, E34, hS34, hk34, hZ, hown, Es34, Fc34, Fv34, Av34, la34, lb34, I34, st34⟩ := ldcSV Xw34 hx hZ hown (hw _ (List.mem_of_getElem? (i := 46) rfl)) wS eh27 hS25 hk25 (fun y hy => Nat.le_trans (by rw [hh]; exact hn0) (N27 y hy)) hkeep I25 (by decide) hh51 hcw (vs := ([100, 101, 99] : List Int32).map Value.int) (z := 3) ⟨by decide, by decide⟩ (by decide) (by decide) (g := (mkF m 53 #[.val (.int u0), .val (.int (1 : Int32)), .val (.ref x1), .val (.int (0 : Int32)), .val (.int (0 : Int32)), .val (.ref y1), .unset] [(.ref y1)])) rfl (hb hby at_53) (n := 12) (by decide) (by decide) (by decide) (by decide)
    have Z35 := Nat.le_trans Z26 E34.1
    have X34 : Stand p l e _ _ m _ below meth c T34 _ 4 32 := X34
    have Aa34 := own_ofArv (l := [100, 101, 99]) Av34 rfl (by decide)
    refine own_stW (B := T34.setTop (mkF m 55 #[.val (.int u0), .val (.int (1 : Int32)), .val (.ref x1), .val (.int (0 : Int32)), .val (.int (0 : Int32)), .val (.ref y1), .unset] [(.ref al34), (.ref y1)])) st34 ?_
    have u37 := u28.ext E34
    have u38 := u29.ext E34
    have u39 := u30.ext E34
    have u40 := u31.ext E34
    have u41 := u32.ext E34
    obtain ⟨cq36, kr36, q36a, q36b, q36c⟩ := isOf hZ e34 u41
    obtain ⟨_, _, ⟨T36, Lq36, kq36, nq36⟩, -, X36, ⟨Lc36, hQ36, lq36, yq36, zq36⟩, st36⟩ := X34.virtualBack hx (y := (⟨"java/lang/String", "equals", "(Ljava/lang/Object;)Z"⟩ : MethodName)) (z := (⟨"java/lang/String", "equals", "(Ljava/lang/Object;)Z"⟩ : MethodName)) hown (mvT hZ (hw _ (List.mem_of_getElem? (i := 32) rfl))) (mvT hZ (hw _ (List.mem_of_getElem? (i := 33) rfl))) (notFace_of_selects (args := #[]) (mvT hZ (hw _ (List.mem_of_getElem? (i := 35) rfl)))) (mvT hZ (hw _ (List.mem_of_getElem? (i := 35) rfl))) (mvT hZ (hw _ (List.mem_of_getElem? (i := 34) rfl))) (by decide) (backOf (W := 0) (rm4 l Z a0 hw [] y1 al34 z1 bl34 1 3 (fun j => ([119] : List Int32).getD j 0) (fun j => ([100, 101, 99] : List Int32).getD j 0) cs h34 n0 Z35 Es34 u37 Fc34 u38 Fv34 u39 Aa34 (by decide) (by decide) u40 hcs) hZ (hw _ (List.mem_of_getElem? (i := 36) rfl)) (hw _ (List.mem_of_getElem? (i := 25) rfl)) (by decide) (by decide)) q36a q36c (g := (mkF m 55 #[.val (.int u0), .val (.int (1 : Int32)), .val (.ref x1), .val (.int (0 : Int32)), .val (.int (0 : Int32)), .val (.ref y1), .unset] [(.ref al34), (.ref y1)])) rfl (by rw [hml]; rfl) (Steps.refl _) (argsL := [(.ref al34)]) (rest := []) (lenOf own_pd4 rfl) rfl (by show 2 * 0 + _ ≤ _; exact Nat.le_of_eq rfl) (hb hby at_55) (fun _ _ => ⟨rfl, e34, (by decide : 4 + 0 ≤ _), (by decide : 32 + 0 ≤ _)⟩)
    dsimp only [Pt.U, Pt.locs, Pt.cells, Pt.slots] at X36 lq36 yq36 zq36 st36 hQ36
    rw [lq36, yq36, zq36] at X36
    have X36 : Stand p l e _ _ m _ below meth c T36 _ 4 32 := X36
    obtain ⟨rfl, N36q, eh36⟩ := hQ36
    have N36 := Fr.app N27 N36q
    refine own_stW (B := T36.setTop (mkF m 58 #[.val (.int u0), .val (.int (1 : Int32)), .val (.ref x1), .val (.int (0 : Int32)), .val (.int (0 : Int32)), .val (.ref y1), .unset] [(.int (own_b (own_eqs 1 3 (fun j => ([119] : List Int32).getD j 0) (fun j => ([100, 101, 99] : List Int32).getD j 0))))])) (fun t_ k_ => st36.trans k_) ?_
    have hc42 : (own_eqs 1 3 (fun j => ([119] : List Int32).getD j 0) (fun j => ([100, 101, 99] : List Int32).getD j 0)) = false := by decide
    refine own_stW (B := T36.setTop (mkF m 65 #[.val (.int u0), .val (.int (1 : Int32)), .val (.ref x1), .val (.int (0 : Int32)), .val (.int (0 : Int32)), .val (.ref y1), .unset] [])) (fun t_ k_ => XS.ifYes X36.here hx rfl (pc0 := 58) (pc' := 65) rfl (hb hby at_58) rfl ((if0 _ _).trans (teq (own_b0.mpr hc42)).1) (by decide) (by decide) k_) ?_
    refine own_stW (B := T36.setTop (mkF m 66 #[.val (.int u0), .val (.int (1 : Int32)), .val (.ref x1), .val (.int (0 : Int32)), .val (.int (0 : Int32)), .val (.ref y1), .unset] [(.int (0 : Int32))])) (fun t_ k_ => XS.iconst X36.here hx rfl (hb hby at_65) k_) ?_
    refine own_stW (B := T36.setTop (mkF m 68 #[.val (.int u0), .val (.int (1 : Int32)), .val (.ref x1), .val (.int (0 : Int32)), .val (.int (0 : Int32)), .val (.ref y1), .val (.int (0 : Int32))] [])) (fun t_ k_ => XS.istore X36.here hx rfl (hb hby at_66) rfl (l' := #[.val (.int u0), .val (.int (1 : Int32)), .val (.ref x1), .val (.int (0 : Int32)), .val (.int (0 : Int32)), .val (.ref y1), .val (.int (0 : Int32))]) rfl k_) ?_
    refine own_stW (B := T36.setTop (mkF m 69 #[.val (.int u0), .val (.int (1 : Int32)), .val (.ref x1), .val (.int (0 : Int32)), .val (.int (0 : Int32)), .val (.ref y1), .val (.int (0 : Int32))] [(.int (0 : Int32))])) (fun t_ k_ => XS.iloadN X36.here hx rfl (hb hby at_68) rfl k_) ?_
    refine own_stW (B := T36.setTop (mkF m 71 #[.val (.int u0), .val (.int (1 : Int32)), .val (.ref x1), .val (.int (0 : Int32)), .val (.int (0 : Int32)), .val (.ref y1), .val (.int (0 : Int32))] [(.int (0 : Int32)), (.int (0 : Int32))])) (fun t_ k_ => XS.iload X36.here hx rfl (hb hby at_69) rfl k_) ?_
    refine own_stW (B := T36.setTop (mkF m 74 #[.val (.int u0), .val (.int (1 : Int32)), .val (.ref x1), .val (.int (0 : Int32)), .val (.int (0 : Int32)), .val (.ref y1), .val (.int (0 : Int32))] [])) (fun t_ k_ => XS.icmpNo X36.here hx rfl (hb hby at_71) rfl (teq (by decide : (0 : Int32) = (0 : Int32))).2 k_) ?_
    refine own_stW (B := T36.setTop (mkF m 75 #[.val (.int u0), .val (.int (1 : Int32)), .val (.ref x1), .val (.int (0 : Int32)), .val (.int (0 : Int32)), .val (.ref y1), .val (.int (0 : Int32))] [(.int (0 : Int32))])) (fun t_ k_ => XS.iloadN X36.here hx rfl (hb hby at_74) rfl k_) ?_
    refine own_stW (B := T36.setTop (mkF m 77 #[.val (.int u0), .val (.int (1 : Int32)), .val (.ref x1), .val (.int (0 : Int32)), .val (.int (0 : Int32)), .val (.ref y1), .val (.int (0 : Int32))] [(.int (0 : Int32)), (.int (0 : Int32))])) (fun t_ k_ => XS.iload X36.here hx rfl (hb hby at_75) rfl k_) ?_
    refine own_stW (B := T36.setTop (mkF m 80 #[.val (.int u0), .val (.int (1 : Int32)), .val (.ref x1), .val (.int (0 : Int32)), .val (.int (0 : Int32)), .val (.ref y1), .val (.int (0 : Int32))] [])) (fun t_ k_ => XS.icmpNo X36.here hx rfl (hb hby at_77) rfl (teq (by decide : (0 : Int32) = (0 : Int32))).2 k_) ?_
    refine own_stW (B := T36.setTop (mkF m 81 #[.val (.int u0), .val (.int (1 : Int32)), .val (.ref x1), .val (.int (0 : Int32)), .val (.int (0 : Int32)), .val (.ref y1), .val (.int (0 : Int32))] [(.int (1 : Int32))])) (fun t_ k_ => XS.iconst X36.here hx rfl (hb hby at_80) k_) ?_
    refine own_stW (B := T36.setTop (mkF m 85 #[.val (.int u0), .val (.int (1 : Int32)), .val (.ref x1), .val (.int (0 : Int32)), .val (.int (0 : Int32)), .val (.ref y1), .val (.int (0 : Int32))] [(.int (1 : Int32))])) (fun t_ k_ => XS.goto X36.here hx rfl (pc0 := 81) (pc' := 85) rfl (hb hby at_81) (by decide) (by decide) k_) ?_
    have Xr : Stand p l e _ (s.setVm T34.vm) m _ below meth c T36 _ 4 32 := X36
    refine own_retNW Xr hS34 (by rw [eh36]; exact hk34) hx (t := .boolean) Bd.returns (by simp) hlk (hb hby at_85) (z' := (1 : Int32)) (by first | rfl | exact own_nb _) (by decide) (by decide) ?_
    show Q0 Z u0 cs x0 y0 z0 x1 y1 z1 x2 y2 z2 x3 y3 z3 x4 y4 z4 x5 y5 z5 h0 n0 _ T36.heap _
    rw [eh36]
    exact ⟨rfl, N36⟩
  · rw [hk6]
    refine own_stW (B := s₁.setTop (mkF m 9 #[.val (.int u0), .val (.int (2 : Int32)), .unset, .unset, .unset, .unset, .unset] [(.int (2 : Int32))])) (fun t_ k_ => XS.iloadN X0.here hx rfl (hb hby at_8) rfl k_) ?_
    obtain ⟨_, _, ⟨T43, Lq43, kq43, nq43⟩, -, X43, ⟨Lc43, hQ43, lq43, yq43, zq43⟩, st43⟩ := Jvm.LawKit.callS X0 hx (y := (⟨"com/example/histrix/histrix/ActionAdditivePinLaw", "pick", "(I)Lcom/example/histrix/histrix/Action;"⟩ : MethodName)) hown (mvT hZ (hw _ (List.mem_of_getElem? (i := 1) rfl))) (mvT hZ (hw _ (List.mem_of_getElem? (i := 2) rfl))) (mvT hZ (hw _ (List.mem_of_getElem? (i := 3) rfl))) (mvT hZ (hw _ (List.mem_of_getElem? (i := 4) rfl))) (by decide) (backOf (W := 0) (rm1_2 l Z a0 hw [] x2 h0 n0 Z0 S2) hZ (hw _ (List.mem_of_getElem? (i := 4) rfl)) (hw _ (List.mem_of_getElem? (i := 3) rfl)) (by decide) (by decide)) (g := (mkF m 9 #[.val (.int u0), .val (.int (2 : Int32)), .unset, .unset, .unset, .unset, .unset] [(.int (2 : Int32))])) rfl (by rw [hml]; rfl) (argsL := [(.int (2 : Int32))]) (rest := []) (lenOf own_pd1 rfl) rfl (by show 2 * 0 + _ ≤ _; exact Nat.le_of_eq rfl) (hb hby at_9) (fun _ _ => ⟨rfl, e0, (by decide : 0 + 0 ≤ _), (by decide : 0 + 0 ≤ _)⟩)
    dsimp only [Pt.U, Pt.locs, Pt.cells, Pt.slots] at X43 lq43 yq43 zq43 st43 hQ43
    rw [lq43, yq43, zq43] at X43
    have X43 : Stand p l e _ _ m _ below meth c T43 _ 0 0 := X43
    obtain ⟨rfl, N43q, eh43⟩ := hQ43
    have N43 := Fr.app N0 N43q
    refine own_stW (B := T43.setTop (mkF m 12 #[.val (.int u0), .val (.int (2 : Int32)), .unset, .unset, .unset, .unset, .unset] [(.ref x2)])) st43 ?_
    refine own_stW (B := T43.setTop (mkF m 13 #[.val (.int u0), .val (.int (2 : Int32)), .val (.ref x2), .unset, .unset, .unset, .unset] [])) (fun t_ k_ => XS.astoreN X43.here hx rfl (hb hby at_12) rfl rfl (l' := #[.val (.int u0), .val (.int (2 : Int32)), .val (.ref x2), .unset, .unset, .unset, .unset]) rfl k_) ?_
    refine own_stW (B := T43.setTop (mkF m 14 #[.val (.int u0), .val (.int (2 : Int32)), .val (.ref x2), .unset, .unset, .unset, .unset] [(.ref x2)])) (fun t_ k_ => XS.aloadN X43.here hx rfl (hb hby at_13) rfl rfl k_) ?_
    obtain ⟨cq44, kr44, q44a, q44b, q44c⟩ := isOf hZ eh43 E2
    obtain ⟨_, _, ⟨T44, Lq44, kq44, nq44⟩, -, X44, ⟨Lc44, hQ44, lq44, yq44, zq44⟩, st44⟩ := X43.virtualBack hx (y := (⟨"com/example/histrix/histrix/Action", "additive", "()Z"⟩ : MethodName)) (z := (⟨"com/example/histrix/histrix/Action", "additive", "()Z"⟩ : MethodName)) hown (mvT hZ (hw _ (List.mem_of_getElem? (i := 8) rfl))) (mvT hZ (hw _ (List.mem_of_getElem? (i := 9) rfl))) (notFace_of_selects (args := #[]) (mvT hZ (hw _ (List.mem_of_getElem? (i := 11) rfl)))) (mvT hZ (hw _ (List.mem_of_getElem? (i := 11) rfl))) (mvT hZ (hw _ (List.mem_of_getElem? (i := 10) rfl))) (by decide) (backOf (W := 0) (rm2_I l Z a0 hw [] x2 h0 n0 Z0 S2) hZ (hw _ (List.mem_of_getElem? (i := 12) rfl)) (hw _ (List.mem_of_getElem? (i := 6) rfl)) (by decide) (by decide)) q44a q44c (g := (mkF m 14 #[.val (.int u0), .val (.int (2 : Int32)), .val (.ref x2), .unset, .unset, .unset, .unset] [(.ref x2)])) rfl (by rw [hml]; rfl) (Steps.refl _) (argsL := []) (rest := []) (lenOf own_pd2 rfl) rfl (by show 2 * 0 + _ ≤ _; exact Nat.le_of_eq rfl) (hb hby at_14) (fun _ _ => ⟨rfl, eh43, (by decide : 0 + 0 ≤ _), (by decide : 0 + 0 ≤ _)⟩)
    dsimp only [Pt.U, Pt.locs, Pt.cells, Pt.slots] at X44 lq44 yq44 zq44 st44 hQ44
    rw [lq44, yq44, zq44] at X44
    have X44 : Stand p l e _ _ m _ below meth c T44 _ 0 0 := X44
    obtain ⟨rfl, N44q, eh44⟩ := hQ44
    have N44 := Fr.app N43 N44q
    refine own_stW (B := T44.setTop (mkF m 17 #[.val (.int u0), .val (.int (2 : Int32)), .val (.ref x2), .unset, .unset, .unset, .unset] [(.int (1 : Int32))])) (fun t_ k_ => st44.trans k_) ?_
    refine own_stW (B := T44.setTop (mkF m 18 #[.val (.int u0), .val (.int (2 : Int32)), .val (.ref x2), .val (.int (1 : Int32)), .unset, .unset, .unset] [])) (fun t_ k_ => XS.istoreN X44.here hx rfl (hb hby at_17) rfl (l' := #[.val (.int u0), .val (.int (2 : Int32)), .val (.ref x2), .val (.int (1 : Int32)), .unset, .unset, .unset]) rfl k_) ?_
    refine own_stW (B := T44.setTop (mkF m 19 #[.val (.int u0), .val (.int (2 : Int32)), .val (.ref x2), .val (.int (1 : Int32)), .unset, .unset, .unset] [(.int (2 : Int32))])) (fun t_ k_ => XS.iloadN X44.here hx rfl (hb hby at_18) rfl k_) ?_
    refine own_stW (B := T44.setTop (mkF m 20 #[.val (.int u0), .val (.int (2 : Int32)), .val (.ref x2), .val (.int (1 : Int32)), .unset, .unset, .unset] [(.int (2 : Int32)), (.int (2 : Int32))])) (fun t_ k_ => XS.iconst X44.here hx rfl (hb hby at_19) k_) ?_
    refine own_stW (B := T44.setTop (mkF m 28 #[.val (.int u0), .val (.int (2 : Int32)), .val (.ref x2), .val (.int (1 : Int32)), .unset, .unset, .unset] [])) (fun t_ k_ => XS.icmpYes X44.here hx rfl (pc0 := 20) (pc' := 28) rfl (hb hby at_20) rfl (teq (by decide : (2 : Int32) = (2 : Int32))).1 (by decide) (by decide) k_) ?_
    refine own_stW (B := T44.setTop (mkF m 29 #[.val (.int u0), .val (.int (2 : Int32)), .val (.ref x2), .val (.int (1 : Int32)), .unset, .unset, .unset] [(.int (1 : Int32))])) (fun t_ k_ => XS.iconst X44.here hx rfl (hb hby at_28) k_) ?_
    refine own_stW (B := T44.setTop (mkF m 33 #[.val (.int u0), .val (.int (2 : Int32)), .val (.ref x2), .val (.int (1 : Int32)), .unset, .unset, .unset] [(.int (1 : Int32))])) (fun t_ k_ => XS.goto X44.here hx rfl (pc0 := 29) (pc' := 33) rfl (hb hby at_29) (by decide) (by decide) k_) ?_
    refine own_stW (B := T44.setTop (mkF m 35 #[.val (.int u0), .val (.int (2 : Int32)), .val (.ref x2), .val (.int (1 : Int32)), .val (.int (1 : Int32)), .unset, .unset] [])) (fun t_ k_ => XS.istore X44.here hx rfl (hb hby at_33) rfl (l' := #[.val (.int u0), .val (.int (2 : Int32)), .val (.ref x2), .val (.int (1 : Int32)), .val (.int (1 : Int32)), .unset, .unset]) rfl k_) ?_
    refine own_stW (B := T44.setTop (mkF m 36 #[.val (.int u0), .val (.int (2 : Int32)), .val (.ref x2), .val (.int (1 : Int32)), .val (.int (1 : Int32)), .unset, .unset] [(.ref x2)])) (fun t_ k_ => XS.aloadN X44.here hx rfl (hb hby at_35) rfl rfl k_) ?_
    obtain ⟨cq45, kr45, q45a, q45b, q45c⟩ := isOf hZ eh44 E2
    obtain ⟨_, _, ⟨T45, Lq45, kq45, nq45⟩, -, X45, ⟨Lc45, hQ45, lq45, yq45, zq45⟩, st45⟩ := X44.virtualBack hx (y := (⟨"com/example/histrix/histrix/Action", "symbol", "()Ljava/lang/String;"⟩ : MethodName)) (z := (⟨"com/example/histrix/histrix/Action", "symbol", "()Ljava/lang/String;"⟩ : MethodName)) hown (mvT hZ (hw _ (List.mem_of_getElem? (i := 17) rfl))) (mvT hZ (hw _ (List.mem_of_getElem? (i := 18) rfl))) (notFace_of_selects (args := #[]) (mvT hZ (hw _ (List.mem_of_getElem? (i := 20) rfl)))) (mvT hZ (hw _ (List.mem_of_getElem? (i := 20) rfl))) (mvT hZ (hw _ (List.mem_of_getElem? (i := 19) rfl))) (by decide) (backOf (W := 0) (rm3 l Z a0 hw [] x2 (.ref y2) h0 n0 Z0 rfl F2) hZ (hw _ (List.mem_of_getElem? (i := 21) rfl)) (hw _ (List.mem_of_getElem? (i := 6) rfl)) (by decide) (by decide)) q45a q45c (g := (mkF m 36 #[.val (.int u0), .val (.int (2 : Int32)), .val (.ref x2), .val (.int (1 : Int32)), .val (.int (1 : Int32)), .unset, .unset] [(.ref x2)])) rfl (by rw [hml]; rfl) (Steps.refl _) (argsL := []) (rest := []) (lenOf own_pd3 rfl) rfl (by show 2 * 0 + _ ≤ _; exact Nat.le_of_eq rfl) (hb hby at_36) (fun _ _ => ⟨rfl, eh44, (by decide : 0 + 0 ≤ _), (by decide : 0 + 0 ≤ _)⟩)
    dsimp only [Pt.U, Pt.locs, Pt.cells, Pt.slots] at X45 lq45 yq45 zq45 st45 hQ45
    rw [lq45, yq45, zq45] at X45
    have X45 : Stand p l e _ _ m _ below meth c T45 _ 0 0 := X45
    obtain ⟨rfl, N45q, eh45⟩ := hQ45
    have N45 := Fr.app N44 N45q
    refine own_stW (B := T45.setTop (mkF m 39 #[.val (.int u0), .val (.int (2 : Int32)), .val (.ref x2), .val (.int (1 : Int32)), .val (.int (1 : Int32)), .unset, .unset] [(.ref y2)])) (fun t_ k_ => st45.trans k_) ?_
    refine own_stW (B := T45.setTop (mkF m 41 #[.val (.int u0), .val (.int (2 : Int32)), .val (.ref x2), .val (.int (1 : Int32)), .val (.int (1 : Int32)), .val (.ref y2), .unset] [])) (fun t_ k_ => XS.astore X45.here hx rfl (hb hby at_39) rfl rfl (l' := #[.val (.int u0), .val (.int (2 : Int32)), .val (.ref x2), .val (.int (1 : Int32)), .val (.int (1 : Int32)), .val (.ref y2), .unset]) rfl k_) ?_
    refine own_stW (B := T45.setTop (mkF m 43 #[.val (.int u0), .val (.int (2 : Int32)), .val (.ref x2), .val (.int (1 : Int32)), .val (.int (1 : Int32)), .val (.ref y2), .unset] [(.ref y2)])) (fun t_ k_ => XS.aload X45.here hx rfl (hb hby at_41) rfl rfl k_) ?_
    have Xw46 : Stand p l e _ (s.setVm s.vm) m _ below meth c T45 _ 0 0 := X45
    obtain ⟨al46, T46, h46, k1_46, bl46, kl46, X46, e46, E46, hS46, hk46, hZ, hown, Es46, Fc46, Fv46, Av46, la46, lb46, I46, st46⟩ := ldcSV Xw46 hx hZ hown (hw _ (List.mem_of_getElem? (i := 24) rfl)) wS eh45 hSi (Nat.zero_le _) (fun y hy => Nat.le_trans (by rw [hh]; exact hn0) (N45 y hy)) hkeep Ii (by decide) hh43 hcw (vs := ([105, 110, 99] : List Int32).map Value.int) (z := 3) ⟨by decide, by decide⟩ (by decide) (by decide) (g := (mkF m 43 #[.val (.int u0), .val (.int (2 : Int32)), .val (.ref x2), .val (.int (1 : Int32)), .val (.int (1 : Int32)), .val (.ref y2), .unset] [(.ref y2)])) rfl (hb hby at_43) (n := 12) (by decide) (by decide) (by decide) (by decide)
    have Z47 := Nat.le_trans Z0 E46.1
    have X46 : Stand p l e _ _ m _ below meth c T46 _ 2 16 := X46
    have Aa46 := own_ofArv (l := [105, 110, 99]) Av46 rfl (by decide)
    refine own_stW (B := T46.setTop (mkF m 45 #[.val (.int u0), .val (.int (2 : Int32)), .val (.ref x2), .val (.int (1 : Int32)), .val (.int (1 : Int32)), .val (.ref y2), .unset] [(.ref al46), (.ref y2)])) st46 ?_
    have u49 := C2.ext E46
    have u50 := V2.ext E46
    have u51 := A2.ext E46
    have u52 := Sc.ext E46
    have u53 := G2.ext E46
    obtain ⟨cq48, kr48, q48a, q48b, q48c⟩ := isOf hZ e46 u53
    obtain ⟨_, _, ⟨T48, Lq48, kq48, nq48⟩, -, X48, ⟨Lc48, hQ48, lq48, yq48, zq48⟩, st48⟩ := X46.virtualBack hx (y := (⟨"java/lang/String", "equals", "(Ljava/lang/Object;)Z"⟩ : MethodName)) (z := (⟨"java/lang/String", "equals", "(Ljava/lang/Object;)Z"⟩ : MethodName)) hown (mvT hZ (hw _ (List.mem_of_getElem? (i := 32) rfl))) (mvT hZ (hw _ (List.mem_of_getElem? (i := 33) rfl))) (notFace_of_selects (args := #[]) (mvT hZ (hw _ (List.mem_of_getElem? (i := 35) rfl)))) (mvT hZ (hw _ (List.mem_of_getElem? (i := 35) rfl))) (mvT hZ (hw _ (List.mem_of_getElem? (i := 34) rfl))) (by decide) (backOf (W := 0) (rm4 l Z a0 hw [] y2 al46 z2 bl46 3 3 (fun j => ([105, 110, 99] : List Int32).getD j 0) (fun j => ([105, 110, 99] : List Int32).getD j 0) cs h46 n0 Z47 Es46 u49 Fc46 u50 Fv46 u51 Aa46 (by decide) (by decide) u52 hcs) hZ (hw _ (List.mem_of_getElem? (i := 36) rfl)) (hw _ (List.mem_of_getElem? (i := 25) rfl)) (by decide) (by decide)) q48a q48c (g := (mkF m 45 #[.val (.int u0), .val (.int (2 : Int32)), .val (.ref x2), .val (.int (1 : Int32)), .val (.int (1 : Int32)), .val (.ref y2), .unset] [(.ref al46), (.ref y2)])) rfl (by rw [hml]; rfl) (Steps.refl _) (argsL := [(.ref al46)]) (rest := []) (lenOf own_pd4 rfl) rfl (by show 2 * 0 + _ ≤ _; exact Nat.le_of_eq rfl) (hb hby at_45) (fun _ _ => ⟨rfl, e46, (by decide : 2 + 0 ≤ _), (by decide : 16 + 0 ≤ _)⟩)
    dsimp only [Pt.U, Pt.locs, Pt.cells, Pt.slots] at X48 lq48 yq48 zq48 st48 hQ48
    rw [lq48, yq48, zq48] at X48
    have X48 : Stand p l e _ _ m _ below meth c T48 _ 2 16 := X48
    obtain ⟨rfl, N48q, eh48⟩ := hQ48
    have N48 := Fr.app N45 N48q
    refine own_stW (B := T48.setTop (mkF m 48 #[.val (.int u0), .val (.int (2 : Int32)), .val (.ref x2), .val (.int (1 : Int32)), .val (.int (1 : Int32)), .val (.ref y2), .unset] [(.int (own_b (own_eqs 3 3 (fun j => ([105, 110, 99] : List Int32).getD j 0) (fun j => ([105, 110, 99] : List Int32).getD j 0))))])) (fun t_ k_ => st48.trans k_) ?_
    have hc54 : ¬ ((own_eqs 3 3 (fun j => ([105, 110, 99] : List Int32).getD j 0) (fun j => ([105, 110, 99] : List Int32).getD j 0)) = false) := by decide
    refine own_stW (B := T48.setTop (mkF m 61 #[.val (.int u0), .val (.int (2 : Int32)), .val (.ref x2), .val (.int (1 : Int32)), .val (.int (1 : Int32)), .val (.ref y2), .unset] [])) (fun t_ k_ => XS.ifYes X48.here hx rfl (pc0 := 48) (pc' := 61) rfl (hb hby at_48) rfl ((if0 _ _).trans (feq (fun q => hc54 (own_b0.mp q))).2) (by decide) (by decide) k_) ?_
    refine own_stW (B := T48.setTop (mkF m 62 #[.val (.int u0), .val (.int (2 : Int32)), .val (.ref x2), .val (.int (1 : Int32)), .val (.int (1 : Int32)), .val (.ref y2), .unset] [(.int (1 : Int32))])) (fun t_ k_ => XS.iconst X48.here hx rfl (hb hby at_61) k_) ?_
    refine own_stW (B := T48.setTop (mkF m 66 #[.val (.int u0), .val (.int (2 : Int32)), .val (.ref x2), .val (.int (1 : Int32)), .val (.int (1 : Int32)), .val (.ref y2), .unset] [(.int (1 : Int32))])) (fun t_ k_ => XS.goto X48.here hx rfl (pc0 := 62) (pc' := 66) rfl (hb hby at_62) (by decide) (by decide) k_) ?_
    refine own_stW (B := T48.setTop (mkF m 68 #[.val (.int u0), .val (.int (2 : Int32)), .val (.ref x2), .val (.int (1 : Int32)), .val (.int (1 : Int32)), .val (.ref y2), .val (.int (1 : Int32))] [])) (fun t_ k_ => XS.istore X48.here hx rfl (hb hby at_66) rfl (l' := #[.val (.int u0), .val (.int (2 : Int32)), .val (.ref x2), .val (.int (1 : Int32)), .val (.int (1 : Int32)), .val (.ref y2), .val (.int (1 : Int32))]) rfl k_) ?_
    refine own_stW (B := T48.setTop (mkF m 69 #[.val (.int u0), .val (.int (2 : Int32)), .val (.ref x2), .val (.int (1 : Int32)), .val (.int (1 : Int32)), .val (.ref y2), .val (.int (1 : Int32))] [(.int (1 : Int32))])) (fun t_ k_ => XS.iloadN X48.here hx rfl (hb hby at_68) rfl k_) ?_
    refine own_stW (B := T48.setTop (mkF m 71 #[.val (.int u0), .val (.int (2 : Int32)), .val (.ref x2), .val (.int (1 : Int32)), .val (.int (1 : Int32)), .val (.ref y2), .val (.int (1 : Int32))] [(.int (1 : Int32)), (.int (1 : Int32))])) (fun t_ k_ => XS.iload X48.here hx rfl (hb hby at_69) rfl k_) ?_
    refine own_stW (B := T48.setTop (mkF m 74 #[.val (.int u0), .val (.int (2 : Int32)), .val (.ref x2), .val (.int (1 : Int32)), .val (.int (1 : Int32)), .val (.ref y2), .val (.int (1 : Int32))] [])) (fun t_ k_ => XS.icmpNo X48.here hx rfl (hb hby at_71) rfl (teq (by decide : (1 : Int32) = (1 : Int32))).2 k_) ?_
    refine own_stW (B := T48.setTop (mkF m 75 #[.val (.int u0), .val (.int (2 : Int32)), .val (.ref x2), .val (.int (1 : Int32)), .val (.int (1 : Int32)), .val (.ref y2), .val (.int (1 : Int32))] [(.int (1 : Int32))])) (fun t_ k_ => XS.iloadN X48.here hx rfl (hb hby at_74) rfl k_) ?_
    refine own_stW (B := T48.setTop (mkF m 77 #[.val (.int u0), .val (.int (2 : Int32)), .val (.ref x2), .val (.int (1 : Int32)), .val (.int (1 : Int32)), .val (.ref y2), .val (.int (1 : Int32))] [(.int (1 : Int32)), (.int (1 : Int32))])) (fun t_ k_ => XS.iload X48.here hx rfl (hb hby at_75) rfl k_) ?_
    refine own_stW (B := T48.setTop (mkF m 80 #[.val (.int u0), .val (.int (2 : Int32)), .val (.ref x2), .val (.int (1 : Int32)), .val (.int (1 : Int32)), .val (.ref y2), .val (.int (1 : Int32))] [])) (fun t_ k_ => XS.icmpNo X48.here hx rfl (hb hby at_77) rfl (teq (by decide : (1 : Int32) = (1 : Int32))).2 k_) ?_
    refine own_stW (B := T48.setTop (mkF m 81 #[.val (.int u0), .val (.int (2 : Int32)), .val (.ref x2), .val (.int (1 : Int32)), .val (.int (1 : Int32)), .val (.ref y2), .val (.int (1 : Int32))] [(.int (1 : Int32))])) (fun t_ k_ => XS.iconst X48.here hx rfl (hb hby at_80) k_) ?_
    refine own_stW (B := T48.setTop (mkF m 85 #[.val (.int u0), .val (.int (2 : Int32)), .val (.ref x2), .val (.int (1 : Int32)), .val (.int (1 : Int32)), .val (.ref y2), .val (.int (1 : Int32))] [(.int (1 : Int32))])) (fun t_ k_ => XS.goto X48.here hx rfl (pc0 := 81) (pc' := 85) rfl (hb hby at_81) (by decide) (by decide) k_) ?_
    have Xr : Stand p l e _ (s.setVm T46.vm) m _ below meth c T48 _ 2 16 := X48
    refine own_retNW Xr hS46 (by rw [eh48]; exact hk46) hx (t := .boolean) Bd.returns (by simp) hlk (hb hby at_85) (z' := (1 : Int32)) (by first | rfl | exact own_nb _) (by decide) (by decide) ?_
    show Q0 Z u0 cs x0 y0 z0 x1 y1 z1 x2 y2 z2 x3 y3 z3 x4 y4 z4 x5 y5 z5 h0 n0 _ T48.heap _
    rw [eh48]
    exact ⟨rfl, N48⟩
  · rw [hk6]
    refine own_stW (B := s₁.setTop (mkF m 9 #[.val (.int u0), .val (.int (3 : Int32)), .unset, .unset, .unset, .unset, .unset] [(.int (3 : Int32))])) (fun t_ k_ => XS.iloadN X0.here hx rfl (hb hby at_8) rfl k_) ?_
    obtain ⟨_, _, ⟨T55, Lq55, kq55, nq55⟩, -, X55, ⟨Lc55, hQ55, lq55, yq55, zq55⟩, st55⟩ := Jvm.LawKit.callS X0 hx (y := (⟨"com/example/histrix/histrix/ActionAdditivePinLaw", "pick", "(I)Lcom/example/histrix/histrix/Action;"⟩ : MethodName)) hown (mvT hZ (hw _ (List.mem_of_getElem? (i := 1) rfl))) (mvT hZ (hw _ (List.mem_of_getElem? (i := 2) rfl))) (mvT hZ (hw _ (List.mem_of_getElem? (i := 3) rfl))) (mvT hZ (hw _ (List.mem_of_getElem? (i := 4) rfl))) (by decide) (backOf (W := 0) (rm1_3 l Z a0 hw [] x3 h0 n0 Z0 S3) hZ (hw _ (List.mem_of_getElem? (i := 4) rfl)) (hw _ (List.mem_of_getElem? (i := 3) rfl)) (by decide) (by decide)) (g := (mkF m 9 #[.val (.int u0), .val (.int (3 : Int32)), .unset, .unset, .unset, .unset, .unset] [(.int (3 : Int32))])) rfl (by rw [hml]; rfl) (argsL := [(.int (3 : Int32))]) (rest := []) (lenOf own_pd1 rfl) rfl (by show 2 * 0 + _ ≤ _; exact Nat.le_of_eq rfl) (hb hby at_9) (fun _ _ => ⟨rfl, e0, (by decide : 0 + 0 ≤ _), (by decide : 0 + 0 ≤ _)⟩)
    dsimp only [Pt.U, Pt.locs, Pt.cells, Pt.slots] at X55 lq55 yq55 zq55 st55 hQ55
    rw [lq55, yq55, zq55] at X55
    have X55 : Stand p l e _ _ m _ below meth c T55 _ 0 0 := X55
    obtain ⟨rfl, N55q, eh55⟩ := hQ55
    have N55 := Fr.app N0 N55q
    refine own_stW (B := T55.setTop (mkF m 12 #[.val (.int u0), .val (.int (3 : Int32)), .unset, .unset, .unset, .unset, .unset] [(.ref x3)])) st55 ?_
    refine own_stW (B := T55.setTop (mkF m 13 #[.val (.int u0), .val (.int (3 : Int32)), .val (.ref x3), .unset, .unset, .unset, .unset] [])) (fun t_ k_ => XS.astoreN X55.here hx rfl (hb hby at_12) rfl rfl (l' := #[.val (.int u0), .val (.int (3 : Int32)), .val (.ref x3), .unset, .unset, .unset, .unset]) rfl k_) ?_
    refine own_stW (B := T55.setTop (mkF m 14 #[.val (.int u0), .val (.int (3 : Int32)), .val (.ref x3), .unset, .unset, .unset, .unset] [(.ref x3)])) (fun t_ k_ => XS.aloadN X55.here hx rfl (hb hby at_13) rfl rfl k_) ?_
    obtain ⟨cq56, kr56, q56a, q56b, q56c⟩ := isOf hZ eh55 E3
    obtain ⟨_, _, ⟨T56, Lq56, kq56, nq56⟩, -, X56, ⟨Lc56, hQ56, lq56, yq56, zq56⟩, st56⟩ := X55.virtualBack hx (y := (⟨"com/example/histrix/histrix/Action", "additive", "()Z"⟩ : MethodName)) (z := (⟨"com/example/histrix/histrix/Action", "additive", "()Z"⟩ : MethodName)) hown (mvT hZ (hw _ (List.mem_of_getElem? (i := 8) rfl))) (mvT hZ (hw _ (List.mem_of_getElem? (i := 9) rfl))) (notFace_of_selects (args := #[]) (mvT hZ (hw _ (List.mem_of_getElem? (i := 11) rfl)))) (mvT hZ (hw _ (List.mem_of_getElem? (i := 11) rfl))) (mvT hZ (hw _ (List.mem_of_getElem? (i := 10) rfl))) (by decide) (backOf (W := 0) (rm2_D l Z a0 hw [] x2 x3 h0 n0 Z0 S2 S3 ne3_2) hZ (hw _ (List.mem_of_getElem? (i := 12) rfl)) (hw _ (List.mem_of_getElem? (i := 6) rfl)) (by decide) (by decide)) q56a q56c (g := (mkF m 14 #[.val (.int u0), .val (.int (3 : Int32)), .val (.ref x3), .unset, .unset, .unset, .unset] [(.ref x3)])) rfl (by rw [hml]; rfl) (Steps.refl _) (argsL := []) (rest := []) (lenOf own_pd2 rfl) rfl (by show 2 * 0 + _ ≤ _; exact Nat.le_of_eq rfl) (hb hby at_14) (fun _ _ => ⟨rfl, eh55, (by decide : 0 + 0 ≤ _), (by decide : 0 + 0 ≤ _)⟩)
    dsimp only [Pt.U, Pt.locs, Pt.cells, Pt.slots] at X56 lq56 yq56 zq56 st56 hQ56
    rw [lq56, yq56, zq56] at X56
    have X56 : Stand p l e _ _ m _ below meth c T56 _ 0 0 := X56
    obtain ⟨rfl, N56q, eh56⟩ := hQ56
    have N56 := Fr.app N55 N56q
    refine own_stW (B := T56.setTop (mkF m 17 #[.val (.int u0), .val (.int (3 : Int32)), .val (.ref x3), .unset, .unset, .unset, .unset] [(.int (1 : Int32))])) (fun t_ k_ => st56.trans k_) ?_
    refine own_stW (B := T56.setTop (mkF m 18 #[.val (.int u0), .val (.int (3 : Int32)), .val (.ref x3), .val (.int (1 : Int32)), .unset, .unset, .unset] [])) (fun t_ k_ => XS.istoreN X56.here hx rfl (hb hby at_17) rfl (l' := #[.val (.int u0), .val (.int (3 : Int32)), .val (.ref x3), .val (.int (1 : Int32)), .unset, .unset, .unset]) rfl k_) ?_
    refine own_stW (B := T56.setTop (mkF m 19 #[.val (.int u0), .val (.int (3 : Int32)), .val (.ref x3), .val (.int (1 : Int32)), .unset, .unset, .unset] [(.int (3 : Int32))])) (fun t_ k_ => XS.iloadN X56.here hx rfl (hb hby at_18) rfl k_) ?_
    refine own_stW (B := T56.setTop (mkF m 20 #[.val (.int u0), .val (.int (3 : Int32)), .val (.ref x3), .val (.int (1 : Int32)), .unset, .unset, .unset] [(.int (2 : Int32)), (.int (3 : Int32))])) (fun t_ k_ => XS.iconst X56.here hx rfl (hb hby at_19) k_) ?_
    refine own_stW (B := T56.setTop (mkF m 23 #[.val (.int u0), .val (.int (3 : Int32)), .val (.ref x3), .val (.int (1 : Int32)), .unset, .unset, .unset] [])) (fun t_ k_ => XS.icmpNo X56.here hx rfl (hb hby at_20) rfl (feq (by decide : ¬ ((3 : Int32) = (2 : Int32)))).1 k_) ?_
    refine own_stW (B := T56.setTop (mkF m 24 #[.val (.int u0), .val (.int (3 : Int32)), .val (.ref x3), .val (.int (1 : Int32)), .unset, .unset, .unset] [(.int (3 : Int32))])) (fun t_ k_ => XS.iloadN X56.here hx rfl (hb hby at_23) rfl k_) ?_
    refine own_stW (B := T56.setTop (mkF m 25 #[.val (.int u0), .val (.int (3 : Int32)), .val (.ref x3), .val (.int (1 : Int32)), .unset, .unset, .unset] [(.int (3 : Int32)), (.int (3 : Int32))])) (fun t_ k_ => XS.iconst X56.here hx rfl (hb hby at_24) k_) ?_
    refine own_stW (B := T56.setTop (mkF m 28 #[.val (.int u0), .val (.int (3 : Int32)), .val (.ref x3), .val (.int (1 : Int32)), .unset, .unset, .unset] [])) (fun t_ k_ => XS.icmpNo X56.here hx rfl (hb hby at_25) rfl (teq (by decide : (3 : Int32) = (3 : Int32))).2 k_) ?_
    refine own_stW (B := T56.setTop (mkF m 29 #[.val (.int u0), .val (.int (3 : Int32)), .val (.ref x3), .val (.int (1 : Int32)), .unset, .unset, .unset] [(.int (1 : Int32))])) (fun t_ k_ => XS.iconst X56.here hx rfl (hb hby at_28) k_) ?_
    refine own_stW (B := T56.setTop (mkF m 33 #[.val (.int u0), .val (.int (3 : Int32)), .val (.ref x3), .val (.int (1 : Int32)), .unset, .unset, .unset] [(.int (1 : Int32))])) (fun t_ k_ => XS.goto X56.here hx rfl (pc0 := 29) (pc' := 33) rfl (hb hby at_29) (by decide) (by decide) k_) ?_
    refine own_stW (B := T56.setTop (mkF m 35 #[.val (.int u0), .val (.int (3 : Int32)), .val (.ref x3), .val (.int (1 : Int32)), .val (.int (1 : Int32)), .unset, .unset] [])) (fun t_ k_ => XS.istore X56.here hx rfl (hb hby at_33) rfl (l' := #[.val (.int u0), .val (.int (3 : Int32)), .val (.ref x3), .val (.int (1 : Int32)), .val (.int (1 : Int32)), .unset, .unset]) rfl k_) ?_
    refine own_stW (B := T56.setTop (mkF m 36 #[.val (.int u0), .val (.int (3 : Int32)), .val (.ref x3), .val (.int (1 : Int32)), .val (.int (1 : Int32)), .unset, .unset] [(.ref x3)])) (fun t_ k_ => XS.aloadN X56.here hx rfl (hb hby at_35) rfl rfl k_) ?_
    obtain ⟨cq57, kr57, q57a, q57b, q57c⟩ := isOf hZ eh56 E3
    obtain ⟨_, _, ⟨T57, Lq57, kq57, nq57⟩, -, X57, ⟨Lc57, hQ57, lq57, yq57, zq57⟩, st57⟩ := X56.virtualBack hx (y := (⟨"com/example/histrix/histrix/Action", "symbol", "()Ljava/lang/String;"⟩ : MethodName)) (z := (⟨"com/example/histrix/histrix/Action", "symbol", "()Ljava/lang/String;"⟩ : MethodName)) hown (mvT hZ (hw _ (List.mem_of_getElem? (i := 17) rfl))) (mvT hZ (hw _ (List.mem_of_getElem? (i := 18) rfl))) (notFace_of_selects (args := #[]) (mvT hZ (hw _ (List.mem_of_getElem? (i := 20) rfl)))) (mvT hZ (hw _ (List.mem_of_getElem? (i := 20) rfl))) (mvT hZ (hw _ (List.mem_of_getElem? (i := 19) rfl))) (by decide) (backOf (W := 0) (rm3 l Z a0 hw [] x3 (.ref y3) h0 n0 Z0 rfl F3) hZ (hw _ (List.mem_of_getElem? (i := 21) rfl)) (hw _ (List.mem_of_getElem? (i := 6) rfl)) (by decide) (by decide)) q57a q57c (g := (mkF m 36 #[.val (.int u0), .val (.int (3 : Int32)), .val (.ref x3), .val (.int (1 : Int32)), .val (.int (1 : Int32)), .unset, .unset] [(.ref x3)])) rfl (by rw [hml]; rfl) (Steps.refl _) (argsL := []) (rest := []) (lenOf own_pd3 rfl) rfl (by show 2 * 0 + _ ≤ _; exact Nat.le_of_eq rfl) (hb hby at_36) (fun _ _ => ⟨rfl, eh56, (by decide : 0 + 0 ≤ _), (by decide : 0 + 0 ≤ _)⟩)
    dsimp only [Pt.U, Pt.locs, Pt.cells, Pt.slots] at X57 lq57 yq57 zq57 st57 hQ57
    rw [lq57, yq57, zq57] at X57
    have X57 : Stand p l e _ _ m _ below meth c T57 _ 0 0 := X57
    obtain ⟨rfl, N57q, eh57⟩ := hQ57
    have N57 := Fr.app N56 N57q
    refine own_stW (B := T57.setTop (mkF m 39 #[.val (.int u0), .val (.int (3 : Int32)), .val (.ref x3), .val (.int (1 : Int32)), .val (.int (1 : Int32)), .unset, .unset] [(.ref y3)])) (fun t_ k_ => st57.trans k_) ?_
    refine own_stW (B := T57.setTop (mkF m 41 #[.val (.int u0), .val (.int (3 : Int32)), .val (.ref x3), .val (.int (1 : Int32)), .val (.int (1 : Int32)), .val (.ref y3), .unset] [])) (fun t_ k_ => XS.astore X57.here hx rfl (hb hby at_39) rfl rfl (l' := #[.val (.int u0), .val (.int (3 : Int32)), .val (.ref x3), .val (.int (1 : Int32)), .val (.int (1 : Int32)), .val (.ref y3), .unset]) rfl k_) ?_
    refine own_stW (B := T57.setTop (mkF m 43 #[.val (.int u0), .val (.int (3 : Int32)), .val (.ref x3), .val (.int (1 : Int32)), .val (.int (1 : Int32)), .val (.ref y3), .unset] [(.ref y3)])) (fun t_ k_ => XS.aload X57.here hx rfl (hb hby at_41) rfl rfl k_) ?_
    have Xw58 : Stand p l e _ (s.setVm s.vm) m _ below meth c T57 _ 0 0 := X57
    obtain ⟨al58, T58, h58, k1_58, bl58, kl58, X58, e58, E58, hS58, hk58, hZ, hown, Es58, Fc58, Fv58, Av58, la58, lb58, I58, st58⟩ := ldcSV Xw58 hx hZ hown (hw _ (List.mem_of_getElem? (i := 24) rfl)) wS eh57 hSi (Nat.zero_le _) (fun y hy => Nat.le_trans (by rw [hh]; exact hn0) (N57 y hy)) hkeep Ii (by decide) hh43 hcw (vs := ([105, 110, 99] : List Int32).map Value.int) (z := 3) ⟨by decide, by decide⟩ (by decide) (by decide) (g := (mkF m 43 #[.val (.int u0), .val (.int (3 : Int32)), .val (.ref x3), .val (.int (1 : Int32)), .val (.int (1 : Int32)), .val (.ref y3), .unset] [(.ref y3)])) rfl (hb hby at_43) (n := 12) (by decide) (by decide) (by decide) (by decide)
    have Z59 := Nat.le_trans Z0 E58.1
    have X58 : Stand p l e _ _ m _ below meth c T58 _ 2 16 := X58
    have Aa58 := own_ofArv (l := [105, 110, 99]) Av58 rfl (by decide)
    refine own_stW (B := T58.setTop (mkF m 45 #[.val (.int u0), .val (.int (3 : Int32)), .val (.ref x3), .val (.int (1 : Int32)), .val (.int (1 : Int32)), .val (.ref y3), .unset] [(.ref al58), (.ref y3)])) st58 ?_
    have u61 := C3.ext E58
    have u62 := V3.ext E58
    have u63 := A3.ext E58
    have u64 := Sc.ext E58
    have u65 := G3.ext E58
    obtain ⟨cq60, kr60, q60a, q60b, q60c⟩ := isOf hZ e58 u65
    obtain ⟨_, _, ⟨T60, Lq60, kq60, nq60⟩, -, X60, ⟨Lc60, hQ60, lq60, yq60, zq60⟩, st60⟩ := X58.virtualBack hx (y := (⟨"java/lang/String", "equals", "(Ljava/lang/Object;)Z"⟩ : MethodName)) (z := (⟨"java/lang/String", "equals", "(Ljava/lang/Object;)Z"⟩ : MethodName)) hown (mvT hZ (hw _ (List.mem_of_getElem? (i := 32) rfl))) (mvT hZ (hw _ (List.mem_of_getElem? (i := 33) rfl))) (notFace_of_selects (args := #[]) (mvT hZ (hw _ (List.mem_of_getElem? (i := 35) rfl)))) (mvT hZ (hw _ (List.mem_of_getElem? (i := 35) rfl))) (mvT hZ (hw _ (List.mem_of_getElem? (i := 34) rfl))) (by decide) (backOf (W := 0) (rm4 l Z a0 hw [] y3 al58 z3 bl58 3 3 (fun j => ([100, 101, 99] : List Int32).getD j 0) (fun j => ([105, 110, 99] : List Int32).getD j 0) cs h58 n0 Z59 Es58 u61 Fc58 u62 Fv58 u63 Aa58 (by decide) (by decide) u64 hcs) hZ (hw _ (List.mem_of_getElem? (i := 36) rfl)) (hw _ (List.mem_of_getElem? (i := 25) rfl)) (by decide) (by decide)) q60a q60c (g := (mkF m 45 #[.val (.int u0), .val (.int (3 : Int32)), .val (.ref x3), .val (.int (1 : Int32)), .val (.int (1 : Int32)), .val (.ref y3), .unset] [(.ref al58), (.ref y3)])) rfl (by rw [hml]; rfl) (Steps.refl _) (argsL := [(.ref al58)]) (rest := []) (lenOf own_pd4 rfl) rfl (by show 2 * 0 + _ ≤ _; exact Nat.le_of_eq rfl) (hb hby at_45) (fun _ _ => ⟨rfl, e58, (by decide : 2 + 0 ≤ _), (by decide : 16 + 0 ≤ _)⟩)
    dsimp only [Pt.U, Pt.locs, Pt.cells, Pt.slots] at X60 lq60 yq60 zq60 st60 hQ60
    rw [lq60, yq60, zq60] at X60
    have X60 : Stand p l e _ _ m _ below meth c T60 _ 2 16 := X60
    obtain ⟨rfl, N60q, eh60⟩ := hQ60
    have N60 := Fr.app N57 N60q
    refine own_stW (B := T60.setTop (mkF m 48 #[.val (.int u0), .val (.int (3 : Int32)), .val (.ref x3), .val (.int (1 : Int32)), .val (.int (1 : Int32)), .val (.ref y3), .unset] [(.int (own_b (own_eqs 3 3 (fun j => ([100, 101, 99] : List Int32).getD j 0) (fun j => ([105, 110, 99] : List Int32).getD j 0))))])) (fun t_ k_ => st60.trans k_) ?_
    have hc66 : (own_eqs 3 3 (fun j => ([100, 101, 99] : List Int32).getD j 0) (fun j => ([105, 110, 99] : List Int32).getD j 0)) = false := by decide
    refine own_stW (B := T60.setTop (mkF m 51 #[.val (.int u0), .val (.int (3 : Int32)), .val (.ref x3), .val (.int (1 : Int32)), .val (.int (1 : Int32)), .val (.ref y3), .unset] [])) (fun t_ k_ => XS.ifNo X60.here hx rfl (hb hby at_48) rfl ((if0 _ _).trans (teq (own_b0.mpr hc66)).2) k_) ?_
    refine own_stW (B := T60.setTop (mkF m 53 #[.val (.int u0), .val (.int (3 : Int32)), .val (.ref x3), .val (.int (1 : Int32)), .val (.int (1 : Int32)), .val (.ref y3), .unset] [(.ref y3)])) (fun t_ k_ => XS.aload X60.here hx rfl (hb hby at_51) rfl rfl k_) ?_
    have Xw67 : Stand p l e _ (s.setVm T58.vm) m _ below meth c T60 _ 2 16 := X60
    obtain ⟨al67, T67, h67, k1_67, bl67, kl67, X67, e67, E67, hS67, hk67, hZ, hown, Es67, Fc67, Fv67, Av67, la67, lb67, I67, st67⟩ := ldcSV Xw67 hx hZ hown (hw _ (List.mem_of_getElem? (i := 46) rfl)) wS eh60 hS58 hk58 (fun y hy => Nat.le_trans (by rw [hh]; exact hn0) (N60 y hy)) hkeep I58 (by decide) hh51 hcw (vs := ([100, 101, 99] : List Int32).map Value.int) (z := 3) ⟨by decide, by decide⟩ (by decide) (by decide) (g := (mkF m 53 #[.val (.int u0), .val (.int (3 : Int32)), .val (.ref x3), .val (.int (1 : Int32)), .val (.int (1 : Int32)), .val (.ref y3), .unset] [(.ref y3)])) rfl (hb hby at_53) (n := 12) (by decide) (by decide) (by decide) (by decide)
    have Z68 := Nat.le_trans Z59 E67.1
    have X67 : Stand p l e _ _ m _ below meth c T67 _ 4 32 := X67
    have Aa67 := own_ofArv (l := [100, 101, 99]) Av67 rfl (by decide)
    refine own_stW (B := T67.setTop (mkF m 55 #[.val (.int u0), .val (.int (3 : Int32)), .val (.ref x3), .val (.int (1 : Int32)), .val (.int (1 : Int32)), .val (.ref y3), .unset] [(.ref al67), (.ref y3)])) st67 ?_
    have u70 := u61.ext E67
    have u71 := u62.ext E67
    have u72 := u63.ext E67
    have u73 := u64.ext E67
    have u74 := u65.ext E67
    obtain ⟨cq69, kr69, q69a, q69b, q69c⟩ := isOf hZ e67 u74
    obtain ⟨_, _, ⟨T69, Lq69, kq69, nq69⟩, -, X69, ⟨Lc69, hQ69, lq69, yq69, zq69⟩, st69⟩ := X67.virtualBack hx (y := (⟨"java/lang/String", "equals", "(Ljava/lang/Object;)Z"⟩ : MethodName)) (z := (⟨"java/lang/String", "equals", "(Ljava/lang/Object;)Z"⟩ : MethodName)) hown (mvT hZ (hw _ (List.mem_of_getElem? (i := 32) rfl))) (mvT hZ (hw _ (List.mem_of_getElem? (i := 33) rfl))) (notFace_of_selects (args := #[]) (mvT hZ (hw _ (List.mem_of_getElem? (i := 35) rfl)))) (mvT hZ (hw _ (List.mem_of_getElem? (i := 35) rfl))) (mvT hZ (hw _ (List.mem_of_getElem? (i := 34) rfl))) (by decide) (backOf (W := 0) (rm4 l Z a0 hw [] y3 al67 z3 bl67 3 3 (fun j => ([100, 101, 99] : List Int32).getD j 0) (fun j => ([100, 101, 99] : List Int32).getD j 0) cs h67 n0 Z68 Es67 u70 Fc67 u71 Fv67 u72 Aa67 (by decide) (by decide) u73 hcs) hZ (hw _ (List.mem_of_getElem? (i := 36) rfl)) (hw _ (List.mem_of_getElem? (i := 25) rfl)) (by decide) (by decide)) q69a q69c (g := (mkF m 55 #[.val (.int u0), .val (.int (3 : Int32)), .val (.ref x3), .val (.int (1 : Int32)), .val (.int (1 : Int32)), .val (.ref y3), .unset] [(.ref al67), (.ref y3)])) rfl (by rw [hml]; rfl) (Steps.refl _) (argsL := [(.ref al67)]) (rest := []) (lenOf own_pd4 rfl) rfl (by show 2 * 0 + _ ≤ _; exact Nat.le_of_eq rfl) (hb hby at_55) (fun _ _ => ⟨rfl, e67, (by decide : 4 + 0 ≤ _), (by decide : 32 + 0 ≤ _)⟩)
    dsimp only [Pt.U, Pt.locs, Pt.cells, Pt.slots] at X69 lq69 yq69 zq69 st69 hQ69
    rw [lq69, yq69, zq69] at X69
    have X69 : Stand p l e _ _ m _ below meth c T69 _ 4 32 := X69
    obtain ⟨rfl, N69q, eh69⟩ := hQ69
    have N69 := Fr.app N60 N69q
    refine own_stW (B := T69.setTop (mkF m 58 #[.val (.int u0), .val (.int (3 : Int32)), .val (.ref x3), .val (.int (1 : Int32)), .val (.int (1 : Int32)), .val (.ref y3), .unset] [(.int (own_b (own_eqs 3 3 (fun j => ([100, 101, 99] : List Int32).getD j 0) (fun j => ([100, 101, 99] : List Int32).getD j 0))))])) (fun t_ k_ => st69.trans k_) ?_
    have hc75 : ¬ ((own_eqs 3 3 (fun j => ([100, 101, 99] : List Int32).getD j 0) (fun j => ([100, 101, 99] : List Int32).getD j 0)) = false) := by decide
    refine own_stW (B := T69.setTop (mkF m 61 #[.val (.int u0), .val (.int (3 : Int32)), .val (.ref x3), .val (.int (1 : Int32)), .val (.int (1 : Int32)), .val (.ref y3), .unset] [])) (fun t_ k_ => XS.ifNo X69.here hx rfl (hb hby at_58) rfl ((if0 _ _).trans (feq (fun q => hc75 (own_b0.mp q))).1) k_) ?_
    refine own_stW (B := T69.setTop (mkF m 62 #[.val (.int u0), .val (.int (3 : Int32)), .val (.ref x3), .val (.int (1 : Int32)), .val (.int (1 : Int32)), .val (.ref y3), .unset] [(.int (1 : Int32))])) (fun t_ k_ => XS.iconst X69.here hx rfl (hb hby at_61) k_) ?_
    refine own_stW (B := T69.setTop (mkF m 66 #[.val (.int u0), .val (.int (3 : Int32)), .val (.ref x3), .val (.int (1 : Int32)), .val (.int (1 : Int32)), .val (.ref y3), .unset] [(.int (1 : Int32))])) (fun t_ k_ => XS.goto X69.here hx rfl (pc0 := 62) (pc' := 66) rfl (hb hby at_62) (by decide) (by decide) k_) ?_
    refine own_stW (B := T69.setTop (mkF m 68 #[.val (.int u0), .val (.int (3 : Int32)), .val (.ref x3), .val (.int (1 : Int32)), .val (.int (1 : Int32)), .val (.ref y3), .val (.int (1 : Int32))] [])) (fun t_ k_ => XS.istore X69.here hx rfl (hb hby at_66) rfl (l' := #[.val (.int u0), .val (.int (3 : Int32)), .val (.ref x3), .val (.int (1 : Int32)), .val (.int (1 : Int32)), .val (.ref y3), .val (.int (1 : Int32))]) rfl k_) ?_
    refine own_stW (B := T69.setTop (mkF m 69 #[.val (.int u0), .val (.int (3 : Int32)), .val (.ref x3), .val (.int (1 : Int32)), .val (.int (1 : Int32)), .val (.ref y3), .val (.int (1 : Int32))] [(.int (1 : Int32))])) (fun t_ k_ => XS.iloadN X69.here hx rfl (hb hby at_68) rfl k_) ?_
    refine own_stW (B := T69.setTop (mkF m 71 #[.val (.int u0), .val (.int (3 : Int32)), .val (.ref x3), .val (.int (1 : Int32)), .val (.int (1 : Int32)), .val (.ref y3), .val (.int (1 : Int32))] [(.int (1 : Int32)), (.int (1 : Int32))])) (fun t_ k_ => XS.iload X69.here hx rfl (hb hby at_69) rfl k_) ?_
    refine own_stW (B := T69.setTop (mkF m 74 #[.val (.int u0), .val (.int (3 : Int32)), .val (.ref x3), .val (.int (1 : Int32)), .val (.int (1 : Int32)), .val (.ref y3), .val (.int (1 : Int32))] [])) (fun t_ k_ => XS.icmpNo X69.here hx rfl (hb hby at_71) rfl (teq (by decide : (1 : Int32) = (1 : Int32))).2 k_) ?_
    refine own_stW (B := T69.setTop (mkF m 75 #[.val (.int u0), .val (.int (3 : Int32)), .val (.ref x3), .val (.int (1 : Int32)), .val (.int (1 : Int32)), .val (.ref y3), .val (.int (1 : Int32))] [(.int (1 : Int32))])) (fun t_ k_ => XS.iloadN X69.here hx rfl (hb hby at_74) rfl k_) ?_
    refine own_stW (B := T69.setTop (mkF m 77 #[.val (.int u0), .val (.int (3 : Int32)), .val (.ref x3), .val (.int (1 : Int32)), .val (.int (1 : Int32)), .val (.ref y3), .val (.int (1 : Int32))] [(.int (1 : Int32)), (.int (1 : Int32))])) (fun t_ k_ => XS.iload X69.here hx rfl (hb hby at_75) rfl k_) ?_
    refine own_stW (B := T69.setTop (mkF m 80 #[.val (.int u0), .val (.int (3 : Int32)), .val (.ref x3), .val (.int (1 : Int32)), .val (.int (1 : Int32)), .val (.ref y3), .val (.int (1 : Int32))] [])) (fun t_ k_ => XS.icmpNo X69.here hx rfl (hb hby at_77) rfl (teq (by decide : (1 : Int32) = (1 : Int32))).2 k_) ?_
    refine own_stW (B := T69.setTop (mkF m 81 #[.val (.int u0), .val (.int (3 : Int32)), .val (.ref x3), .val (.int (1 : Int32)), .val (.int (1 : Int32)), .val (.ref y3), .val (.int (1 : Int32))] [(.int (1 : Int32))])) (fun t_ k_ => XS.iconst X69.here hx rfl (hb hby at_80) k_) ?_
    refine own_stW (B := T69.setTop (mkF m 85 #[.val (.int u0), .val (.int (3 : Int32)), .val (.ref x3), .val (.int (1 : Int32)), .val (.int (1 : Int32)), .val (.ref y3), .val (.int (1 : Int32))] [(.int (1 : Int32))])) (fun t_ k_ => XS.goto X69.here hx rfl (pc0 := 81) (pc' := 85) rfl (hb hby at_81) (by decide) (by decide) k_) ?_
    have Xr : Stand p l e _ (s.setVm T67.vm) m _ below meth c T69 _ 4 32 := X69
    refine own_retNW Xr hS67 (by rw [eh69]; exact hk67) hx (t := .boolean) Bd.returns (by simp) hlk (hb hby at_85) (z' := (1 : Int32)) (by first | rfl | exact own_nb _) (by decide) (by decide) ?_
    show Q0 Z u0 cs x0 y0 z0 x1 y1 z1 x2 y2 z2 x3 y3 z3 x4 y4 z4 x5 y5 z5 h0 n0 _ T69.heap _
    rw [eh69]
    exact ⟨rfl, N69⟩
  · rw [hk6]
    refine own_stW (B := s₁.setTop (mkF m 9 #[.val (.int u0), .val (.int (4 : Int32)), .unset, .unset, .unset, .unset, .unset] [(.int (4 : Int32))])) (fun t_ k_ => XS.iloadN X0.here hx rfl (hb hby at_8) rfl k_) ?_
    obtain ⟨_, _, ⟨T76, Lq76, kq76, nq76⟩, -, X76, ⟨Lc76, hQ76, lq76, yq76, zq76⟩, st76⟩ := Jvm.LawKit.callS X0 hx (y := (⟨"com/example/histrix/histrix/ActionAdditivePinLaw", "pick", "(I)Lcom/example/histrix/histrix/Action;"⟩ : MethodName)) hown (mvT hZ (hw _ (List.mem_of_getElem? (i := 1) rfl))) (mvT hZ (hw _ (List.mem_of_getElem? (i := 2) rfl))) (mvT hZ (hw _ (List.mem_of_getElem? (i := 3) rfl))) (mvT hZ (hw _ (List.mem_of_getElem? (i := 4) rfl))) (by decide) (backOf (W := 0) (rm1_4 l Z a0 hw [] x4 h0 n0 Z0 S4) hZ (hw _ (List.mem_of_getElem? (i := 4) rfl)) (hw _ (List.mem_of_getElem? (i := 3) rfl)) (by decide) (by decide)) (g := (mkF m 9 #[.val (.int u0), .val (.int (4 : Int32)), .unset, .unset, .unset, .unset, .unset] [(.int (4 : Int32))])) rfl (by rw [hml]; rfl) (argsL := [(.int (4 : Int32))]) (rest := []) (lenOf own_pd1 rfl) rfl (by show 2 * 0 + _ ≤ _; exact Nat.le_of_eq rfl) (hb hby at_9) (fun _ _ => ⟨rfl, e0, (by decide : 0 + 0 ≤ _), (by decide : 0 + 0 ≤ _)⟩)
    dsimp only [Pt.U, Pt.locs, Pt.cells, Pt.slots] at X76 lq76 yq76 zq76 st76 hQ76
    rw [lq76, yq76, zq76] at X76
    have X76 : Stand p l e _ _ m _ below meth c T76 _ 0 0 := X76
    obtain ⟨rfl, N76q, eh76⟩ := hQ76
    have N76 := Fr.app N0 N76q
    refine own_stW (B := T76.setTop (mkF m 12 #[.val (.int u0), .val (.int (4 : Int32)), .unset, .unset, .unset, .unset, .unset] [(.ref x4)])) st76 ?_
    refine own_stW (B := T76.setTop (mkF m 13 #[.val (.int u0), .val (.int (4 : Int32)), .val (.ref x4), .unset, .unset, .unset, .unset] [])) (fun t_ k_ => XS.astoreN X76.here hx rfl (hb hby at_12) rfl rfl (l' := #[.val (.int u0), .val (.int (4 : Int32)), .val (.ref x4), .unset, .unset, .unset, .unset]) rfl k_) ?_
    refine own_stW (B := T76.setTop (mkF m 14 #[.val (.int u0), .val (.int (4 : Int32)), .val (.ref x4), .unset, .unset, .unset, .unset] [(.ref x4)])) (fun t_ k_ => XS.aloadN X76.here hx rfl (hb hby at_13) rfl rfl k_) ?_
    obtain ⟨cq77, kr77, q77a, q77b, q77c⟩ := isOf hZ eh76 E4
    obtain ⟨_, _, ⟨T77, Lq77, kq77, nq77⟩, -, X77, ⟨Lc77, hQ77, lq77, yq77, zq77⟩, st77⟩ := X76.virtualBack hx (y := (⟨"com/example/histrix/histrix/Action", "additive", "()Z"⟩ : MethodName)) (z := (⟨"com/example/histrix/histrix/Action", "additive", "()Z"⟩ : MethodName)) hown (mvT hZ (hw _ (List.mem_of_getElem? (i := 8) rfl))) (mvT hZ (hw _ (List.mem_of_getElem? (i := 9) rfl))) (notFace_of_selects (args := #[]) (mvT hZ (hw _ (List.mem_of_getElem? (i := 11) rfl)))) (mvT hZ (hw _ (List.mem_of_getElem? (i := 11) rfl))) (mvT hZ (hw _ (List.mem_of_getElem? (i := 10) rfl))) (by decide) (backOf (W := 0) (rm2_N l Z a0 hw [] x4 x2 x3 h0 n0 Z0 S2 S3 ne4_2 ne4_3) hZ (hw _ (List.mem_of_getElem? (i := 12) rfl)) (hw _ (List.mem_of_getElem? (i := 6) rfl)) (by decide) (by decide)) q77a q77c (g := (mkF m 14 #[.val (.int u0), .val (.int (4 : Int32)), .val (.ref x4), .unset, .unset, .unset, .unset] [(.ref x4)])) rfl (by rw [hml]; rfl) (Steps.refl _) (argsL := []) (rest := []) (lenOf own_pd2 rfl) rfl (by show 2 * 0 + _ ≤ _; exact Nat.le_of_eq rfl) (hb hby at_14) (fun _ _ => ⟨rfl, eh76, (by decide : 0 + 0 ≤ _), (by decide : 0 + 0 ≤ _)⟩)
    dsimp only [Pt.U, Pt.locs, Pt.cells, Pt.slots] at X77 lq77 yq77 zq77 st77 hQ77
    rw [lq77, yq77, zq77] at X77
    have X77 : Stand p l e _ _ m _ below meth c T77 _ 0 0 := X77
    obtain ⟨rfl, N77q, eh77⟩ := hQ77
    have N77 := Fr.app N76 N77q
    refine own_stW (B := T77.setTop (mkF m 17 #[.val (.int u0), .val (.int (4 : Int32)), .val (.ref x4), .unset, .unset, .unset, .unset] [(.int (0 : Int32))])) (fun t_ k_ => st77.trans k_) ?_
    refine own_stW (B := T77.setTop (mkF m 18 #[.val (.int u0), .val (.int (4 : Int32)), .val (.ref x4), .val (.int (0 : Int32)), .unset, .unset, .unset] [])) (fun t_ k_ => XS.istoreN X77.here hx rfl (hb hby at_17) rfl (l' := #[.val (.int u0), .val (.int (4 : Int32)), .val (.ref x4), .val (.int (0 : Int32)), .unset, .unset, .unset]) rfl k_) ?_
    refine own_stW (B := T77.setTop (mkF m 19 #[.val (.int u0), .val (.int (4 : Int32)), .val (.ref x4), .val (.int (0 : Int32)), .unset, .unset, .unset] [(.int (4 : Int32))])) (fun t_ k_ => XS.iloadN X77.here hx rfl (hb hby at_18) rfl k_) ?_
    refine own_stW (B := T77.setTop (mkF m 20 #[.val (.int u0), .val (.int (4 : Int32)), .val (.ref x4), .val (.int (0 : Int32)), .unset, .unset, .unset] [(.int (2 : Int32)), (.int (4 : Int32))])) (fun t_ k_ => XS.iconst X77.here hx rfl (hb hby at_19) k_) ?_
    refine own_stW (B := T77.setTop (mkF m 23 #[.val (.int u0), .val (.int (4 : Int32)), .val (.ref x4), .val (.int (0 : Int32)), .unset, .unset, .unset] [])) (fun t_ k_ => XS.icmpNo X77.here hx rfl (hb hby at_20) rfl (feq (by decide : ¬ ((4 : Int32) = (2 : Int32)))).1 k_) ?_
    refine own_stW (B := T77.setTop (mkF m 24 #[.val (.int u0), .val (.int (4 : Int32)), .val (.ref x4), .val (.int (0 : Int32)), .unset, .unset, .unset] [(.int (4 : Int32))])) (fun t_ k_ => XS.iloadN X77.here hx rfl (hb hby at_23) rfl k_) ?_
    refine own_stW (B := T77.setTop (mkF m 25 #[.val (.int u0), .val (.int (4 : Int32)), .val (.ref x4), .val (.int (0 : Int32)), .unset, .unset, .unset] [(.int (3 : Int32)), (.int (4 : Int32))])) (fun t_ k_ => XS.iconst X77.here hx rfl (hb hby at_24) k_) ?_
    refine own_stW (B := T77.setTop (mkF m 32 #[.val (.int u0), .val (.int (4 : Int32)), .val (.ref x4), .val (.int (0 : Int32)), .unset, .unset, .unset] [])) (fun t_ k_ => XS.icmpYes X77.here hx rfl (pc0 := 25) (pc' := 32) rfl (hb hby at_25) rfl (feq (by decide : ¬ ((4 : Int32) = (3 : Int32)))).2 (by decide) (by decide) k_) ?_
    refine own_stW (B := T77.setTop (mkF m 33 #[.val (.int u0), .val (.int (4 : Int32)), .val (.ref x4), .val (.int (0 : Int32)), .unset, .unset, .unset] [(.int (0 : Int32))])) (fun t_ k_ => XS.iconst X77.here hx rfl (hb hby at_32) k_) ?_
    refine own_stW (B := T77.setTop (mkF m 35 #[.val (.int u0), .val (.int (4 : Int32)), .val (.ref x4), .val (.int (0 : Int32)), .val (.int (0 : Int32)), .unset, .unset] [])) (fun t_ k_ => XS.istore X77.here hx rfl (hb hby at_33) rfl (l' := #[.val (.int u0), .val (.int (4 : Int32)), .val (.ref x4), .val (.int (0 : Int32)), .val (.int (0 : Int32)), .unset, .unset]) rfl k_) ?_
    refine own_stW (B := T77.setTop (mkF m 36 #[.val (.int u0), .val (.int (4 : Int32)), .val (.ref x4), .val (.int (0 : Int32)), .val (.int (0 : Int32)), .unset, .unset] [(.ref x4)])) (fun t_ k_ => XS.aloadN X77.here hx rfl (hb hby at_35) rfl rfl k_) ?_
    obtain ⟨cq78, kr78, q78a, q78b, q78c⟩ := isOf hZ eh77 E4
    obtain ⟨_, _, ⟨T78, Lq78, kq78, nq78⟩, -, X78, ⟨Lc78, hQ78, lq78, yq78, zq78⟩, st78⟩ := X77.virtualBack hx (y := (⟨"com/example/histrix/histrix/Action", "symbol", "()Ljava/lang/String;"⟩ : MethodName)) (z := (⟨"com/example/histrix/histrix/Action", "symbol", "()Ljava/lang/String;"⟩ : MethodName)) hown (mvT hZ (hw _ (List.mem_of_getElem? (i := 17) rfl))) (mvT hZ (hw _ (List.mem_of_getElem? (i := 18) rfl))) (notFace_of_selects (args := #[]) (mvT hZ (hw _ (List.mem_of_getElem? (i := 20) rfl)))) (mvT hZ (hw _ (List.mem_of_getElem? (i := 20) rfl))) (mvT hZ (hw _ (List.mem_of_getElem? (i := 19) rfl))) (by decide) (backOf (W := 0) (rm3 l Z a0 hw [] x4 (.ref y4) h0 n0 Z0 rfl F4) hZ (hw _ (List.mem_of_getElem? (i := 21) rfl)) (hw _ (List.mem_of_getElem? (i := 6) rfl)) (by decide) (by decide)) q78a q78c (g := (mkF m 36 #[.val (.int u0), .val (.int (4 : Int32)), .val (.ref x4), .val (.int (0 : Int32)), .val (.int (0 : Int32)), .unset, .unset] [(.ref x4)])) rfl (by rw [hml]; rfl) (Steps.refl _) (argsL := []) (rest := []) (lenOf own_pd3 rfl) rfl (by show 2 * 0 + _ ≤ _; exact Nat.le_of_eq rfl) (hb hby at_36) (fun _ _ => ⟨rfl, eh77, (by decide : 0 + 0 ≤ _), (by decide : 0 + 0 ≤ _)⟩)
    dsimp only [Pt.U, Pt.locs, Pt.cells, Pt.slots] at X78 lq78 yq78 zq78 st78 hQ78
    rw [lq78, yq78, zq78] at X78
    have X78 : Stand p l e _ _ m _ below meth c T78 _ 0 0 := X78
    obtain ⟨rfl, N78q, eh78⟩ := hQ78
    have N78 := Fr.app N77 N78q
    refine own_stW (B := T78.setTop (mkF m 39 #[.val (.int u0), .val (.int (4 : Int32)), .val (.ref x4), .val (.int (0 : Int32)), .val (.int (0 : Int32)), .unset, .unset] [(.ref y4)])) (fun t_ k_ => st78.trans k_) ?_
    refine own_stW (B := T78.setTop (mkF m 41 #[.val (.int u0), .val (.int (4 : Int32)), .val (.ref x4), .val (.int (0 : Int32)), .val (.int (0 : Int32)), .val (.ref y4), .unset] [])) (fun t_ k_ => XS.astore X78.here hx rfl (hb hby at_39) rfl rfl (l' := #[.val (.int u0), .val (.int (4 : Int32)), .val (.ref x4), .val (.int (0 : Int32)), .val (.int (0 : Int32)), .val (.ref y4), .unset]) rfl k_) ?_
    refine own_stW (B := T78.setTop (mkF m 43 #[.val (.int u0), .val (.int (4 : Int32)), .val (.ref x4), .val (.int (0 : Int32)), .val (.int (0 : Int32)), .val (.ref y4), .unset] [(.ref y4)])) (fun t_ k_ => XS.aload X78.here hx rfl (hb hby at_41) rfl rfl k_) ?_
    have Xw79 : Stand p l e _ (s.setVm s.vm) m _ below meth c T78 _ 0 0 := X78
    obtain ⟨al79, T79, h79, k1_79, bl79, kl79, X79, e79, E79, hS79, hk79, hZ, hown, Es79, Fc79, Fv79, Av79, la79, lb79, I79, st79⟩ := ldcSV Xw79 hx hZ hown (hw _ (List.mem_of_getElem? (i := 24) rfl)) wS eh78 hSi (Nat.zero_le _) (fun y hy => Nat.le_trans (by rw [hh]; exact hn0) (N78 y hy)) hkeep Ii (by decide) hh43 hcw (vs := ([105, 110, 99] : List Int32).map Value.int) (z := 3) ⟨by decide, by decide⟩ (by decide) (by decide) (g := (mkF m 43 #[.val (.int u0), .val (.int (4 : Int32)), .val (.ref x4), .val (.int (0 : Int32)), .val (.int (0 : Int32)), .val (.ref y4), .unset] [(.ref y4)])) rfl (hb hby at_43) (n := 12) (by decide) (by decide) (by decide) (by decide)
    have Z80 := Nat.le_trans Z0 E79.1
    have X79 : Stand p l e _ _ m _ below meth c T79 _ 2 16 := X79
    have Aa79 := own_ofArv (l := [105, 110, 99]) Av79 rfl (by decide)
    refine own_stW (B := T79.setTop (mkF m 45 #[.val (.int u0), .val (.int (4 : Int32)), .val (.ref x4), .val (.int (0 : Int32)), .val (.int (0 : Int32)), .val (.ref y4), .unset] [(.ref al79), (.ref y4)])) st79 ?_
    have u82 := C4.ext E79
    have u83 := V4.ext E79
    have u84 := A4.ext E79
    have u85 := Sc.ext E79
    have u86 := G4.ext E79
    obtain ⟨cq81, kr81, q81a, q81b, q81c⟩ := isOf hZ e79 u86
    obtain ⟨_, _, ⟨T81, Lq81, kq81, nq81⟩, -, X81, ⟨Lc81, hQ81, lq81, yq81, zq81⟩, st81⟩ := X79.virtualBack hx (y := (⟨"java/lang/String", "equals", "(Ljava/lang/Object;)Z"⟩ : MethodName)) (z := (⟨"java/lang/String", "equals", "(Ljava/lang/Object;)Z"⟩ : MethodName)) hown (mvT hZ (hw _ (List.mem_of_getElem? (i := 32) rfl))) (mvT hZ (hw _ (List.mem_of_getElem? (i := 33) rfl))) (notFace_of_selects (args := #[]) (mvT hZ (hw _ (List.mem_of_getElem? (i := 35) rfl)))) (mvT hZ (hw _ (List.mem_of_getElem? (i := 35) rfl))) (mvT hZ (hw _ (List.mem_of_getElem? (i := 34) rfl))) (by decide) (backOf (W := 0) (rm4 l Z a0 hw [] y4 al79 z4 bl79 1 3 (fun j => ([99] : List Int32).getD j 0) (fun j => ([105, 110, 99] : List Int32).getD j 0) cs h79 n0 Z80 Es79 u82 Fc79 u83 Fv79 u84 Aa79 (by decide) (by decide) u85 hcs) hZ (hw _ (List.mem_of_getElem? (i := 36) rfl)) (hw _ (List.mem_of_getElem? (i := 25) rfl)) (by decide) (by decide)) q81a q81c (g := (mkF m 45 #[.val (.int u0), .val (.int (4 : Int32)), .val (.ref x4), .val (.int (0 : Int32)), .val (.int (0 : Int32)), .val (.ref y4), .unset] [(.ref al79), (.ref y4)])) rfl (by rw [hml]; rfl) (Steps.refl _) (argsL := [(.ref al79)]) (rest := []) (lenOf own_pd4 rfl) rfl (by show 2 * 0 + _ ≤ _; exact Nat.le_of_eq rfl) (hb hby at_45) (fun _ _ => ⟨rfl, e79, (by decide : 2 + 0 ≤ _), (by decide : 16 + 0 ≤ _)⟩)
    dsimp only [Pt.U, Pt.locs, Pt.cells, Pt.slots] at X81 lq81 yq81 zq81 st81 hQ81
    rw [lq81, yq81, zq81] at X81
    have X81 : Stand p l e _ _ m _ below meth c T81 _ 2 16 := X81
    obtain ⟨rfl, N81q, eh81⟩ := hQ81
    have N81 := Fr.app N78 N81q
    refine own_stW (B := T81.setTop (mkF m 48 #[.val (.int u0), .val (.int (4 : Int32)), .val (.ref x4), .val (.int (0 : Int32)), .val (.int (0 : Int32)), .val (.ref y4), .unset] [(.int (own_b (own_eqs 1 3 (fun j => ([99] : List Int32).getD j 0) (fun j => ([105, 110, 99] : List Int32).getD j 0))))])) (fun t_ k_ => st81.trans k_) ?_
    have hc87 : (own_eqs 1 3 (fun j => ([99] : List Int32).getD j 0) (fun j => ([105, 110, 99] : List Int32).getD j 0)) = false := by decide
    refine own_stW (B := T81.setTop (mkF m 51 #[.val (.int u0), .val (.int (4 : Int32)), .val (.ref x4), .val (.int (0 : Int32)), .val (.int (0 : Int32)), .val (.ref y4), .unset] [])) (fun t_ k_ => XS.ifNo X81.here hx rfl (hb hby at_48) rfl ((if0 _ _).trans (teq (own_b0.mpr hc87)).2) k_) ?_
    refine own_stW (B := T81.setTop (mkF m 53 #[.val (.int u0), .val (.int (4 : Int32)), .val (.ref x4), .val (.int (0 : Int32)), .val (.int (0 : Int32)), .val (.ref y4), .unset] [(.ref y4)])) (fun t_ k_ => XS.aload X81.here hx rfl (hb hby at_51) rfl rfl k_) ?_
    have Xw88 : Stand p l e _ (s.setVm T79.vm) m _ below meth c T81 _ 2 16 := X81
    obtain ⟨al88, T88, h88, k1_88, bl88, kl88, X88, e88, E88, hS88, hk88, hZ, hown, Es88, Fc88, Fv88, Av88, la88, lb88, I88, st88⟩ := ldcSV Xw88 hx hZ hown (hw _ (List.mem_of_getElem? (i := 46) rfl)) wS eh81 hS79 hk79 (fun y hy => Nat.le_trans (by rw [hh]; exact hn0) (N81 y hy)) hkeep I79 (by decide) hh51 hcw (vs := ([100, 101, 99] : List Int32).map Value.int) (z := 3) ⟨by decide, by decide⟩ (by decide) (by decide) (g := (mkF m 53 #[.val (.int u0), .val (.int (4 : Int32)), .val (.ref x4), .val (.int (0 : Int32)), .val (.int (0 : Int32)), .val (.ref y4), .unset] [(.ref y4)])) rfl (hb hby at_53) (n := 12) (by decide) (by decide) (by decide) (by decide)
    have Z89 := Nat.le_trans Z80 E88.1
    have X88 : Stand p l e _ _ m _ below meth c T88 _ 4 32 := X88
    have Aa88 := own_ofArv (l := [100, 101, 99]) Av88 rfl (by decide)
    refine own_stW (B := T88.setTop (mkF m 55 #[.val (.int u0), .val (.int (4 : Int32)), .val (.ref x4), .val (.int (0 : Int32)), .val (.int (0 : Int32)), .val (.ref y4), .unset] [(.ref al88), (.ref y4)])) st88 ?_
    have u91 := u82.ext E88
    have u92 := u83.ext E88
    have u93 := u84.ext E88
    have u94 := u85.ext E88
    have u95 := u86.ext E88
    obtain ⟨cq90, kr90, q90a, q90b, q90c⟩ := isOf hZ e88 u95
    obtain ⟨_, _, ⟨T90, Lq90, kq90, nq90⟩, -, X90, ⟨Lc90, hQ90, lq90, yq90, zq90⟩, st90⟩ := X88.virtualBack hx (y := (⟨"java/lang/String", "equals", "(Ljava/lang/Object;)Z"⟩ : MethodName)) (z := (⟨"java/lang/String", "equals", "(Ljava/lang/Object;)Z"⟩ : MethodName)) hown (mvT hZ (hw _ (List.mem_of_getElem? (i := 32) rfl))) (mvT hZ (hw _ (List.mem_of_getElem? (i := 33) rfl))) (notFace_of_selects (args := #[]) (mvT hZ (hw _ (List.mem_of_getElem? (i := 35) rfl)))) (mvT hZ (hw _ (List.mem_of_getElem? (i := 35) rfl))) (mvT hZ (hw _ (List.mem_of_getElem? (i := 34) rfl))) (by decide) (backOf (W := 0) (rm4 l Z a0 hw [] y4 al88 z4 bl88 1 3 (fun j => ([99] : List Int32).getD j 0) (fun j => ([100, 101, 99] : List Int32).getD j 0) cs h88 n0 Z89 Es88 u91 Fc88 u92 Fv88 u93 Aa88 (by decide) (by decide) u94 hcs) hZ (hw _ (List.mem_of_getElem? (i := 36) rfl)) (hw _ (List.mem_of_getElem? (i := 25) rfl)) (by decide) (by decide)) q90a q90c (g := (mkF m 55 #[.val (.int u0), .val (.int (4 : Int32)), .val (.ref x4), .val (.int (0 : Int32)), .val (.int (0 : Int32)), .val (.ref y4), .unset] [(.ref al88), (.ref y4)])) rfl (by rw [hml]; rfl) (Steps.refl _) (argsL := [(.ref al88)]) (rest := []) (lenOf own_pd4 rfl) rfl (by show 2 * 0 + _ ≤ _; exact Nat.le_of_eq rfl) (hb hby at_55) (fun _ _ => ⟨rfl, e88, (by decide : 4 + 0 ≤ _), (by decide : 32 + 0 ≤ _)⟩)
    dsimp only [Pt.U, Pt.locs, Pt.cells, Pt.slots] at X90 lq90 yq90 zq90 st90 hQ90
    rw [lq90, yq90, zq90] at X90
    have X90 : Stand p l e _ _ m _ below meth c T90 _ 4 32 := X90
    obtain ⟨rfl, N90q, eh90⟩ := hQ90
    have N90 := Fr.app N81 N90q
    refine own_stW (B := T90.setTop (mkF m 58 #[.val (.int u0), .val (.int (4 : Int32)), .val (.ref x4), .val (.int (0 : Int32)), .val (.int (0 : Int32)), .val (.ref y4), .unset] [(.int (own_b (own_eqs 1 3 (fun j => ([99] : List Int32).getD j 0) (fun j => ([100, 101, 99] : List Int32).getD j 0))))])) (fun t_ k_ => st90.trans k_) ?_
    have hc96 : (own_eqs 1 3 (fun j => ([99] : List Int32).getD j 0) (fun j => ([100, 101, 99] : List Int32).getD j 0)) = false := by decide
    refine own_stW (B := T90.setTop (mkF m 65 #[.val (.int u0), .val (.int (4 : Int32)), .val (.ref x4), .val (.int (0 : Int32)), .val (.int (0 : Int32)), .val (.ref y4), .unset] [])) (fun t_ k_ => XS.ifYes X90.here hx rfl (pc0 := 58) (pc' := 65) rfl (hb hby at_58) rfl ((if0 _ _).trans (teq (own_b0.mpr hc96)).1) (by decide) (by decide) k_) ?_
    refine own_stW (B := T90.setTop (mkF m 66 #[.val (.int u0), .val (.int (4 : Int32)), .val (.ref x4), .val (.int (0 : Int32)), .val (.int (0 : Int32)), .val (.ref y4), .unset] [(.int (0 : Int32))])) (fun t_ k_ => XS.iconst X90.here hx rfl (hb hby at_65) k_) ?_
    refine own_stW (B := T90.setTop (mkF m 68 #[.val (.int u0), .val (.int (4 : Int32)), .val (.ref x4), .val (.int (0 : Int32)), .val (.int (0 : Int32)), .val (.ref y4), .val (.int (0 : Int32))] [])) (fun t_ k_ => XS.istore X90.here hx rfl (hb hby at_66) rfl (l' := #[.val (.int u0), .val (.int (4 : Int32)), .val (.ref x4), .val (.int (0 : Int32)), .val (.int (0 : Int32)), .val (.ref y4), .val (.int (0 : Int32))]) rfl k_) ?_
    refine own_stW (B := T90.setTop (mkF m 69 #[.val (.int u0), .val (.int (4 : Int32)), .val (.ref x4), .val (.int (0 : Int32)), .val (.int (0 : Int32)), .val (.ref y4), .val (.int (0 : Int32))] [(.int (0 : Int32))])) (fun t_ k_ => XS.iloadN X90.here hx rfl (hb hby at_68) rfl k_) ?_
    refine own_stW (B := T90.setTop (mkF m 71 #[.val (.int u0), .val (.int (4 : Int32)), .val (.ref x4), .val (.int (0 : Int32)), .val (.int (0 : Int32)), .val (.ref y4), .val (.int (0 : Int32))] [(.int (0 : Int32)), (.int (0 : Int32))])) (fun t_ k_ => XS.iload X90.here hx rfl (hb hby at_69) rfl k_) ?_
    refine own_stW (B := T90.setTop (mkF m 74 #[.val (.int u0), .val (.int (4 : Int32)), .val (.ref x4), .val (.int (0 : Int32)), .val (.int (0 : Int32)), .val (.ref y4), .val (.int (0 : Int32))] [])) (fun t_ k_ => XS.icmpNo X90.here hx rfl (hb hby at_71) rfl (teq (by decide : (0 : Int32) = (0 : Int32))).2 k_) ?_
    refine own_stW (B := T90.setTop (mkF m 75 #[.val (.int u0), .val (.int (4 : Int32)), .val (.ref x4), .val (.int (0 : Int32)), .val (.int (0 : Int32)), .val (.ref y4), .val (.int (0 : Int32))] [(.int (0 : Int32))])) (fun t_ k_ => XS.iloadN X90.here hx rfl (hb hby at_74) rfl k_) ?_
    refine own_stW (B := T90.setTop (mkF m 77 #[.val (.int u0), .val (.int (4 : Int32)), .val (.ref x4), .val (.int (0 : Int32)), .val (.int (0 : Int32)), .val (.ref y4), .val (.int (0 : Int32))] [(.int (0 : Int32)), (.int (0 : Int32))])) (fun t_ k_ => XS.iload X90.here hx rfl (hb hby at_75) rfl k_) ?_
    refine own_stW (B := T90.setTop (mkF m 80 #[.val (.int u0), .val (.int (4 : Int32)), .val (.ref x4), .val (.int (0 : Int32)), .val (.int (0 : Int32)), .val (.ref y4), .val (.int (0 : Int32))] [])) (fun t_ k_ => XS.icmpNo X90.here hx rfl (hb hby at_77) rfl (teq (by decide : (0 : Int32) = (0 : Int32))).2 k_) ?_
    refine own_stW (B := T90.setTop (mkF m 81 #[.val (.int u0), .val (.int (4 : Int32)), .val (.ref x4), .val (.int (0 : Int32)), .val (.int (0 : Int32)), .val (.ref y4), .val (.int (0 : Int32))] [(.int (1 : Int32))])) (fun t_ k_ => XS.iconst X90.here hx rfl (hb hby at_80) k_) ?_
    refine own_stW (B := T90.setTop (mkF m 85 #[.val (.int u0), .val (.int (4 : Int32)), .val (.ref x4), .val (.int (0 : Int32)), .val (.int (0 : Int32)), .val (.ref y4), .val (.int (0 : Int32))] [(.int (1 : Int32))])) (fun t_ k_ => XS.goto X90.here hx rfl (pc0 := 81) (pc' := 85) rfl (hb hby at_81) (by decide) (by decide) k_) ?_
    have Xr : Stand p l e _ (s.setVm T88.vm) m _ below meth c T90 _ 4 32 := X90
    refine own_retNW Xr hS88 (by rw [eh90]; exact hk88) hx (t := .boolean) Bd.returns (by simp) hlk (hb hby at_85) (z' := (1 : Int32)) (by first | rfl | exact own_nb _) (by decide) (by decide) ?_
    show Q0 Z u0 cs x0 y0 z0 x1 y1 z1 x2 y2 z2 x3 y3 z3 x4 y4 z4 x5 y5 z5 h0 n0 _ T90.heap _
    rw [eh90]
    exact ⟨rfl, N90⟩
  · rw [hk6]
    refine own_stW (B := s₁.setTop (mkF m 9 #[.val (.int u0), .val (.int (5 : Int32)), .unset, .unset, .unset, .unset, .unset] [(.int (5 : Int32))])) (fun t_ k_ => XS.iloadN X0.here hx rfl (hb hby at_8) rfl k_) ?_
    obtain ⟨_, _, ⟨T97, Lq97, kq97, nq97⟩, -, X97, ⟨Lc97, hQ97, lq97, yq97, zq97⟩, st97⟩ := Jvm.LawKit.callS X0 hx (y := (⟨"com/example/histrix/histrix/ActionAdditivePinLaw", "pick", "(I)Lcom/example/histrix/histrix/Action;"⟩ : MethodName)) hown (mvT hZ (hw _ (List.mem_of_getElem? (i := 1) rfl))) (mvT hZ (hw _ (List.mem_of_getElem? (i := 2) rfl))) (mvT hZ (hw _ (List.mem_of_getElem? (i := 3) rfl))) (mvT hZ (hw _ (List.mem_of_getElem? (i := 4) rfl))) (by decide) (backOf (W := 0) (rm1_5 l Z a0 hw [] x5 h0 n0 Z0 S5) hZ (hw _ (List.mem_of_getElem? (i := 4) rfl)) (hw _ (List.mem_of_getElem? (i := 3) rfl)) (by decide) (by decide)) (g := (mkF m 9 #[.val (.int u0), .val (.int (5 : Int32)), .unset, .unset, .unset, .unset, .unset] [(.int (5 : Int32))])) rfl (by rw [hml]; rfl) (argsL := [(.int (5 : Int32))]) (rest := []) (lenOf own_pd1 rfl) rfl (by show 2 * 0 + _ ≤ _; exact Nat.le_of_eq rfl) (hb hby at_9) (fun _ _ => ⟨rfl, e0, (by decide : 0 + 0 ≤ _), (by decide : 0 + 0 ≤ _)⟩)
    dsimp only [Pt.U, Pt.locs, Pt.cells, Pt.slots] at X97 lq97 yq97 zq97 st97 hQ97
    rw [lq97, yq97, zq97] at X97
    have X97 : Stand p l e _ _ m _ below meth c T97 _ 0 0 := X97
    obtain ⟨rfl, N97q, eh97⟩ := hQ97
    have N97 := Fr.app N0 N97q
    refine own_stW (B := T97.setTop (mkF m 12 #[.val (.int u0), .val (.int (5 : Int32)), .unset, .unset, .unset, .unset, .unset] [(.ref x5)])) st97 ?_
    refine own_stW (B := T97.setTop (mkF m 13 #[.val (.int u0), .val (.int (5 : Int32)), .val (.ref x5), .unset, .unset, .unset, .unset] [])) (fun t_ k_ => XS.astoreN X97.here hx rfl (hb hby at_12) rfl rfl (l' := #[.val (.int u0), .val (.int (5 : Int32)), .val (.ref x5), .unset, .unset, .unset, .unset]) rfl k_) ?_
    refine own_stW (B := T97.setTop (mkF m 14 #[.val (.int u0), .val (.int (5 : Int32)), .val (.ref x5), .unset, .unset, .unset, .unset] [(.ref x5)])) (fun t_ k_ => XS.aloadN X97.here hx rfl (hb hby at_13) rfl rfl k_) ?_
    obtain ⟨cq98, kr98, q98a, q98b, q98c⟩ := isOf hZ eh97 E5
    obtain ⟨_, _, ⟨T98, Lq98, kq98, nq98⟩, -, X98, ⟨Lc98, hQ98, lq98, yq98, zq98⟩, st98⟩ := X97.virtualBack hx (y := (⟨"com/example/histrix/histrix/Action", "additive", "()Z"⟩ : MethodName)) (z := (⟨"com/example/histrix/histrix/Action", "additive", "()Z"⟩ : MethodName)) hown (mvT hZ (hw _ (List.mem_of_getElem? (i := 8) rfl))) (mvT hZ (hw _ (List.mem_of_getElem? (i := 9) rfl))) (notFace_of_selects (args := #[]) (mvT hZ (hw _ (List.mem_of_getElem? (i := 11) rfl)))) (mvT hZ (hw _ (List.mem_of_getElem? (i := 11) rfl))) (mvT hZ (hw _ (List.mem_of_getElem? (i := 10) rfl))) (by decide) (backOf (W := 0) (rm2_N l Z a0 hw [] x5 x2 x3 h0 n0 Z0 S2 S3 ne5_2 ne5_3) hZ (hw _ (List.mem_of_getElem? (i := 12) rfl)) (hw _ (List.mem_of_getElem? (i := 6) rfl)) (by decide) (by decide)) q98a q98c (g := (mkF m 14 #[.val (.int u0), .val (.int (5 : Int32)), .val (.ref x5), .unset, .unset, .unset, .unset] [(.ref x5)])) rfl (by rw [hml]; rfl) (Steps.refl _) (argsL := []) (rest := []) (lenOf own_pd2 rfl) rfl (by show 2 * 0 + _ ≤ _; exact Nat.le_of_eq rfl) (hb hby at_14) (fun _ _ => ⟨rfl, eh97, (by decide : 0 + 0 ≤ _), (by decide : 0 + 0 ≤ _)⟩)
    dsimp only [Pt.U, Pt.locs, Pt.cells, Pt.slots] at X98 lq98 yq98 zq98 st98 hQ98
    rw [lq98, yq98, zq98] at X98
    have X98 : Stand p l e _ _ m _ below meth c T98 _ 0 0 := X98
    obtain ⟨rfl, N98q, eh98⟩ := hQ98
    have N98 := Fr.app N97 N98q
    refine own_stW (B := T98.setTop (mkF m 17 #[.val (.int u0), .val (.int (5 : Int32)), .val (.ref x5), .unset, .unset, .unset, .unset] [(.int (0 : Int32))])) (fun t_ k_ => st98.trans k_) ?_
    refine own_stW (B := T98.setTop (mkF m 18 #[.val (.int u0), .val (.int (5 : Int32)), .val (.ref x5), .val (.int (0 : Int32)), .unset, .unset, .unset] [])) (fun t_ k_ => XS.istoreN X98.here hx rfl (hb hby at_17) rfl (l' := #[.val (.int u0), .val (.int (5 : Int32)), .val (.ref x5), .val (.int (0 : Int32)), .unset, .unset, .unset]) rfl k_) ?_
    refine own_stW (B := T98.setTop (mkF m 19 #[.val (.int u0), .val (.int (5 : Int32)), .val (.ref x5), .val (.int (0 : Int32)), .unset, .unset, .unset] [(.int (5 : Int32))])) (fun t_ k_ => XS.iloadN X98.here hx rfl (hb hby at_18) rfl k_) ?_
    refine own_stW (B := T98.setTop (mkF m 20 #[.val (.int u0), .val (.int (5 : Int32)), .val (.ref x5), .val (.int (0 : Int32)), .unset, .unset, .unset] [(.int (2 : Int32)), (.int (5 : Int32))])) (fun t_ k_ => XS.iconst X98.here hx rfl (hb hby at_19) k_) ?_
    refine own_stW (B := T98.setTop (mkF m 23 #[.val (.int u0), .val (.int (5 : Int32)), .val (.ref x5), .val (.int (0 : Int32)), .unset, .unset, .unset] [])) (fun t_ k_ => XS.icmpNo X98.here hx rfl (hb hby at_20) rfl (feq (by decide : ¬ ((5 : Int32) = (2 : Int32)))).1 k_) ?_
    refine own_stW (B := T98.setTop (mkF m 24 #[.val (.int u0), .val (.int (5 : Int32)), .val (.ref x5), .val (.int (0 : Int32)), .unset, .unset, .unset] [(.int (5 : Int32))])) (fun t_ k_ => XS.iloadN X98.here hx rfl (hb hby at_23) rfl k_) ?_
    refine own_stW (B := T98.setTop (mkF m 25 #[.val (.int u0), .val (.int (5 : Int32)), .val (.ref x5), .val (.int (0 : Int32)), .unset, .unset, .unset] [(.int (3 : Int32)), (.int (5 : Int32))])) (fun t_ k_ => XS.iconst X98.here hx rfl (hb hby at_24) k_) ?_
    refine own_stW (B := T98.setTop (mkF m 32 #[.val (.int u0), .val (.int (5 : Int32)), .val (.ref x5), .val (.int (0 : Int32)), .unset, .unset, .unset] [])) (fun t_ k_ => XS.icmpYes X98.here hx rfl (pc0 := 25) (pc' := 32) rfl (hb hby at_25) rfl (feq (by decide : ¬ ((5 : Int32) = (3 : Int32)))).2 (by decide) (by decide) k_) ?_
    refine own_stW (B := T98.setTop (mkF m 33 #[.val (.int u0), .val (.int (5 : Int32)), .val (.ref x5), .val (.int (0 : Int32)), .unset, .unset, .unset] [(.int (0 : Int32))])) (fun t_ k_ => XS.iconst X98.here hx rfl (hb hby at_32) k_) ?_
    refine own_stW (B := T98.setTop (mkF m 35 #[.val (.int u0), .val (.int (5 : Int32)), .val (.ref x5), .val (.int (0 : Int32)), .val (.int (0 : Int32)), .unset, .unset] [])) (fun t_ k_ => XS.istore X98.here hx rfl (hb hby at_33) rfl (l' := #[.val (.int u0), .val (.int (5 : Int32)), .val (.ref x5), .val (.int (0 : Int32)), .val (.int (0 : Int32)), .unset, .unset]) rfl k_) ?_
    refine own_stW (B := T98.setTop (mkF m 36 #[.val (.int u0), .val (.int (5 : Int32)), .val (.ref x5), .val (.int (0 : Int32)), .val (.int (0 : Int32)), .unset, .unset] [(.ref x5)])) (fun t_ k_ => XS.aloadN X98.here hx rfl (hb hby at_35) rfl rfl k_) ?_
    obtain ⟨cq99, kr99, q99a, q99b, q99c⟩ := isOf hZ eh98 E5
    obtain ⟨_, _, ⟨T99, Lq99, kq99, nq99⟩, -, X99, ⟨Lc99, hQ99, lq99, yq99, zq99⟩, st99⟩ := X98.virtualBack hx (y := (⟨"com/example/histrix/histrix/Action", "symbol", "()Ljava/lang/String;"⟩ : MethodName)) (z := (⟨"com/example/histrix/histrix/Action", "symbol", "()Ljava/lang/String;"⟩ : MethodName)) hown (mvT hZ (hw _ (List.mem_of_getElem? (i := 17) rfl))) (mvT hZ (hw _ (List.mem_of_getElem? (i := 18) rfl))) (notFace_of_selects (args := #[]) (mvT hZ (hw _ (List.mem_of_getElem? (i := 20) rfl)))) (mvT hZ (hw _ (List.mem_of_getElem? (i := 20) rfl))) (mvT hZ (hw _ (List.mem_of_getElem? (i := 19) rfl))) (by decide) (backOf (W := 0) (rm3 l Z a0 hw [] x5 (.ref y5) h0 n0 Z0 rfl F5) hZ (hw _ (List.mem_of_getElem? (i := 21) rfl)) (hw _ (List.mem_of_getElem? (i := 6) rfl)) (by decide) (by decide)) q99a q99c (g := (mkF m 36 #[.val (.int u0), .val (.int (5 : Int32)), .val (.ref x5), .val (.int (0 : Int32)), .val (.int (0 : Int32)), .unset, .unset] [(.ref x5)])) rfl (by rw [hml]; rfl) (Steps.refl _) (argsL := []) (rest := []) (lenOf own_pd3 rfl) rfl (by show 2 * 0 + _ ≤ _; exact Nat.le_of_eq rfl) (hb hby at_36) (fun _ _ => ⟨rfl, eh98, (by decide : 0 + 0 ≤ _), (by decide : 0 + 0 ≤ _)⟩)
    dsimp only [Pt.U, Pt.locs, Pt.cells, Pt.slots] at X99 lq99 yq99 zq99 st99 hQ99
    rw [lq99, yq99, zq99] at X99
    have X99 : Stand p l e _ _ m _ below meth c T99 _ 0 0 := X99
    obtain ⟨rfl, N99q, eh99⟩ := hQ99
    have N99 := Fr.app N98 N99q
    refine own_stW (B := T99.setTop (mkF m 39 #[.val (.int u0), .val (.int (5 : Int32)), .val (.ref x5), .val (.int (0 : Int32)), .val (.int (0 : Int32)), .unset, .unset] [(.ref y5)])) (fun t_ k_ => st99.trans k_) ?_
    refine own_stW (B := T99.setTop (mkF m 41 #[.val (.int u0), .val (.int (5 : Int32)), .val (.ref x5), .val (.int (0 : Int32)), .val (.int (0 : Int32)), .val (.ref y5), .unset] [])) (fun t_ k_ => XS.astore X99.here hx rfl (hb hby at_39) rfl rfl (l' := #[.val (.int u0), .val (.int (5 : Int32)), .val (.ref x5), .val (.int (0 : Int32)), .val (.int (0 : Int32)), .val (.ref y5), .unset]) rfl k_) ?_
    refine own_stW (B := T99.setTop (mkF m 43 #[.val (.int u0), .val (.int (5 : Int32)), .val (.ref x5), .val (.int (0 : Int32)), .val (.int (0 : Int32)), .val (.ref y5), .unset] [(.ref y5)])) (fun t_ k_ => XS.aload X99.here hx rfl (hb hby at_41) rfl rfl k_) ?_
    have Xw100 : Stand p l e _ (s.setVm s.vm) m _ below meth c T99 _ 0 0 := X99
    obtain ⟨al100, T100, h100, k1_100, bl100, kl100, X100, e100, E100, hS100, hk100, hZ, hown, Es100, Fc100, Fv100, Av100, la100, lb100, I100, st100⟩ := ldcSV Xw100 hx hZ hown (hw _ (List.mem_of_getElem? (i := 24) rfl)) wS eh99 hSi (Nat.zero_le _) (fun y hy => Nat.le_trans (by rw [hh]; exact hn0) (N99 y hy)) hkeep Ii (by decide) hh43 hcw (vs := ([105, 110, 99] : List Int32).map Value.int) (z := 3) ⟨by decide, by decide⟩ (by decide) (by decide) (g := (mkF m 43 #[.val (.int u0), .val (.int (5 : Int32)), .val (.ref x5), .val (.int (0 : Int32)), .val (.int (0 : Int32)), .val (.ref y5), .unset] [(.ref y5)])) rfl (hb hby at_43) (n := 12) (by decide) (by decide) (by decide) (by decide)
    have Z101 := Nat.le_trans Z0 E100.1
    have X100 : Stand p l e _ _ m _ below meth c T100 _ 2 16 := X100
    have Aa100 := own_ofArv (l := [105, 110, 99]) Av100 rfl (by decide)
    refine own_stW (B := T100.setTop (mkF m 45 #[.val (.int u0), .val (.int (5 : Int32)), .val (.ref x5), .val (.int (0 : Int32)), .val (.int (0 : Int32)), .val (.ref y5), .unset] [(.ref al100), (.ref y5)])) st100 ?_
    have u103 := C5.ext E100
    have u104 := V5.ext E100
    have u105 := A5.ext E100
    have u106 := Sc.ext E100
    have u107 := G5.ext E100
    obtain ⟨cq102, kr102, q102a, q102b, q102c⟩ := isOf hZ e100 u107
    obtain ⟨_, _, ⟨T102, Lq102, kq102, nq102⟩, -, X102, ⟨Lc102, hQ102, lq102, yq102, zq102⟩, st102⟩ := X100.virtualBack hx (y := (⟨"java/lang/String", "equals", "(Ljava/lang/Object;)Z"⟩ : MethodName)) (z := (⟨"java/lang/String", "equals", "(Ljava/lang/Object;)Z"⟩ : MethodName)) hown (mvT hZ (hw _ (List.mem_of_getElem? (i := 32) rfl))) (mvT hZ (hw _ (List.mem_of_getElem? (i := 33) rfl))) (notFace_of_selects (args := #[]) (mvT hZ (hw _ (List.mem_of_getElem? (i := 35) rfl)))) (mvT hZ (hw _ (List.mem_of_getElem? (i := 35) rfl))) (mvT hZ (hw _ (List.mem_of_getElem? (i := 34) rfl))) (by decide) (backOf (W := 0) (rm4 l Z a0 hw [] y5 al100 z5 bl100 1 3 (fun j => ([97] : List Int32).getD j 0) (fun j => ([105, 110, 99] : List Int32).getD j 0) cs h100 n0 Z101 Es100 u103 Fc100 u104 Fv100 u105 Aa100 (by decide) (by decide) u106 hcs) hZ (hw _ (List.mem_of_getElem? (i := 36) rfl)) (hw _ (List.mem_of_getElem? (i := 25) rfl)) (by decide) (by decide)) q102a q102c (g := (mkF m 45 #[.val (.int u0), .val (.int (5 : Int32)), .val (.ref x5), .val (.int (0 : Int32)), .val (.int (0 : Int32)), .val (.ref y5), .unset] [(.ref al100), (.ref y5)])) rfl (by rw [hml]; rfl) (Steps.refl _) (argsL := [(.ref al100)]) (rest := []) (lenOf own_pd4 rfl) rfl (by show 2 * 0 + _ ≤ _; exact Nat.le_of_eq rfl) (hb hby at_45) (fun _ _ => ⟨rfl, e100, (by decide : 2 + 0 ≤ _), (by decide : 16 + 0 ≤ _)⟩)
    dsimp only [Pt.U, Pt.locs, Pt.cells, Pt.slots] at X102 lq102 yq102 zq102 st102 hQ102
    rw [lq102, yq102, zq102] at X102
    have X102 : Stand p l e _ _ m _ below meth c T102 _ 2 16 := X102
    obtain ⟨rfl, N102q, eh102⟩ := hQ102
    have N102 := Fr.app N99 N102q
    refine own_stW (B := T102.setTop (mkF m 48 #[.val (.int u0), .val (.int (5 : Int32)), .val (.ref x5), .val (.int (0 : Int32)), .val (.int (0 : Int32)), .val (.ref y5), .unset] [(.int (own_b (own_eqs 1 3 (fun j => ([97] : List Int32).getD j 0) (fun j => ([105, 110, 99] : List Int32).getD j 0))))])) (fun t_ k_ => st102.trans k_) ?_
    have hc108 : (own_eqs 1 3 (fun j => ([97] : List Int32).getD j 0) (fun j => ([105, 110, 99] : List Int32).getD j 0)) = false := by decide
    refine own_stW (B := T102.setTop (mkF m 51 #[.val (.int u0), .val (.int (5 : Int32)), .val (.ref x5), .val (.int (0 : Int32)), .val (.int (0 : Int32)), .val (.ref y5), .unset] [])) (fun t_ k_ => XS.ifNo X102.here hx rfl (hb hby at_48) rfl ((if0 _ _).trans (teq (own_b0.mpr hc108)).2) k_) ?_
    refine own_stW (B := T102.setTop (mkF m 53 #[.val (.int u0), .val (.int (5 : Int32)), .val (.ref x5), .val (.int (0 : Int32)), .val (.int (0 : Int32)), .val (.ref y5), .unset] [(.ref y5)])) (fun t_ k_ => XS.aload X102.here hx rfl (hb hby at_51) rfl rfl k_) ?_
    have Xw109 : Stand p l e _ (s.setVm T100.vm) m _ below meth c T102 _ 2 16 := X102
    obtain ⟨al109, T109, h109, k1_109, bl109, kl109, X109, e109, E109, hS109, hk109, hZ, hown, Es109, Fc109, Fv109, Av109, la109, lb109, I109, st109⟩ := ldcSV Xw109 hx hZ hown (hw _ (List.mem_of_getElem? (i := 46) rfl)) wS eh102 hS100 hk100 (fun y hy => Nat.le_trans (by rw [hh]; exact hn0) (N102 y hy)) hkeep I100 (by decide) hh51 hcw (vs := ([100, 101, 99] : List Int32).map Value.int) (z := 3) ⟨by decide, by decide⟩ (by decide) (by decide) (g := (mkF m 53 #[.val (.int u0), .val (.int (5 : Int32)), .val (.ref x5), .val (.int (0 : Int32)), .val (.int (0 : Int32)), .val (.ref y5), .unset] [(.ref y5)])) rfl (hb hby at_53) (n := 12) (by decide) (by decide) (by decide) (by decide)
    have Z110 := Nat.le_trans Z101 E109.1
    have X109 : Stand p l e _ _ m _ below meth c T109 _ 4 32 := X109
    have Aa109 := own_ofArv (l := [100, 101, 99]) Av109 rfl (by decide)
    refine own_stW (B := T109.setTop (mkF m 55 #[.val (.int u0), .val (.int (5 : Int32)), .val (.ref x5), .val (.int (0 : Int32)), .val (.int (0 : Int32)), .val (.ref y5), .unset] [(.ref al109), (.ref y5)])) st109 ?_
    have u112 := u103.ext E109
    have u113 := u104.ext E109
    have u114 := u105.ext E109
    have u115 := u106.ext E109
    have u116 := u107.ext E109
    obtain ⟨cq111, kr111, q111a, q111b, q111c⟩ := isOf hZ e109 u116
    obtain ⟨_, _, ⟨T111, Lq111, kq111, nq111⟩, -, X111, ⟨Lc111, hQ111, lq111, yq111, zq111⟩, st111⟩ := X109.virtualBack hx (y := (⟨"java/lang/String", "equals", "(Ljava/lang/Object;)Z"⟩ : MethodName)) (z := (⟨"java/lang/String", "equals", "(Ljava/lang/Object;)Z"⟩ : MethodName)) hown (mvT hZ (hw _ (List.mem_of_getElem? (i := 32) rfl))) (mvT hZ (hw _ (List.mem_of_getElem? (i := 33) rfl))) (notFace_of_selects (args := #[]) (mvT hZ (hw _ (List.mem_of_getElem? (i := 35) rfl)))) (mvT hZ (hw _ (List.mem_of_getElem? (i := 35) rfl))) (mvT hZ (hw _ (List.mem_of_getElem? (i := 34) rfl))) (by decide) (backOf (W := 0) (rm4 l Z a0 hw [] y5 al109 z5 bl109 1 3 (fun j => ([97] : List Int32).getD j 0) (fun j => ([100, 101, 99] : List Int32).getD j 0) cs h109 n0 Z110 Es109 u112 Fc109 u113 Fv109 u114 Aa109 (by decide) (by decide) u115 hcs) hZ (hw _ (List.mem_of_getElem? (i := 36) rfl)) (hw _ (List.mem_of_getElem? (i := 25) rfl)) (by decide) (by decide)) q111a q111c (g := (mkF m 55 #[.val (.int u0), .val (.int (5 : Int32)), .val (.ref x5), .val (.int (0 : Int32)), .val (.int (0 : Int32)), .val (.ref y5), .unset] [(.ref al109), (.ref y5)])) rfl (by rw [hml]; rfl) (Steps.refl _) (argsL := [(.ref al109)]) (rest := []) (lenOf own_pd4 rfl) rfl (by show 2 * 0 + _ ≤ _; exact Nat.le_of_eq rfl) (hb hby at_55) (fun _ _ => ⟨rfl, e109, (by decide : 4 + 0 ≤ _), (by decide : 32 + 0 ≤ _)⟩)
    dsimp only [Pt.U, Pt.locs, Pt.cells, Pt.slots] at X111 lq111 yq111 zq111 st111 hQ111
    rw [lq111, yq111, zq111] at X111
    have X111 : Stand p l e _ _ m _ below meth c T111 _ 4 32 := X111
    obtain ⟨rfl, N111q, eh111⟩ := hQ111
    have N111 := Fr.app N102 N111q
    refine own_stW (B := T111.setTop (mkF m 58 #[.val (.int u0), .val (.int (5 : Int32)), .val (.ref x5), .val (.int (0 : Int32)), .val (.int (0 : Int32)), .val (.ref y5), .unset] [(.int (own_b (own_eqs 1 3 (fun j => ([97] : List Int32).getD j 0) (fun j => ([100, 101, 99] : List Int32).getD j 0))))])) (fun t_ k_ => st111.trans k_) ?_
    have hc117 : (own_eqs 1 3 (fun j => ([97] : List Int32).getD j 0) (fun j => ([100, 101, 99] : List Int32).getD j 0)) = false := by decide
    refine own_stW (B := T111.setTop (mkF m 65 #[.val (.int u0), .val (.int (5 : Int32)), .val (.ref x5), .val (.int (0 : Int32)), .val (.int (0 : Int32)), .val (.ref y5), .unset] [])) (fun t_ k_ => XS.ifYes X111.here hx rfl (pc0 := 58) (pc' := 65) rfl (hb hby at_58) rfl ((if0 _ _).trans (teq (own_b0.mpr hc117)).1) (by decide) (by decide) k_) ?_
    refine own_stW (B := T111.setTop (mkF m 66 #[.val (.int u0), .val (.int (5 : Int32)), .val (.ref x5), .val (.int (0 : Int32)), .val (.int (0 : Int32)), .val (.ref y5), .unset] [(.int (0 : Int32))])) (fun t_ k_ => XS.iconst X111.here hx rfl (hb hby at_65) k_) ?_
    refine own_stW (B := T111.setTop (mkF m 68 #[.val (.int u0), .val (.int (5 : Int32)), .val (.ref x5), .val (.int (0 : Int32)), .val (.int (0 : Int32)), .val (.ref y5), .val (.int (0 : Int32))] [])) (fun t_ k_ => XS.istore X111.here hx rfl (hb hby at_66) rfl (l' := #[.val (.int u0), .val (.int (5 : Int32)), .val (.ref x5), .val (.int (0 : Int32)), .val (.int (0 : Int32)), .val (.ref y5), .val (.int (0 : Int32))]) rfl k_) ?_
    refine own_stW (B := T111.setTop (mkF m 69 #[.val (.int u0), .val (.int (5 : Int32)), .val (.ref x5), .val (.int (0 : Int32)), .val (.int (0 : Int32)), .val (.ref y5), .val (.int (0 : Int32))] [(.int (0 : Int32))])) (fun t_ k_ => XS.iloadN X111.here hx rfl (hb hby at_68) rfl k_) ?_
    refine own_stW (B := T111.setTop (mkF m 71 #[.val (.int u0), .val (.int (5 : Int32)), .val (.ref x5), .val (.int (0 : Int32)), .val (.int (0 : Int32)), .val (.ref y5), .val (.int (0 : Int32))] [(.int (0 : Int32)), (.int (0 : Int32))])) (fun t_ k_ => XS.iload X111.here hx rfl (hb hby at_69) rfl k_) ?_
    refine own_stW (B := T111.setTop (mkF m 74 #[.val (.int u0), .val (.int (5 : Int32)), .val (.ref x5), .val (.int (0 : Int32)), .val (.int (0 : Int32)), .val (.ref y5), .val (.int (0 : Int32))] [])) (fun t_ k_ => XS.icmpNo X111.here hx rfl (hb hby at_71) rfl (teq (by decide : (0 : Int32) = (0 : Int32))).2 k_) ?_
    refine own_stW (B := T111.setTop (mkF m 75 #[.val (.int u0), .val (.int (5 : Int32)), .val (.ref x5), .val (.int (0 : Int32)), .val (.int (0 : Int32)), .val (.ref y5), .val (.int (0 : Int32))] [(.int (0 : Int32))])) (fun t_ k_ => XS.iloadN X111.here hx rfl (hb hby at_74) rfl k_) ?_
    refine own_stW (B := T111.setTop (mkF m 77 #[.val (.int u0), .val (.int (5 : Int32)), .val (.ref x5), .val (.int (0 : Int32)), .val (.int (0 : Int32)), .val (.ref y5), .val (.int (0 : Int32))] [(.int (0 : Int32)), (.int (0 : Int32))])) (fun t_ k_ => XS.iload X111.here hx rfl (hb hby at_75) rfl k_) ?_
    refine own_stW (B := T111.setTop (mkF m 80 #[.val (.int u0), .val (.int (5 : Int32)), .val (.ref x5), .val (.int (0 : Int32)), .val (.int (0 : Int32)), .val (.ref y5), .val (.int (0 : Int32))] [])) (fun t_ k_ => XS.icmpNo X111.here hx rfl (hb hby at_77) rfl (teq (by decide : (0 : Int32) = (0 : Int32))).2 k_) ?_
    refine own_stW (B := T111.setTop (mkF m 81 #[.val (.int u0), .val (.int (5 : Int32)), .val (.ref x5), .val (.int (0 : Int32)), .val (.int (0 : Int32)), .val (.ref y5), .val (.int (0 : Int32))] [(.int (1 : Int32))])) (fun t_ k_ => XS.iconst X111.here hx rfl (hb hby at_80) k_) ?_
    refine own_stW (B := T111.setTop (mkF m 85 #[.val (.int u0), .val (.int (5 : Int32)), .val (.ref x5), .val (.int (0 : Int32)), .val (.int (0 : Int32)), .val (.ref y5), .val (.int (0 : Int32))] [(.int (1 : Int32))])) (fun t_ k_ => XS.goto X111.here hx rfl (pc0 := 81) (pc' := 85) rfl (hb hby at_81) (by decide) (by decide) k_) ?_
    have Xr : Stand p l e _ (s.setVm T109.vm) m _ below meth c T111 _ 4 32 := X111
    refine own_retNW Xr hS109 (by rw [eh111]; exact hk109) hx (t := .boolean) Bd.returns (by simp) hlk (hb hby at_85) (z' := (1 : Int32)) (by first | rfl | exact own_nb _) (by decide) (by decide) ?_
    show Q0 Z u0 cs x0 y0 z0 x1 y1 z1 x2 y2 z2 x3 y3 z3 x4 y4 z4 x5 y5 z5 h0 n0 _ T111.heap _
    rw [eh111]
    exact ⟨rfl, N111⟩
theorem own_ceq {args : Array Value} {first s : State} {o : Option Outcome} {idx : List Nat} {a : Term} {k : Int32} (h : (Cond.eq a (.int k)).value args first o s idx = some true) : a.eval args first o idx s = some (.int k) := by
  obtain ⟨x, y, h1, h2, -, hk⟩ := cmp_v (Or.inl h)
  cases (Term.int_eval (args := args) (first := first) (o := o) (idx := idx) (s := s) k).symm.trans h2
  obtain ⟨z, rfl⟩ := hk
  have q : z = k := by simpa [Cond.value, h1, Term.int_eval] using h
  rw [q] at h1; exact h1
theorem own_lenv {args : Array Value} {first s : State} {o : Option Outcome} {idx : List Nat} {t : Term} {x : Addr} {cl : Cell} {k : Int32} (h : (Term.length t).eval args first o idx s = some (.int k)) (ht : t.eval args first o idx s = some (.ref x)) (ha : s.arrayAt? x = some cl) : cl.slots.size < 2 ^ 31 ∧ cl.slots.size.toInt32 = k := by
  by_cases q : cl.slots.size < 2 ^ 31
  · exact ⟨q, by rw [len_f ht ha q] at h; cases h; rfl⟩
  · simp [Term.eval, ht, ha, q] at h
theorem own_act {s : State} {args : Array Value} {fn : String} {bs : List Int32} {q k : Int32} (wi : (Cond.initialized "com/example/histrix/histrix/Action").before args s = true) (wl : (Cond.laysStatic "com/example/histrix/histrix/Action" fn "Lcom/example/histrix/histrix/Action;").before args s = true)
    (h1 : (Cond.exactly (.static "com/example/histrix/histrix/Action" fn "Lcom/example/histrix/histrix/Action;") "com/example/histrix/histrix/Action").value args s none s [] = some true) (h2 : (Cond.eq (.field (.static "com/example/histrix/histrix/Action" fn "Lcom/example/histrix/histrix/Action;") "java/lang/Enum" "ordinal" "I") (.int q)).value args s none s [] = some true)
    (h3 : (Cond.exactly (.field (.static "com/example/histrix/histrix/Action" fn "Lcom/example/histrix/histrix/Action;") "com/example/histrix/histrix/Action" "symbol" "Ljava/lang/String;") "java/lang/String").value args s none s [] = some true) (h4 : (Cond.eq (.field (.field (.static "com/example/histrix/histrix/Action" fn "Lcom/example/histrix/histrix/Action;") "com/example/histrix/histrix/Action" "symbol" "Ljava/lang/String;") "java/lang/String" "coder" "B") (.int 0)).value args s none s [] = some true) (h5 : (Cond.arrayOf (.field (.field (.static "com/example/histrix/histrix/Action" fn "Lcom/example/histrix/histrix/Action;") "com/example/histrix/histrix/Action" "symbol" "Ljava/lang/String;") "java/lang/String" "value" "[B") .byte).value args s none s [] = some true)
    (h6 : (Cond.eq (.length (.field (.field (.static "com/example/histrix/histrix/Action" fn "Lcom/example/histrix/histrix/Action;") "com/example/histrix/histrix/Action" "symbol" "Ljava/lang/String;") "java/lang/String" "value" "[B")) (.int k)).value args s none s [] = some true) (h7 : ∀ j, j < bs.length → ∃ ji : Int32, ji.toNatClampNeg = j ∧ (Cond.eq (.elem (.field (.field (.static "com/example/histrix/histrix/Action" fn "Lcom/example/histrix/histrix/Action;") "com/example/histrix/histrix/Action" "symbol" "Ljava/lang/String;") "java/lang/String" "value" "[B") (.int ji)) (.int (bs.getD j 0))).value args s none s [] = some true)
    (hk : bs.length.toInt32 = k) (hb : bs.length < 2 ^ 31) (hf : ∀ j, j < bs.length → fits .byte (.int (bs.getD j 0)) = true) :
    ∃ x y z : Addr, Sta s s.heap "com/example/histrix/histrix/Action" fn "Lcom/example/histrix/histrix/Action;" (.ref x) ∧ Exa s s.heap x "com/example/histrix/histrix/Action" ∧ Fld s s.heap x "java/lang/Enum" "ordinal" "I" (.int q) ∧ Fld s s.heap x "com/example/histrix/histrix/Action" "symbol" "Ljava/lang/String;" (.ref y) ∧ Exa s s.heap y "java/lang/String" ∧ Fld s s.heap y "java/lang/String" "coder" "B" (.int 0) ∧ Fld s s.heap y "java/lang/String" "value" "[B" (.ref z) ∧ own_A s s.heap z .byte bs.length (fun j => bs.getD j 0) := by
  obtain ⟨x, ex⟩ := exa_v h1
  obtain ⟨y, ey⟩ := exa_v h3
  obtain ⟨z, ez⟩ := arr_v h5
  have fy := (fld_at ex).symm.trans ey
  have fz := (fld_at ey).symm.trans ez
  have fo := (fld_at ex).symm.trans (own_ceq h2)
  have fc := (fld_at ey).symm.trans (own_ceq h4)
  obtain ⟨cl, A⟩ := Arr.start ez h5
  have ha : s.arrayAt? z = some cl := Arr.fin (Z := s) (U := s) (State.Warmed39.refl s).alike A
  obtain ⟨l1, l2⟩ := own_lenv (own_ceq h6) ez ha
  have hs : cl.slots.size = bs.length := by
    have e1 := len_toInt l1; have e2 := len_toInt hb
    rw [l2, ← hk, e2] at e1; omega
  refine ⟨x, y, z, Sta.start ex (Or.inr ⟨wi, wl⟩), Exa.start ex h1, Fld.start fo, Fld.start fy, Exa.start ey h3, Fld.start fc, Fld.start fz, cl, A, hs, hb, fun j hj => ?_, hf⟩
  obtain ⟨ji, q1, q2⟩ := h7 j hj
  have e3 := (elem_in (own_ceq q2) ez (Term.int_eval ji) A.1).2
  rw [q1] at e3; exact e3
set_option maxRecDepth 65536 in
set_option maxHeartbeats 40000000 in
theorem comes_1 {Post : Tables → Env → Array Value → State → Outcome → State → Prop} (hpost : ∀ tb e args s v u, (limb_1_1.after args s (.returned v) u = true ∧ limb_1_2.after args s (.returned v) u = true ∧ True) → ReturnedEndW s (.returned v) u (Jvm.fieldLocs frame_1_writes args s ++ Jvm.arrayLocs frame_1_arrays args s ++ Jvm.staticLocs frame_1_statics s) 8 2112 → Post tb e args s (.returned v) u) :
    ArmFor flags0 classFile x code maxLocals ret World_1 tables_1 room_1 Calls_1 rest_1 Pre_1 Post := by
  intro l hfl _ _ p e ha hc hk s m args below hf hA hF happ hP
  obtain ⟨hcalls, hrest, hpre⟩ := hP
  obtain ⟨-, -, -, hnamed, -, -, -, hat⟩ := (Spec.applies_iff hf).mp happ
  obtain ⟨hg, hn⟩ := and_e (Cond.before_iff.mp (show (Jvm.Cond.and given_1 narrow_1).before args s = true from hpre))
  obtain ⟨gg1, gg2⟩ := and_e hg
  obtain ⟨w0, rfl⟩ : ∃ w0 : Value, args = #[w0] := by
    have hs : args.size = 1 := by simpa [Cond.value, given_1] using gg1
    obtain ⟨L⟩ := args
    match L, hs with
    | [w0], _ => exact ⟨w0, rfl⟩
  have hw := fun d (hd : d ∈ tables_1) => atoms_spec (ws := Jvm.Cond.code x code maxLocals ret :: tables_1) hat d (List.mem_cons_of_mem _ hd)
  have hfit : Fit s := fun {y c} hc i hi => by
    obtain ⟨ha, rfl⟩ := Array.getElem?_eq_some_iff.mp hc
    have q := List.all_eq_true.mp ((Array.all_eq_true_iff_forall_mem.mp hF) _ (Array.getElem_mem ha)) i (List.mem_range.mpr hi)
    simpa [Array.getElem?_eq_getElem hi] using q
  obtain ⟨hsets, hown0⟩ := atoms_of _ (rest_1_c_eq ▸ (show rest_1_c.before _ s = true from hrest))
  have hr0 := Cond.before_iff.mp hown0
  obtain ⟨i0, ei0⟩ := is_v gg2
  obtain rfl : w0 = (.int i0) := Option.some.inj ei0
  obtain ⟨k0, hn⟩ := and_e hn
  obtain ⟨k1, hn⟩ := and_e hn
  obtain ⟨k2, hn⟩ := and_e hn
  obtain ⟨k3, hn⟩ := and_e hn
  obtain ⟨k4, hn⟩ := and_e hn
  obtain ⟨k5, hn⟩ := and_e hn
  obtain ⟨k6, hn⟩ := and_e hn
  obtain ⟨k7, hn⟩ := and_e hn
  obtain ⟨k8, hn⟩ := and_e hn
  obtain ⟨k9, hn⟩ := and_e hn
  obtain ⟨k10, hn⟩ := and_e hn
  obtain ⟨k11, hn⟩ := and_e hn
  obtain ⟨k12, hn⟩ := and_e hn
  obtain ⟨k13, hn⟩ := and_e hn
  obtain ⟨k14, hn⟩ := and_e hn
  obtain ⟨k15, hn⟩ := and_e hn
  obtain ⟨k16, hn⟩ := and_e hn
  obtain ⟨k17, hn⟩ := and_e hn
  obtain ⟨k18, hn⟩ := and_e hn
  obtain ⟨k19, hn⟩ := and_e hn
  obtain ⟨k20, hn⟩ := and_e hn
  obtain ⟨k21, hn⟩ := and_e hn
  obtain ⟨k22, hn⟩ := and_e hn
  obtain ⟨k23, hn⟩ := and_e hn
  obtain ⟨k24, hn⟩ := and_e hn
  obtain ⟨k25, hn⟩ := and_e hn
  obtain ⟨k26, hn⟩ := and_e hn
  obtain ⟨k27, hn⟩ := and_e hn
  obtain ⟨k28, hn⟩ := and_e hn
  obtain ⟨k29, hn⟩ := and_e hn
  obtain ⟨k30, hn⟩ := and_e hn
  obtain ⟨k31, hn⟩ := and_e hn
  obtain ⟨k32, hn⟩ := and_e hn
  obtain ⟨k33, hn⟩ := and_e hn
  obtain ⟨k34, hn⟩ := and_e hn
  obtain ⟨k35, hn⟩ := and_e hn
  obtain ⟨k36, hn⟩ := and_e hn
  obtain ⟨k37, hn⟩ := and_e hn
  obtain ⟨k38, hn⟩ := and_e hn
  obtain ⟨k39, hn⟩ := and_e hn
  obtain ⟨k40, hn⟩ := and_e hn
  obtain ⟨k41, hn⟩ := and_e hn
  obtain ⟨k42, hn⟩ := and_e hn
  obtain ⟨k43, hn⟩ := and_e hn
  obtain ⟨k44, hn⟩ := and_e hn
  have k45 := hn
  obtain ⟨cs, ecs⟩ := is_v (Cond.before_iff.mp (hsets _ (List.mem_of_getElem? (i := 1) rfl)))
  have Sc : Sta s s.heap "java/lang/String" "COMPACT_STRINGS" "Z" (.int cs) := Sta.start ecs (Or.inl (hsets _ (List.mem_of_getElem? (i := 0) rfl)))
  have hcs : ¬ cs = 0 := fun q => by
    have q2 := Cond.before_iff.mp (hsets _ (List.mem_of_getElem? (i := 2) rfl))
    rw [q] at ecs
    simp [Cond.value, ecs, Term.int_eval] at q2
  obtain ⟨x0, y0, z0, S0, E0, O0, F0, G0, C0, V0, A0⟩ := own_act (bs := ([114] : List Int32)) (hw _ (List.mem_of_getElem? (i := 6) rfl)) (hw _ (List.mem_of_getElem? (i := 7) rfl)) k0 k2 k6 k7 k8 k9 (fun j hj => by rcases j with _ | j; exact ⟨0, by decide, k42⟩; exact absurd hj (by simp)) (by decide) (by decide) (fun j hj => by rcases j with _ | j; decide; exact absurd hj (by simp))
  obtain ⟨x1, y1, z1, S1, E1, O1, F1, G1, C1, V1, A1⟩ := own_act (bs := ([119] : List Int32)) (hw _ (List.mem_of_getElem? (i := 6) rfl)) (hw _ (List.mem_of_getElem? (i := 50) rfl)) k24 k25 k26 k27 k28 k29 (fun j hj => by rcases j with _ | j; exact ⟨0, by decide, k43⟩; exact absurd hj (by simp)) (by decide) (by decide) (fun j hj => by rcases j with _ | j; decide; exact absurd hj (by simp))
  obtain ⟨x2, y2, z2, S2, E2, O2, F2, G2, C2, V2, A2⟩ := own_act (bs := ([105, 110, 99] : List Int32)) (hw _ (List.mem_of_getElem? (i := 6) rfl)) (hw _ (List.mem_of_getElem? (i := 14) rfl)) k1 k3 k17 k18 k19 k20 (fun j hj => by rcases j with _ | _ | _ | j; exact ⟨0, by decide, k21⟩; exact ⟨1, by decide, k22⟩; exact ⟨2, by decide, k23⟩; exact absurd hj (by simp)) (by decide) (by decide) (fun j hj => by rcases j with _ | _ | _ | j; decide; decide; decide; exact absurd hj (by simp))
  obtain ⟨x3, y3, z3, S3, E3, O3, F3, G3, C3, V3, A3⟩ := own_act (bs := ([100, 101, 99] : List Int32)) (hw _ (List.mem_of_getElem? (i := 6) rfl)) (hw _ (List.mem_of_getElem? (i := 16) rfl)) k4 k5 k10 k11 k12 k13 (fun j hj => by rcases j with _ | _ | _ | j; exact ⟨0, by decide, k14⟩; exact ⟨1, by decide, k15⟩; exact ⟨2, by decide, k16⟩; exact absurd hj (by simp)) (by decide) (by decide) (fun j hj => by rcases j with _ | _ | _ | j; decide; decide; decide; exact absurd hj (by simp))
  obtain ⟨x4, y4, z4, S4, E4, O4, F4, G4, C4, V4, A4⟩ := own_act (bs := ([99] : List Int32)) (hw _ (List.mem_of_getElem? (i := 6) rfl)) (hw _ (List.mem_of_getElem? (i := 54) rfl)) k36 k37 k38 k39 k40 k41 (fun j hj => by rcases j with _ | j; exact ⟨0, by decide, k45⟩; exact absurd hj (by simp)) (by decide) (by decide) (fun j hj => by rcases j with _ | j; decide; exact absurd hj (by simp))
  obtain ⟨x5, y5, z5, S5, E5, O5, F5, G5, C5, V5, A5⟩ := own_act (bs := ([97] : List Int32)) (hw _ (List.mem_of_getElem? (i := 6) rfl)) (hw _ (List.mem_of_getElem? (i := 52) rfl)) k30 k31 k32 k33 k34 k35 (fun j hj => by rcases j with _ | j; exact ⟨0, by decide, k44⟩; exact absurd hj (by simp)) (by decide) (by decide) (fun j hj => by rcases j with _ | j; decide; exact absurd hj (by simp))
  have ne3_2 : x3 ≠ x2 := Fld.ne O3 O2 (fun q => by injection q with q; exact absurd q (by decide))
  have ne0_2 : x0 ≠ x2 := Fld.ne O0 O2 (fun q => by injection q with q; exact absurd q (by decide))
  have ne0_3 : x0 ≠ x3 := Fld.ne O0 O3 (fun q => by injection q with q; exact absurd q (by decide))
  have ne1_2 : x1 ≠ x2 := Fld.ne O1 O2 (fun q => by injection q with q; exact absurd q (by decide))
  have ne1_3 : x1 ≠ x3 := Fld.ne O1 O3 (fun q => by injection q with q; exact absurd q (by decide))
  have ne4_2 : x4 ≠ x2 := Fld.ne O4 O2 (fun q => by injection q with q; exact absurd q (by decide))
  have ne4_3 : x4 ≠ x3 := Fld.ne O4 O3 (fun q => by injection q with q; exact absurd q (by decide))
  have ne5_2 : x5 ≠ x2 := Fld.ne O5 O2 (fun q => by injection q with q; exact absurd q (by decide))
  have ne5_3 : x5 ≠ x3 := Fld.ne O5 O3 (fun q => by injection q with q; exact absurd q (by decide))
  have hh43 : Jvm.Lit.constHeld s "com/example/histrix/histrix/ActionAdditivePinLaw" 43 := hcalls.1 ("com/example/histrix/histrix/ActionAdditivePinLaw", 43) (List.mem_of_getElem? (i := 0) rfl)
  have hh51 : Jvm.Lit.constHeld s "com/example/histrix/histrix/ActionAdditivePinLaw" 51 := hcalls.1 ("com/example/histrix/histrix/ActionAdditivePinLaw", 51) (List.mem_of_getElem? (i := 1) rfl)
  obtain ⟨n, o, h1, h2, h3, _, L, rfl, ⟨rfl, N⟩, hq⟩ := rm0 l s _ hw tables_1 i0 cs x0 y0 z0 x1 y1 z1 x2 y2 z2 x3 y3 z3 x4 y4 z4 x5 y5 z5 s.heap s.heap.size (Nat.le_refl _) (Nat.le_refl _) (hsets _ (List.mem_of_getElem? (i := 2) rfl)) hh43 hh51 Sc hcs S0 E0 F0 G0 C0 V0 A0 S1 E1 F1 G1 C1 V1 A1 S2 E2 F2 G2 C2 V2 A2 S3 E3 F3 G3 C3 V3 A3 S4 E4 F4 G4 C4 V4 A4 S5 E5 F5 G5 C5 V5 A5 ne3_2 ne0_2 ne0_3 ne1_2 ne1_3 ne4_2 ne4_3 ne5_2 ne5_3 p e ha hc hk s m _ below hf ((Spec.applies_iff_loose hf).mp happ).1 ⟨rfl, State.Warmed39.refl s, rfl, rfl⟩ trivial
  refine ⟨n, _, h1, h2, h3, hpost _ _ _ _ _ _ ⟨Cond.after_iff.mpr rfl, Cond.after_iff.mpr (eq_i res_at (Term.int_eval (1)) rfl), trivial⟩ ⟨hq.1, hq.2.1, hq.2.2.1, (hq.2.2.2.sift fun y hy => Or.inr (N y hy)).mono (by decide) (by decide)⟩⟩
theorem main_1_1 : Claimed_1_1 := comes_1 fun _ _ _ _ _ _ h hF => ⟨h.1, hF⟩
theorem main_1_2 : Claimed_1_2 := comes_1 fun _ _ _ _ _ _ h hF => ⟨h.2.1, hF⟩
end Jvm.Pilot.@@N@@
namespace Jvm.Pilot.@@N@@
open Jvm Jvm.ClassFile Sem Op Lib Jvm.Free Jvm.Stand Jvm.Pilot.@@N@@.Jvm.D
/-! MADE BY PROGRAM (witnessworld.py) out of the Statement's table words and the real class files: 18 classes; the members and pool entries that the words name. The judged class is class 1, her method 2. -/
namespace start1
open Jvm.ClassFile
def u (s : String) : CpInfo := .utf8 (stringToUtf16 s)
/-- a pool by its gaps: so many unusable entries, then the entry; so many at the end -/
def gap : Nat → List CpInfo → List CpInfo
  | 0, r => r
  | n + 1, r => .unusable :: gap n r
def poolList (es : List (Nat × CpInfo)) (last : Nat) : List CpInfo := es.foldr (fun e r => gap e.1 (e.2 :: r)) (gap last [])
def pool (es : List (Nat × CpInfo)) (last : Nat) : Array CpInfo := ⟨poolList es last⟩
def fileOf (pool : Array CpInfo) (this : Nat) (attrs : Array Attribute := #[]) (ms : Array MethodInfo := #[]) (fl : Nat := 33) (sup : Nat := 0) (ifs : Array Nat := #[]) (fds : Array FieldInfo := #[]) : ClassFile where
  minorVersion := 0
  majorVersion := 65
  constantPool := pool
  accessFlags := fl
  thisClass := this
  superClass := sup
  interfaces := ifs
  fields := fds
  methods := ms
  attributes := attrs
def plain (name : String) (sup : Option ClassId) : Class where
  name := name
  kind := .ordinary
  loader := none
  accessFlags := 33
  super := sup
  interfaces := #[]
  cf := none
  fields := #[]
  methods := #[]
  instanceTypes := #[]
  staticTypes := #[]
  resolved := #[]
  callSites := []
  init := .initialized
  statics := none
  mirror := none

def pool0 : Array CpInfo := pool [(5, u "<init>"), (0, u "()V"), (1, .class_ 10), (1, u "java/lang/Object")] 113

def k0m0 : Method := { name := "<init>", desc := "()V", sig := { parameters := [], returnType := none }, accessFlags := 1, code := none }
/-- java/lang/Object -/
def k0 : Class := { plain "java/lang/Object" none with
  accessFlags := 33
  interfaces := #[]
  cf := some (fileOf pool0 8 #[] #[{ accessFlags := 1, nameIndex := 5, descriptorIndex := 6, attributes := #[] }] 33 0 #[] #[])
  fields := #[]
  methods := #[k0m0]
  instanceTypes := #[]
  staticTypes := #[]
  resolved := Array.replicate 124 none
  statics := none }

def pool1 : Array CpInfo := pool [(2, .class_ 4), (1, u "java/lang/Object"), (0, u "<init>"), (0, u "()V"), (0, .fieldref 8 9), (0, .class_ 10), (0, .nameAndType 11 12), (0, u "com/example/histrix/histrix/Action"), (0, u "READ"), (0, u "Lcom/example/histrix/histrix/Action;"), (0, .fieldref 8 14), (0, .nameAndType 15 12), (0, u "WRITE"), (0, .fieldref 8 17), (0, .nameAndType 18 12), (0, u "INCREMENT"), (0, .fieldref 8 20), (0, .nameAndType 21 12), (0, u "DECREMENT"), (0, .fieldref 8 23), (0, .nameAndType 24 12), (0, u "COMMIT"), (0, .fieldref 8 26), (0, .nameAndType 27 12), (0, u "ABORT"), (0, .integer 2147483647), (0, .methodref 30 31), (0, .class_ 32), (0, .nameAndType 33 34), (0, u "com/example/histrix/histrix/ActionAdditivePinLaw"), (0, u "pick"), (0, u "(I)Lcom/example/histrix/histrix/Action;"), (0, .methodref 8 36), (0, .nameAndType 37 38), (0, u "additive"), (0, u "()Z"), (0, .methodref 8 40), (0, .nameAndType 41 42), (0, u "symbol"), (0, u "()Ljava/lang/String;"), (0, .string 44), (0, u "inc"), (0, .methodref 46 47), (0, .class_ 48), (0, .nameAndType 49 50), (0, u "java/lang/String"), (0, u "equals"), (0, u "(Ljava/lang/Object;)Z"), (0, .string 52), (0, u "dec"), (3, u "law"), (0, u "(I)Z")] 2

def k1m0 : Method := { name := "<init>", desc := "()V", sig := { parameters := [], returnType := none }, accessFlags := 2, code := none }
def k1c1 : Code := { maxStack := 2, maxLocals := 1, code := method_2_code, exceptionTable := #[], attributes := #[] }
def k1m1 : Method := { name := "pick", desc := "(I)Lcom/example/histrix/histrix/Action;", sig := { parameters := [.int], returnType := some (.object "com/example/histrix/histrix/Action") }, accessFlags := 10, code := some k1c1 }
def k1c2 : Code := { maxStack := 2, maxLocals := 7, code := code, exceptionTable := #[], attributes := #[] }
def k1m2 : Method := { name := "law", desc := "(I)Z", sig := { parameters := [.int], returnType := some .boolean }, accessFlags := 9, code := some k1c2 }
/-- com/example/histrix/histrix/ActionAdditivePinLaw -/
def k1 : Class := { plain "com/example/histrix/histrix/ActionAdditivePinLaw" (some 0) with
  accessFlags := 49
  interfaces := #[]
  cf := some (fileOf pool1 30 #[] #[{ accessFlags := 2, nameIndex := 5, descriptorIndex := 6, attributes := #[] }, { accessFlags := 10, nameIndex := 33, descriptorIndex := 34, attributes := #[] }, { accessFlags := 9, nameIndex := 56, descriptorIndex := 57, attributes := #[] }] 49 2 #[] #[])
  fields := #[]
  methods := #[k1m0, k1m1, k1m2]
  instanceTypes := #[]
  staticTypes := #[]
  resolved := Array.replicate 60 none
  statics := none }

def pool2 : Array CpInfo := pool [(1, .class_ 2), (0, u "java/lang/constant/Constable"), (0, .class_ 4), (0, u "java/lang/Object")] 6

/-- java/lang/constant/Constable -/
def k2 : Class := { plain "java/lang/constant/Constable" (some 0) with
  accessFlags := 1537
  interfaces := #[]
  cf := some (fileOf pool2 1 #[] #[] 1537 3 #[] #[])
  fields := #[]
  methods := #[]
  instanceTypes := #[]
  staticTypes := #[]
  resolved := Array.replicate 11 none
  statics := none }

def pool3 : Array CpInfo := pool [(1, .class_ 2), (0, u "java/lang/Comparable"), (0, .class_ 4), (0, u "java/lang/Object")] 7

/-- java/lang/Comparable -/
def k3 : Class := { plain "java/lang/Comparable" (some 0) with
  accessFlags := 1537
  interfaces := #[]
  cf := some (fileOf pool3 1 #[] #[] 1537 3 #[] #[])
  fields := #[]
  methods := #[]
  instanceTypes := #[]
  staticTypes := #[]
  resolved := Array.replicate 12 none
  statics := none }

def pool4 : Array CpInfo := pool [(1, .class_ 2), (0, u "java/io/Serializable"), (0, .class_ 4), (0, u "java/lang/Object")] 2

/-- java/io/Serializable -/
def k4 : Class := { plain "java/io/Serializable" (some 0) with
  accessFlags := 1537
  interfaces := #[]
  cf := some (fileOf pool4 1 #[] #[] 1537 3 #[] #[])
  fields := #[]
  methods := #[]
  instanceTypes := #[]
  staticTypes := #[]
  resolved := Array.replicate 7 none
  statics := none }

def pool5 : Array CpInfo := pool [(2, .class_ 4), (1, u "java/lang/Enum"), (0, u "name"), (0, u "Ljava/lang/String;"), (2, u "ordinal"), (0, u "I"), (1, .class_ 14), (1, u "java/lang/Object"), (4, u "hash"), (86, .class_ 108), (1, u "java/lang/Enum$EnumDesc"), (2, .class_ 112), (0, u "java/lang/constant/Constable"), (0, .class_ 114), (0, u "java/lang/Comparable"), (0, .class_ 116), (0, u "java/io/Serializable")] 87

/-- java/lang/Enum -/
def k5 : Class := { plain "java/lang/Enum" (some 0) with
  accessFlags := 1057
  interfaces := #[2, 3, 4]
  cf := some (fileOf pool5 2 #[.nestMembers #[106]] #[] 1057 12 #[111, 113, 115] #[{ accessFlags := 18, nameIndex := 5, descriptorIndex := 6, attributes := #[] }, { accessFlags := 18, nameIndex := 9, descriptorIndex := 10, attributes := #[] }, { accessFlags := 2, nameIndex := 19, descriptorIndex := 10, attributes := #[] }])
  fields := #[{ name := "name", type := (.object "java/lang/String"), accessFlags := 18, slot := 0, constantValue := 0 }, { name := "ordinal", type := .int, accessFlags := 18, slot := 1, constantValue := 0 }, { name := "hash", type := .int, accessFlags := 2, slot := 2, constantValue := 0 }]
  methods := #[]
  instanceTypes := #[(.object "java/lang/String"), .int, .int]
  staticTypes := #[]
  resolved := Array.replicate 204 none
  statics := none }

def pool6 : Array CpInfo := pool [(1, .class_ 2), (0, u "com/example/histrix/histrix/Action"), (2, u "READ"), (0, u "Lcom/example/histrix/histrix/Action;"), (2, u "WRITE"), (0, .fieldref 1 11), (0, .nameAndType 12 6), (0, u "INCREMENT"), (0, .fieldref 1 14), (0, .nameAndType 15 6), (0, u "DECREMENT"), (2, u "COMMIT"), (2, u "ABORT"), (2, u "$VALUES"), (0, u "[Lcom/example/histrix/histrix/Action;"), (6, .class_ 34), (1, u "java/lang/Enum"), (6, .fieldref 1 42), (0, .nameAndType 43 44), (0, u "symbol"), (0, u "Ljava/lang/String;"), (2, u "onItem"), (0, u "Z"), (2, u "additive"), (0, u "()Z"), (2, u "ALL"), (40, u "()Ljava/lang/String;")] 12

def k6c0 : Code := { maxStack := 1, maxLocals := 1, code := prog_1_method_4_code, exceptionTable := #[], attributes := #[] }
def k6m0 : Method := { name := "symbol", desc := "()Ljava/lang/String;", sig := { parameters := [], returnType := some (.object "java/lang/String") }, accessFlags := 0, code := some k6c0 }
def k6c1 : Code := { maxStack := 2, maxLocals := 1, code := prog_1_method_6_code, exceptionTable := #[], attributes := #[] }
def k6m1 : Method := { name := "additive", desc := "()Z", sig := { parameters := [], returnType := some .boolean }, accessFlags := 0, code := some k6c1 }
/-- com/example/histrix/histrix/Action -/
def k6 : Class := { plain "com/example/histrix/histrix/Action" (some 5) with
  accessFlags := 16432
  interfaces := #[]
  cf := some (fileOf pool6 1 #[] #[{ accessFlags := 0, nameIndex := 43, descriptorIndex := 96, attributes := #[] }, { accessFlags := 0, nameIndex := 51, descriptorIndex := 52, attributes := #[] }] 16432 32 #[] #[{ accessFlags := 16409, nameIndex := 5, descriptorIndex := 6, attributes := #[] }, { accessFlags := 16409, nameIndex := 9, descriptorIndex := 6, attributes := #[] }, { accessFlags := 16409, nameIndex := 12, descriptorIndex := 6, attributes := #[] }, { accessFlags := 16409, nameIndex := 15, descriptorIndex := 6, attributes := #[] }, { accessFlags := 16409, nameIndex := 18, descriptorIndex := 6, attributes := #[] }, { accessFlags := 16409, nameIndex := 21, descriptorIndex := 6, attributes := #[] }, { accessFlags := 26, nameIndex := 55, descriptorIndex := 25, attributes := #[] }, { accessFlags := 18, nameIndex := 43, descriptorIndex := 44, attributes := #[] }, { accessFlags := 18, nameIndex := 47, descriptorIndex := 48, attributes := #[] }, { accessFlags := 4122, nameIndex := 24, descriptorIndex := 25, attributes := #[] }])
  fields := #[{ name := "READ", type := (.object "com/example/histrix/histrix/Action"), accessFlags := 16409, slot := 0, constantValue := 0 }, { name := "WRITE", type := (.object "com/example/histrix/histrix/Action"), accessFlags := 16409, slot := 1, constantValue := 0 }, { name := "INCREMENT", type := (.object "com/example/histrix/histrix/Action"), accessFlags := 16409, slot := 2, constantValue := 0 }, { name := "DECREMENT", type := (.object "com/example/histrix/histrix/Action"), accessFlags := 16409, slot := 3, constantValue := 0 }, { name := "COMMIT", type := (.object "com/example/histrix/histrix/Action"), accessFlags := 16409, slot := 4, constantValue := 0 }, { name := "ABORT", type := (.object "com/example/histrix/histrix/Action"), accessFlags := 16409, slot := 5, constantValue := 0 }, { name := "ALL", type := (.array (.object "com/example/histrix/histrix/Action")), accessFlags := 26, slot := 6, constantValue := 0 }, { name := "symbol", type := (.object "java/lang/String"), accessFlags := 18, slot := 3, constantValue := 0 }, { name := "onItem", type := .boolean, accessFlags := 18, slot := 4, constantValue := 0 }, { name := "$VALUES", type := (.array (.object "com/example/histrix/histrix/Action")), accessFlags := 4122, slot := 7, constantValue := 0 }]
  methods := #[k6m0, k6m1]
  instanceTypes := #[(.object "java/lang/String"), .int, .int, (.object "java/lang/String"), .boolean]
  staticTypes := #[(.object "com/example/histrix/histrix/Action"), (.object "com/example/histrix/histrix/Action"), (.object "com/example/histrix/histrix/Action"), (.object "com/example/histrix/histrix/Action"), (.object "com/example/histrix/histrix/Action"), (.object "com/example/histrix/histrix/Action"), (.array (.object "com/example/histrix/histrix/Action")), (.array (.object "com/example/histrix/histrix/Action"))]
  resolved := Array.replicate 109 none
  statics := some 0 }

def pool7 : Array CpInfo := pool [(2, .class_ 4), (1, u "java/lang/CharSequence"), (42, .class_ 48), (0, u "java/lang/CharSequence$1CodePointIterator"), (10, .class_ 60), (0, u "java/lang/CharSequence$1CharIterator"), (5, .class_ 67), (0, u "java/lang/Object")] 63

/-- java/lang/CharSequence -/
def k7 : Class := { plain "java/lang/CharSequence" (some 0) with
  accessFlags := 1537
  interfaces := #[]
  cf := some (fileOf pool7 2 #[.nestMembers #[47, 59]] #[] 1537 66 #[] #[])
  fields := #[]
  methods := #[]
  instanceTypes := #[]
  staticTypes := #[]
  resolved := Array.replicate 131 none
  statics := none }

def pool8 : Array CpInfo := pool [(1, .class_ 2), (0, u "java/lang/constant/ConstantDesc"), (0, .class_ 4), (0, u "java/lang/Object")] 32

/-- java/lang/constant/ConstantDesc -/
def k8 : Class := { plain "java/lang/constant/ConstantDesc" (some 0) with
  accessFlags := 1537
  interfaces := #[]
  cf := some (fileOf pool8 1 #[] #[] 1537 3 #[] #[])
  fields := #[]
  methods := #[]
  instanceTypes := #[]
  staticTypes := #[]
  resolved := Array.replicate 37 none
  statics := none }

def pool9 : Array CpInfo := pool [(2, .class_ 4), (1, u "java/lang/Object"), (0, u "<init>"), (0, u "()V"), (2, .fieldref 10 11), (0, .class_ 12), (0, .nameAndType 13 14), (0, u "java/lang/String"), (0, u "value"), (0, u "[B"), (0, .fieldref 10 16), (0, .nameAndType 17 18), (0, u "coder"), (0, u "B"), (2, u "hash"), (0, u "I"), (2, u "hashIsZero"), (0, u "Z"), (11, .fieldref 10 39), (0, .nameAndType 40 26), (0, u "COMPACT_STRINGS"), (66, .class_ 109), (1, u "java/lang/StringLatin1"), (431, .methodref 107 542), (0, .nameAndType 543 544), (0, u "equals"), (0, u "([B[B)Z"), (28, u "(Ljava/lang/Object;)Z"), (1, .class_ 576), (0, u "java/lang/CharSequence"), (22, u "CASE_INSENSITIVE_ORDER"), (0, u "Ljava/util/Comparator;"), (500, u "serialPersistentFields"), (0, u "[Ljava/io/ObjectStreamField;"), (0, .class_ 1104), (0, u "java/lang/String$CaseInsensitiveComparator"), (1, .class_ 1107), (0, u "java/io/Serializable"), (0, .class_ 1109), (0, u "java/lang/Comparable"), (0, .class_ 1111), (0, u "java/lang/constant/Constable"), (0, .class_ 1113), (0, u "java/lang/constant/ConstantDesc"), (2, u "serialVersionUID"), (0, u "J"), (3, u "REPL"), (0, u "C"), (2, u "LATIN1"), (1, u "UTF16")] 323

def k9m0 : Method := { name := "<init>", desc := "()V", sig := { parameters := [], returnType := none }, accessFlags := 1, code := none }
def k9c1 : Code := { maxStack := 2, maxLocals := 3, code := jdk_42_method_66_code, exceptionTable := #[], attributes := #[] }
def k9m1 : Method := { name := "equals", desc := "(Ljava/lang/Object;)Z", sig := { parameters := [(.object "java/lang/Object")], returnType := some .boolean }, accessFlags := 1, code := some k9c1 }
/-- java/lang/String -/
def k9 : Class := { plain "java/lang/String" (some 0) with
  accessFlags := 49
  interfaces := #[4, 3, 7, 2, 8]
  cf := some (fileOf pool9 10 #[.nestMembers #[1103]] #[{ accessFlags := 1, nameIndex := 5, descriptorIndex := 6, attributes := #[] }, { accessFlags := 1, nameIndex := 543, descriptorIndex := 573, attributes := #[] }] 49 2 #[1106, 1108, 575, 1110, 1112] #[{ accessFlags := 18, nameIndex := 13, descriptorIndex := 14, attributes := #[] }, { accessFlags := 18, nameIndex := 17, descriptorIndex := 18, attributes := #[] }, { accessFlags := 2, nameIndex := 21, descriptorIndex := 22, attributes := #[] }, { accessFlags := 2, nameIndex := 25, descriptorIndex := 26, attributes := #[] }, { accessFlags := 26, nameIndex := 1116, descriptorIndex := 1117, attributes := #[] }, { accessFlags := 24, nameIndex := 40, descriptorIndex := 26, attributes := #[] }, { accessFlags := 26, nameIndex := 1101, descriptorIndex := 1102, attributes := #[] }, { accessFlags := 26, nameIndex := 1121, descriptorIndex := 1122, attributes := #[] }, { accessFlags := 25, nameIndex := 599, descriptorIndex := 600, attributes := #[] }, { accessFlags := 24, nameIndex := 1125, descriptorIndex := 18, attributes := #[] }, { accessFlags := 24, nameIndex := 1127, descriptorIndex := 18, attributes := #[] }])
  fields := #[{ name := "value", type := (.array .byte), accessFlags := 18, slot := 0, constantValue := 0 }, { name := "coder", type := .byte, accessFlags := 18, slot := 1, constantValue := 0 }, { name := "hash", type := .int, accessFlags := 2, slot := 2, constantValue := 0 }, { name := "hashIsZero", type := .boolean, accessFlags := 2, slot := 3, constantValue := 0 }, { name := "serialVersionUID", type := .long, accessFlags := 26, slot := 0, constantValue := 0 }, { name := "COMPACT_STRINGS", type := .boolean, accessFlags := 24, slot := 1, constantValue := 0 }, { name := "serialPersistentFields", type := (.array (.object "java/io/ObjectStreamField")), accessFlags := 26, slot := 2, constantValue := 0 }, { name := "REPL", type := .char, accessFlags := 26, slot := 3, constantValue := 0 }, { name := "CASE_INSENSITIVE_ORDER", type := (.object "java/util/Comparator"), accessFlags := 25, slot := 4, constantValue := 0 }, { name := "LATIN1", type := .byte, accessFlags := 24, slot := 5, constantValue := 0 }, { name := "UTF16", type := .byte, accessFlags := 24, slot := 6, constantValue := 0 }]
  methods := #[k9m0, k9m1]
  instanceTypes := #[(.array .byte), .byte, .int, .boolean]
  staticTypes := #[.long, .boolean, (.array (.object "java/io/ObjectStreamField")), .char, (.object "java/util/Comparator"), .byte, .byte]
  resolved := Array.replicate 1451 none
  statics := some 1 }

def pool10 : Array CpInfo := pool [(4, .class_ 6), (1, u "java/lang/Object"), (0, u "<init>"), (0, u "()V"), (5, .class_ 16), (1, u "java/lang/StringLatin1"), (104, u "$assertionsDisabled"), (0, u "Z"), (98, .class_ 223), (1, u "java/lang/StringLatin1$LinesSpliterator"), (57, u "equals"), (0, u "([B[B)Z"), (107, .class_ 391), (0, u "java/lang/StringLatin1$CharsSpliterator")] 3

def k10m0 : Method := { name := "<init>", desc := "()V", sig := { parameters := [], returnType := none }, accessFlags := 0, code := none }
def k10c1 : Code := { maxStack := 3, maxLocals := 3, code := jdk_43_method_13_code, exceptionTable := #[], attributes := #[] }
def k10m1 : Method := { name := "equals", desc := "([B[B)Z", sig := { parameters := [(.array .byte), (.array .byte)], returnType := some .boolean }, accessFlags := 9, code := some k10c1 }
/-- java/lang/StringLatin1 -/
def k10 : Class := { plain "java/lang/StringLatin1" (some 0) with
  accessFlags := 48
  interfaces := #[]
  cf := some (fileOf pool10 14 #[.nestMembers #[390, 221]] #[{ accessFlags := 0, nameIndex := 7, descriptorIndex := 8, attributes := #[] }, { accessFlags := 9, nameIndex := 281, descriptorIndex := 282, attributes := #[] }] 48 4 #[] #[{ accessFlags := 4120, nameIndex := 121, descriptorIndex := 122, attributes := #[] }])
  fields := #[{ name := "$assertionsDisabled", type := .boolean, accessFlags := 4120, slot := 0, constantValue := 0 }]
  methods := #[k10m0, k10m1]
  instanceTypes := #[]
  staticTypes := #[.boolean]
  resolved := Array.replicate 395 none
  statics := none }

def pool11 : Array CpInfo := pool [(2, .class_ 4), (1, u "java/lang/Object"), (0, u "<init>"), (0, u "()V"), (17, .class_ 26), (1, u "jdk/internal/util/Preconditions"), (28, .class_ 56), (0, u "jdk/internal/util/Preconditions$4"), (57, .class_ 115), (0, u "jdk/internal/util/Preconditions$1"), (7, u "SIOOBE_FORMATTER"), (0, u "Ljava/util/function/BiFunction;"), (0, .class_ 126), (0, u "jdk/internal/util/Preconditions$2"), (3, u "AIOOBE_FORMATTER"), (0, .class_ 132), (0, u "jdk/internal/util/Preconditions$3"), (3, u "IOOBE_FORMATTER")] 57

def k11m0 : Method := { name := "<init>", desc := "()V", sig := { parameters := [], returnType := none }, accessFlags := 1, code := none }
/-- jdk/internal/util/Preconditions -/
def k11 : Class := { plain "jdk/internal/util/Preconditions" (some 0) with
  accessFlags := 33
  interfaces := #[]
  cf := some (fileOf pool11 24 #[.nestMembers #[55, 131, 125, 114]] #[{ accessFlags := 1, nameIndex := 5, descriptorIndex := 6, attributes := #[] }] 33 2 #[] #[{ accessFlags := 25, nameIndex := 123, descriptorIndex := 124, attributes := #[] }, { accessFlags := 25, nameIndex := 130, descriptorIndex := 124, attributes := #[] }, { accessFlags := 25, nameIndex := 136, descriptorIndex := 124, attributes := #[] }])
  fields := #[{ name := "SIOOBE_FORMATTER", type := (.object "java/util/function/BiFunction"), accessFlags := 25, slot := 0, constantValue := 0 }, { name := "AIOOBE_FORMATTER", type := (.object "java/util/function/BiFunction"), accessFlags := 25, slot := 1, constantValue := 0 }, { name := "IOOBE_FORMATTER", type := (.object "java/util/function/BiFunction"), accessFlags := 25, slot := 2, constantValue := 0 }]
  methods := #[k11m0]
  instanceTypes := #[]
  staticTypes := #[(.object "java/util/function/BiFunction"), (.object "java/util/function/BiFunction"), (.object "java/util/function/BiFunction")]
  resolved := Array.replicate 194 none
  statics := some 2 }

def pool12 : Array CpInfo := pool [(9, u "<init>"), (6, .class_ 18), (1, u "java/lang/Object"), (0, u "()V"), (1, .class_ 23), (1, u "jdk/internal/util/ArraysSupport"), (0, u "LOG2_ARRAY_LONG_INDEX_SCALE"), (0, u "I"), (2, u "U"), (0, u "Ljdk/internal/misc/Unsafe;"), (8, u "BIG_ENDIAN"), (0, u "Z"), (8, u "LOG2_BYTE_BIT_SIZE"), (4, u "LOG2_ARRAY_INT_INDEX_SCALE"), (54, u "JLA"), (0, u "Ljdk/internal/access/JavaLangAccess;"), (11, u "LOG2_ARRAY_BOOLEAN_INDEX_SCALE"), (9, u "LOG2_ARRAY_BYTE_INDEX_SCALE"), (5, u "LOG2_ARRAY_CHAR_INDEX_SCALE"), (5, u "LOG2_ARRAY_SHORT_INDEX_SCALE"), (18, u "LOG2_ARRAY_FLOAT_INDEX_SCALE"), (24, u "LOG2_ARRAY_DOUBLE_INDEX_SCALE"), (89, u "T_BOOLEAN"), (2, u "T_CHAR"), (1, u "T_FLOAT"), (1, u "T_DOUBLE"), (1, u "T_BYTE"), (1, u "T_SHORT"), (1, u "T_INT"), (1, u "T_LONG"), (1, u "SOFT_MAX_ARRAY_LENGTH")] 83

def k12m0 : Method := { name := "<init>", desc := "()V", sig := { parameters := [], returnType := none }, accessFlags := 2, code := none }
/-- jdk/internal/util/ArraysSupport -/
def k12 : Class := { plain "jdk/internal/util/ArraysSupport" (some 0) with
  accessFlags := 33
  interfaces := #[]
  cf := some (fileOf pool12 21 #[] #[{ accessFlags := 2, nameIndex := 9, descriptorIndex := 19, attributes := #[] }] 33 16 #[] #[{ accessFlags := 24, nameIndex := 28, descriptorIndex := 29, attributes := #[] }, { accessFlags := 26, nameIndex := 38, descriptorIndex := 39, attributes := #[] }, { accessFlags := 25, nameIndex := 121, descriptorIndex := 25, attributes := #[] }, { accessFlags := 25, nameIndex := 131, descriptorIndex := 25, attributes := #[] }, { accessFlags := 25, nameIndex := 137, descriptorIndex := 25, attributes := #[] }, { accessFlags := 25, nameIndex := 143, descriptorIndex := 25, attributes := #[] }, { accessFlags := 25, nameIndex := 53, descriptorIndex := 25, attributes := #[] }, { accessFlags := 25, nameIndex := 24, descriptorIndex := 25, attributes := #[] }, { accessFlags := 25, nameIndex := 162, descriptorIndex := 25, attributes := #[] }, { accessFlags := 25, nameIndex := 187, descriptorIndex := 25, attributes := #[] }, { accessFlags := 26, nameIndex := 48, descriptorIndex := 25, attributes := #[] }, { accessFlags := 25, nameIndex := 277, descriptorIndex := 25, attributes := #[] }, { accessFlags := 25, nameIndex := 280, descriptorIndex := 25, attributes := #[] }, { accessFlags := 25, nameIndex := 282, descriptorIndex := 25, attributes := #[] }, { accessFlags := 25, nameIndex := 284, descriptorIndex := 25, attributes := #[] }, { accessFlags := 25, nameIndex := 286, descriptorIndex := 25, attributes := #[] }, { accessFlags := 25, nameIndex := 288, descriptorIndex := 25, attributes := #[] }, { accessFlags := 25, nameIndex := 290, descriptorIndex := 25, attributes := #[] }, { accessFlags := 25, nameIndex := 292, descriptorIndex := 25, attributes := #[] }, { accessFlags := 26, nameIndex := 108, descriptorIndex := 109, attributes := #[] }, { accessFlags := 25, nameIndex := 294, descriptorIndex := 25, attributes := #[] }])
  fields := #[{ name := "U", type := (.object "jdk/internal/misc/Unsafe"), accessFlags := 24, slot := 0, constantValue := 0 }, { name := "BIG_ENDIAN", type := .boolean, accessFlags := 26, slot := 1, constantValue := 0 }, { name := "LOG2_ARRAY_BOOLEAN_INDEX_SCALE", type := .int, accessFlags := 25, slot := 2, constantValue := 0 }, { name := "LOG2_ARRAY_BYTE_INDEX_SCALE", type := .int, accessFlags := 25, slot := 3, constantValue := 0 }, { name := "LOG2_ARRAY_CHAR_INDEX_SCALE", type := .int, accessFlags := 25, slot := 4, constantValue := 0 }, { name := "LOG2_ARRAY_SHORT_INDEX_SCALE", type := .int, accessFlags := 25, slot := 5, constantValue := 0 }, { name := "LOG2_ARRAY_INT_INDEX_SCALE", type := .int, accessFlags := 25, slot := 6, constantValue := 0 }, { name := "LOG2_ARRAY_LONG_INDEX_SCALE", type := .int, accessFlags := 25, slot := 7, constantValue := 0 }, { name := "LOG2_ARRAY_FLOAT_INDEX_SCALE", type := .int, accessFlags := 25, slot := 8, constantValue := 0 }, { name := "LOG2_ARRAY_DOUBLE_INDEX_SCALE", type := .int, accessFlags := 25, slot := 9, constantValue := 0 }, { name := "LOG2_BYTE_BIT_SIZE", type := .int, accessFlags := 26, slot := 10, constantValue := 0 }, { name := "T_BOOLEAN", type := .int, accessFlags := 25, slot := 11, constantValue := 0 }, { name := "T_CHAR", type := .int, accessFlags := 25, slot := 12, constantValue := 0 }, { name := "T_FLOAT", type := .int, accessFlags := 25, slot := 13, constantValue := 0 }, { name := "T_DOUBLE", type := .int, accessFlags := 25, slot := 14, constantValue := 0 }, { name := "T_BYTE", type := .int, accessFlags := 25, slot := 15, constantValue := 0 }, { name := "T_SHORT", type := .int, accessFlags := 25, slot := 16, constantValue := 0 }, { name := "T_INT", type := .int, accessFlags := 25, slot := 17, constantValue := 0 }, { name := "T_LONG", type := .int, accessFlags := 25, slot := 18, constantValue := 0 }, { name := "JLA", type := (.object "jdk/internal/access/JavaLangAccess"), accessFlags := 26, slot := 19, constantValue := 0 }, { name := "SOFT_MAX_ARRAY_LENGTH", type := .int, accessFlags := 25, slot := 20, constantValue := 0 }]
  methods := #[k12m0]
  instanceTypes := #[]
  staticTypes := #[(.object "jdk/internal/misc/Unsafe"), .boolean, .int, .int, .int, .int, .int, .int, .int, .int, .int, .int, .int, .int, .int, .int, .int, .int, .int, (.object "jdk/internal/access/JavaLangAccess"), .int]
  resolved := Array.replicate 378 none
  statics := none }

def pool13 : Array CpInfo := pool [(1, u "java/lang/Cloneable"), (0, .class_ 1), (0, u "java/lang/Object"), (0, .class_ 3)] 3

/-- java/lang/Cloneable -/
def k13 : Class := { plain "java/lang/Cloneable" (some 0) with
  accessFlags := 1537
  interfaces := #[]
  cf := some (fileOf pool13 2 #[] #[] 1537 4 #[] #[])
  fields := #[]
  methods := #[]
  instanceTypes := #[]
  staticTypes := #[]
  resolved := Array.replicate 8 none
  statics := none }

/-- the primitive byte -/
def k14 : Class := { plain "byte" none with kind := .primitive 'B', accessFlags := 0x411 }
/-- [B -/
def k15 : Class := { plain "[B" (some 0) with kind := .array 14 .byte, interfaces := #[13, 4], accessFlags := 1041 }

/-- the primitive int -/
def k16 : Class := { plain "int" none with kind := .primitive 'I', accessFlags := 0x411 }
/-- [I -/
def k17 : Class := { plain "[I" (some 0) with kind := .array 16 .int, interfaces := #[13, 4], accessFlags := 1041 }

def heap : Heap := #[{ cls := 6, slots := #[.ref 5, .ref 8, .ref 11, .ref 14, .ref 17, .ref 20, .null, .null], vm := .statics 6 },
  { cls := 9, slots := #[.long 0, .int 1, .null, .int 0, .null, .int 0, .int 0], vm := .statics 9 },
  { cls := 11, slots := #[.null, .null, .null], vm := .statics 11 },
  { cls := 15, slots := #[.int 114], vm := .none },
  { cls := 9, slots := #[.ref 3, .int 0, .int 0, .int 0], vm := .none },
  { cls := 6, slots := #[.ref 4, .int 0, .int 0, .ref 4, .int 1], vm := .none },
  { cls := 15, slots := #[.int 119], vm := .none },
  { cls := 9, slots := #[.ref 6, .int 0, .int 0, .int 0], vm := .none },
  { cls := 6, slots := #[.ref 7, .int 1, .int 0, .ref 7, .int 1], vm := .none },
  { cls := 15, slots := #[.int 105, .int 110, .int 99], vm := .none },
  { cls := 9, slots := #[.ref 9, .int 0, .int 0, .int 0], vm := .none },
  { cls := 6, slots := #[.ref 10, .int 2, .int 0, .ref 10, .int 1], vm := .none },
  { cls := 15, slots := #[.int 100, .int 101, .int 99], vm := .none },
  { cls := 9, slots := #[.ref 12, .int 0, .int 0, .int 0], vm := .none },
  { cls := 6, slots := #[.ref 13, .int 3, .int 0, .ref 13, .int 1], vm := .none },
  { cls := 15, slots := #[.int 99], vm := .none },
  { cls := 9, slots := #[.ref 15, .int 0, .int 0, .int 0], vm := .none },
  { cls := 6, slots := #[.ref 16, .int 4, .int 0, .ref 16, .int 0], vm := .none },
  { cls := 15, slots := #[.int 97], vm := .none },
  { cls := 9, slots := #[.ref 18, .int 0, .int 0, .int 0], vm := .none },
  { cls := 6, slots := #[.ref 19, .int 5, .int 0, .ref 19, .int 0], vm := .none }]
def classes : Array Class := #[k0, k1, k2, k3, k4, k5, k6, k7, k8, k9, k10, k11, k12, k13, k14, k15, k16, k17]
def interned : List (Array UInt16 × Addr) := []
def slotsUsed : Nat := 82
def theMethod : MethodId := ⟨1, 2⟩
def args0 : Array Value := #[.int 5]
def aboutOver (below : List Frame) : State where
  vm := { classes := classes, interned := interned.toArray }
  heap := heap
  slotsUsed := slotsUsed
  threads := #[{ frames := .invoking theMethod args0 :: below }]
def below0 : List Frame := [.native { method := ⟨0, 0⟩, args := #[] }]
def about1 : State := aboutOver below0
def p0 : Program := .bare "" "" ""
def e0 : Env := launch0.env 0 0 0
theorem w_frames : about1.frames = Frame.invoking theMethod args0 :: below0 := rfl
set_option maxRecDepth 65536 in
theorem w_args : argsFit about1.vm theMethod args0 = true := by decide +kernel
set_option maxRecDepth 65536 in
theorem w_heap : heapFits about1 = true := by decide +kernel
set_option maxRecDepth 65536 in
theorem w_runnable : about1.curStatus? = some .runnable := by decide +kernel
set_option maxRecDepth 65536 in
theorem w_alone : about1.alone = true := by decide +kernel
set_option maxRecDepth 65536 in
theorem w_named : about1.methodNamed? x = some theMethod := by decide +kernel
set_option maxRecDepth 65536 in
theorem w_hears : about1.hears theMethod below0 = true := by decide +kernel
set_option maxRecDepth 65536 in
theorem w_ripe : about1.ripe theMethod args0 below0 = true := by decide +kernel
theorem w_running : about1.status = .running := rfl
set_option maxRecDepth 65536 in
theorem w_room : about1.hasRoom e0.platform room_1 = true :=
  launch0.hasRoom_least _ room_1 (by decide +kernel) (by decide +kernel) (by decide +kernel) (by decide +kernel) (by decide +kernel) (by decide +kernel)
theorem allAtoms_all (ts : List Jvm.Cond) (a : Array Jvm.Value) (st : Jvm.State) : (allAtoms ts).before a st = ts.all (fun c => c.before a st) := by
  induction ts with
  | nil => rfl
  | cons c t ih =>
    show (Jvm.Cond.and c (allAtoms t)).before a st = _
    rw [Jvm.Cond.before_and, ih, List.all_cons]
def words1 : List Jvm.Cond := Jvm.Cond.code x code maxLocals ret :: tables_1
/-- a 'code' word, met by the world's own term for the bytes: nothing is compared byte by byte -/
theorem code_word {y : MethodName} {bytes : ByteArray} {mx : Nat} {rt : Option FieldType} {a : Array Value} {s : State} {m : MethodId} {meth : Method} {c : Code} (h1 : s.methodNamed? y = some m) (h2 : s.vm.method? m = some meth) (h3 : meth.code = some c) (h4 : c.code = bytes)
    (h5 : (c.maxLocals == mx && c.exceptionTable.isEmpty && decide (c.maxStack ≤ mostOperands) && decide (meth.sig.returnType = rt) && !meth.locks && decide (parseMethodDescriptor y.desc = some meth.sig)) = true) : (Jvm.Cond.code y bytes mx rt).before a s = true := by
  simp only [Bool.and_eq_true, beq_iff_eq, Bool.not_eq_true', decide_eq_true_eq] at h5
  obtain ⟨⟨⟨⟨⟨g1, g2⟩, g3⟩, g4⟩, g5⟩, g6⟩ := h5
  simp [Cond.before, Cond.holds, Cond.value, h1, h2, h3, h4, g1, g2, g3, g4, g5, g6]
def isCode : Jvm.Cond → Bool
  | .code _ _ _ _ => true
  | _ => false
theorem all_split {L : List Jvm.Cond} {P : Jvm.Cond → Bool} (h1 : L.all (fun c => isCode c || P c) = true) (h2 : ∀ c ∈ L.filter isCode, P c = true) : L.all P = true := by
  refine List.all_eq_true.mpr fun c hc => ?_
  have h := List.all_eq_true.mp h1 c hc
  rcases Bool.eq_false_or_eq_true (isCode c) with hi | hi
  · exact h2 c (List.mem_filter.mpr ⟨hc, hi⟩)
  · simpa [hi] using h
set_option maxRecDepth 65536 in
theorem w_c0 : (Jvm.Cond.code x code maxLocals ret).before args0 about1 = true := code_word (m := ⟨1, 2⟩) (meth := k1m2) (c := k1c2) (by decide +kernel) rfl rfl rfl (by decide +kernel)
set_option maxRecDepth 65536 in
theorem w_c1 : (Jvm.Cond.code ({ cls := "com/example/histrix/histrix/ActionAdditivePinLaw", name := "pick", desc := "(I)Lcom/example/histrix/histrix/Action;" } : Jvm.MethodName) method_2_code (1 : Nat) (Option.some (Jvm.ClassFile.FieldType.object "com/example/histrix/histrix/Action"))).before args0 about1 = true := code_word (m := ⟨1, 1⟩) (meth := k1m1) (c := k1c1) (by decide +kernel) rfl rfl rfl (by decide +kernel)
set_option maxRecDepth 65536 in
theorem w_c2 : (Jvm.Cond.code ({ cls := "com/example/histrix/histrix/Action", name := "additive", desc := "()Z" } : Jvm.MethodName) prog_1_method_6_code (1 : Nat) (Option.some Jvm.ClassFile.FieldType.boolean)).before args0 about1 = true := code_word (m := ⟨6, 1⟩) (meth := k6m1) (c := k6c1) (by decide +kernel) rfl rfl rfl (by decide +kernel)
set_option maxRecDepth 65536 in
theorem w_c3 : (Jvm.Cond.code ({ cls := "com/example/histrix/histrix/Action", name := "symbol", desc := "()Ljava/lang/String;" } : Jvm.MethodName) prog_1_method_4_code (1 : Nat) (Option.some (Jvm.ClassFile.FieldType.object "java/lang/String"))).before args0 about1 = true := code_word (m := ⟨6, 0⟩) (meth := k6m0) (c := k6c0) (by decide +kernel) rfl rfl rfl (by decide +kernel)
set_option maxRecDepth 65536 in
theorem w_c4 : (Jvm.Cond.code ({ cls := "java/lang/String", name := "equals", desc := "(Ljava/lang/Object;)Z" } : Jvm.MethodName) jdk_42_method_66_code (3 : Nat) (Option.some Jvm.ClassFile.FieldType.boolean)).before args0 about1 = true := code_word (m := ⟨9, 1⟩) (meth := k9m1) (c := k9c1) (by decide +kernel) rfl rfl rfl (by decide +kernel)
set_option maxRecDepth 65536 in
theorem w_c5 : (Jvm.Cond.code ({ cls := "java/lang/StringLatin1", name := "equals", desc := "([B[B)Z" } : Jvm.MethodName) jdk_43_method_13_code (3 : Nat) (Option.some Jvm.ClassFile.FieldType.boolean)).before args0 about1 = true := code_word (m := ⟨10, 1⟩) (meth := k10m1) (c := k10c1) (by decide +kernel) rfl rfl rfl (by decide +kernel)
def codes1 : List Jvm.Cond := [Jvm.Cond.code x code maxLocals ret, Jvm.Cond.code ({ cls := "com/example/histrix/histrix/ActionAdditivePinLaw", name := "pick", desc := "(I)Lcom/example/histrix/histrix/Action;" } : Jvm.MethodName) method_2_code (1 : Nat) (Option.some (Jvm.ClassFile.FieldType.object "com/example/histrix/histrix/Action")), Jvm.Cond.code ({ cls := "com/example/histrix/histrix/Action", name := "additive", desc := "()Z" } : Jvm.MethodName) prog_1_method_6_code (1 : Nat) (Option.some Jvm.ClassFile.FieldType.boolean), Jvm.Cond.code ({ cls := "com/example/histrix/histrix/Action", name := "symbol", desc := "()Ljava/lang/String;" } : Jvm.MethodName) prog_1_method_4_code (1 : Nat) (Option.some (Jvm.ClassFile.FieldType.object "java/lang/String")), Jvm.Cond.code ({ cls := "java/lang/String", name := "equals", desc := "(Ljava/lang/Object;)Z" } : Jvm.MethodName) jdk_42_method_66_code (3 : Nat) (Option.some Jvm.ClassFile.FieldType.boolean), Jvm.Cond.code ({ cls := "java/lang/StringLatin1", name := "equals", desc := "([B[B)Z" } : Jvm.MethodName) jdk_43_method_13_code (3 : Nat) (Option.some Jvm.ClassFile.FieldType.boolean)]
set_option maxRecDepth 65536 in
theorem codes_eq : words1.filter isCode = codes1 := rfl
theorem w_codes : ∀ c ∈ words1.filter isCode, c.before args0 about1 = true := by
  rw [codes_eq]
  intro c hc
  simp only [codes1, List.mem_cons, List.not_mem_nil, or_false] at hc
  rcases hc with rfl | rfl | rfl | rfl | rfl | rfl
  · exact w_c0
  · exact w_c1
  · exact w_c2
  · exact w_c3
  · exact w_c4
  · exact w_c5
set_option maxRecDepth 65536 in
theorem w_t1 : (words1.take 24).all (fun c => isCode c || c.before args0 about1) = true := by decide +kernel
set_option maxRecDepth 65536 in
theorem w_t2 : ((words1.drop 24).take 24).all (fun c => isCode c || c.before args0 about1) = true := by decide +kernel
set_option maxRecDepth 65536 in
theorem w_t3 : ((words1.drop 24).drop 24).all (fun c => isCode c || c.before args0 about1) = true := by decide +kernel
theorem w_tables : (allAtoms (Jvm.Cond.code x code maxLocals ret :: tables_1)).before args0 about1 = true := by
  rw [allAtoms_all]
  show words1.all (fun c => c.before args0 about1) = true
  refine all_split ?_ w_codes
  rw [← List.take_append_drop 24 words1, List.all_append, w_t1, ← List.take_append_drop 24 (words1.drop 24), List.all_append, w_t2, w_t3]
  rfl
set_option maxRecDepth 65536 in
theorem w_rest : rest_1_c.before args0 about1 = true := by decide +kernel
set_option maxRecDepth 65536 in
theorem w_case : (Jvm.Cond.and given_1 narrow_1).before args0 about1 = true := by decide +kernel
set_option maxRecDepth 65536 in
theorem w_consts : constsHeld consts_1 about1 := Jvm.Lit.constsHeldB_iff.mp (by decide +kernel)
theorem w_applies : (headSpec (Jvm.Cond.code x code maxLocals ret :: tables_1) room_1).applies x e0.platform about1 = true :=
  (Spec.applies_iff w_frames).mpr ⟨w_running, w_runnable, w_alone, w_named, w_hears, w_ripe, w_room, w_tables⟩
theorem atStart : AtStart classFile x code maxLocals ret World_1 tables_1 room_1 Calls_1 rest_1 Pre_1 launch0 p0 e0 about1 theMethod args0 below0 :=
  ⟨lists_1, trivial, launch0.admits_env _ _ _, launch0.least_env, fairChoices_fair.cas, fairChoices_fair.clock, w_frames, w_args, w_heap, w_applies, ⟨w_consts, trivial⟩, w_rest, w_case⟩
end start1
theorem witness_1 : WitnessClaimed_1 := ⟨start1.p0, start1.e0, start1.about1, start1.theMethod, start1.args0, start1.below0, start1.atStart⟩
end Jvm.Pilot.@@N@@
