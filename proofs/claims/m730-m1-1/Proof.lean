import JvmDerived
import JvmDerived.Pilot.@@N@@Statement
import JvmDerived.Pilot.@@N@@Code
set_option linter.unusedVariables false
set_option linter.unusedSimpArgs false

namespace Jvm.Pilot.@@N@@
open Jvm Jvm.ClassFile Sem Op Lib Jvm.Free Jvm.Stand Jvm.LawKit Jvm.RoadKit Bundle Jvm.Pilot.@@N@@.Jvm.D
section Own
variable {p : Program} {l : Launch} {e : Env} {R : Room} {s : State} {m : MethodId} {args : Array Value} {below : List Frame} {meth : Method} {c : Code} {T : State} {locs : List Loc} {cells slots : Nat} {Z : State} {h h' : Heap}
/-- the run from A comes to the method's end as Q says, with at most kc new cells and ks new slots -/
def own_E (p : Program) (e : Env) (below : List Frame) (s : State) (Q : Option Value → Heap → List Loc → Prop) (kc ks : Nat) (A : State) : Prop :=
  ∃ s₂ o, Steps p.tables e below A s₂ ∧ s₂.status = .running ∧ Ended s₂ below o ∧ ∃ v L, o = .returned v ∧ Q v s₂.heap L ∧ FrameEnd s o s₂ L kc ks
variable {Q : Option Value → Heap → List Loc → Prop} {kc ks : Nat} {A B : State}
theorem own_st (k : ∀ t, Steps p.tables e below B t → Steps p.tables e below A t) (h : own_E p e below s Q kc ks B) : own_E p e below s Q kc ks A := by
  obtain ⟨t, o, h1, h2⟩ := h
  exact ⟨t, o, k t h1, h2⟩
theorem own_end (X : Stand p l e R s m args below meth c T locs cells slots) {v : Option Value} (hv : meth.sig.returnType = none → v = none) (hlk : meth.locks = false)
    (hk : ∀ fs, (∀ (f : JFrame) (acts : List Action), f.method = m → f.locked = none → f.entered = [] → (doReturn e (T.setTop f) acts v).1 = T.setFrames fs) → Steps p.tables e below A (T.setFrames fs)) (hc : cells ≤ kc) (hs : slots ≤ ks) (hQ : Q v T.heap locs) : own_E p e below s Q kc ks A := by
  obtain ⟨fs, hr, hrun, hended, hW, hsame⟩ := X.leave (v := v) hv hlk
  exact ⟨_, _, hk fs hr, hrun, hended, _, _, rfl, hQ, ⟨_, rfl⟩, hW, hsame.mono hc hs⟩
theorem own_retN (X : Stand p l e R s m args below meth c T locs cells slots) (hx : p.tables.exec = Jvm.exec) {pc : Nat} {Ls : Array Slot} {z z' : Int32} {t : FieldType} {rest : List Value} (hret : meth.sig.returnType = some t) (ht : t = .boolean ∨ t = .byte ∨ t = .char ∨ t = .short) (hlk : meth.locks = false)
    (hd : decode c.code pc = .ok (.ireturn, 1)) (hz : nar t z = z') (hc : cells ≤ kc) (hs : slots ≤ ks) (hQ : Q (some (.int z')) T.heap locs) : own_E p e below s Q kc ks (T.setTop (mkF m pc Ls (.int z :: rest))) := by
  subst hz
  exact own_end X (fun q => by rw [hret] at q; cases q) hlk (fun fs hr => retN X hx hret ht hd hr) hc hs hQ
theorem own_retI (X : Stand p l e R s m args below meth c T locs cells slots) (hx : p.tables.exec = Jvm.exec) {pc : Nat} {Ls : Array Slot} {z : Int32} {rest : List Value} (hret : meth.sig.returnType = some .int) (hlk : meth.locks = false)
    (hd : decode c.code pc = .ok (.ireturn, 1)) (hc : cells ≤ kc) (hs : slots ≤ ks) (hQ : Q (some (.int z)) T.heap locs) : own_E p e below s Q kc ks (T.setTop (mkF m pc Ls (.int z :: rest))) := by
  refine own_end X (fun q => by rw [hret] at q; cases q) hlk (fun fs hr => ?_) hc hs hQ
  have hm' : T.vm.method? m = some meth := X.method'
  have hn : narrow .int (.int z) = .int z := rfl
  show Steps p.tables e below (T.setTop { method := m, pc := pc, locals := Ls, stack := _ :: rest, locked := none }) _
  jvm_step X.here [X.here.top, hx, hd, hm', hret, hn]
  first | (intro acts; rw [hr _ acts rfl rfl rfl]) | rw [hr _ _ rfl rfl rfl]
  exact Steps.refl _
theorem own_retJ (X : Stand p l e R s m args below meth c T locs cells slots) (hx : p.tables.exec = Jvm.exec) {pc : Nat} {Ls : Array Slot} {z : Int64} (hret : meth.sig.returnType = some .long) (hlk : meth.locks = false)
    (hd : decode c.code pc = .ok (.lreturn, 1)) (hc : cells ≤ kc) (hs : slots ≤ ks) (hQ : Q (some (.long z)) T.heap locs) : own_E p e below s Q kc ks (T.setTop (mkF m pc Ls [.long z])) :=
  own_end X (fun q => by rw [hret] at q; cases q) hlk (fun fs hr => X.lreturnOut hx hret hd hr) hc hs hQ
theorem own_retR (X : Stand p l e R s m args below meth c T locs cells slots) (hx : p.tables.exec = Jvm.exec) {pc : Nat} {Ls : Array Slot} {w : Value} {t : FieldType} (hw : w.isRef = true) (hret : meth.sig.returnType = some t) (ht : t.isReference = true) (hlk : meth.locks = false)
    (hd : decode c.code pc = .ok (.areturn, 1)) (hc : cells ≤ kc) (hs : slots ≤ ks) (hQ : Q (some w) T.heap locs) : own_E p e below s Q kc ks (T.setTop (mkF m pc Ls [w])) :=
  own_end X (fun q => by rw [hret] at q; cases q) hlk (fun fs hr => X.areturnOut hx hw hret ht hd hr) hc hs hQ
theorem own_retV (X : Stand p l e R s m args below meth c T locs cells slots) (hx : p.tables.exec = Jvm.exec) {pc : Nat} {Ls : Array Slot} (hret : meth.sig.returnType = none) (hlk : meth.locks = false)
    (hd : decode c.code pc = .ok (.return_, 1)) (hc : cells ≤ kc) (hs : slots ≤ ks) (hQ : Q none T.heap locs) : own_E p e below s Q kc ks (T.setTop (mkF m pc Ls [])) :=
  own_end X (fun _ => rfl) hlk (fun fs hr => X.returnOut hx hret hd hr) hc hs hQ
/-- a boolean as the machine holds it -/
def own_b (b : Bool) : Int32 := if b then 1 else 0
theorem own_b1 {P : Prop} [Decidable P] (h : P) : own_b (decide P) = 1 := by simp [own_b, h]
theorem own_bz {P : Prop} [Decidable P] (h : ¬ P) : own_b (decide P) = 0 := by simp [own_b, h]
theorem own_lt32 {x y : Int32} (h : x < y) : x.toInt < y.toInt := Int32.lt_iff_toInt_lt.mp h
theorem own_nlt32 {x y : Int32} (h : ¬ x < y) : ¬ x.toInt < y.toInt := fun q => h (Int32.lt_iff_toInt_lt.mpr q)
theorem own_eq32 {x y : Int32} (h : x = y) : x.toInt = y.toInt := congrArg _ h
theorem own_neq32 {x y : Int32} (h : ¬ x = y) : ¬ x.toInt = y.toInt := fun q => h (Int32.toInt_inj.mp q)
theorem own_lt64 {x y : Int64} (h : x < y) : x.toInt < y.toInt := Int64.lt_iff_toInt_lt.mp h
theorem own_nlt64 {x y : Int64} (h : ¬ x < y) : ¬ x.toInt < y.toInt := fun q => h (Int64.lt_iff_toInt_lt.mpr q)
theorem own_eq64 {x y : Int64} (h : x = y) : x.toInt = y.toInt := congrArg _ h
theorem own_neq64 {x y : Int64} (h : ¬ x = y) : ¬ x.toInt = y.toInt := fun q => h (Int64.toInt_inj.mp q)
theorem own_b0 {b : Bool} : own_b b = 0 ↔ b = false := by cases b <;> decide
theorem own_nb (b : Bool) : nar .boolean (own_b b) = own_b b := by cases b <;> rfl
theorem own_nbb (x : Int32) : nar .byte (x.toInt8.toInt32) = x.toInt8.toInt32 := by
  show x.toInt8.toInt32.toInt8.toInt32 = x.toInt8.toInt32
  rw [Int8.toInt8_toInt32]
theorem own_stV {l : Array Slot} {i : Nat} {v : Value} {o : Slot} (hold : l[i]? = some o) (ho : o = .unset ∨ ∃ w, o = .val w ∧ w.category = 1) (hv : v.category = 1) : storeLocals l i v = some (l.setIfInBounds i (.val v)) := XS.store1 hold ho hv
theorem own_narV {ty : FieldType} {v : Value} (hv : v.isRef = true) : narrow ty v = v := by
  rcases ref_cases hv with rfl | ⟨a, rfl⟩ <;> cases ty <;> rfl
theorem own_fitV {ty : FieldType} {v : Value} (ht : ty.isReference = true) (hv : v.isRef = true) : fits ty v = true := by
  rcases ref_cases hv with rfl | ⟨a, rfl⟩ <;> cases ty <;> first | rfl | (cases ht; done)
/-- an array of n places, whose place j holds f j -/
def own_A (Z : State) (h : Heap) (a : Addr) (ty : FieldType) (n : Nat) (f : Nat → Int32) : Prop := ∃ c : Cell, Arr Z h a c ty ∧ c.slots.size = n ∧ n < 2 ^ 31 ∧ (∀ j, j < n → c.slots[j]? = some (.int (f j))) ∧ ∀ j, j < n → fits ty (.int (f j)) = true
def own_up (f : Nat → Int32) (i : Nat) (v : Int32) (k : Nat) : Int32 := if k = i then v else f k
theorem own_up_same (f : Nat → Int32) (i : Nat) (v : Int32) : own_up f i v i = v := if_pos rfl
theorem own_up_ne (f : Nat → Int32) {i k : Nat} (v : Int32) (h : ¬ k = i) : own_up f i v k = f k := if_neg h
theorem own_catV {v : Value} (h : v.isRef = true) : v.category = 1 := by rcases ref_cases h with rfl | ⟨a, rfl⟩ <;> rfl
abbrev own_ix (j : Int32) (i : Nat) : Prop := ¬ j < 0 ∧ j.toNatClampNeg = i
variable {a b : Addr} {ty : FieldType} {n i : Nat} {f : Nat → Int32} {j x : Int32} {pc : Nat} {Ls : Array Slot} {rest : List Value} {sl : Nat} {v : Value} {ws : List Addr}
theorem own_A.lt (F : own_A Z h a ty n f) : a < h.size := by obtain ⟨c, A, -⟩ := F; exact A.lt
theorem own_A.ext (F : own_A Z h a ty n f) (E : Ext h h') : own_A Z h' a ty n f := by obtain ⟨c, A, r⟩ := F; exact ⟨c, A.ext E, r⟩
theorem own_A.other (F : own_A Z h b ty n f) (W : Wr h h' a sl v) (q : b ≠ a) : own_A Z h' b ty n f := by obtain ⟨c, A, r⟩ := F; exact ⟨c, A.other W q, r⟩
theorem own_A.keep (F : own_A Z h a ty n f) (K : Keep h h' ws) (q : a ∉ ws) : own_A Z h' a ty n f := by obtain ⟨c, A, r⟩ := F; exact ⟨c, ⟨K.2.1 a c A.1 q, A.2⟩, r⟩
theorem own_A.congr {g : Nat → Int32} (F : own_A Z h a ty n f) (q : ∀ j, j < n → f j = g j) : own_A Z h a ty n g := by obtain ⟨c, A, r1, r2, r3, r4⟩ := F; exact ⟨c, A, r1, r2, fun j hj => by rw [← q j hj]; exact r3 j hj, fun j hj => by rw [← q j hj]; exact r4 j hj⟩
theorem own_A.new {k : ClassId} {z : Int32} (A : Arr Z h a (newA k ty z) ty) (q : ¬ z < 0) (hz : z.toNatClampNeg = n) (hd : defaultValue ty = .int 0 := by rfl) : own_A Z h a ty n (fun _ => 0) := by
  subst hz
  exact ⟨_, A, sz_new _ _ _, (back32 q).2, fun j hj => by simp [newA, hj, hd], fun j hj => by rw [← hd]; cases ty <;> rfl⟩
theorem own_A.set (F : own_A Z h a ty n f) (hj : own_ix j i) (W : Wr h h' a j.toNatClampNeg (.int x)) (hf : fits ty (.int x) = true) : own_A Z h' a ty n (own_up f i x) := by
  obtain ⟨c, A, r1, r2, r3, r4⟩ := F
  obtain ⟨hj1, rfl⟩ := hj
  refine ⟨_, A.same W, by rw [sz_set]; exact r1, r2, fun k hk => ?_, fun k hk => ?_⟩ <;> by_cases q : k = j.toNatClampNeg
  · subst q; simp [Cell.setSlot, own_up, r1, hk]
  · simp only [Cell.setSlot, own_up, if_neg q]; rw [Array.getElem?_setIfInBounds_ne (Ne.symm q)]; exact r3 k hk
  · simp only [own_up, if_pos q]; exact hf
  · simp only [own_up, if_neg q]; exact r4 k hk
theorem own_in (hj : own_ix j i) (hi : i < n) {c : Cell} (hc : c.slots.size = n) : ¬ (j < 0 ∨ c.slots.size ≤ j.toNatClampNeg) := by
  rintro (q | q)
  · exact hj.1 q
  · rw [hj.2, hc] at q; omega
theorem own_stB (X : Stand p l e R s m args below meth c T locs cells slots) (hx : p.tables.exec = Jvm.exec) (hZ : Z.Warmed39 s.vm) (eT : T.heap = h) (A : own_A Z h a .byte n f) (hj : own_ix j i) (hi : i < n) (hd : decode c.code pc = .ok (.bastore, 1)) :
    ∃ T' h', Stand p l e R s m args below meth c T' (locs ++ [⟨a, j.toNatClampNeg⟩]) cells slots ∧ T'.heap = h' ∧ Wr h h' a j.toNatClampNeg (.int (nar .byte x)) ∧ own_A Z h' a .byte n (own_up f i (nar .byte x)) ∧ ∀ t, Steps p.tables e below (T'.setTop (mkF m (pc + 1) Ls rest)) t → Steps p.tables e below (T.setTop (mkF m pc Ls (.int x :: .int j :: .ref a :: rest))) t := by
  have A0 := A
  obtain ⟨cl, A1, r1, r2, r3, r4⟩ := A
  obtain ⟨T', h', X', e', W, st⟩ := stB X hx hZ eT A1 (j := j) (x := x) (own_in hj hi r1) (g := mkF m pc Ls (.int x :: .int j :: .ref a :: rest)) rfl rfl hd
  exact ⟨T', h', X', e', W, A0.set hj W (fits_nar_byte x), st⟩
theorem own_stI (X : Stand p l e R s m args below meth c T locs cells slots) (hx : p.tables.exec = Jvm.exec) (hZ : Z.Warmed39 s.vm) (eT : T.heap = h) (A : own_A Z h a .int n f) (hj : own_ix j i) (hi : i < n) (hd : decode c.code pc = .ok (.iastore, 1)) :
    ∃ T' h', Stand p l e R s m args below meth c T' (locs ++ [⟨a, j.toNatClampNeg⟩]) cells slots ∧ T'.heap = h' ∧ Wr h h' a j.toNatClampNeg (.int x) ∧ own_A Z h' a .int n (own_up f i x) ∧ ∀ t, Steps p.tables e below (T'.setTop (mkF m (pc + 1) Ls rest)) t → Steps p.tables e below (T.setTop (mkF m pc Ls (.int x :: .int j :: .ref a :: rest))) t := by
  have A0 := A
  obtain ⟨cl, A1, r1, r2, r3, r4⟩ := A
  obtain ⟨T', h', X', e', W, st⟩ := stI X hx hZ eT A1 (j := j) (x := x) (own_in hj hi r1) (g := mkF m pc Ls (.int x :: .int j :: .ref a :: rest)) rfl rfl hd
  exact ⟨T', h', X', e', W, A0.set hj W rfl, st⟩
theorem own_ldB (X : Stand p l e R s m args below meth c T locs cells slots) (hx : p.tables.exec = Jvm.exec) (hZ : Z.Warmed39 s.vm) (eT : T.heap = h) (A : own_A Z h a .byte n f) (hj : own_ix j i) (hi : i < n) (hd : decode c.code pc = .ok (.baload, 1)) (t : State)
    (k : Steps p.tables e below (T.setTop (mkF m (pc + 1) Ls (.int (f i) :: rest))) t) : Steps p.tables e below (T.setTop (mkF m pc Ls (.int j :: .ref a :: rest))) t := by
  obtain ⟨cl, A1, r1, r2, r3, r4⟩ := A
  exact X.baloadBytes hx (j := j) (v := .int (f i)) (by rw [eT]; exact A1.1) (State.isArrayOf_alike hZ.alike A1.2.1) A1.2.2 (own_in hj hi r1) (by rw [hj.2]; exact r3 i hi) (g := mkF m pc Ls (.int j :: .ref a :: rest)) rfl rfl hd t k
theorem own_ldI (X : Stand p l e R s m args below meth c T locs cells slots) (hx : p.tables.exec = Jvm.exec) (hZ : Z.Warmed39 s.vm) (eT : T.heap = h) (A : own_A Z h a .int n f) (hj : own_ix j i) (hi : i < n) (hd : decode c.code pc = .ok (.iaload, 1)) (t : State)
    (k : Steps p.tables e below (T.setTop (mkF m (pc + 1) Ls (.int (f i) :: rest))) t) : Steps p.tables e below (T.setTop (mkF m pc Ls (.int j :: .ref a :: rest))) t := by
  obtain ⟨cl, A1, r1, r2, r3, r4⟩ := A
  exact X.iaload hx (j := j) (v := .int (f i)) (by rw [eT]; exact A1.1) (State.isArrayOf_alike hZ.alike A1.2.1) A1.2.2 (own_in hj hi r1) (by rw [hj.2]; exact r3 i hi) (g := mkF m pc Ls (.int j :: .ref a :: rest)) rfl rfl hd t k
theorem own_len {z : Int32} (X : Stand p l e R s m args below meth c T locs cells slots) (hx : p.tables.exec = Jvm.exec) (hZ : Z.Warmed39 s.vm) (eT : T.heap = h) (A : own_A Z h a ty n f) (hz : n.toInt32 = z) (hd : decode c.code pc = .ok (.arraylength, 1)) (t : State)
    (k : Steps p.tables e below (T.setTop (mkF m (pc + 1) Ls (.int z :: rest))) t) : Steps p.tables e below (T.setTop (mkF m pc Ls (.ref a :: rest))) t := by
  obtain ⟨cl, A1, r1, r2, r3, r4⟩ := A
  subst hz
  refine X.arraylength hx (by rw [eT]; exact A1.1) (State.isArrayOf_alike hZ.alike A1.2.1) (g := mkF m pc Ls (.ref a :: rest)) rfl rfl hd t ?_
  rw [r1]; exact k
theorem own_clone (X : Stand p l e R s m args below meth c T locs cells slots) (hx : p.tables.exec = Jvm.exec) (hZ : Z.Warmed39 s.vm) {a0 : Array Value} {own ad : String} {index : Nat} (hown : s.vm.findClass own = some m.cls)
    (w1 : (Cond.methodLink own index ⟨ad, "clone", "()Ljava/lang/Object;"⟩).before a0 Z = true) (w2 : (Cond.sameMethod ad "java/lang/Object" "clone" "()Ljava/lang/Object;").before a0 Z = true) (w3 : (Cond.native ⟨"java/lang/Object", "clone", "()Ljava/lang/Object;"⟩).before a0 Z = true)
    (w4 : (Cond.instanceMethod ⟨"java/lang/Object", "clone", "()Ljava/lang/Object;"⟩).before a0 Z = true) (w5 : (Cond.selects ad ⟨ad, "clone", "()Ljava/lang/Object;"⟩ ⟨"java/lang/Object", "clone", "()Ljava/lang/Object;"⟩).before a0 Z = true) (w6 : (Cond.castable ad "java/lang/Cloneable").before a0 Z = true)
    (eT : T.heap = h) (A : own_A Z h a ty n f) (E : Exa Z h a ad) (hsize : Ls.size = c.maxLocals) (hd : decode c.code pc = .ok (.invokevirtual index, 3))
    (hf : 1 ≤ R.frames) {W cap : Nat} (hW : 2 * 0 + (rest.map fun v => v.category).sum ≤ W) (hl : W + 14 ≤ R.locals) (hcap : n ≤ cap) (hc : cells + 1 ≤ R.cells) (hsl : slots + cap ≤ R.slots) :
    ∃ T' h', Stand p l e R s m args below meth c T' locs (cells + 1) (slots + cap) ∧ T'.heap = h' ∧ Ext h h' ∧ own_A Z h' h.size ty n f ∧ Exa Z h' h.size ad ∧
      ∀ t, Steps p.tables e below (T'.setTop (mkF m (pc + 3) Ls (.ref h.size :: rest))) t → Steps p.tables e below (T.setTop (mkF m pc Ls (.ref a :: rest))) t := by
  obtain ⟨cl, A1, r1, r2, r3, r4⟩ := A
  have FC : FitC Z cl := fitC_of A1 fun i hi v hv => by rw [r1] at hi; rw [r3 i hi] at hv; cases hv; exact r4 i hi
  obtain ⟨T', h', X', e', ex, A', E', st⟩ := cloneA X hx hZ hown w1 w2 w3 w4 w5 w6 eT A1 E FC (g := mkF m pc Ls (.ref a :: rest)) rfl hsize rfl hd hf hW hl (by rw [r1]; exact hcap) hc hsl
  exact ⟨T', h', X', e', ex, ⟨cloneOf cl, A', r1, r2, r3, r4⟩, E', st⟩
theorem own_selP {s : State} {args : Array Value} {y : MethodName} {n : Nat} (hin : (Cond.instantiable y.cls n).before args s = true) (hpriv : s.PrivateAt y) (hinst : (Cond.instanceMethod y).before args s = true) (hy : y.cls ≠ "java/lang/invoke/MethodHandle" ∧ y.cls ≠ "java/lang/invoke/VarHandle") : (Cond.selects y.cls y y).before args s = true := by
  obtain ⟨c, k, h1, h2, -, h4, -⟩ := Cond.instantiable_spec hin
  exact selects_self_of_private h1 h2 (Bool.or_eq_false_iff.mp h4).1 hpriv hinst hy
theorem own_ixa (h : own_ix j i) (k : Nat) (hi : i + k < 2 ^ 31) : own_ix (j + Int32.ofNat k) (i + k) := by
  obtain ⟨h1, h2⟩ := h
  have e0 : (0 : Int32).toInt = 0 := rfl
  have e1 : (Int32.ofNat k).toInt = k := Int32.toInt_ofNat_of_lt (by omega)
  rw [Int32.lt_iff_toInt_lt, e0] at h1
  simp only [Int32.toNatClampNeg] at h2
  have h3 := c_iadd j (Int32.ofNat k); have h4 := rng32 (j + Int32.ofNat k)
  rw [e1] at h3
  refine ⟨by rw [Int32.lt_iff_toInt_lt, e0]; omega, ?_⟩
  simp only [Int32.toNatClampNeg]; omega
theorem own_ixI (h : own_ix j i) : j.toInt = i := by
  obtain ⟨h1, h2⟩ := h
  have e0 : (0 : Int32).toInt = 0 := rfl
  rw [Int32.lt_iff_toInt_lt, e0] at h1
  simp only [Int32.toNatClampNeg] at h2; omega
theorem own_ixof (h : j.toInt = i) : own_ix j i := by
  have e0 : (0 : Int32).toInt = 0 := rfl
  refine ⟨by rw [Int32.lt_iff_toInt_lt, e0]; omega, ?_⟩
  simp only [Int32.toNatClampNeg]; omega
theorem own_ixs (h : ¬ j < 0) : own_ix j j.toNatClampNeg := ⟨h, rfl⟩
theorem own_and3 (x : Int32) (k : Nat) (hk : k < 2 ^ 31) : ¬ (x &&& Int32.ofNat k) < 0 ∧ (x &&& Int32.ofNat k).toNatClampNeg ≤ k := by
  have h0 : 0 ≤ (Int32.ofNat k).toInt := by rw [Int32.toInt_ofNat_of_lt hk]; omega
  have h1 := (c_andS x (Int32.ofNat k)).2.2 h0
  have e0 : (0 : Int32).toInt = 0 := rfl
  refine ⟨by rw [Int32.lt_iff_toInt_lt, e0]; omega, ?_⟩
  have hb : (x &&& Int32.ofNat k).toBitVec.toNat ≤ k := by
    have : (x &&& Int32.ofNat k).toBitVec.toNat = x.toBitVec.toNat &&& (Int32.ofNat k).toBitVec.toNat := by rw [Int32.toBitVec_and, BitVec.toNat_and]
    rw [this]
    refine Nat.le_trans Nat.and_le_right ?_
    show (BitVec.ofNat 32 k).toNat ≤ k
    rw [BitVec.toNat_ofNat]; exact Nat.mod_le _ _
  have e : (x &&& Int32.ofNat k).toInt = ((x &&& Int32.ofNat k).toBitVec.toNat : Int) := by
    show (x &&& Int32.ofNat k).toBitVec.toInt = _
    rw [BitVec.toInt_eq_toNat_cond]; split
    · rfl
    · omega
  simp only [Int32.toNatClampNeg, e]; omega
end Own

def own_isL (p : Int32) : Bool := decide ((¬ p < 97 ∧ ¬ 122 < p) ∨ (¬ p < 65 ∧ ¬ 90 < p))
def own_c (x : Int32) : Int32 := x.toUInt32.toUInt16.toUInt32.toInt32
def own_fold (c : Int32) : Int32 := (c ||| 32) - 97
theorem own_small : ∀ n : Fin 128, own_b (own_isL (Int32.ofNat n)) = if own_fold (Int32.ofNat n) < 0 then 0 else if own_fold (Int32.ofNat n) < 26 then 1 else 0 := by decide +kernel
theorem own_key (x : Int32) : own_b (own_isL (own_c x)) = if own_fold (own_c x) < 0 then 0 else if own_fold (own_c x) < 26 then 1 else 0 := by
  have hr := rng_char (fits_nar_char x)
  change ¬ own_c x < 0 ∧ ¬ 65535 < own_c x at hr
  generalize own_c x = c at hr
  simp only [Int32.lt_iff_toInt_lt] at hr
  have e0 : (0 : Int32).toInt = 0 := rfl
  have e1 : (65535 : Int32).toInt = 65535 := rfl
  rw [e0, e1] at hr
  by_cases hs : c.toInt < 128
  · have := own_small ⟨c.toInt.toNat, by omega⟩
    have e : Int32.ofNat c.toInt.toNat = c := by
      rw [← Int32.toInt_inj, Int32.toInt_ofNat_of_lt (by omega)]; omega
    dsimp only at this
    rwa [e] at this
  · have h1 := (c_or0 c 32 (by omega) (by decide)).1
    have h2 := c_isub (c ||| 32) 97
    have h3 := rng32 (c ||| 32)
    have h4 := rng32 ((c ||| 32) - 97)
    have e2 : (97 : Int32).toInt = 97 := rfl
    have e3 : (26 : Int32).toInt = 26 := rfl
    have e4 : (122 : Int32).toInt = 122 := rfl
    have e5 : (90 : Int32).toInt = 90 := rfl
    rw [e2] at h2
    have a1 : ¬ own_fold c < 0 := by rw [Int32.lt_iff_toInt_lt, e0, own_fold]; omega
    have a2 : ¬ own_fold c < 26 := by rw [Int32.lt_iff_toInt_lt, e3, own_fold]; omega
    have a3 : (122 : Int32) < c := by rw [Int32.lt_iff_toInt_lt, e4]; omega
    have a4 : (90 : Int32) < c := by rw [Int32.lt_iff_toInt_lt, e5]; omega
    simp [a1, a2, own_isL, a3, a4, own_b]
theorem own_b1_d0 : decode prog_23_method_19_code 0 = .ok (.iload_n 0, 1) := by decide +kernel
theorem own_b1_d1 : decode prog_23_method_19_code 1 = .ok (.bipush 97, 2) := by decide +kernel
theorem own_b1_d3 : decode prog_23_method_19_code 3 = .ok (.if_icmp .lt 9, 3) := by decide +kernel
theorem own_b1_d6 : decode prog_23_method_19_code 6 = .ok (.iload_n 0, 1) := by decide +kernel
theorem own_b1_d7 : decode prog_23_method_19_code 7 = .ok (.bipush 122, 2) := by decide +kernel
theorem own_b1_d9 : decode prog_23_method_19_code 9 = .ok (.if_icmp .le 15, 3) := by decide +kernel
theorem own_b1_d12 : decode prog_23_method_19_code 12 = .ok (.iload_n 0, 1) := by decide +kernel
theorem own_b1_d13 : decode prog_23_method_19_code 13 = .ok (.bipush 65, 2) := by decide +kernel
theorem own_b1_d15 : decode prog_23_method_19_code 15 = .ok (.if_icmp .lt 13, 3) := by decide +kernel
theorem own_b1_d18 : decode prog_23_method_19_code 18 = .ok (.iload_n 0, 1) := by decide +kernel
theorem own_b1_d19 : decode prog_23_method_19_code 19 = .ok (.bipush 90, 2) := by decide +kernel
theorem own_b1_d21 : decode prog_23_method_19_code 21 = .ok (.if_icmp .gt 7, 3) := by decide +kernel
theorem own_b1_d24 : decode prog_23_method_19_code 24 = .ok (.iconst 1, 1) := by decide +kernel
theorem own_b1_d25 : decode prog_23_method_19_code 25 = .ok (.goto 4, 3) := by decide +kernel
theorem own_b1_d28 : decode prog_23_method_19_code 28 = .ok (.iconst 0, 1) := by decide +kernel
theorem own_b1_d29 : decode prog_23_method_19_code 29 = .ok (.ireturn, 1) := by decide +kernel
theorem own_pn0 : plainName "com/example/histrix/histrix/History" = true := by first | (simp [plainName, overriddenIn]; done) | decide +kernel
theorem own_ef_rm1 (m : MethodId) (x0 : Int32) : entryFrame m #[(.int x0)] 1 = mkF m 0 #[.val (.int x0)] [] := by first | (simp [entryFrame, mkF, argsToLocals, Value.category]; done) | rfl
def Q1 (Z : State) (u : Int32) (h0 : Heap) (n0 : Nat) (v : Option Value) (h : Heap) (L : List Loc) : Prop := v = some (.int (own_b (own_isL u))) ∧ Fr n0 L ∧ h = h0
set_option maxRecDepth 65536 in
set_option maxHeartbeats 40000000 in
theorem rm1 (l : Launch) (Z : State) (a0 : Array Value) (hw : ∀ d ∈ tables_1, d.before a0 Z = true) (ws : List Jvm.Cond) (u : Int32) (h0 : Heap) (n0 : Nat) (Z0 : n0 ≤ h0.size) :
    MetFree l (⟨"com/example/histrix/histrix/History", "isAsciiLetter", "(C)Z"⟩ : MethodName) (head1 (Jvm.Cond.code (⟨"com/example/histrix/histrix/History", "isAsciiLetter", "(C)Z"⟩ : MethodName) prog_23_method_19_code 1 (some .boolean) :: ws) ({ frames := 0, cells := 0, slots := 0, locals := 0 } : Room)) (fun aa_ U_ => aa_ = #[(.int u)] ∧ Z.Warmed39 U_.vm ∧ U_.heap = h0) (fun _ _ _ _ _ => True) (fun _ U_ o_ U1_ => ∃ v_ L_, o_ = .returned v_ ∧ Q1 Z u h0 n0 v_ U1_.heap L_ ∧ FrameEnd U_ o_ U1_ L_ ({ frames := 0, cells := 0, slots := 0, locals := 0 } : Room).cells ({ frames := 0, cells := 0, slots := 0, locals := 0 } : Room).slots) := by
  refine MetFree.of_bodySF (plainFor_of_name own_pn0) hisR ?_
  intro p e s m args below meth c s₁ Bd hml0 hP hK
  obtain ⟨rfl, hZ, hh⟩ := hP
  have hx := Bd.exec
  have hby := Bd.bytes
  have hlk := Bd.notSynchronized
  have hml : c.maxLocals = 1 := hml0
  have hown : s.vm.findClass "com/example/histrix/histrix/History" = some m.cls := findClass_of_methodNamed Bd.named
  have hnm := (name_of_methodNamed Bd.named Bd.method).1
  have X0 : Stand p l e ({ frames := 0, cells := 0, slots := 0, locals := 0 } : Room) s m #[(.int u)] below meth c s₁ [] 0 0 := Stand.of_body Bd
  have e0 : s₁.heap = h0 := by rw [← hh, Bd.state]; rfl
  have N0 := Fr.nil n0
  show own_E p e below s (Q1 Z u h0 n0) ({ frames := 0, cells := 0, slots := 0, locals := 0 } : Room).cells ({ frames := 0, cells := 0, slots := 0, locals := 0 } : Room).slots (s₁.setTop (entryFrame m #[(.int u)] 1))
  refine own_st (B := s₁.setTop (mkF m 0 #[.val (.int u)] [])) (fun t k => castTop (own_ef_rm1 m u) k) ?_
  refine own_st (B := s₁.setTop (mkF m 1 #[.val (.int u)] [(.int u)])) (fun t k => XS.iloadN X0.here hx rfl (hb hby own_b1_d0) rfl k) ?_
  refine own_st (B := s₁.setTop (mkF m 3 #[.val (.int u)] [(.int (97 : Int32)), (.int u)])) (fun t k => XS.bipush X0.here hx rfl (hb hby own_b1_d1) k) ?_
  by_cases hc1 : u < (97 : Int32)
  · have hd1 := own_lt32 hc1
    rw [show (97 : Int32).toInt = 97 from rfl] at hd1
    refine own_st (B := s₁.setTop (mkF m 12 #[.val (.int u)] [])) (fun t k => XS.icmpYes X0.here hx rfl (pc0 := 3) (pc' := 12) rfl (hb hby own_b1_d3) rfl (tlt hc1).1 (by decide) (by decide) k) ?_
    refine own_st (B := s₁.setTop (mkF m 13 #[.val (.int u)] [(.int u)])) (fun t k => XS.iloadN X0.here hx rfl (hb hby own_b1_d12) rfl k) ?_
    refine own_st (B := s₁.setTop (mkF m 15 #[.val (.int u)] [(.int (65 : Int32)), (.int u)])) (fun t k => XS.bipush X0.here hx rfl (hb hby own_b1_d13) k) ?_
    by_cases hc2 : u < (65 : Int32)
    · have hd2 := own_lt32 hc2
      rw [show (65 : Int32).toInt = 65 from rfl] at hd2
      refine own_st (B := s₁.setTop (mkF m 28 #[.val (.int u)] [])) (fun t k => XS.icmpYes X0.here hx rfl (pc0 := 15) (pc' := 28) rfl (hb hby own_b1_d15) rfl (tlt hc2).1 (by decide) (by decide) k) ?_
      refine own_st (B := s₁.setTop (mkF m 29 #[.val (.int u)] [(.int (0 : Int32))])) (fun t k => XS.iconst X0.here hx rfl (hb hby own_b1_d28) k) ?_
      refine own_retN X0 hx (t := .boolean) Bd.returns (by simp) hlk (hb hby own_b1_d29) (z' := (0 : Int32)) (by first | rfl | exact own_nb _ | exact own_nbb _) (by decide) (by decide) ?_
      show Q1 Z u h0 n0 _ s₁.heap _
      rw [e0]
      exact ⟨by simp [own_isL, own_b, hc1, hc2], N0, rfl⟩
    · have hd2 := own_nlt32 hc2
      rw [show (65 : Int32).toInt = 65 from rfl] at hd2
      refine own_st (B := s₁.setTop (mkF m 18 #[.val (.int u)] [])) (fun t k => XS.icmpNo X0.here hx rfl (hb hby own_b1_d15) rfl (flt hc2).1 k) ?_
      refine own_st (B := s₁.setTop (mkF m 19 #[.val (.int u)] [(.int u)])) (fun t k => XS.iloadN X0.here hx rfl (hb hby own_b1_d18) rfl k) ?_
      refine own_st (B := s₁.setTop (mkF m 21 #[.val (.int u)] [(.int (90 : Int32)), (.int u)])) (fun t k => XS.bipush X0.here hx rfl (hb hby own_b1_d19) k) ?_
      by_cases hc3 : (90 : Int32) < u
      · have hd3 := own_lt32 hc3
        rw [show (90 : Int32).toInt = 90 from rfl] at hd3
        refine own_st (B := s₁.setTop (mkF m 28 #[.val (.int u)] [])) (fun t k => XS.icmpYes X0.here hx rfl (pc0 := 21) (pc' := 28) rfl (hb hby own_b1_d21) rfl (tlt hc3).2.2.1 (by decide) (by decide) k) ?_
        refine own_st (B := s₁.setTop (mkF m 29 #[.val (.int u)] [(.int (0 : Int32))])) (fun t k => XS.iconst X0.here hx rfl (hb hby own_b1_d28) k) ?_
        refine own_retN X0 hx (t := .boolean) Bd.returns (by simp) hlk (hb hby own_b1_d29) (z' := (0 : Int32)) (by first | rfl | exact own_nb _ | exact own_nbb _) (by decide) (by decide) ?_
        show Q1 Z u h0 n0 _ s₁.heap _
        rw [e0]
        exact ⟨by simp [own_isL, own_b, hc1, hc2, hc3], N0, rfl⟩
      · have hd3 := own_nlt32 hc3
        rw [show (90 : Int32).toInt = 90 from rfl] at hd3
        refine own_st (B := s₁.setTop (mkF m 24 #[.val (.int u)] [])) (fun t k => XS.icmpNo X0.here hx rfl (hb hby own_b1_d21) rfl (flt hc3).2.2.1 k) ?_
        refine own_st (B := s₁.setTop (mkF m 25 #[.val (.int u)] [(.int (1 : Int32))])) (fun t k => XS.iconst X0.here hx rfl (hb hby own_b1_d24) k) ?_
        refine own_st (B := s₁.setTop (mkF m 29 #[.val (.int u)] [(.int (1 : Int32))])) (fun t k => XS.goto X0.here hx rfl (pc0 := 25) (pc' := 29) rfl (hb hby own_b1_d25) (by decide) (by decide) k) ?_
        refine own_retN X0 hx (t := .boolean) Bd.returns (by simp) hlk (hb hby own_b1_d29) (z' := (1 : Int32)) (by first | rfl | exact own_nb _ | exact own_nbb _) (by decide) (by decide) ?_
        show Q1 Z u h0 n0 _ s₁.heap _
        rw [e0]
        exact ⟨by simp [own_isL, own_b, hc1, hc2, hc3], N0, rfl⟩
  · have hd1 := own_nlt32 hc1
    rw [show (97 : Int32).toInt = 97 from rfl] at hd1
    refine own_st (B := s₁.setTop (mkF m 6 #[.val (.int u)] [])) (fun t k => XS.icmpNo X0.here hx rfl (hb hby own_b1_d3) rfl (flt hc1).1 k) ?_
    refine own_st (B := s₁.setTop (mkF m 7 #[.val (.int u)] [(.int u)])) (fun t k => XS.iloadN X0.here hx rfl (hb hby own_b1_d6) rfl k) ?_
    refine own_st (B := s₁.setTop (mkF m 9 #[.val (.int u)] [(.int (122 : Int32)), (.int u)])) (fun t k => XS.bipush X0.here hx rfl (hb hby own_b1_d7) k) ?_
    by_cases hc4 : (122 : Int32) < u
    · have hd4 := own_lt32 hc4
      rw [show (122 : Int32).toInt = 122 from rfl] at hd4
      refine own_st (B := s₁.setTop (mkF m 12 #[.val (.int u)] [])) (fun t k => XS.icmpNo X0.here hx rfl (hb hby own_b1_d9) rfl (tlt hc4).2.2.2 k) ?_
      refine own_st (B := s₁.setTop (mkF m 13 #[.val (.int u)] [(.int u)])) (fun t k => XS.iloadN X0.here hx rfl (hb hby own_b1_d12) rfl k) ?_
      refine own_st (B := s₁.setTop (mkF m 15 #[.val (.int u)] [(.int (65 : Int32)), (.int u)])) (fun t k => XS.bipush X0.here hx rfl (hb hby own_b1_d13) k) ?_
      by_cases hc5 : u < (65 : Int32)
      · have hd5 := own_lt32 hc5
        rw [show (65 : Int32).toInt = 65 from rfl] at hd5
        refine own_st (B := s₁.setTop (mkF m 28 #[.val (.int u)] [])) (fun t k => XS.icmpYes X0.here hx rfl (pc0 := 15) (pc' := 28) rfl (hb hby own_b1_d15) rfl (tlt hc5).1 (by decide) (by decide) k) ?_
        refine own_st (B := s₁.setTop (mkF m 29 #[.val (.int u)] [(.int (0 : Int32))])) (fun t k => XS.iconst X0.here hx rfl (hb hby own_b1_d28) k) ?_
        refine own_retN X0 hx (t := .boolean) Bd.returns (by simp) hlk (hb hby own_b1_d29) (z' := (0 : Int32)) (by first | rfl | exact own_nb _ | exact own_nbb _) (by decide) (by decide) ?_
        show Q1 Z u h0 n0 _ s₁.heap _
        rw [e0]
        exact ⟨by simp [own_isL, own_b, hc1, hc4, hc5], N0, rfl⟩
      · have hd5 := own_nlt32 hc5
        rw [show (65 : Int32).toInt = 65 from rfl] at hd5
        refine own_st (B := s₁.setTop (mkF m 18 #[.val (.int u)] [])) (fun t k => XS.icmpNo X0.here hx rfl (hb hby own_b1_d15) rfl (flt hc5).1 k) ?_
        refine own_st (B := s₁.setTop (mkF m 19 #[.val (.int u)] [(.int u)])) (fun t k => XS.iloadN X0.here hx rfl (hb hby own_b1_d18) rfl k) ?_
        refine own_st (B := s₁.setTop (mkF m 21 #[.val (.int u)] [(.int (90 : Int32)), (.int u)])) (fun t k => XS.bipush X0.here hx rfl (hb hby own_b1_d19) k) ?_
        by_cases hc6 : (90 : Int32) < u
        · have hd6 := own_lt32 hc6
          rw [show (90 : Int32).toInt = 90 from rfl] at hd6
          refine own_st (B := s₁.setTop (mkF m 28 #[.val (.int u)] [])) (fun t k => XS.icmpYes X0.here hx rfl (pc0 := 21) (pc' := 28) rfl (hb hby own_b1_d21) rfl (tlt hc6).2.2.1 (by decide) (by decide) k) ?_
          refine own_st (B := s₁.setTop (mkF m 29 #[.val (.int u)] [(.int (0 : Int32))])) (fun t k => XS.iconst X0.here hx rfl (hb hby own_b1_d28) k) ?_
          refine own_retN X0 hx (t := .boolean) Bd.returns (by simp) hlk (hb hby own_b1_d29) (z' := (0 : Int32)) (by first | rfl | exact own_nb _ | exact own_nbb _) (by decide) (by decide) ?_
          show Q1 Z u h0 n0 _ s₁.heap _
          rw [e0]
          exact ⟨by simp [own_isL, own_b, hc1, hc4, hc5, hc6], N0, rfl⟩
        · have hd6 := own_nlt32 hc6
          rw [show (90 : Int32).toInt = 90 from rfl] at hd6
          refine own_st (B := s₁.setTop (mkF m 24 #[.val (.int u)] [])) (fun t k => XS.icmpNo X0.here hx rfl (hb hby own_b1_d21) rfl (flt hc6).2.2.1 k) ?_
          refine own_st (B := s₁.setTop (mkF m 25 #[.val (.int u)] [(.int (1 : Int32))])) (fun t k => XS.iconst X0.here hx rfl (hb hby own_b1_d24) k) ?_
          refine own_st (B := s₁.setTop (mkF m 29 #[.val (.int u)] [(.int (1 : Int32))])) (fun t k => XS.goto X0.here hx rfl (pc0 := 25) (pc' := 29) rfl (hb hby own_b1_d25) (by decide) (by decide) k) ?_
          refine own_retN X0 hx (t := .boolean) Bd.returns (by simp) hlk (hb hby own_b1_d29) (z' := (1 : Int32)) (by first | rfl | exact own_nb _ | exact own_nbb _) (by decide) (by decide) ?_
          show Q1 Z u h0 n0 _ s₁.heap _
          rw [e0]
          exact ⟨by simp [own_isL, own_b, hc1, hc4, hc5, hc6], N0, rfl⟩
    · have hd4 := own_nlt32 hc4
      rw [show (122 : Int32).toInt = 122 from rfl] at hd4
      refine own_st (B := s₁.setTop (mkF m 24 #[.val (.int u)] [])) (fun t k => XS.icmpYes X0.here hx rfl (pc0 := 9) (pc' := 24) rfl (hb hby own_b1_d9) rfl (flt hc4).2.2.2 (by decide) (by decide) k) ?_
      refine own_st (B := s₁.setTop (mkF m 25 #[.val (.int u)] [(.int (1 : Int32))])) (fun t k => XS.iconst X0.here hx rfl (hb hby own_b1_d24) k) ?_
      refine own_st (B := s₁.setTop (mkF m 29 #[.val (.int u)] [(.int (1 : Int32))])) (fun t k => XS.goto X0.here hx rfl (pc0 := 25) (pc' := 29) rfl (hb hby own_b1_d25) (by decide) (by decide) k) ?_
      refine own_retN X0 hx (t := .boolean) Bd.returns (by simp) hlk (hb hby own_b1_d29) (z' := (1 : Int32)) (by first | rfl | exact own_nb _ | exact own_nbb _) (by decide) (by decide) ?_
      show Q1 Z u h0 n0 _ s₁.heap _
      rw [e0]
      exact ⟨by simp [own_isL, own_b, hc1, hc4], N0, rfl⟩
theorem own_pd0 : parseMethodDescriptor "(C)Z" = some ⟨[.char], some .boolean⟩ := by decide +kernel
theorem own_pn1 : plainName "com/example/histrix/histrix/HistoryIsAsciiLetterPinLaw" = true := by first | (simp [plainName, overriddenIn]; done) | decide +kernel
theorem own_ef_rm0 (m : MethodId) (x0 : Int32) : entryFrame m #[(.int x0)] maxLocals = mkF m 0 #[.val (.int x0), .unset, .unset, .unset] [] := by first | (simp [entryFrame, mkF, argsToLocals, Value.category, maxLocals]; done) | rfl
def Q0 (Z : State) (u : Int32) (h0 : Heap) (n0 : Nat) (v : Option Value) (h : Heap) (L : List Loc) : Prop := v = some (.int 1) ∧ Fr n0 L
set_option maxRecDepth 65536 in
set_option maxHeartbeats 40000000 in
theorem rm0 (l : Launch) (Z : State) (a0 : Array Value) (hw : ∀ d ∈ tables_1, d.before a0 Z = true) (ws : List Jvm.Cond) (u : Int32) (h0 : Heap) (n0 : Nat) (Z0 : n0 ≤ h0.size) :
    MetFree l x (head1 (Jvm.Cond.code x code maxLocals ret :: ws) room_1) (fun aa_ U_ => aa_ = #[(.int u)] ∧ Z.Warmed39 U_.vm ∧ U_.heap = h0) (fun _ _ _ _ _ => True) (fun _ U_ o_ U1_ => ∃ v_ L_, o_ = .returned v_ ∧ Q0 Z u h0 n0 v_ U1_.heap L_ ∧ FrameEnd U_ o_ U1_ L_ 0 0) := by
  refine MetFree.of_bodySF (plainFor_of_name own_pn1) hisR ?_
  intro p e s m args below meth c s₁ Bd hml0 hP hK
  obtain ⟨rfl, hZ, hh⟩ := hP
  have hx := Bd.exec
  have hby := Bd.bytes
  have hlk := Bd.notSynchronized
  have hml : c.maxLocals = 4 := hml0
  have hown : s.vm.findClass "com/example/histrix/histrix/HistoryIsAsciiLetterPinLaw" = some m.cls := findClass_of_methodNamed Bd.named
  have hnm := (name_of_methodNamed Bd.named Bd.method).1
  have X0 : Stand p l e room_1 s m #[(.int u)] below meth c s₁ [] 0 0 := Stand.of_body Bd
  have e0 : s₁.heap = h0 := by rw [← hh, Bd.state]; rfl
  have N0 := Fr.nil n0
  show own_E p e below s (Q0 Z u h0 n0) 0 0 (s₁.setTop (entryFrame m #[(.int u)] maxLocals))
  refine own_st (B := s₁.setTop (mkF m 0 #[.val (.int u), .unset, .unset, .unset] [])) (fun t k => castTop (own_ef_rm0 m u) k) ?_
  refine own_st (B := s₁.setTop (mkF m 1 #[.val (.int u), .unset, .unset, .unset] [(.int u)])) (fun t k => XS.iloadN X0.here hx rfl (hb hby at_0) rfl k) ?_
  refine own_st (B := s₁.setTop (mkF m 2 #[.val (.int u), .unset, .unset, .unset] [(.int (u.toUInt32.toUInt16.toUInt32.toInt32))])) (fun t k => XS.i2c X0.here hx rfl (hb hby at_1) rfl k) ?_
  refine own_st (B := s₁.setTop (mkF m 3 #[.val (.int u), .val (.int (u.toUInt32.toUInt16.toUInt32.toInt32)), .unset, .unset] [])) (fun t k => XS.istoreN X0.here hx rfl (hb hby at_2) rfl (l' := #[.val (.int u), .val (.int (u.toUInt32.toUInt16.toUInt32.toInt32)), .unset, .unset]) rfl k) ?_
  refine own_st (B := s₁.setTop (mkF m 4 #[.val (.int u), .val (.int (own_c u)), .unset, .unset] [(.int (own_c u))])) (fun t k => XS.iloadN X0.here hx rfl (hb hby at_3) rfl k) ?_
  refine own_st (B := s₁.setTop (mkF m 6 #[.val (.int u), .val (.int (own_c u)), .unset, .unset] [(.int (32 : Int32)), (.int (own_c u))])) (fun t k => XS.bipush X0.here hx rfl (hb hby at_4) k) ?_
  refine own_st (B := s₁.setTop (mkF m 7 #[.val (.int u), .val (.int (own_c u)), .unset, .unset] [(.int ((own_c u) ||| (32 : Int32)))])) (fun t k => XS.ior X0.here hx rfl (hb hby at_6) rfl k) ?_
  refine own_st (B := s₁.setTop (mkF m 9 #[.val (.int u), .val (.int (own_c u)), .unset, .unset] [(.int (97 : Int32)), (.int ((own_c u) ||| (32 : Int32)))])) (fun t k => XS.bipush X0.here hx rfl (hb hby at_7) k) ?_
  refine own_st (B := s₁.setTop (mkF m 10 #[.val (.int u), .val (.int (own_c u)), .unset, .unset] [(.int (((own_c u) ||| (32 : Int32)) - (97 : Int32)))])) (fun t k => XS.isub X0.here hx rfl (hb hby at_9) rfl k) ?_
  refine own_st (B := s₁.setTop (mkF m 11 #[.val (.int u), .val (.int (own_c u)), .val (.int (((own_c u) ||| (32 : Int32)) - (97 : Int32))), .unset] [])) (fun t k => XS.istoreN X0.here hx rfl (hb hby at_10) rfl (l' := #[.val (.int u), .val (.int (own_c u)), .val (.int (((own_c u) ||| (32 : Int32)) - (97 : Int32))), .unset]) rfl k) ?_
  refine own_st (B := s₁.setTop (mkF m 12 #[.val (.int u), .val (.int (own_c u)), .val (.int (own_fold (own_c u))), .unset] [(.int (own_fold (own_c u)))])) (fun t k => XS.iloadN X0.here hx rfl (hb hby at_11) rfl k) ?_
  by_cases hc1 : (own_fold (own_c u)) < (0 : Int32)
  · have hd1 := own_lt32 hc1
    rw [show (0 : Int32).toInt = 0 from rfl] at hd1
    refine own_st (B := s₁.setTop (mkF m 25 #[.val (.int u), .val (.int (own_c u)), .val (.int (own_fold (own_c u))), .unset] [])) (fun t k => XS.ifYes X0.here hx rfl (pc0 := 12) (pc' := 25) rfl (hb hby at_12) rfl ((if0 _ _).trans (tlt hc1).1) (by decide) (by decide) k) ?_
    refine own_st (B := s₁.setTop (mkF m 26 #[.val (.int u), .val (.int (own_c u)), .val (.int (own_fold (own_c u))), .unset] [(.int (0 : Int32))])) (fun t k => XS.iconst X0.here hx rfl (hb hby at_25) k) ?_
    refine own_st (B := s₁.setTop (mkF m 27 #[.val (.int u), .val (.int (own_c u)), .val (.int (own_fold (own_c u))), .val (.int (0 : Int32))] [])) (fun t k => XS.istoreN X0.here hx rfl (hb hby at_26) rfl (l' := #[.val (.int u), .val (.int (own_c u)), .val (.int (own_fold (own_c u))), .val (.int (0 : Int32))]) rfl k) ?_
    refine own_st (B := s₁.setTop (mkF m 28 #[.val (.int u), .val (.int (own_c u)), .val (.int (own_fold (own_c u))), .val (.int (0 : Int32))] [(.int (own_c u))])) (fun t k => XS.iloadN X0.here hx rfl (hb hby at_27) rfl k) ?_
    obtain ⟨_, _, ⟨T2, L2, k2, n2⟩, -, X2, ⟨Lc2, hQ2, l2, y2, z2⟩, st2⟩ := Jvm.LawKit.callS X0 hx (y := (⟨"com/example/histrix/histrix/History", "isAsciiLetter", "(C)Z"⟩ : MethodName)) hown (mvT hZ (hw _ (List.mem_of_getElem? (i := 0) rfl))) (mvT hZ (hw _ (List.mem_of_getElem? (i := 1) rfl))) (mvT hZ (hw _ (List.mem_of_getElem? (i := 2) rfl))) (mvT hZ (hw _ (List.mem_of_getElem? (i := 3) rfl))) (by decide) (backOf (W := 0) (rm1 l Z a0 hw [] (own_c u) h0 n0 Z0 ) hZ (hw _ (List.mem_of_getElem? (i := 3) rfl)) (hw _ (List.mem_of_getElem? (i := 2) rfl)) (by decide) (by decide)) (g := (mkF m 28 #[.val (.int u), .val (.int (own_c u)), .val (.int (own_fold (own_c u))), .val (.int (0 : Int32))] [(.int (own_c u))])) rfl (by rw [hml]; rfl) (argsL := [(.int (own_c u))]) (rest := []) (lenOf own_pd0 rfl) rfl (by show 2 * 0 + _ ≤ _; exact Nat.le_of_eq rfl) (hb hby at_28) (fun _ _ => ⟨rfl, e0, (by decide : 0 + 0 ≤ _), (by decide : 0 + 0 ≤ _)⟩)
    dsimp only [Pt.U, Pt.locs, Pt.cells, Pt.slots] at X2 l2 y2 z2 st2 hQ2
    subst l2 y2 z2
    obtain ⟨rfl, N2q, eh2⟩ := hQ2
    have N2 := Fr.app N0 N2q
    refine own_st (B := T2.setTop (mkF m 31 #[.val (.int u), .val (.int (own_c u)), .val (.int (own_fold (own_c u))), .val (.int (0 : Int32))] [(.int (own_b (own_isL (own_c u))))])) st2 ?_
    refine own_st (B := T2.setTop (mkF m 32 #[.val (.int u), .val (.int (own_c u)), .val (.int (own_fold (own_c u))), .val (.int (0 : Int32))] [(.int (0 : Int32)), (.int (own_b (own_isL (own_c u))))])) (fun t k => XS.iloadN X2.here hx rfl (hb hby at_31) rfl k) ?_
    have hc3 : (own_b (own_isL (own_c u))) = (0 : Int32) := (own_key u).trans (by simp [hc1])
    have hd3 := own_eq32 hc3
    rw [show (0 : Int32).toInt = 0 from rfl] at hd3
    refine own_st (B := T2.setTop (mkF m 35 #[.val (.int u), .val (.int (own_c u)), .val (.int (own_fold (own_c u))), .val (.int (0 : Int32))] [])) (fun t k => XS.icmpNo X2.here hx rfl (hb hby at_32) rfl (teq hc3).2 k) ?_
    refine own_st (B := T2.setTop (mkF m 36 #[.val (.int u), .val (.int (own_c u)), .val (.int (own_fold (own_c u))), .val (.int (0 : Int32))] [(.int (1 : Int32))])) (fun t k => XS.iconst X2.here hx rfl (hb hby at_35) k) ?_
    refine own_st (B := T2.setTop (mkF m 40 #[.val (.int u), .val (.int (own_c u)), .val (.int (own_fold (own_c u))), .val (.int (0 : Int32))] [(.int (1 : Int32))])) (fun t k => XS.goto X2.here hx rfl (pc0 := 36) (pc' := 40) rfl (hb hby at_36) (by decide) (by decide) k) ?_
    refine own_retN X2 hx (t := .boolean) Bd.returns (by simp) hlk (hb hby at_40) (z' := (1 : Int32)) (by first | rfl | exact own_nb _ | exact own_nbb _) (by decide) (by decide) ?_
    show Q0 Z u h0 n0 _ T2.heap _
    rw [eh2]
    exact ⟨rfl, N2⟩
  · have hd1 := own_nlt32 hc1
    rw [show (0 : Int32).toInt = 0 from rfl] at hd1
    refine own_st (B := s₁.setTop (mkF m 15 #[.val (.int u), .val (.int (own_c u)), .val (.int (own_fold (own_c u))), .unset] [])) (fun t k => XS.ifNo X0.here hx rfl (hb hby at_12) rfl ((if0 _ _).trans (flt hc1).1) k) ?_
    refine own_st (B := s₁.setTop (mkF m 16 #[.val (.int u), .val (.int (own_c u)), .val (.int (own_fold (own_c u))), .unset] [(.int (own_fold (own_c u)))])) (fun t k => XS.iloadN X0.here hx rfl (hb hby at_15) rfl k) ?_
    refine own_st (B := s₁.setTop (mkF m 18 #[.val (.int u), .val (.int (own_c u)), .val (.int (own_fold (own_c u))), .unset] [(.int (26 : Int32)), (.int (own_fold (own_c u)))])) (fun t k => XS.bipush X0.here hx rfl (hb hby at_16) k) ?_
    by_cases hc4 : (own_fold (own_c u)) < (26 : Int32)
    · have hd4 := own_lt32 hc4
      rw [show (26 : Int32).toInt = 26 from rfl] at hd4
      refine own_st (B := s₁.setTop (mkF m 21 #[.val (.int u), .val (.int (own_c u)), .val (.int (own_fold (own_c u))), .unset] [])) (fun t k => XS.icmpNo X0.here hx rfl (hb hby at_18) rfl (tlt hc4).2.1 k) ?_
      refine own_st (B := s₁.setTop (mkF m 22 #[.val (.int u), .val (.int (own_c u)), .val (.int (own_fold (own_c u))), .unset] [(.int (1 : Int32))])) (fun t k => XS.iconst X0.here hx rfl (hb hby at_21) k) ?_
      refine own_st (B := s₁.setTop (mkF m 26 #[.val (.int u), .val (.int (own_c u)), .val (.int (own_fold (own_c u))), .unset] [(.int (1 : Int32))])) (fun t k => XS.goto X0.here hx rfl (pc0 := 22) (pc' := 26) rfl (hb hby at_22) (by decide) (by decide) k) ?_
      refine own_st (B := s₁.setTop (mkF m 27 #[.val (.int u), .val (.int (own_c u)), .val (.int (own_fold (own_c u))), .val (.int (1 : Int32))] [])) (fun t k => XS.istoreN X0.here hx rfl (hb hby at_26) rfl (l' := #[.val (.int u), .val (.int (own_c u)), .val (.int (own_fold (own_c u))), .val (.int (1 : Int32))]) rfl k) ?_
      refine own_st (B := s₁.setTop (mkF m 28 #[.val (.int u), .val (.int (own_c u)), .val (.int (own_fold (own_c u))), .val (.int (1 : Int32))] [(.int (own_c u))])) (fun t k => XS.iloadN X0.here hx rfl (hb hby at_27) rfl k) ?_
      obtain ⟨_, _, ⟨T5, L5, k5, n5⟩, -, X5, ⟨Lc5, hQ5, l5, y5, z5⟩, st5⟩ := Jvm.LawKit.callS X0 hx (y := (⟨"com/example/histrix/histrix/History", "isAsciiLetter", "(C)Z"⟩ : MethodName)) hown (mvT hZ (hw _ (List.mem_of_getElem? (i := 0) rfl))) (mvT hZ (hw _ (List.mem_of_getElem? (i := 1) rfl))) (mvT hZ (hw _ (List.mem_of_getElem? (i := 2) rfl))) (mvT hZ (hw _ (List.mem_of_getElem? (i := 3) rfl))) (by decide) (backOf (W := 0) (rm1 l Z a0 hw [] (own_c u) h0 n0 Z0 ) hZ (hw _ (List.mem_of_getElem? (i := 3) rfl)) (hw _ (List.mem_of_getElem? (i := 2) rfl)) (by decide) (by decide)) (g := (mkF m 28 #[.val (.int u), .val (.int (own_c u)), .val (.int (own_fold (own_c u))), .val (.int (1 : Int32))] [(.int (own_c u))])) rfl (by rw [hml]; rfl) (argsL := [(.int (own_c u))]) (rest := []) (lenOf own_pd0 rfl) rfl (by show 2 * 0 + _ ≤ _; exact Nat.le_of_eq rfl) (hb hby at_28) (fun _ _ => ⟨rfl, e0, (by decide : 0 + 0 ≤ _), (by decide : 0 + 0 ≤ _)⟩)
      dsimp only [Pt.U, Pt.locs, Pt.cells, Pt.slots] at X5 l5 y5 z5 st5 hQ5
      subst l5 y5 z5
      obtain ⟨rfl, N5q, eh5⟩ := hQ5
      have N5 := Fr.app N0 N5q
      refine own_st (B := T5.setTop (mkF m 31 #[.val (.int u), .val (.int (own_c u)), .val (.int (own_fold (own_c u))), .val (.int (1 : Int32))] [(.int (own_b (own_isL (own_c u))))])) st5 ?_
      refine own_st (B := T5.setTop (mkF m 32 #[.val (.int u), .val (.int (own_c u)), .val (.int (own_fold (own_c u))), .val (.int (1 : Int32))] [(.int (1 : Int32)), (.int (own_b (own_isL (own_c u))))])) (fun t k => XS.iloadN X5.here hx rfl (hb hby at_31) rfl k) ?_
      have hc6 : (own_b (own_isL (own_c u))) = (1 : Int32) := (own_key u).trans (by simp [hc1, hc4])
      have hd6 := own_eq32 hc6
      rw [show (1 : Int32).toInt = 1 from rfl] at hd6
      refine own_st (B := T5.setTop (mkF m 35 #[.val (.int u), .val (.int (own_c u)), .val (.int (own_fold (own_c u))), .val (.int (1 : Int32))] [])) (fun t k => XS.icmpNo X5.here hx rfl (hb hby at_32) rfl (teq hc6).2 k) ?_
      refine own_st (B := T5.setTop (mkF m 36 #[.val (.int u), .val (.int (own_c u)), .val (.int (own_fold (own_c u))), .val (.int (1 : Int32))] [(.int (1 : Int32))])) (fun t k => XS.iconst X5.here hx rfl (hb hby at_35) k) ?_
      refine own_st (B := T5.setTop (mkF m 40 #[.val (.int u), .val (.int (own_c u)), .val (.int (own_fold (own_c u))), .val (.int (1 : Int32))] [(.int (1 : Int32))])) (fun t k => XS.goto X5.here hx rfl (pc0 := 36) (pc' := 40) rfl (hb hby at_36) (by decide) (by decide) k) ?_
      refine own_retN X5 hx (t := .boolean) Bd.returns (by simp) hlk (hb hby at_40) (z' := (1 : Int32)) (by first | rfl | exact own_nb _ | exact own_nbb _) (by decide) (by decide) ?_
      show Q0 Z u h0 n0 _ T5.heap _
      rw [eh5]
      exact ⟨rfl, N5⟩
    · have hd4 := own_nlt32 hc4
      rw [show (26 : Int32).toInt = 26 from rfl] at hd4
      refine own_st (B := s₁.setTop (mkF m 25 #[.val (.int u), .val (.int (own_c u)), .val (.int (own_fold (own_c u))), .unset] [])) (fun t k => XS.icmpYes X0.here hx rfl (pc0 := 18) (pc' := 25) rfl (hb hby at_18) rfl (flt hc4).2.1 (by decide) (by decide) k) ?_
      refine own_st (B := s₁.setTop (mkF m 26 #[.val (.int u), .val (.int (own_c u)), .val (.int (own_fold (own_c u))), .unset] [(.int (0 : Int32))])) (fun t k => XS.iconst X0.here hx rfl (hb hby at_25) k) ?_
      refine own_st (B := s₁.setTop (mkF m 27 #[.val (.int u), .val (.int (own_c u)), .val (.int (own_fold (own_c u))), .val (.int (0 : Int32))] [])) (fun t k => XS.istoreN X0.here hx rfl (hb hby at_26) rfl (l' := #[.val (.int u), .val (.int (own_c u)), .val (.int (own_fold (own_c u))), .val (.int (0 : Int32))]) rfl k) ?_
      refine own_st (B := s₁.setTop (mkF m 28 #[.val (.int u), .val (.int (own_c u)), .val (.int (own_fold (own_c u))), .val (.int (0 : Int32))] [(.int (own_c u))])) (fun t k => XS.iloadN X0.here hx rfl (hb hby at_27) rfl k) ?_
      obtain ⟨_, _, ⟨T7, L7, k7, n7⟩, -, X7, ⟨Lc7, hQ7, l7, y7, z7⟩, st7⟩ := Jvm.LawKit.callS X0 hx (y := (⟨"com/example/histrix/histrix/History", "isAsciiLetter", "(C)Z"⟩ : MethodName)) hown (mvT hZ (hw _ (List.mem_of_getElem? (i := 0) rfl))) (mvT hZ (hw _ (List.mem_of_getElem? (i := 1) rfl))) (mvT hZ (hw _ (List.mem_of_getElem? (i := 2) rfl))) (mvT hZ (hw _ (List.mem_of_getElem? (i := 3) rfl))) (by decide) (backOf (W := 0) (rm1 l Z a0 hw [] (own_c u) h0 n0 Z0 ) hZ (hw _ (List.mem_of_getElem? (i := 3) rfl)) (hw _ (List.mem_of_getElem? (i := 2) rfl)) (by decide) (by decide)) (g := (mkF m 28 #[.val (.int u), .val (.int (own_c u)), .val (.int (own_fold (own_c u))), .val (.int (0 : Int32))] [(.int (own_c u))])) rfl (by rw [hml]; rfl) (argsL := [(.int (own_c u))]) (rest := []) (lenOf own_pd0 rfl) rfl (by show 2 * 0 + _ ≤ _; exact Nat.le_of_eq rfl) (hb hby at_28) (fun _ _ => ⟨rfl, e0, (by decide : 0 + 0 ≤ _), (by decide : 0 + 0 ≤ _)⟩)
      dsimp only [Pt.U, Pt.locs, Pt.cells, Pt.slots] at X7 l7 y7 z7 st7 hQ7
      subst l7 y7 z7
      obtain ⟨rfl, N7q, eh7⟩ := hQ7
      have N7 := Fr.app N0 N7q
      refine own_st (B := T7.setTop (mkF m 31 #[.val (.int u), .val (.int (own_c u)), .val (.int (own_fold (own_c u))), .val (.int (0 : Int32))] [(.int (own_b (own_isL (own_c u))))])) st7 ?_
      refine own_st (B := T7.setTop (mkF m 32 #[.val (.int u), .val (.int (own_c u)), .val (.int (own_fold (own_c u))), .val (.int (0 : Int32))] [(.int (0 : Int32)), (.int (own_b (own_isL (own_c u))))])) (fun t k => XS.iloadN X7.here hx rfl (hb hby at_31) rfl k) ?_
      have hc8 : (own_b (own_isL (own_c u))) = (0 : Int32) := (own_key u).trans (by simp [hc1, hc4])
      have hd8 := own_eq32 hc8
      rw [show (0 : Int32).toInt = 0 from rfl] at hd8
      refine own_st (B := T7.setTop (mkF m 35 #[.val (.int u), .val (.int (own_c u)), .val (.int (own_fold (own_c u))), .val (.int (0 : Int32))] [])) (fun t k => XS.icmpNo X7.here hx rfl (hb hby at_32) rfl (teq hc8).2 k) ?_
      refine own_st (B := T7.setTop (mkF m 36 #[.val (.int u), .val (.int (own_c u)), .val (.int (own_fold (own_c u))), .val (.int (0 : Int32))] [(.int (1 : Int32))])) (fun t k => XS.iconst X7.here hx rfl (hb hby at_35) k) ?_
      refine own_st (B := T7.setTop (mkF m 40 #[.val (.int u), .val (.int (own_c u)), .val (.int (own_fold (own_c u))), .val (.int (0 : Int32))] [(.int (1 : Int32))])) (fun t k => XS.goto X7.here hx rfl (pc0 := 36) (pc' := 40) rfl (hb hby at_36) (by decide) (by decide) k) ?_
      refine own_retN X7 hx (t := .boolean) Bd.returns (by simp) hlk (hb hby at_40) (z' := (1 : Int32)) (by first | rfl | exact own_nb _ | exact own_nbb _) (by decide) (by decide) ?_
      show Q0 Z u h0 n0 _ T7.heap _
      rw [eh7]
      exact ⟨rfl, N7⟩
set_option maxRecDepth 65536 in
set_option maxHeartbeats 40000000 in
theorem comes_1 {Post : Tables → Env → Array Value → State → Outcome → State → Prop} (hpost : ∀ tb e args s v u, (limb_1_1.after args s (.returned v) u = true ∧ limb_1_2.after args s (.returned v) u = true ∧ True) → FrameEnd s (.returned v) u (Jvm.fieldLocs frame_1_writes args s ++ Jvm.arrayLocs frame_1_arrays args s ++ Jvm.staticLocs frame_1_statics s) 0 0 → Post tb e args s (.returned v) u) :
    ArmFor flags0 classFile x code maxLocals ret World_1 tables_1 room_1 Calls_1 rest_1 Pre_1 Post := by
  intro l hfl _ _ p e ha hc hk s m args below hf hA hF happ hP
  obtain ⟨hcalls, hrest, hpre⟩ := hP
  obtain ⟨-, -, -, hnamed, -, -, -, hat⟩ := (Spec.applies_iff hf).mp happ
  obtain ⟨hg, hn⟩ := and_e (Cond.before_iff.mp (show (Jvm.Cond.and given_1 narrow_1).before args s = true from hpre))
  obtain ⟨gg1, gg2⟩ := and_e hg
  obtain ⟨w0, rfl⟩ : ∃ w0 : Value, args = #[w0] := by
    have hs : args.size = 1 := by simpa [Cond.value, given_1] using gg1
    obtain ⟨L⟩ := args
    match L, hs with
    | [w0], _ => exact ⟨w0, rfl⟩
  have hw := fun d (hd : d ∈ tables_1) => atoms_spec (ws := Jvm.Cond.code x code maxLocals ret :: tables_1) hat d (List.mem_cons_of_mem _ hd)
  have hfit : Fit s := fun {y c} hc i hi => by
    obtain ⟨ha, rfl⟩ := Array.getElem?_eq_some_iff.mp hc
    have q := List.all_eq_true.mp ((Array.all_eq_true_iff_forall_mem.mp hF) _ (Array.getElem_mem ha)) i (List.mem_range.mpr hi)
    simpa [Array.getElem?_eq_getElem hi] using q
  obtain ⟨i0, ei0⟩ := is_v gg2
  obtain rfl : w0 = (.int i0) := Option.some.inj ei0
  obtain ⟨n, o, h1, h2, h3, _, L, rfl, ⟨rfl, N⟩, hq⟩ := rm0 l s _ hw tables_1 i0 s.heap s.heap.size (Nat.le_refl _)  p e ha hc hk s m _ below hf ((Spec.applies_iff_loose hf).mp happ).1 ⟨rfl, State.Warmed39.refl s, rfl⟩ trivial
  refine ⟨n, _, h1, h2, h3, hpost _ _ _ _ _ _ ⟨Cond.after_iff.mpr rfl, Cond.after_iff.mpr (eq_i res_at (Term.int_eval (1)) rfl), trivial⟩ ⟨hq.1, hq.2.1, (hq.2.2.sift fun y hy => Or.inr (N y hy)).mono (by decide) (by decide)⟩⟩
theorem main_1_1 : Claimed_1_1 := comes_1 fun _ _ _ _ _ _ h hF => ⟨h.1, hF⟩
theorem main_1_2 : Claimed_1_2 := comes_1 fun _ _ _ _ _ _ h hF => ⟨h.2.1, hF⟩
end Jvm.Pilot.@@N@@
namespace Jvm.Pilot.@@N@@
open Jvm Jvm.ClassFile Sem Op Lib Jvm.Free Jvm.Stand Jvm.Pilot.@@N@@.Jvm.D
/-! MADE BY PROGRAM (witnessworld.py) out of the Statement's table words and the real class files: 9 classes; the members and pool entries that the words name. The judged class is class 1, her method 1. -/
namespace start1
open Jvm.ClassFile
def u (s : String) : CpInfo := .utf8 (stringToUtf16 s)
/-- a pool by its gaps: so many unusable entries, then the entry; so many at the end -/
def gap : Nat → List CpInfo → List CpInfo
  | 0, r => r
  | n + 1, r => .unusable :: gap n r
def poolList (es : List (Nat × CpInfo)) (last : Nat) : List CpInfo := es.foldr (fun e r => gap e.1 (e.2 :: r)) (gap last [])
def pool (es : List (Nat × CpInfo)) (last : Nat) : Array CpInfo := ⟨poolList es last⟩
def fileOf (pool : Array CpInfo) (this : Nat) (attrs : Array Attribute := #[]) (ms : Array MethodInfo := #[]) (fl : Nat := 33) (sup : Nat := 0) (ifs : Array Nat := #[]) (fds : Array FieldInfo := #[]) : ClassFile where
  minorVersion := 0
  majorVersion := 65
  constantPool := pool
  accessFlags := fl
  thisClass := this
  superClass := sup
  interfaces := ifs
  fields := fds
  methods := ms
  attributes := attrs
def plain (name : String) (sup : Option ClassId) : Class where
  name := name
  kind := .ordinary
  loader := none
  accessFlags := 33
  super := sup
  interfaces := #[]
  cf := none
  fields := #[]
  methods := #[]
  instanceTypes := #[]
  staticTypes := #[]
  resolved := #[]
  callSites := []
  init := .initialized
  statics := none
  mirror := none

def pool0 : Array CpInfo := pool [(5, u "<init>"), (0, u "()V"), (1, .class_ 10), (1, u "java/lang/Object")] 113

def k0m0 : Method := { name := "<init>", desc := "()V", sig := { parameters := [], returnType := none }, accessFlags := 1, code := none }
/-- java/lang/Object -/
def k0 : Class := { plain "java/lang/Object" none with
  accessFlags := 33
  interfaces := #[]
  cf := some (fileOf pool0 8 #[] #[{ accessFlags := 1, nameIndex := 5, descriptorIndex := 6, attributes := #[] }] 33 0 #[] #[])
  fields := #[]
  methods := #[k0m0]
  instanceTypes := #[]
  staticTypes := #[]
  resolved := Array.replicate 124 none
  statics := none }

def pool1 : Array CpInfo := pool [(2, .class_ 4), (1, u "java/lang/Object"), (0, u "<init>"), (0, u "()V"), (0, .methodref 8 9), (0, .class_ 10), (0, .nameAndType 11 12), (0, u "com/example/histrix/histrix/History"), (0, u "isAsciiLetter"), (0, u "(C)Z"), (0, .class_ 14), (0, u "com/example/histrix/histrix/HistoryIsAsciiLetterPinLaw"), (2, u "law"), (0, u "(I)Z")] 3

def k1m0 : Method := { name := "<init>", desc := "()V", sig := { parameters := [], returnType := none }, accessFlags := 2, code := none }
def k1c1 : Code := { maxStack := 2, maxLocals := 4, code := code, exceptionTable := #[], attributes := #[] }
def k1m1 : Method := { name := "law", desc := "(I)Z", sig := { parameters := [.int], returnType := some .boolean }, accessFlags := 9, code := some k1c1 }
/-- com/example/histrix/histrix/HistoryIsAsciiLetterPinLaw -/
def k1 : Class := { plain "com/example/histrix/histrix/HistoryIsAsciiLetterPinLaw" (some 0) with
  accessFlags := 49
  interfaces := #[]
  cf := some (fileOf pool1 13 #[] #[{ accessFlags := 2, nameIndex := 5, descriptorIndex := 6, attributes := #[] }, { accessFlags := 9, nameIndex := 17, descriptorIndex := 18, attributes := #[] }] 49 2 #[] #[])
  fields := #[]
  methods := #[k1m0, k1m1]
  instanceTypes := #[]
  staticTypes := #[]
  resolved := Array.replicate 22 none
  statics := none }

def pool2 : Array CpInfo := pool [(2, .class_ 4), (1, u "java/lang/Object"), (3, .class_ 10), (1, u "com/example/histrix/histrix/History"), (0, u "actions"), (0, u "[Lcom/example/histrix/histrix/Action;"), (2, u "transactions"), (0, u "[I"), (2, u "items"), (2, u "numbers"), (0, u "[J"), (2, u "itemNames"), (0, u "[Ljava/lang/String;"), (0, .class_ 29), (0, u "com/example/histrix/histrix/History$Outcome"), (2, u "outcomes"), (0, u "[Lcom/example/histrix/histrix/History$Outcome;"), (12, u "ends"), (20, u "assumedCommitted"), (0, u "Z"), (2, u "start"), (2, u "byTransaction"), (54, u "isAsciiLetter"), (0, u "(C)Z"), (6, .class_ 138), (0, u "com/example/histrix/histrix/History$Builder"), (9, u "MAX_DIGITS"), (0, u "I")] 57

def k2c0 : Code := { maxStack := 2, maxLocals := 1, code := prog_23_method_19_code, exceptionTable := #[], attributes := #[] }
def k2m0 : Method := { name := "isAsciiLetter", desc := "(C)Z", sig := { parameters := [.char], returnType := some .boolean }, accessFlags := 8, code := some k2c0 }
/-- com/example/histrix/histrix/History -/
def k2 : Class := { plain "com/example/histrix/histrix/History" (some 0) with
  accessFlags := 49
  interfaces := #[]
  cf := some (fileOf pool2 8 #[.nestMembers #[137, 28]] #[{ accessFlags := 8, nameIndex := 129, descriptorIndex := 130, attributes := #[] }] 49 2 #[] #[{ accessFlags := 24, nameIndex := 148, descriptorIndex := 149, attributes := #[] }, { accessFlags := 18, nameIndex := 11, descriptorIndex := 12, attributes := #[] }, { accessFlags := 18, nameIndex := 15, descriptorIndex := 16, attributes := #[] }, { accessFlags := 18, nameIndex := 19, descriptorIndex := 16, attributes := #[] }, { accessFlags := 18, nameIndex := 22, descriptorIndex := 23, attributes := #[] }, { accessFlags := 18, nameIndex := 32, descriptorIndex := 33, attributes := #[] }, { accessFlags := 18, nameIndex := 46, descriptorIndex := 16, attributes := #[] }, { accessFlags := 18, nameIndex := 26, descriptorIndex := 27, attributes := #[] }, { accessFlags := 18, nameIndex := 67, descriptorIndex := 68, attributes := #[] }, { accessFlags := 18, nameIndex := 71, descriptorIndex := 16, attributes := #[] }, { accessFlags := 18, nameIndex := 74, descriptorIndex := 16, attributes := #[] }])
  fields := #[{ name := "MAX_DIGITS", type := .int, accessFlags := 24, slot := 0, constantValue := 0 }, { name := "actions", type := (.array (.object "com/example/histrix/histrix/Action")), accessFlags := 18, slot := 0, constantValue := 0 }, { name := "transactions", type := (.array .int), accessFlags := 18, slot := 1, constantValue := 0 }, { name := "items", type := (.array .int), accessFlags := 18, slot := 2, constantValue := 0 }, { name := "numbers", type := (.array .long), accessFlags := 18, slot := 3, constantValue := 0 }, { name := "outcomes", type := (.array (.object "com/example/histrix/histrix/History$Outcome")), accessFlags := 18, slot := 4, constantValue := 0 }, { name := "ends", type := (.array .int), accessFlags := 18, slot := 5, constantValue := 0 }, { name := "itemNames", type := (.array (.object "java/lang/String")), accessFlags := 18, slot := 6, constantValue := 0 }, { name := "assumedCommitted", type := .boolean, accessFlags := 18, slot := 7, constantValue := 0 }, { name := "start", type := (.array .int), accessFlags := 18, slot := 8, constantValue := 0 }, { name := "byTransaction", type := (.array .int), accessFlags := 18, slot := 9, constantValue := 0 }]
  methods := #[k2m0]
  instanceTypes := #[(.array (.object "com/example/histrix/histrix/Action")), (.array .int), (.array .int), (.array .long), (.array (.object "com/example/histrix/histrix/History$Outcome")), (.array .int), (.array (.object "java/lang/String")), .boolean, (.array .int), (.array .int)]
  staticTypes := #[.int]
  resolved := Array.replicate 207 none
  statics := none }

def pool3 : Array CpInfo := pool [(1, u "java/lang/Cloneable"), (0, .class_ 1), (0, u "java/lang/Object"), (0, .class_ 3)] 3

/-- java/lang/Cloneable -/
def k3 : Class := { plain "java/lang/Cloneable" (some 0) with
  accessFlags := 1537
  interfaces := #[]
  cf := some (fileOf pool3 2 #[] #[] 1537 4 #[] #[])
  fields := #[]
  methods := #[]
  instanceTypes := #[]
  staticTypes := #[]
  resolved := Array.replicate 8 none
  statics := none }

def pool4 : Array CpInfo := pool [(1, u "java/io/Serializable"), (0, .class_ 1), (0, u "java/lang/Object"), (0, .class_ 3)] 3

/-- java/io/Serializable -/
def k4 : Class := { plain "java/io/Serializable" (some 0) with
  accessFlags := 1537
  interfaces := #[]
  cf := some (fileOf pool4 2 #[] #[] 1537 4 #[] #[])
  fields := #[]
  methods := #[]
  instanceTypes := #[]
  staticTypes := #[]
  resolved := Array.replicate 8 none
  statics := none }

/-- the primitive byte -/
def k5 : Class := { plain "byte" none with kind := .primitive 'B', accessFlags := 0x411 }
/-- [B -/
def k6 : Class := { plain "[B" (some 0) with kind := .array 5 .byte, interfaces := #[3, 4], accessFlags := 1041 }

/-- the primitive int -/
def k7 : Class := { plain "int" none with kind := .primitive 'I', accessFlags := 0x411 }
/-- [I -/
def k8 : Class := { plain "[I" (some 0) with kind := .array 7 .int, interfaces := #[3, 4], accessFlags := 1041 }

def heap : Heap := #[]
def classes : Array Class := #[k0, k1, k2, k3, k4, k5, k6, k7, k8]
def interned : List (Array UInt16 × Addr) := []
def slotsUsed : Nat := 0
def theMethod : MethodId := ⟨1, 1⟩
def args0 : Array Value := #[.int 5]
def aboutOver (below : List Frame) : State where
  vm := { classes := classes, interned := interned.toArray }
  heap := heap
  slotsUsed := slotsUsed
  threads := #[{ frames := .invoking theMethod args0 :: below }]
def below0 : List Frame := [.native { method := ⟨0, 0⟩, args := #[] }]
def about1 : State := aboutOver below0
def p0 : Program := .bare "" "" ""
def e0 : Env := launch0.env 0 0 0
theorem w_frames : about1.frames = Frame.invoking theMethod args0 :: below0 := rfl
set_option maxRecDepth 65536 in
theorem w_args : argsFit about1.vm theMethod args0 = true := by decide +kernel
set_option maxRecDepth 65536 in
theorem w_heap : heapFits about1 = true := by decide +kernel
set_option maxRecDepth 65536 in
theorem w_runnable : about1.curStatus? = some .runnable := by decide +kernel
set_option maxRecDepth 65536 in
theorem w_alone : about1.alone = true := by decide +kernel
set_option maxRecDepth 65536 in
theorem w_named : about1.methodNamed? x = some theMethod := by decide +kernel
set_option maxRecDepth 65536 in
theorem w_hears : about1.hears theMethod below0 = true := by decide +kernel
set_option maxRecDepth 65536 in
theorem w_ripe : about1.ripe theMethod args0 below0 = true := by decide +kernel
theorem w_running : about1.status = .running := rfl
set_option maxRecDepth 65536 in
theorem w_room : about1.hasRoom e0.platform room_1 = true :=
  launch0.hasRoom_least _ room_1 (by decide +kernel) (by decide +kernel) (by decide +kernel) (by decide +kernel) (by decide +kernel) (by decide +kernel)
theorem allAtoms_all (ts : List Jvm.Cond) (a : Array Jvm.Value) (st : Jvm.State) : (allAtoms ts).before a st = ts.all (fun c => c.before a st) := by
  induction ts with
  | nil => rfl
  | cons c t ih =>
    show (Jvm.Cond.and c (allAtoms t)).before a st = _
    rw [Jvm.Cond.before_and, ih, List.all_cons]
def words1 : List Jvm.Cond := Jvm.Cond.code x code maxLocals ret :: tables_1
/-- a 'code' word, met by the world's own term for the bytes: nothing is compared byte by byte -/
theorem code_word {y : MethodName} {bytes : ByteArray} {mx : Nat} {rt : Option FieldType} {a : Array Value} {s : State} {m : MethodId} {meth : Method} {c : Code} (h1 : s.methodNamed? y = some m) (h2 : s.vm.method? m = some meth) (h3 : meth.code = some c) (h4 : c.code = bytes)
    (h5 : (c.maxLocals == mx && c.exceptionTable.isEmpty && decide (c.maxStack ≤ mostOperands) && decide (meth.sig.returnType = rt) && !meth.locks && decide (parseMethodDescriptor y.desc = some meth.sig)) = true) : (Jvm.Cond.code y bytes mx rt).before a s = true := by
  simp only [Bool.and_eq_true, beq_iff_eq, Bool.not_eq_true', decide_eq_true_eq] at h5
  obtain ⟨⟨⟨⟨⟨g1, g2⟩, g3⟩, g4⟩, g5⟩, g6⟩ := h5
  simp [Cond.before, Cond.holds, Cond.value, h1, h2, h3, h4, g1, g2, g3, g4, g5, g6]
def isCode : Jvm.Cond → Bool
  | .code _ _ _ _ => true
  | _ => false
theorem all_split {L : List Jvm.Cond} {P : Jvm.Cond → Bool} (h1 : L.all (fun c => isCode c || P c) = true) (h2 : ∀ c ∈ L.filter isCode, P c = true) : L.all P = true := by
  refine List.all_eq_true.mpr fun c hc => ?_
  have h := List.all_eq_true.mp h1 c hc
  rcases Bool.eq_false_or_eq_true (isCode c) with hi | hi
  · exact h2 c (List.mem_filter.mpr ⟨hc, hi⟩)
  · simpa [hi] using h
set_option maxRecDepth 65536 in
theorem w_c0 : (Jvm.Cond.code x code maxLocals ret).before args0 about1 = true := code_word (m := ⟨1, 1⟩) (meth := k1m1) (c := k1c1) (by decide +kernel) rfl rfl rfl (by decide +kernel)
set_option maxRecDepth 65536 in
theorem w_c1 : (Jvm.Cond.code ({ cls := "com/example/histrix/histrix/History", name := "isAsciiLetter", desc := "(C)Z" } : Jvm.MethodName) prog_23_method_19_code (1 : Nat) (Option.some Jvm.ClassFile.FieldType.boolean)).before args0 about1 = true := code_word (m := ⟨2, 0⟩) (meth := k2m0) (c := k2c0) (by decide +kernel) rfl rfl rfl (by decide +kernel)
def codes1 : List Jvm.Cond := [Jvm.Cond.code x code maxLocals ret, Jvm.Cond.code ({ cls := "com/example/histrix/histrix/History", name := "isAsciiLetter", desc := "(C)Z" } : Jvm.MethodName) prog_23_method_19_code (1 : Nat) (Option.some Jvm.ClassFile.FieldType.boolean)]
set_option maxRecDepth 65536 in
theorem codes_eq : words1.filter isCode = codes1 := rfl
theorem w_codes : ∀ c ∈ words1.filter isCode, c.before args0 about1 = true := by
  rw [codes_eq]
  intro c hc
  simp only [codes1, List.mem_cons, List.not_mem_nil, or_false] at hc
  rcases hc with rfl | rfl
  · exact w_c0
  · exact w_c1
set_option maxRecDepth 65536 in
theorem w_t1 : words1.all (fun c => isCode c || c.before args0 about1) = true := by decide +kernel
theorem w_tables : (allAtoms (Jvm.Cond.code x code maxLocals ret :: tables_1)).before args0 about1 = true := by
  rw [allAtoms_all]
  show words1.all (fun c => c.before args0 about1) = true
  refine all_split ?_ w_codes
  rw [w_t1]
set_option maxRecDepth 65536 in
theorem w_case : (Jvm.Cond.and given_1 narrow_1).before args0 about1 = true := by decide +kernel
theorem w_applies : (headSpec (Jvm.Cond.code x code maxLocals ret :: tables_1) room_1).applies x e0.platform about1 = true :=
  (Spec.applies_iff w_frames).mpr ⟨w_running, w_runnable, w_alone, w_named, w_hears, w_ripe, w_room, w_tables⟩
theorem atStart : AtStart classFile x code maxLocals ret World_1 tables_1 room_1 Calls_1 rest_1 Pre_1 launch0 p0 e0 about1 theMethod args0 below0 :=
  ⟨lists_1, trivial, launch0.admits_env _ _ _, launch0.least_env, fairChoices_fair.cas, fairChoices_fair.clock, w_frames, w_args, w_heap, w_applies, trivial, trivial, w_case⟩
end start1
theorem witness_1 : WitnessClaimed_1 := ⟨start1.p0, start1.e0, start1.about1, start1.theMethod, start1.args0, start1.below0, start1.atStart⟩
end Jvm.Pilot.@@N@@
