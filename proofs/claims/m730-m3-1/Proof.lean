import JvmDerived
import JvmDerived.Pilot.@@N@@Statement
import JvmDerived.Pilot.@@N@@Code
set_option linter.unusedVariables false
set_option linter.unusedSimpArgs false

namespace Jvm.Pilot.@@N@@
open Jvm Jvm.ClassFile Sem Op Lib Jvm.Free Jvm.Stand Jvm.LawKit Jvm.RoadKit Bundle Jvm.Pilot.@@N@@.Jvm.D
section Own
variable {p : Program} {l : Launch} {e : Env} {R : Room} {s : State} {m : MethodId} {args : Array Value} {below : List Frame} {meth : Method} {c : Code} {T : State} {locs : List Loc} {cells slots : Nat} {Z : State} {h h' : Heap}
/-- the run from A comes to the method's end as Q says, with at most kc new cells and ks new slots -/
def own_E (p : Program) (e : Env) (below : List Frame) (s : State) (Q : Option Value → Heap → List Loc → Prop) (kc ks : Nat) (A : State) : Prop :=
  ∃ s₂ o, Steps p.tables e below A s₂ ∧ s₂.status = .running ∧ Ended s₂ below o ∧ ∃ v L, o = .returned v ∧ Q v s₂.heap L ∧ FrameEnd s o s₂ L kc ks
variable {Q : Option Value → Heap → List Loc → Prop} {kc ks : Nat} {A B : State}
theorem own_st (k : ∀ t, Steps p.tables e below B t → Steps p.tables e below A t) (h : own_E p e below s Q kc ks B) : own_E p e below s Q kc ks A := by
  obtain ⟨t, o, h1, h2⟩ := h
  exact ⟨t, o, k t h1, h2⟩
theorem own_end (X : Stand p l e R s m args below meth c T locs cells slots) {v : Option Value} (hv : meth.sig.returnType = none → v = none) (hlk : meth.locks = false)
    (hk : ∀ fs, (∀ (f : JFrame) (acts : List Action), f.method = m → f.locked = none → f.entered = [] → (doReturn e (T.setTop f) acts v).1 = T.setFrames fs) → Steps p.tables e below A (T.setFrames fs)) (hc : cells ≤ kc) (hs : slots ≤ ks) (hQ : Q v T.heap locs) : own_E p e below s Q kc ks A := by
  obtain ⟨fs, hr, hrun, hended, hW, hsame⟩ := X.leave (v := v) hv hlk
  exact ⟨_, _, hk fs hr, hrun, hended, _, _, rfl, hQ, ⟨_, rfl⟩, hW, hsame.mono hc hs⟩
theorem own_retN (X : Stand p l e R s m args below meth c T locs cells slots) (hx : p.tables.exec = Jvm.exec) {pc : Nat} {Ls : Array Slot} {z z' : Int32} {t : FieldType} {rest : List Value} (hret : meth.sig.returnType = some t) (ht : t = .boolean ∨ t = .byte ∨ t = .char ∨ t = .short) (hlk : meth.locks = false)
    (hd : decode c.code pc = .ok (.ireturn, 1)) (hz : nar t z = z') (hc : cells ≤ kc) (hs : slots ≤ ks) (hQ : Q (some (.int z')) T.heap locs) : own_E p e below s Q kc ks (T.setTop (mkF m pc Ls (.int z :: rest))) := by
  subst hz
  exact own_end X (fun q => by rw [hret] at q; cases q) hlk (fun fs hr => retN X hx hret ht hd hr) hc hs hQ
theorem own_retI (X : Stand p l e R s m args below meth c T locs cells slots) (hx : p.tables.exec = Jvm.exec) {pc : Nat} {Ls : Array Slot} {z : Int32} {rest : List Value} (hret : meth.sig.returnType = some .int) (hlk : meth.locks = false)
    (hd : decode c.code pc = .ok (.ireturn, 1)) (hc : cells ≤ kc) (hs : slots ≤ ks) (hQ : Q (some (.int z)) T.heap locs) : own_E p e below s Q kc ks (T.setTop (mkF m pc Ls (.int z :: rest))) := by
  refine own_end X (fun q => by rw [hret] at q; cases q) hlk (fun fs hr => ?_) hc hs hQ
  have hm' : T.vm.method? m = some meth := X.method'
  have hn : narrow .int (.int z) = .int z := rfl
  show Steps p.tables e below (T.setTop { method := m, pc := pc, locals := Ls, stack := _ :: rest, locked := none }) _
  jvm_step X.here [X.here.top, hx, hd, hm', hret, hn]
  first | (intro acts; rw [hr _ acts rfl rfl rfl]) | rw [hr _ _ rfl rfl rfl]
  exact Steps.refl _
theorem own_retJ (X : Stand p l e R s m args below meth c T locs cells slots) (hx : p.tables.exec = Jvm.exec) {pc : Nat} {Ls : Array Slot} {z : Int64} (hret : meth.sig.returnType = some .long) (hlk : meth.locks = false)
    (hd : decode c.code pc = .ok (.lreturn, 1)) (hc : cells ≤ kc) (hs : slots ≤ ks) (hQ : Q (some (.long z)) T.heap locs) : own_E p e below s Q kc ks (T.setTop (mkF m pc Ls [.long z])) :=
  own_end X (fun q => by rw [hret] at q; cases q) hlk (fun fs hr => X.lreturnOut hx hret hd hr) hc hs hQ
theorem own_retR (X : Stand p l e R s m args below meth c T locs cells slots) (hx : p.tables.exec = Jvm.exec) {pc : Nat} {Ls : Array Slot} {w : Value} {t : FieldType} (hw : w.isRef = true) (hret : meth.sig.returnType = some t) (ht : t.isReference = true) (hlk : meth.locks = false)
    (hd : decode c.code pc = .ok (.areturn, 1)) (hc : cells ≤ kc) (hs : slots ≤ ks) (hQ : Q (some w) T.heap locs) : own_E p e below s Q kc ks (T.setTop (mkF m pc Ls [w])) :=
  own_end X (fun q => by rw [hret] at q; cases q) hlk (fun fs hr => X.areturnOut hx hw hret ht hd hr) hc hs hQ
theorem own_retV (X : Stand p l e R s m args below meth c T locs cells slots) (hx : p.tables.exec = Jvm.exec) {pc : Nat} {Ls : Array Slot} (hret : meth.sig.returnType = none) (hlk : meth.locks = false)
    (hd : decode c.code pc = .ok (.return_, 1)) (hc : cells ≤ kc) (hs : slots ≤ ks) (hQ : Q none T.heap locs) : own_E p e below s Q kc ks (T.setTop (mkF m pc Ls [])) :=
  own_end X (fun _ => rfl) hlk (fun fs hr => X.returnOut hx hret hd hr) hc hs hQ
/-- a boolean as the machine holds it -/
def own_b (b : Bool) : Int32 := if b then 1 else 0
theorem own_b1 {P : Prop} [Decidable P] (h : P) : own_b (decide P) = 1 := by simp [own_b, h]
theorem own_bz {P : Prop} [Decidable P] (h : ¬ P) : own_b (decide P) = 0 := by simp [own_b, h]
theorem own_lt32 {x y : Int32} (h : x < y) : x.toInt < y.toInt := Int32.lt_iff_toInt_lt.mp h
theorem own_nlt32 {x y : Int32} (h : ¬ x < y) : ¬ x.toInt < y.toInt := fun q => h (Int32.lt_iff_toInt_lt.mpr q)
theorem own_eq32 {x y : Int32} (h : x = y) : x.toInt = y.toInt := congrArg _ h
theorem own_neq32 {x y : Int32} (h : ¬ x = y) : ¬ x.toInt = y.toInt := fun q => h (Int32.toInt_inj.mp q)
theorem own_lt64 {x y : Int64} (h : x < y) : x.toInt < y.toInt := Int64.lt_iff_toInt_lt.mp h
theorem own_nlt64 {x y : Int64} (h : ¬ x < y) : ¬ x.toInt < y.toInt := fun q => h (Int64.lt_iff_toInt_lt.mpr q)
theorem own_eq64 {x y : Int64} (h : x = y) : x.toInt = y.toInt := congrArg _ h
theorem own_neq64 {x y : Int64} (h : ¬ x = y) : ¬ x.toInt = y.toInt := fun q => h (Int64.toInt_inj.mp q)
theorem own_b0 {b : Bool} : own_b b = 0 ↔ b = false := by cases b <;> decide
theorem own_nb (b : Bool) : nar .boolean (own_b b) = own_b b := by cases b <;> rfl
theorem own_nbb (x : Int32) : nar .byte (x.toInt8.toInt32) = x.toInt8.toInt32 := by
  show x.toInt8.toInt32.toInt8.toInt32 = x.toInt8.toInt32
  rw [Int8.toInt8_toInt32]
theorem own_stV {l : Array Slot} {i : Nat} {v : Value} {o : Slot} (hold : l[i]? = some o) (ho : o = .unset ∨ ∃ w, o = .val w ∧ w.category = 1) (hv : v.category = 1) : storeLocals l i v = some (l.setIfInBounds i (.val v)) := XS.store1 hold ho hv
theorem own_narV {ty : FieldType} {v : Value} (hv : v.isRef = true) : narrow ty v = v := by
  rcases ref_cases hv with rfl | ⟨a, rfl⟩ <;> cases ty <;> rfl
theorem own_fitV {ty : FieldType} {v : Value} (ht : ty.isReference = true) (hv : v.isRef = true) : fits ty v = true := by
  rcases ref_cases hv with rfl | ⟨a, rfl⟩ <;> cases ty <;> first | rfl | (cases ht; done)
/-- an array of n places, whose place j holds f j -/
def own_A (Z : State) (h : Heap) (a : Addr) (ty : FieldType) (n : Nat) (f : Nat → Int32) : Prop := ∃ c : Cell, Arr Z h a c ty ∧ c.slots.size = n ∧ n < 2 ^ 31 ∧ (∀ j, j < n → c.slots[j]? = some (.int (f j))) ∧ ∀ j, j < n → fits ty (.int (f j)) = true
def own_up (f : Nat → Int32) (i : Nat) (v : Int32) (k : Nat) : Int32 := if k = i then v else f k
theorem own_up_same (f : Nat → Int32) (i : Nat) (v : Int32) : own_up f i v i = v := if_pos rfl
theorem own_up_ne (f : Nat → Int32) {i k : Nat} (v : Int32) (h : ¬ k = i) : own_up f i v k = f k := if_neg h
theorem own_catV {v : Value} (h : v.isRef = true) : v.category = 1 := by rcases ref_cases h with rfl | ⟨a, rfl⟩ <;> rfl
abbrev own_ix (j : Int32) (i : Nat) : Prop := ¬ j < 0 ∧ j.toNatClampNeg = i
variable {a b : Addr} {ty : FieldType} {n i : Nat} {f : Nat → Int32} {j x : Int32} {pc : Nat} {Ls : Array Slot} {rest : List Value} {sl : Nat} {v : Value} {ws : List Addr}
theorem own_A.lt (F : own_A Z h a ty n f) : a < h.size := by obtain ⟨c, A, -⟩ := F; exact A.lt
theorem own_A.ext (F : own_A Z h a ty n f) (E : Ext h h') : own_A Z h' a ty n f := by obtain ⟨c, A, r⟩ := F; exact ⟨c, A.ext E, r⟩
theorem own_A.other (F : own_A Z h b ty n f) (W : Wr h h' a sl v) (q : b ≠ a) : own_A Z h' b ty n f := by obtain ⟨c, A, r⟩ := F; exact ⟨c, A.other W q, r⟩
theorem own_A.keep (F : own_A Z h a ty n f) (K : Keep h h' ws) (q : a ∉ ws) : own_A Z h' a ty n f := by obtain ⟨c, A, r⟩ := F; exact ⟨c, ⟨K.2.1 a c A.1 q, A.2⟩, r⟩
theorem own_A.congr {g : Nat → Int32} (F : own_A Z h a ty n f) (q : ∀ j, j < n → f j = g j) : own_A Z h a ty n g := by obtain ⟨c, A, r1, r2, r3, r4⟩ := F; exact ⟨c, A, r1, r2, fun j hj => by rw [← q j hj]; exact r3 j hj, fun j hj => by rw [← q j hj]; exact r4 j hj⟩
theorem own_A.new {k : ClassId} {z : Int32} (A : Arr Z h a (newA k ty z) ty) (q : ¬ z < 0) (hz : z.toNatClampNeg = n) (hd : defaultValue ty = .int 0 := by rfl) : own_A Z h a ty n (fun _ => 0) := by
  subst hz
  exact ⟨_, A, sz_new _ _ _, (back32 q).2, fun j hj => by simp [newA, hj, hd], fun j hj => by rw [← hd]; cases ty <;> rfl⟩
theorem own_A.set (F : own_A Z h a ty n f) (hj : own_ix j i) (W : Wr h h' a j.toNatClampNeg (.int x)) (hf : fits ty (.int x) = true) : own_A Z h' a ty n (own_up f i x) := by
  obtain ⟨c, A, r1, r2, r3, r4⟩ := F
  obtain ⟨hj1, rfl⟩ := hj
  refine ⟨_, A.same W, by rw [sz_set]; exact r1, r2, fun k hk => ?_, fun k hk => ?_⟩ <;> by_cases q : k = j.toNatClampNeg
  · subst q; simp [Cell.setSlot, own_up, r1, hk]
  · simp only [Cell.setSlot, own_up, if_neg q]; rw [Array.getElem?_setIfInBounds_ne (Ne.symm q)]; exact r3 k hk
  · simp only [own_up, if_pos q]; exact hf
  · simp only [own_up, if_neg q]; exact r4 k hk
theorem own_in (hj : own_ix j i) (hi : i < n) {c : Cell} (hc : c.slots.size = n) : ¬ (j < 0 ∨ c.slots.size ≤ j.toNatClampNeg) := by
  rintro (q | q)
  · exact hj.1 q
  · rw [hj.2, hc] at q; omega
theorem own_stB (X : Stand p l e R s m args below meth c T locs cells slots) (hx : p.tables.exec = Jvm.exec) (hZ : Z.Warmed39 s.vm) (eT : T.heap = h) (A : own_A Z h a .byte n f) (hj : own_ix j i) (hi : i < n) (hd : decode c.code pc = .ok (.bastore, 1)) :
    ∃ T' h', Stand p l e R s m args below meth c T' (locs ++ [⟨a, j.toNatClampNeg⟩]) cells slots ∧ T'.heap = h' ∧ Wr h h' a j.toNatClampNeg (.int (nar .byte x)) ∧ own_A Z h' a .byte n (own_up f i (nar .byte x)) ∧ ∀ t, Steps p.tables e below (T'.setTop (mkF m (pc + 1) Ls rest)) t → Steps p.tables e below (T.setTop (mkF m pc Ls (.int x :: .int j :: .ref a :: rest))) t := by
  have A0 := A
  obtain ⟨cl, A1, r1, r2, r3, r4⟩ := A
  obtain ⟨T', h', X', e', W, st⟩ := stB X hx hZ eT A1 (j := j) (x := x) (own_in hj hi r1) (g := mkF m pc Ls (.int x :: .int j :: .ref a :: rest)) rfl rfl hd
  exact ⟨T', h', X', e', W, A0.set hj W (fits_nar_byte x), st⟩
theorem own_stI (X : Stand p l e R s m args below meth c T locs cells slots) (hx : p.tables.exec = Jvm.exec) (hZ : Z.Warmed39 s.vm) (eT : T.heap = h) (A : own_A Z h a .int n f) (hj : own_ix j i) (hi : i < n) (hd : decode c.code pc = .ok (.iastore, 1)) :
    ∃ T' h', Stand p l e R s m args below meth c T' (locs ++ [⟨a, j.toNatClampNeg⟩]) cells slots ∧ T'.heap = h' ∧ Wr h h' a j.toNatClampNeg (.int x) ∧ own_A Z h' a .int n (own_up f i x) ∧ ∀ t, Steps p.tables e below (T'.setTop (mkF m (pc + 1) Ls rest)) t → Steps p.tables e below (T.setTop (mkF m pc Ls (.int x :: .int j :: .ref a :: rest))) t := by
  have A0 := A
  obtain ⟨cl, A1, r1, r2, r3, r4⟩ := A
  obtain ⟨T', h', X', e', W, st⟩ := stI X hx hZ eT A1 (j := j) (x := x) (own_in hj hi r1) (g := mkF m pc Ls (.int x :: .int j :: .ref a :: rest)) rfl rfl hd
  exact ⟨T', h', X', e', W, A0.set hj W rfl, st⟩
theorem own_ldB (X : Stand p l e R s m args below meth c T locs cells slots) (hx : p.tables.exec = Jvm.exec) (hZ : Z.Warmed39 s.vm) (eT : T.heap = h) (A : own_A Z h a .byte n f) (hj : own_ix j i) (hi : i < n) (hd : decode c.code pc = .ok (.baload, 1)) (t : State)
    (k : Steps p.tables e below (T.setTop (mkF m (pc + 1) Ls (.int (f i) :: rest))) t) : Steps p.tables e below (T.setTop (mkF m pc Ls (.int j :: .ref a :: rest))) t := by
  obtain ⟨cl, A1, r1, r2, r3, r4⟩ := A
  exact X.baloadBytes hx (j := j) (v := .int (f i)) (by rw [eT]; exact A1.1) (State.isArrayOf_alike hZ.alike A1.2.1) A1.2.2 (own_in hj hi r1) (by rw [hj.2]; exact r3 i hi) (g := mkF m pc Ls (.int j :: .ref a :: rest)) rfl rfl hd t k
theorem own_ldI (X : Stand p l e R s m args below meth c T locs cells slots) (hx : p.tables.exec = Jvm.exec) (hZ : Z.Warmed39 s.vm) (eT : T.heap = h) (A : own_A Z h a .int n f) (hj : own_ix j i) (hi : i < n) (hd : decode c.code pc = .ok (.iaload, 1)) (t : State)
    (k : Steps p.tables e below (T.setTop (mkF m (pc + 1) Ls (.int (f i) :: rest))) t) : Steps p.tables e below (T.setTop (mkF m pc Ls (.int j :: .ref a :: rest))) t := by
  obtain ⟨cl, A1, r1, r2, r3, r4⟩ := A
  exact X.iaload hx (j := j) (v := .int (f i)) (by rw [eT]; exact A1.1) (State.isArrayOf_alike hZ.alike A1.2.1) A1.2.2 (own_in hj hi r1) (by rw [hj.2]; exact r3 i hi) (g := mkF m pc Ls (.int j :: .ref a :: rest)) rfl rfl hd t k
theorem own_len {z : Int32} (X : Stand p l e R s m args below meth c T locs cells slots) (hx : p.tables.exec = Jvm.exec) (hZ : Z.Warmed39 s.vm) (eT : T.heap = h) (A : own_A Z h a ty n f) (hz : n.toInt32 = z) (hd : decode c.code pc = .ok (.arraylength, 1)) (t : State)
    (k : Steps p.tables e below (T.setTop (mkF m (pc + 1) Ls (.int z :: rest))) t) : Steps p.tables e below (T.setTop (mkF m pc Ls (.ref a :: rest))) t := by
  obtain ⟨cl, A1, r1, r2, r3, r4⟩ := A
  subst hz
  refine X.arraylength hx (by rw [eT]; exact A1.1) (State.isArrayOf_alike hZ.alike A1.2.1) (g := mkF m pc Ls (.ref a :: rest)) rfl rfl hd t ?_
  rw [r1]; exact k
theorem own_clone (X : Stand p l e R s m args below meth c T locs cells slots) (hx : p.tables.exec = Jvm.exec) (hZ : Z.Warmed39 s.vm) {a0 : Array Value} {own ad : String} {index : Nat} (hown : s.vm.findClass own = some m.cls)
    (w1 : (Cond.methodLink own index ⟨ad, "clone", "()Ljava/lang/Object;"⟩).before a0 Z = true) (w2 : (Cond.sameMethod ad "java/lang/Object" "clone" "()Ljava/lang/Object;").before a0 Z = true) (w3 : (Cond.native ⟨"java/lang/Object", "clone", "()Ljava/lang/Object;"⟩).before a0 Z = true)
    (w4 : (Cond.instanceMethod ⟨"java/lang/Object", "clone", "()Ljava/lang/Object;"⟩).before a0 Z = true) (w5 : (Cond.selects ad ⟨ad, "clone", "()Ljava/lang/Object;"⟩ ⟨"java/lang/Object", "clone", "()Ljava/lang/Object;"⟩).before a0 Z = true) (w6 : (Cond.castable ad "java/lang/Cloneable").before a0 Z = true)
    (eT : T.heap = h) (A : own_A Z h a ty n f) (E : Exa Z h a ad) (hsize : Ls.size = c.maxLocals) (hd : decode c.code pc = .ok (.invokevirtual index, 3))
    (hf : 1 ≤ R.frames) {W cap : Nat} (hW : 2 * 0 + (rest.map fun v => v.category).sum ≤ W) (hl : W + 14 ≤ R.locals) (hcap : n ≤ cap) (hc : cells + 1 ≤ R.cells) (hsl : slots + cap ≤ R.slots) :
    ∃ T' h', Stand p l e R s m args below meth c T' locs (cells + 1) (slots + cap) ∧ T'.heap = h' ∧ Ext h h' ∧ own_A Z h' h.size ty n f ∧ Exa Z h' h.size ad ∧
      ∀ t, Steps p.tables e below (T'.setTop (mkF m (pc + 3) Ls (.ref h.size :: rest))) t → Steps p.tables e below (T.setTop (mkF m pc Ls (.ref a :: rest))) t := by
  obtain ⟨cl, A1, r1, r2, r3, r4⟩ := A
  have FC : FitC Z cl := fitC_of A1 fun i hi v hv => by rw [r1] at hi; rw [r3 i hi] at hv; cases hv; exact r4 i hi
  obtain ⟨T', h', X', e', ex, A', E', st⟩ := cloneA X hx hZ hown w1 w2 w3 w4 w5 w6 eT A1 E FC (g := mkF m pc Ls (.ref a :: rest)) rfl hsize rfl hd hf hW hl (by rw [r1]; exact hcap) hc hsl
  exact ⟨T', h', X', e', ex, ⟨cloneOf cl, A', r1, r2, r3, r4⟩, E', st⟩
theorem own_selP {s : State} {args : Array Value} {y : MethodName} {n : Nat} (hin : (Cond.instantiable y.cls n).before args s = true) (hpriv : s.PrivateAt y) (hinst : (Cond.instanceMethod y).before args s = true) (hy : y.cls ≠ "java/lang/invoke/MethodHandle" ∧ y.cls ≠ "java/lang/invoke/VarHandle") : (Cond.selects y.cls y y).before args s = true := by
  obtain ⟨c, k, h1, h2, -, h4, -⟩ := Cond.instantiable_spec hin
  exact selects_self_of_private h1 h2 (Bool.or_eq_false_iff.mp h4).1 hpriv hinst hy
theorem own_ixa (h : own_ix j i) (k : Nat) (hi : i + k < 2 ^ 31) : own_ix (j + Int32.ofNat k) (i + k) := by
  obtain ⟨h1, h2⟩ := h
  have e0 : (0 : Int32).toInt = 0 := rfl
  have e1 : (Int32.ofNat k).toInt = k := Int32.toInt_ofNat_of_lt (by omega)
  rw [Int32.lt_iff_toInt_lt, e0] at h1
  simp only [Int32.toNatClampNeg] at h2
  have h3 := c_iadd j (Int32.ofNat k); have h4 := rng32 (j + Int32.ofNat k)
  rw [e1] at h3
  refine ⟨by rw [Int32.lt_iff_toInt_lt, e0]; omega, ?_⟩
  simp only [Int32.toNatClampNeg]; omega
theorem own_ixI (h : own_ix j i) : j.toInt = i := by
  obtain ⟨h1, h2⟩ := h
  have e0 : (0 : Int32).toInt = 0 := rfl
  rw [Int32.lt_iff_toInt_lt, e0] at h1
  simp only [Int32.toNatClampNeg] at h2; omega
theorem own_ixof (h : j.toInt = i) : own_ix j i := by
  have e0 : (0 : Int32).toInt = 0 := rfl
  refine ⟨by rw [Int32.lt_iff_toInt_lt, e0]; omega, ?_⟩
  simp only [Int32.toNatClampNeg]; omega
theorem own_ixs (h : ¬ j < 0) : own_ix j j.toNatClampNeg := ⟨h, rfl⟩
theorem own_and3 (x : Int32) (k : Nat) (hk : k < 2 ^ 31) : ¬ (x &&& Int32.ofNat k) < 0 ∧ (x &&& Int32.ofNat k).toNatClampNeg ≤ k := by
  have h0 : 0 ≤ (Int32.ofNat k).toInt := by rw [Int32.toInt_ofNat_of_lt hk]; omega
  have h1 := (c_andS x (Int32.ofNat k)).2.2 h0
  have e0 : (0 : Int32).toInt = 0 := rfl
  refine ⟨by rw [Int32.lt_iff_toInt_lt, e0]; omega, ?_⟩
  have hb : (x &&& Int32.ofNat k).toBitVec.toNat ≤ k := by
    have : (x &&& Int32.ofNat k).toBitVec.toNat = x.toBitVec.toNat &&& (Int32.ofNat k).toBitVec.toNat := by rw [Int32.toBitVec_and, BitVec.toNat_and]
    rw [this]
    refine Nat.le_trans Nat.and_le_right ?_
    show (BitVec.ofNat 32 k).toNat ≤ k
    rw [BitVec.toNat_ofNat]; exact Nat.mod_le _ _
  have e : (x &&& Int32.ofNat k).toInt = ((x &&& Int32.ofNat k).toBitVec.toNat : Int) := by
    show (x &&& Int32.ofNat k).toBitVec.toInt = _
    rw [BitVec.toInt_eq_toNat_cond]; split
    · rfl
    · omega
  simp only [Int32.toNatClampNeg, e]; omega
end Own

def own_imax (x y : Int32) : Int32 := if x < y then y else x
theorem own_b5_d0 : decode jdk_29_method_65_code 0 = .ok (.iload_n 0, 1) := by decide +kernel
theorem own_b5_d1 : decode jdk_29_method_65_code 1 = .ok (.iload_n 1, 1) := by decide +kernel
theorem own_b5_d2 : decode jdk_29_method_65_code 2 = .ok (.if_icmp .lt 7, 3) := by decide +kernel
theorem own_b5_d5 : decode jdk_29_method_65_code 5 = .ok (.iload_n 0, 1) := by decide +kernel
theorem own_b5_d6 : decode jdk_29_method_65_code 6 = .ok (.goto 4, 3) := by decide +kernel
theorem own_b5_d9 : decode jdk_29_method_65_code 9 = .ok (.iload_n 1, 1) := by decide +kernel
theorem own_b5_d10 : decode jdk_29_method_65_code 10 = .ok (.ireturn, 1) := by decide +kernel
theorem own_ef_rm5 (m : MethodId) (x0 : Int32) (x1 : Int32) : entryFrame m #[(.int x0), (.int x1)] 2 = mkF m 0 #[.val (.int x0), .val (.int x1)] [] := by first | (simp [entryFrame, mkF, argsToLocals, Value.category]; done) | rfl
def Q5 (Z : State) (x0 : Int32) (x1 : Int32) (h0 : Heap) (n0 : Nat) (v : Option Value) (h : Heap) (L : List Loc) : Prop := v = some (.int (own_imax x0 x1)) ∧ Fr n0 L ∧ h = h0
set_option maxRecDepth 65536 in
set_option maxHeartbeats 40000000 in
theorem rm5 (l : Launch) (Z : State) (a0 : Array Value) (hw : ∀ d ∈ tables_1, d.before a0 Z = true) (ws : List Jvm.Cond) (x0 : Int32) (x1 : Int32) (h0 : Heap) (n0 : Nat) (Z0 : n0 ≤ h0.size) :
    MetFree l (⟨"java/lang/Math", "max", "(II)I"⟩ : MethodName) (head1 (Jvm.Cond.code (⟨"java/lang/Math", "max", "(II)I"⟩ : MethodName) jdk_29_method_65_code 2 (some .int) :: ws) ({ frames := 0, cells := 0, slots := 0, locals := 0 } : Room)) (fun aa_ U_ => aa_ = #[(.int x0), (.int x1)] ∧ Z.Warmed39 U_.vm ∧ U_.heap = h0) (fun _ _ _ _ _ => True) (fun _ U_ o_ U1_ => ∃ v_ L_, o_ = .returned v_ ∧ Q5 Z x0 x1 h0 n0 v_ U1_.heap L_ ∧ FrameEnd U_ o_ U1_ L_ ({ frames := 0, cells := 0, slots := 0, locals := 0 } : Room).cells ({ frames := 0, cells := 0, slots := 0, locals := 0 } : Room).slots) := by
  refine MetFree.of_bodySF (Jvm.Free.JP.mathPlain rfl (by decide +kernel)) hisR ?_
  intro p e s m args below meth c s₁ Bd hml0 hP hK
  obtain ⟨rfl, hZ, hh⟩ := hP
  have hx := Bd.exec
  have hby := Bd.bytes
  have hlk := Bd.notSynchronized
  have hml : c.maxLocals = 2 := hml0
  have hown : s.vm.findClass "java/lang/Math" = some m.cls := findClass_of_methodNamed Bd.named
  have hnm := (name_of_methodNamed Bd.named Bd.method).1
  have X0 : Stand p l e ({ frames := 0, cells := 0, slots := 0, locals := 0 } : Room) s m #[(.int x0), (.int x1)] below meth c s₁ [] 0 0 := Stand.of_body Bd
  have e0 : s₁.heap = h0 := by rw [← hh, Bd.state]; rfl
  have N0 := Fr.nil n0
  show own_E p e below s (Q5 Z x0 x1 h0 n0) ({ frames := 0, cells := 0, slots := 0, locals := 0 } : Room).cells ({ frames := 0, cells := 0, slots := 0, locals := 0 } : Room).slots (s₁.setTop (entryFrame m #[(.int x0), (.int x1)] 2))
  refine own_st (B := s₁.setTop (mkF m 0 #[.val (.int x0), .val (.int x1)] [])) (fun t_ k_ => castTop (own_ef_rm5 m x0 x1) k_) ?_
  refine own_st (B := s₁.setTop (mkF m 1 #[.val (.int x0), .val (.int x1)] [(.int x0)])) (fun t_ k_ => XS.iloadN X0.here hx rfl (hb hby own_b5_d0) rfl k_) ?_
  refine own_st (B := s₁.setTop (mkF m 2 #[.val (.int x0), .val (.int x1)] [(.int x1), (.int x0)])) (fun t_ k_ => XS.iloadN X0.here hx rfl (hb hby own_b5_d1) rfl k_) ?_
  by_cases hc1 : x0 < x1
  · have hd1 := own_lt32 hc1
    refine own_st (B := s₁.setTop (mkF m 9 #[.val (.int x0), .val (.int x1)] [])) (fun t_ k_ => XS.icmpYes X0.here hx rfl (pc0 := 2) (pc' := 9) rfl (hb hby own_b5_d2) rfl (tlt hc1).1 (by decide) (by decide) k_) ?_
    refine own_st (B := s₁.setTop (mkF m 10 #[.val (.int x0), .val (.int x1)] [(.int x1)])) (fun t_ k_ => XS.iloadN X0.here hx rfl (hb hby own_b5_d9) rfl k_) ?_
    refine own_retI X0 hx Bd.returns hlk (hb hby own_b5_d10) (by decide) (by decide) ?_
    show Q5 Z x0 x1 h0 n0 _ s₁.heap _
    rw [e0]
    exact ⟨by simp [own_imax, hc1], N0, rfl⟩
  · have hd1 := own_nlt32 hc1
    refine own_st (B := s₁.setTop (mkF m 5 #[.val (.int x0), .val (.int x1)] [])) (fun t_ k_ => XS.icmpNo X0.here hx rfl (hb hby own_b5_d2) rfl (flt hc1).1 k_) ?_
    refine own_st (B := s₁.setTop (mkF m 6 #[.val (.int x0), .val (.int x1)] [(.int x0)])) (fun t_ k_ => XS.iloadN X0.here hx rfl (hb hby own_b5_d5) rfl k_) ?_
    refine own_st (B := s₁.setTop (mkF m 10 #[.val (.int x0), .val (.int x1)] [(.int x0)])) (fun t_ k_ => XS.goto X0.here hx rfl (pc0 := 6) (pc' := 10) rfl (hb hby own_b5_d6) (by decide) (by decide) k_) ?_
    refine own_retI X0 hx Bd.returns hlk (hb hby own_b5_d10) (by decide) (by decide) ?_
    show Q5 Z x0 x1 h0 n0 _ s₁.heap _
    rw [e0]
    exact ⟨by simp [own_imax, hc1], N0, rfl⟩
theorem own_pd0 : parseMethodDescriptor "(II)I" = some ⟨[.int, .int], some .int⟩ := by decide +kernel
theorem own_b4_d0 : decode prog_29_method_2_code 0 = .ok (.aload_n 0, 1) := by decide +kernel
theorem own_b4_d1 : decode prog_29_method_2_code 1 = .ok (.invokespecial 9, 3) := by decide +kernel
theorem own_b4_d4 : decode prog_29_method_2_code 4 = .ok (.aload_n 0, 1) := by decide +kernel
theorem own_b4_d5 : decode prog_29_method_2_code 5 = .ok (.iconst 1, 1) := by decide +kernel
theorem own_b4_d6 : decode prog_29_method_2_code 6 = .ok (.iload_n 1, 1) := by decide +kernel
theorem own_b4_d7 : decode prog_29_method_2_code 7 = .ok (.invokestatic 14, 3) := by decide +kernel
theorem own_b4_d10 : decode prog_29_method_2_code 10 = .ok (.newarray .int, 2) := by decide +kernel
theorem own_b4_d12 : decode prog_29_method_2_code 12 = .ok (.putfield 20, 3) := by decide +kernel
theorem own_b4_d15 : decode prog_29_method_2_code 15 = .ok (.return_, 1) := by decide +kernel
theorem own_pn0 : plainName "com/example/histrix/histrix/IntList" = true := by first | (simp [plainName, overriddenIn]; done) | decide +kernel
theorem own_ef_rm4 (m : MethodId) (x0 : Addr) (x1 : Int32) : entryFrame m #[(.ref x0), (.int x1)] 2 = mkF m 0 #[.val (.ref x0), .val (.int x1)] [] := by first | (simp [entryFrame, mkF, argsToLocals, Value.category]; done) | rfl
def Q4 (Z : State) (a : Addr) (h0 : Heap) (n0 : Nat) (v : Option Value) (h : Heap) (L : List Loc) : Prop := v = none ∧ Fr n0 L ∧ Keep h0 h [a] ∧ Fld Z h a "com/example/histrix/histrix/IntList" "size" "I" (.int (0 : Int32)) ∧ ∃ b : Addr, h0.size ≤ b ∧ Fld Z h a "com/example/histrix/histrix/IntList" "values" "[I" (.ref b) ∧ own_A Z h b .int 16 (fun _ => 0)
set_option maxRecDepth 65536 in
set_option maxHeartbeats 40000000 in
theorem rm4 (l : Launch) (Z : State) (a0 : Array Value) (hw : ∀ d ∈ tables_1, d.before a0 Z = true) (ws : List Jvm.Cond) (a : Addr) (h0 : Heap) (n0 : Nat) (Z0 : n0 ≤ h0.size) (E : Exa Z h0 a "com/example/histrix/histrix/IntList") (F0 : Fld Z h0 a "com/example/histrix/histrix/IntList" "size" "I" (.int (0 : Int32))) (F1 : Fld Z h0 a "com/example/histrix/histrix/IntList" "values" "[I" .null) (ga : n0 ≤ a) :
    MetFree l (⟨"com/example/histrix/histrix/IntList", "<init>", "(I)V"⟩ : MethodName) (head1 (Jvm.Cond.code (⟨"com/example/histrix/histrix/IntList", "<init>", "(I)V"⟩ : MethodName) prog_29_method_2_code 2 none :: ws) ({ frames := 1, cells := 1, slots := 16, locals := 14 } : Room)) (fun aa_ U_ => aa_ = #[(.ref a), (.int (16 : Int32))] ∧ Z.Warmed39 U_.vm ∧ U_.heap = h0) (fun _ _ _ _ _ => True) (fun _ U_ o_ U1_ => ∃ v_ L_, o_ = .returned v_ ∧ Q4 Z a h0 n0 v_ U1_.heap L_ ∧ FrameEnd U_ o_ U1_ L_ ({ frames := 1, cells := 1, slots := 16, locals := 14 } : Room).cells ({ frames := 1, cells := 1, slots := 16, locals := 14 } : Room).slots) := by
  refine MetFree.of_bodySF (plainFor_of_name own_pn0) hisR ?_
  intro p e s m args below meth c s₁ Bd hml0 hP hK
  obtain ⟨rfl, hZ, hh⟩ := hP
  have hx := Bd.exec
  have hby := Bd.bytes
  have hlk := Bd.notSynchronized
  have hml : c.maxLocals = 2 := hml0
  have hown : s.vm.findClass "com/example/histrix/histrix/IntList" = some m.cls := findClass_of_methodNamed Bd.named
  have hnm := (name_of_methodNamed Bd.named Bd.method).1
  have X0 : Stand p l e ({ frames := 1, cells := 1, slots := 16, locals := 14 } : Room) s m #[(.ref a), (.int (16 : Int32))] below meth c s₁ [] 0 0 := Stand.of_body Bd
  have e0 : s₁.heap = h0 := by rw [← hh, Bd.state]; rfl
  have N0 := Fr.nil n0
  show own_E p e below s (Q4 Z a h0 n0) ({ frames := 1, cells := 1, slots := 16, locals := 14 } : Room).cells ({ frames := 1, cells := 1, slots := 16, locals := 14 } : Room).slots (s₁.setTop (entryFrame m #[(.ref a), (.int (16 : Int32))] 2))
  refine own_st (B := s₁.setTop (mkF m 0 #[.val (.ref a), .val (.int (16 : Int32))] [])) (fun t_ k_ => castTop (own_ef_rm4 m a (16 : Int32)) k_) ?_
  have K0 : Keep h0 h0 [a] := Keep.refl _ _
  refine own_st (B := s₁.setTop (mkF m 1 #[.val (.ref a), .val (.int (16 : Int32))] [(.ref a)])) (fun t_ k_ => XS.aloadN X0.here hx rfl (hb hby own_b4_d0) rfl rfl k_) ?_
  obtain ⟨T1, X1, e1, st1⟩ := initO X0 hx hZ hown (hw _ (List.mem_of_getElem? (i := 18) rfl)) (hw _ (List.mem_of_getElem? (i := 7) rfl)) (hw _ (List.mem_of_getElem? (i := 8) rfl)) e0 (g := (mkF m 1 #[.val (.ref a), .val (.int (16 : Int32))] [(.ref a)])) rfl (by rw [hml]; rfl) rfl (hb hby own_b4_d1) (by decide) (W := 0) (by show 2 * 0 + _ ≤ _; exact Nat.le_of_eq rfl) (by decide)
  refine own_st (B := T1.setTop (mkF m 4 #[.val (.ref a), .val (.int (16 : Int32))] [])) st1 ?_
  refine own_st (B := T1.setTop (mkF m 5 #[.val (.ref a), .val (.int (16 : Int32))] [(.ref a)])) (fun t_ k_ => XS.aloadN X1.here hx rfl (hb hby own_b4_d4) rfl rfl k_) ?_
  refine own_st (B := T1.setTop (mkF m 6 #[.val (.ref a), .val (.int (16 : Int32))] [(.int (1 : Int32)), (.ref a)])) (fun t_ k_ => XS.iconst X1.here hx rfl (hb hby own_b4_d5) k_) ?_
  refine own_st (B := T1.setTop (mkF m 7 #[.val (.ref a), .val (.int (16 : Int32))] [(.int (16 : Int32)), (.int (1 : Int32)), (.ref a)])) (fun t_ k_ => XS.iloadN X1.here hx rfl (hb hby own_b4_d6) rfl k_) ?_
  obtain ⟨_, _, ⟨T2, L2, k2, n2⟩, -, X2, ⟨Lc2, hQ2, l2, y2, z2⟩, st2⟩ := Jvm.LawKit.callS X1 hx (y := (⟨"java/lang/Math", "max", "(II)I"⟩ : MethodName)) hown (mvT hZ (hw _ (List.mem_of_getElem? (i := 19) rfl))) (mvT hZ (hw _ (List.mem_of_getElem? (i := 20) rfl))) (mvT hZ (hw _ (List.mem_of_getElem? (i := 21) rfl))) (mvT hZ (hw _ (List.mem_of_getElem? (i := 22) rfl))) (by decide) (backOf (W := 1) (rm5 l Z a0 hw [] (1 : Int32) (16 : Int32) h0 n0 Z0 ) hZ (hw _ (List.mem_of_getElem? (i := 22) rfl)) (hw _ (List.mem_of_getElem? (i := 21) rfl)) (by decide) (by decide)) (g := (mkF m 7 #[.val (.ref a), .val (.int (16 : Int32))] [(.int (16 : Int32)), (.int (1 : Int32)), (.ref a)])) rfl (by rw [hml]; rfl) (argsL := [(.int (1 : Int32)), (.int (16 : Int32))]) (rest := [(.ref a)]) (lenOf own_pd0 rfl) rfl (by show 2 * 0 + _ ≤ _; exact Nat.le_of_eq rfl) (hb hby own_b4_d7) (fun _ _ => ⟨rfl, e1, (by decide : 0 + 0 ≤ _), (by decide : 0 + 0 ≤ _)⟩)
  dsimp only [Pt.U, Pt.locs, Pt.cells, Pt.slots] at X2 l2 y2 z2 st2 hQ2
  subst l2 y2 z2
  obtain ⟨rfl, N2q, eh2⟩ := hQ2
  have N2 := Fr.app N0 N2q
  refine own_st (B := T2.setTop (mkF m 10 #[.val (.ref a), .val (.int (16 : Int32))] [(.int (own_imax (1 : Int32) (16 : Int32))), (.ref a)])) st2 ?_
  rw [show own_imax (1 : Int32) (16 : Int32) = (16 : Int32) from by decide]
  obtain ⟨T3, h3, k3, X3, e3, E3, A3, G3, st3⟩ := newPE X2 hx hZ (hw _ (List.mem_of_getElem? (i := 23) rfl)) eh2 (g := (mkF m 10 #[.val (.ref a), .val (.int (16 : Int32))] [(.int (16 : Int32)), (.ref a)])) rfl (hb hby own_b4_d10) rfl (by decide) (cap := 16) (by decide) (by decide) (by decide) (by decide) (ad := "[I") (by decide)
  obtain ⟨b3, g3⟩ : ∃ z, z = h0.size := ⟨_, rfl⟩
  rw [← g3] at A3 G3 st3
  have ne4 : a ≠ b3 := Nat.ne_of_lt (Nat.lt_of_lt_of_le E.lt (Nat.le_of_eq g3.symm))
  have g5 : n0 ≤ b3 := Nat.le_trans Z0 (Nat.le_of_eq g3.symm)
  have sz6 : h0.size ≤ b3 := Nat.le_trans K0.1 (Nat.le_of_eq g3.symm)
  have Z7 := Nat.le_trans Z0 E3.1
  have K8 := K0.ext E3
  have a3 : own_A Z h3 b3 .int 16 (fun _ => 0) := own_A.new A3 (by decide) rfl
  refine own_st (B := T3.setTop (mkF m 12 #[.val (.ref a), .val (.int (16 : Int32))] [(.ref b3), (.ref a)])) st3 ?_
  have u9 := E.ext E3
  have u10 := F1.ext E3
  obtain ⟨T11, h11, X11, e11, W11, st11⟩ := putF X3 hx hZ hown (host := "") (Or.inl (hw _ (List.mem_of_getElem? (i := 24) rfl))) Via.refl e3 u10 u9 (Or.inl (hw _ (List.mem_of_getElem? (i := 25) rfl))) (hw _ (List.mem_of_getElem? (i := 10) rfl)) (ty := (.array .int)) (by decide) rfl rfl (g := (mkF m 12 #[.val (.ref a), .val (.int (16 : Int32))] [(.ref b3), (.ref a)])) rfl rfl (hb hby own_b4_d12)
  have Fw11 := u10.same W11
  have N11 := Fr.snoc X11 N2 ga
  have Z12 := Nat.le_trans Z7 (Keep.of_wr W11).1
  have K13 := K8.wr W11 (Or.inl (List.mem_of_getElem? (i := 0) rfl))
  refine own_st (B := T11.setTop (mkF m 15 #[.val (.ref a), .val (.int (16 : Int32))] [])) st11 ?_
  refine own_retV X11 hx Bd.returns hlk (hb hby own_b4_d15) (by decide) (by decide) ?_
  show Q4 Z a h0 n0 _ T11.heap _
  rw [e11]
  have u14 := F0.ext E3
  have u15 := u14.other W11 (Or.inr (slot_ne (Or.inl (hw _ (List.mem_of_getElem? (i := 44) rfl))) (Or.inl (hw _ (List.mem_of_getElem? (i := 25) rfl))) (by decide) (t := .int) (t' := (.array .int)) (by decide) (by decide)))
  have u16 := a3.other W11 (Ne.symm ne4)
  exact ⟨rfl, N11, K13, u15, b3, sz6, Fw11, u16⟩
theorem own_pd1 : parseMethodDescriptor "(I)V" = some ⟨[.int], none⟩ := by decide +kernel
theorem own_b3_d0 : decode prog_29_method_1_code 0 = .ok (.aload_n 0, 1) := by decide +kernel
theorem own_b3_d1 : decode prog_29_method_1_code 1 = .ok (.bipush 16, 2) := by decide +kernel
theorem own_b3_d3 : decode prog_29_method_1_code 3 = .ok (.invokespecial 3, 3) := by decide +kernel
theorem own_b3_d6 : decode prog_29_method_1_code 6 = .ok (.return_, 1) := by decide +kernel
theorem own_ef_rm3 (m : MethodId) (x0 : Addr) : entryFrame m #[(.ref x0)] 1 = mkF m 0 #[.val (.ref x0)] [] := by first | (simp [entryFrame, mkF, argsToLocals, Value.category]; done) | rfl
def Q3 (Z : State) (a : Addr) (h0 : Heap) (n0 : Nat) (v : Option Value) (h : Heap) (L : List Loc) : Prop := v = none ∧ Fr n0 L ∧ Keep h0 h [a] ∧ Fld Z h a "com/example/histrix/histrix/IntList" "size" "I" (.int (0 : Int32)) ∧ ∃ b : Addr, h0.size ≤ b ∧ Fld Z h a "com/example/histrix/histrix/IntList" "values" "[I" (.ref b) ∧ own_A Z h b .int 16 (fun _ => 0)
set_option maxRecDepth 65536 in
set_option maxHeartbeats 40000000 in
theorem rm3 (l : Launch) (Z : State) (a0 : Array Value) (hw : ∀ d ∈ tables_1, d.before a0 Z = true) (ws : List Jvm.Cond) (a : Addr) (h0 : Heap) (n0 : Nat) (Z0 : n0 ≤ h0.size) (E : Exa Z h0 a "com/example/histrix/histrix/IntList") (F0 : Fld Z h0 a "com/example/histrix/histrix/IntList" "size" "I" (.int (0 : Int32))) (F1 : Fld Z h0 a "com/example/histrix/histrix/IntList" "values" "[I" .null) (ga : n0 ≤ a) :
    MetFree l (⟨"com/example/histrix/histrix/IntList", "<init>", "()V"⟩ : MethodName) (head1 (Jvm.Cond.code (⟨"com/example/histrix/histrix/IntList", "<init>", "()V"⟩ : MethodName) prog_29_method_1_code 1 none :: ws) ({ frames := 2, cells := 1, slots := 16, locals := 27 } : Room)) (fun aa_ U_ => aa_ = #[(.ref a)] ∧ Z.Warmed39 U_.vm ∧ U_.heap = h0) (fun _ _ _ _ _ => True) (fun _ U_ o_ U1_ => ∃ v_ L_, o_ = .returned v_ ∧ Q3 Z a h0 n0 v_ U1_.heap L_ ∧ FrameEnd U_ o_ U1_ L_ ({ frames := 2, cells := 1, slots := 16, locals := 27 } : Room).cells ({ frames := 2, cells := 1, slots := 16, locals := 27 } : Room).slots) := by
  refine MetFree.of_bodySF (plainFor_of_name own_pn0) hisR ?_
  intro p e s m args below meth c s₁ Bd hml0 hP hK
  obtain ⟨rfl, hZ, hh⟩ := hP
  have hx := Bd.exec
  have hby := Bd.bytes
  have hlk := Bd.notSynchronized
  have hml : c.maxLocals = 1 := hml0
  have hown : s.vm.findClass "com/example/histrix/histrix/IntList" = some m.cls := findClass_of_methodNamed Bd.named
  have hnm := (name_of_methodNamed Bd.named Bd.method).1
  have X0 : Stand p l e ({ frames := 2, cells := 1, slots := 16, locals := 27 } : Room) s m #[(.ref a)] below meth c s₁ [] 0 0 := Stand.of_body Bd
  have e0 : s₁.heap = h0 := by rw [← hh, Bd.state]; rfl
  have N0 := Fr.nil n0
  show own_E p e below s (Q3 Z a h0 n0) ({ frames := 2, cells := 1, slots := 16, locals := 27 } : Room).cells ({ frames := 2, cells := 1, slots := 16, locals := 27 } : Room).slots (s₁.setTop (entryFrame m #[(.ref a)] 1))
  refine own_st (B := s₁.setTop (mkF m 0 #[.val (.ref a)] [])) (fun t_ k_ => castTop (own_ef_rm3 m a) k_) ?_
  have K0 : Keep h0 h0 [a] := Keep.refl _ _
  refine own_st (B := s₁.setTop (mkF m 1 #[.val (.ref a)] [(.ref a)])) (fun t_ k_ => XS.aloadN X0.here hx rfl (hb hby own_b3_d0) rfl rfl k_) ?_
  refine own_st (B := s₁.setTop (mkF m 3 #[.val (.ref a)] [(.int (16 : Int32)), (.ref a)])) (fun t_ k_ => XS.bipush X0.here hx rfl (hb hby own_b3_d1) k_) ?_
  obtain ⟨_, _, ⟨T1, L1, k1, n1⟩, -, X1, ⟨Lc1, hQ1, l1, y1, z1⟩, st1⟩ := X0.specialBack hx (y := (⟨"com/example/histrix/histrix/IntList", "<init>", "(I)V"⟩ : MethodName)) rfl hown (mvT hZ (hw _ (List.mem_of_getElem? (i := 15) rfl))) (mvT hZ (hw _ (List.mem_of_getElem? (i := 16) rfl))) (mvT hZ (hw _ (List.mem_of_getElem? (i := 17) rfl))) (by decide) (backOf (W := 0) (rm4 l Z a0 hw [] a h0 n0 Z0 E F0 F1 ga) hZ (hw _ (List.mem_of_getElem? (i := 17) rfl)) (hw _ (List.mem_of_getElem? (i := 11) rfl)) (by decide) (by decide)) (g := (mkF m 3 #[.val (.ref a)] [(.int (16 : Int32)), (.ref a)])) rfl (by rw [hml]; rfl) (Steps.refl _) (a := a) (argsL := [(.int (16 : Int32))]) (rest := []) (lenOf own_pd1 rfl) rfl (by show 2 * 0 + _ ≤ _; exact Nat.le_of_eq rfl) (hb hby own_b3_d3) (fun _ _ => ⟨rfl, e0, (by decide : 0 + 1 ≤ _), (by decide : 0 + 16 ≤ _)⟩)
  dsimp only [Pt.U, Pt.locs, Pt.cells, Pt.slots] at X1 l1 y1 z1 st1 hQ1
  subst l1 y1 z1
  obtain ⟨rfl, N1q, K1, Fs1, d1, gd1, Fd1, Ad1⟩ := hQ1
  have N1 := Fr.app N0 N1q
  have ne2 : a ≠ d1 := Nat.ne_of_lt (Nat.lt_of_lt_of_le E.lt gd1)
  have g3 : n0 ≤ d1 := Nat.le_trans Z0 gd1
  have sz4 : h0.size ≤ d1 := Nat.le_trans K0.1 gd1
  have Z5 := Nat.le_trans Z0 K1.1
  have K6 := K0.trans K1 (allS (Or.inl (List.mem_of_getElem? (i := 0) rfl)) all0)
  refine own_st (B := T1.setTop (mkF m 6 #[.val (.ref a)] [])) (fun t_ k_ => st1.trans k_) ?_
  refine own_retV X1 hx Bd.returns hlk (hb hby own_b3_d6) (by decide) (by decide) ?_
  show Q3 Z a h0 n0 _ T1.heap _
  exact ⟨rfl, N1, K6, Fs1, d1, sz4, Fd1, Ad1⟩
theorem own_b6_d0 : decode prog_29_method_3_code 0 = .ok (.aload_n 0, 1) := by decide +kernel
theorem own_b6_d1 : decode prog_29_method_3_code 1 = .ok (.getfield 24, 3) := by decide +kernel
theorem own_b6_d4 : decode prog_29_method_3_code 4 = .ok (.aload_n 0, 1) := by decide +kernel
theorem own_b6_d5 : decode prog_29_method_3_code 5 = .ok (.getfield 20, 3) := by decide +kernel
theorem own_b6_d8 : decode prog_29_method_3_code 8 = .ok (.arraylength, 1) := by decide +kernel
theorem own_b6_d9 : decode prog_29_method_3_code 9 = .ok (.if_icmp .ne 21, 3) := by decide +kernel
theorem own_b6_d30 : decode prog_29_method_3_code 30 = .ok (.aload_n 0, 1) := by decide +kernel
theorem own_b6_d31 : decode prog_29_method_3_code 31 = .ok (.getfield 20, 3) := by decide +kernel
theorem own_b6_d34 : decode prog_29_method_3_code 34 = .ok (.aload_n 0, 1) := by decide +kernel
theorem own_b6_d35 : decode prog_29_method_3_code 35 = .ok (.dup, 1) := by decide +kernel
theorem own_b6_d36 : decode prog_29_method_3_code 36 = .ok (.getfield 24, 3) := by decide +kernel
theorem own_b6_d39 : decode prog_29_method_3_code 39 = .ok (.dup_x1, 1) := by decide +kernel
theorem own_b6_d40 : decode prog_29_method_3_code 40 = .ok (.iconst 1, 1) := by decide +kernel
theorem own_b6_d41 : decode prog_29_method_3_code 41 = .ok (.iadd, 1) := by decide +kernel
theorem own_b6_d42 : decode prog_29_method_3_code 42 = .ok (.putfield 24, 3) := by decide +kernel
theorem own_b6_d45 : decode prog_29_method_3_code 45 = .ok (.iload_n 1, 1) := by decide +kernel
theorem own_b6_d46 : decode prog_29_method_3_code 46 = .ok (.iastore, 1) := by decide +kernel
theorem own_b6_d47 : decode prog_29_method_3_code 47 = .ok (.return_, 1) := by decide +kernel
theorem own_ef_rm6 (m : MethodId) (x0 : Addr) (x1 : Int32) : entryFrame m #[(.ref x0), (.int x1)] 2 = mkF m 0 #[.val (.ref x0), .val (.int x1)] [] := by first | (simp [entryFrame, mkF, argsToLocals, Value.category]; done) | rfl
def Q6 (Z : State) (a : Addr) (d : Addr) (x : Int32) (f : Nat → Int32) (h0 : Heap) (n0 : Nat) (v : Option Value) (h : Heap) (L : List Loc) : Prop := v = none ∧ Fr n0 L ∧ Keep h0 h [a, d]
set_option maxRecDepth 65536 in
set_option maxHeartbeats 40000000 in
theorem rm6 (l : Launch) (Z : State) (a0 : Array Value) (hw : ∀ d ∈ tables_1, d.before a0 Z = true) (ws : List Jvm.Cond) (a : Addr) (d : Addr) (x : Int32) (f : Nat → Int32) (h0 : Heap) (n0 : Nat) (Z0 : n0 ≤ h0.size) (E : Exa Z h0 a "com/example/histrix/histrix/IntList") (F0 : Fld Z h0 a "com/example/histrix/histrix/IntList" "size" "I" (.int (0 : Int32))) (F1 : Fld Z h0 a "com/example/histrix/histrix/IntList" "values" "[I" (.ref d)) (A : own_A Z h0 d .int 16 f) (ga : n0 ≤ a) (gd : n0 ≤ d) (hne : a ≠ d) :
    MetFree l (⟨"com/example/histrix/histrix/IntList", "add", "(I)V"⟩ : MethodName) (head1 (Jvm.Cond.code (⟨"com/example/histrix/histrix/IntList", "add", "(I)V"⟩ : MethodName) prog_29_method_3_code 2 none :: ws) ({ frames := 0, cells := 0, slots := 0, locals := 0 } : Room)) (fun aa_ U_ => aa_ = #[(.ref a), (.int x)] ∧ Z.Warmed39 U_.vm ∧ U_.heap = h0) (fun _ _ _ _ _ => True) (fun _ U_ o_ U1_ => ∃ v_ L_, o_ = .returned v_ ∧ Q6 Z a d x f h0 n0 v_ U1_.heap L_ ∧ FrameEnd U_ o_ U1_ L_ ({ frames := 0, cells := 0, slots := 0, locals := 0 } : Room).cells ({ frames := 0, cells := 0, slots := 0, locals := 0 } : Room).slots) := by
  refine MetFree.of_bodySF (plainFor_of_name own_pn0) hisR ?_
  intro p e s m args below meth c s₁ Bd hml0 hP hK
  obtain ⟨rfl, hZ, hh⟩ := hP
  have hx := Bd.exec
  have hby := Bd.bytes
  have hlk := Bd.notSynchronized
  have hml : c.maxLocals = 2 := hml0
  have hown : s.vm.findClass "com/example/histrix/histrix/IntList" = some m.cls := findClass_of_methodNamed Bd.named
  have hnm := (name_of_methodNamed Bd.named Bd.method).1
  have X0 : Stand p l e ({ frames := 0, cells := 0, slots := 0, locals := 0 } : Room) s m #[(.ref a), (.int x)] below meth c s₁ [] 0 0 := Stand.of_body Bd
  have e0 : s₁.heap = h0 := by rw [← hh, Bd.state]; rfl
  have N0 := Fr.nil n0
  show own_E p e below s (Q6 Z a d x f h0 n0) ({ frames := 0, cells := 0, slots := 0, locals := 0 } : Room).cells ({ frames := 0, cells := 0, slots := 0, locals := 0 } : Room).slots (s₁.setTop (entryFrame m #[(.ref a), (.int x)] 2))
  refine own_st (B := s₁.setTop (mkF m 0 #[.val (.ref a), .val (.int x)] [])) (fun t_ k_ => castTop (own_ef_rm6 m a x) k_) ?_
  have K0 : Keep h0 h0 [a, d] := Keep.refl _ _
  refine own_st (B := s₁.setTop (mkF m 1 #[.val (.ref a), .val (.int x)] [(.ref a)])) (fun t_ k_ => XS.aloadN X0.here hx rfl (hb hby own_b6_d0) rfl rfl k_) ?_
  obtain ⟨T1, X1, e1, st1⟩ := getF X0 hx hZ hown (host := "") (Or.inl (hw _ (List.mem_of_getElem? (i := 43) rfl))) Via.refl e0 F0 (g := (mkF m 1 #[.val (.ref a), .val (.int x)] [(.ref a)])) rfl rfl (hb hby own_b6_d1)
  refine own_st (B := T1.setTop (mkF m 4 #[.val (.ref a), .val (.int x)] [(.int (0 : Int32))])) st1 ?_
  refine own_st (B := T1.setTop (mkF m 5 #[.val (.ref a), .val (.int x)] [(.ref a), (.int (0 : Int32))])) (fun t_ k_ => XS.aloadN X1.here hx rfl (hb hby own_b6_d4) rfl rfl k_) ?_
  obtain ⟨T2, X2, e2, st2⟩ := getF X1 hx hZ hown (host := "") (Or.inl (hw _ (List.mem_of_getElem? (i := 24) rfl))) Via.refl e1 F1 (g := (mkF m 5 #[.val (.ref a), .val (.int x)] [(.ref a), (.int (0 : Int32))])) rfl rfl (hb hby own_b6_d5)
  refine own_st (B := T2.setTop (mkF m 8 #[.val (.ref a), .val (.int x)] [(.ref d), (.int (0 : Int32))])) st2 ?_
  refine own_st (B := T2.setTop (mkF m 9 #[.val (.ref a), .val (.int x)] [(.int (16 : Int32)), (.int (0 : Int32))])) (fun t_ k_ => own_len X2 hx hZ e2 A (z := (16 : Int32)) rfl (hb hby own_b6_d8) t_ k_) ?_
  refine own_st (B := T2.setTop (mkF m 30 #[.val (.ref a), .val (.int x)] [])) (fun t_ k_ => XS.icmpYes X2.here hx rfl (pc0 := 9) (pc' := 30) rfl (hb hby own_b6_d9) rfl (feq (by decide : ¬ ((0 : Int32) = (16 : Int32)))).2 (by decide) (by decide) k_) ?_
  refine own_st (B := T2.setTop (mkF m 31 #[.val (.ref a), .val (.int x)] [(.ref a)])) (fun t_ k_ => XS.aloadN X2.here hx rfl (hb hby own_b6_d30) rfl rfl k_) ?_
  obtain ⟨T3, X3, e3, st3⟩ := getF X2 hx hZ hown (host := "") (Or.inl (hw _ (List.mem_of_getElem? (i := 24) rfl))) Via.refl e2 F1 (g := (mkF m 31 #[.val (.ref a), .val (.int x)] [(.ref a)])) rfl rfl (hb hby own_b6_d31)
  refine own_st (B := T3.setTop (mkF m 34 #[.val (.ref a), .val (.int x)] [(.ref d)])) st3 ?_
  refine own_st (B := T3.setTop (mkF m 35 #[.val (.ref a), .val (.int x)] [(.ref a), (.ref d)])) (fun t_ k_ => XS.aloadN X3.here hx rfl (hb hby own_b6_d34) rfl rfl k_) ?_
  refine own_st (B := T3.setTop (mkF m 36 #[.val (.ref a), .val (.int x)] [(.ref a), (.ref a), (.ref d)])) (fun t_ k_ => XS.dup X3.here hx rfl (hb hby own_b6_d35) rfl rfl k_) ?_
  obtain ⟨T4, X4, e4, st4⟩ := getF X3 hx hZ hown (host := "") (Or.inl (hw _ (List.mem_of_getElem? (i := 43) rfl))) Via.refl e3 F0 (g := (mkF m 36 #[.val (.ref a), .val (.int x)] [(.ref a), (.ref a), (.ref d)])) rfl rfl (hb hby own_b6_d36)
  refine own_st (B := T4.setTop (mkF m 39 #[.val (.ref a), .val (.int x)] [(.int (0 : Int32)), (.ref a), (.ref d)])) st4 ?_
  refine own_st (B := T4.setTop (mkF m 40 #[.val (.ref a), .val (.int x)] [(.int (0 : Int32)), (.ref a), (.int (0 : Int32)), (.ref d)])) (fun t_ k_ => XS.dupX1 X4.here hx rfl (hb hby own_b6_d39) rfl rfl rfl k_) ?_
  refine own_st (B := T4.setTop (mkF m 41 #[.val (.ref a), .val (.int x)] [(.int (1 : Int32)), (.int (0 : Int32)), (.ref a), (.int (0 : Int32)), (.ref d)])) (fun t_ k_ => XS.iconst X4.here hx rfl (hb hby own_b6_d40) k_) ?_
  refine own_st (B := T4.setTop (mkF m 42 #[.val (.ref a), .val (.int x)] [(.int ((0 : Int32) + (1 : Int32))), (.ref a), (.int (0 : Int32)), (.ref d)])) (fun t_ k_ => XS.iadd X4.here hx rfl (hb hby own_b6_d41) rfl k_) ?_
  obtain ⟨T5, h5, X5, e5, W5, st5⟩ := putF X4 hx hZ hown (host := "") (Or.inl (hw _ (List.mem_of_getElem? (i := 43) rfl))) Via.refl e4 F0 E (Or.inl (hw _ (List.mem_of_getElem? (i := 44) rfl))) (hw _ (List.mem_of_getElem? (i := 10) rfl)) (ty := .int) (by decide) rfl rfl (g := (mkF m 42 #[.val (.ref a), .val (.int x)] [(.int ((0 : Int32) + (1 : Int32))), (.ref a), (.int (0 : Int32)), (.ref d)])) rfl rfl (hb hby own_b6_d42)
  have Fw5 := F0.same W5
  have N5 := Fr.snoc X5 N0 ga
  have Z6 := Nat.le_trans Z0 (Keep.of_wr W5).1
  have K7 := K0.wr W5 (Or.inl (List.mem_of_getElem? (i := 0) rfl))
  refine own_st (B := T5.setTop (mkF m 45 #[.val (.ref a), .val (.int x)] [(.int (0 : Int32)), (.ref d)])) st5 ?_
  refine own_st (B := T5.setTop (mkF m 46 #[.val (.ref a), .val (.int x)] [(.int x), (.int (0 : Int32)), (.ref d)])) (fun t_ k_ => XS.iloadN X5.here hx rfl (hb hby own_b6_d45) rfl k_) ?_
  have u8 := A.other W5 (Ne.symm hne)
  obtain ⟨T9, h9, X9, e9, W9, a9, st9⟩ := own_stI X5 hx hZ e5 u8 (i := 0) (j := (0 : Int32)) (by decide) (by decide) (pc := 46) (x := x) (Ls := #[.val (.ref a), .val (.int x)]) (rest := []) (hb hby own_b6_d46)
  have N9 := Fr.snoc X9 N5 gd
  have Z10 := Nat.le_trans Z6 (Keep.of_wr W9).1
  have K11 := K7.wr W9 (Or.inl (List.mem_of_getElem? (i := 1) rfl))
  refine own_st (B := T9.setTop (mkF m 47 #[.val (.ref a), .val (.int x)] [])) st9 ?_
  refine own_retV X9 hx Bd.returns hlk (hb hby own_b6_d47) (by decide) (by decide) ?_
  show Q6 Z a d x f h0 n0 _ T9.heap _
  rw [e9]
  exact ⟨rfl, N9, K11⟩
theorem own_pd2 : parseMethodDescriptor "()V" = some ⟨[], none⟩ := by decide +kernel
theorem own_b1_d0 : decode prog_44_method_1_code 0 = .ok (.aload_n 0, 1) := by decide +kernel
theorem own_b1_d1 : decode prog_44_method_1_code 1 = .ok (.invokespecial 3, 3) := by decide +kernel
theorem own_b1_d4 : decode prog_44_method_1_code 4 = .ok (.aload_n 0, 1) := by decide +kernel
theorem own_b1_d5 : decode prog_44_method_1_code 5 = .ok (.new 9, 3) := by decide +kernel
theorem own_b1_d8 : decode prog_44_method_1_code 8 = .ok (.dup, 1) := by decide +kernel
theorem own_b1_d9 : decode prog_44_method_1_code 9 = .ok (.invokespecial 11, 3) := by decide +kernel
theorem own_b1_d12 : decode prog_44_method_1_code 12 = .ok (.putfield 12, 3) := by decide +kernel
theorem own_b1_d15 : decode prog_44_method_1_code 15 = .ok (.aload_n 0, 1) := by decide +kernel
theorem own_b1_d16 : decode prog_44_method_1_code 16 = .ok (.new 9, 3) := by decide +kernel
theorem own_b1_d19 : decode prog_44_method_1_code 19 = .ok (.dup, 1) := by decide +kernel
theorem own_b1_d20 : decode prog_44_method_1_code 20 = .ok (.invokespecial 11, 3) := by decide +kernel
theorem own_b1_d23 : decode prog_44_method_1_code 23 = .ok (.putfield 18, 3) := by decide +kernel
theorem own_b1_d26 : decode prog_44_method_1_code 26 = .ok (.aload_n 0, 1) := by decide +kernel
theorem own_b1_d27 : decode prog_44_method_1_code 27 = .ok (.new 9, 3) := by decide +kernel
theorem own_b1_d30 : decode prog_44_method_1_code 30 = .ok (.dup, 1) := by decide +kernel
theorem own_b1_d31 : decode prog_44_method_1_code 31 = .ok (.invokespecial 11, 3) := by decide +kernel
theorem own_b1_d34 : decode prog_44_method_1_code 34 = .ok (.putfield 21, 3) := by decide +kernel
theorem own_b1_d37 : decode prog_44_method_1_code 37 = .ok (.aload_n 0, 1) := by decide +kernel
theorem own_b1_d38 : decode prog_44_method_1_code 38 = .ok (.new 9, 3) := by decide +kernel
theorem own_b1_d41 : decode prog_44_method_1_code 41 = .ok (.dup, 1) := by decide +kernel
theorem own_b1_d42 : decode prog_44_method_1_code 42 = .ok (.invokespecial 11, 3) := by decide +kernel
theorem own_b1_d45 : decode prog_44_method_1_code 45 = .ok (.putfield 24, 3) := by decide +kernel
theorem own_b1_d48 : decode prog_44_method_1_code 48 = .ok (.aload_n 0, 1) := by decide +kernel
theorem own_b1_d49 : decode prog_44_method_1_code 49 = .ok (.new 9, 3) := by decide +kernel
theorem own_b1_d52 : decode prog_44_method_1_code 52 = .ok (.dup, 1) := by decide +kernel
theorem own_b1_d53 : decode prog_44_method_1_code 53 = .ok (.invokespecial 11, 3) := by decide +kernel
theorem own_b1_d56 : decode prog_44_method_1_code 56 = .ok (.putfield 27, 3) := by decide +kernel
theorem own_b1_d59 : decode prog_44_method_1_code 59 = .ok (.aload_n 0, 1) := by decide +kernel
theorem own_b1_d60 : decode prog_44_method_1_code 60 = .ok (.iload_n 1, 1) := by decide +kernel
theorem own_b1_d61 : decode prog_44_method_1_code 61 = .ok (.putfield 30, 3) := by decide +kernel
theorem own_b1_d64 : decode prog_44_method_1_code 64 = .ok (.aload_n 0, 1) := by decide +kernel
theorem own_b1_d65 : decode prog_44_method_1_code 65 = .ok (.getfield 24, 3) := by decide +kernel
theorem own_b1_d68 : decode prog_44_method_1_code 68 = .ok (.iconst 0, 1) := by decide +kernel
theorem own_b1_d69 : decode prog_44_method_1_code 69 = .ok (.invokevirtual 34, 3) := by decide +kernel
theorem own_b1_d72 : decode prog_44_method_1_code 72 = .ok (.return_, 1) := by decide +kernel
theorem own_pn1 : plainName "com/example/histrix/histrix/Polygraph" = true := by first | (simp [plainName, overriddenIn]; done) | decide +kernel
theorem own_ef_rm1 (m : MethodId) (x0 : Addr) (x1 : Int32) : entryFrame m #[(.ref x0), (.int x1)] 2 = mkF m 0 #[.val (.ref x0), .val (.int x1)] [] := by first | (simp [entryFrame, mkF, argsToLocals, Value.category]; done) | rfl
def Q1 (Z : State) (a : Addr) (x : Int32) (h0 : Heap) (n0 : Nat) (v : Option Value) (h : Heap) (L : List Loc) : Prop := v = none ∧ Fr n0 L ∧ Keep h0 h [a] ∧ Fld Z h a "com/example/histrix/histrix/Polygraph" "transactionCount" "I" (.int x) ∧ Fld Z h a "com/example/histrix/histrix/Polygraph" "waypointCount" "I" (.int (0 : Int32))
set_option maxRecDepth 65536 in
set_option maxHeartbeats 40000000 in
theorem rm1 (l : Launch) (Z : State) (a0 : Array Value) (hw : ∀ d ∈ tables_1, d.before a0 Z = true) (ws : List Jvm.Cond) (a : Addr) (x : Int32) (h0 : Heap) (n0 : Nat) (Z0 : n0 ≤ h0.size) (E : Exa Z h0 a "com/example/histrix/histrix/Polygraph") (F0 : Fld Z h0 a "com/example/histrix/histrix/Polygraph" "requiredFrom" "Lcom/example/histrix/histrix/IntList;" .null) (F1 : Fld Z h0 a "com/example/histrix/histrix/Polygraph" "requiredTo" "Lcom/example/histrix/histrix/IntList;" .null) (F2 : Fld Z h0 a "com/example/histrix/histrix/Polygraph" "setMembers" "Lcom/example/histrix/histrix/IntList;" .null) (F3 : Fld Z h0 a "com/example/histrix/histrix/Polygraph" "setStart" "Lcom/example/histrix/histrix/IntList;" .null) (F4 : Fld Z h0 a "com/example/histrix/histrix/Polygraph" "exclusions" "Lcom/example/histrix/histrix/IntList;" .null) (F5 : Fld Z h0 a "com/example/histrix/histrix/Polygraph" "transactionCount" "I" (.int (0 : Int32))) (F6 : Fld Z h0 a "com/example/histrix/histrix/Polygraph" "waypointCount" "I" (.int (0 : Int32))) (ga : n0 ≤ a) :
    MetFree l (⟨"com/example/histrix/histrix/Polygraph", "<init>", "(I)V"⟩ : MethodName) (head1 (Jvm.Cond.code (⟨"com/example/histrix/histrix/Polygraph", "<init>", "(I)V"⟩ : MethodName) prog_44_method_1_code 2 none :: ws) ({ frames := 3, cells := 10, slots := 90, locals := 41 } : Room)) (fun aa_ U_ => aa_ = #[(.ref a), (.int x)] ∧ Z.Warmed39 U_.vm ∧ U_.heap = h0) (fun _ _ _ _ _ => True) (fun _ U_ o_ U1_ => ∃ v_ L_, o_ = .returned v_ ∧ Q1 Z a x h0 n0 v_ U1_.heap L_ ∧ FrameEnd U_ o_ U1_ L_ ({ frames := 3, cells := 10, slots := 90, locals := 41 } : Room).cells ({ frames := 3, cells := 10, slots := 90, locals := 41 } : Room).slots) := by
  refine MetFree.of_bodySF (plainFor_of_name own_pn1) hisR ?_
  intro p e s m args below meth c s₁ Bd hml0 hP hK
  obtain ⟨rfl, hZ, hh⟩ := hP
  have hx := Bd.exec
  have hby := Bd.bytes
  have hlk := Bd.notSynchronized
  have hml : c.maxLocals = 2 := hml0
  have hown : s.vm.findClass "com/example/histrix/histrix/Polygraph" = some m.cls := findClass_of_methodNamed Bd.named
  have hnm := (name_of_methodNamed Bd.named Bd.method).1
  have X0 : Stand p l e ({ frames := 3, cells := 10, slots := 90, locals := 41 } : Room) s m #[(.ref a), (.int x)] below meth c s₁ [] 0 0 := Stand.of_body Bd
  have e0 : s₁.heap = h0 := by rw [← hh, Bd.state]; rfl
  have N0 := Fr.nil n0
  show own_E p e below s (Q1 Z a x h0 n0) ({ frames := 3, cells := 10, slots := 90, locals := 41 } : Room).cells ({ frames := 3, cells := 10, slots := 90, locals := 41 } : Room).slots (s₁.setTop (entryFrame m #[(.ref a), (.int x)] 2))
  refine own_st (B := s₁.setTop (mkF m 0 #[.val (.ref a), .val (.int x)] [])) (fun t_ k_ => castTop (own_ef_rm1 m a x) k_) ?_
  have K0 : Keep h0 h0 [a] := Keep.refl _ _
  refine own_st (B := s₁.setTop (mkF m 1 #[.val (.ref a), .val (.int x)] [(.ref a)])) (fun t_ k_ => XS.aloadN X0.here hx rfl (hb hby own_b1_d0) rfl rfl k_) ?_
  obtain ⟨T1, X1, e1, st1⟩ := initO X0 hx hZ hown (hw _ (List.mem_of_getElem? (i := 6) rfl)) (hw _ (List.mem_of_getElem? (i := 7) rfl)) (hw _ (List.mem_of_getElem? (i := 8) rfl)) e0 (g := (mkF m 1 #[.val (.ref a), .val (.int x)] [(.ref a)])) rfl (by rw [hml]; rfl) rfl (hb hby own_b1_d1) (by decide) (W := 0) (by show 2 * 0 + _ ≤ _; exact Nat.le_of_eq rfl) (by decide)
  refine own_st (B := T1.setTop (mkF m 4 #[.val (.ref a), .val (.int x)] [])) st1 ?_
  refine own_st (B := T1.setTop (mkF m 5 #[.val (.ref a), .val (.int x)] [(.ref a)])) (fun t_ k_ => XS.aloadN X1.here hx rfl (hb hby own_b1_d4) rfl rfl k_) ?_
  obtain ⟨T2, h2, X2, e2, E2, A2, D2, -, st2⟩ := newO X1 hx hZ hown (hw _ (List.mem_of_getElem? (i := 9) rfl)) (hw _ (List.mem_of_getElem? (i := 10) rfl)) (hw _ (List.mem_of_getElem? (i := 11) rfl)) e1 (g := (mkF m 5 #[.val (.ref a), .val (.int x)] [(.ref a)])) rfl (hb hby own_b1_d5) (by decide) (by decide)
  obtain ⟨b2, g2⟩ : ∃ z, z = h0.size := ⟨_, rfl⟩
  rw [← g2] at A2 D2 st2
  have ne3 : a ≠ b2 := Nat.ne_of_lt (Nat.lt_of_lt_of_le E.lt (Nat.le_of_eq g2.symm))
  have g4 : n0 ≤ b2 := Nat.le_trans Z0 (Nat.le_of_eq g2.symm)
  have sz5 : h0.size ≤ b2 := Nat.le_trans K0.1 (Nat.le_of_eq g2.symm)
  have Z6 := Nat.le_trans Z0 E2.1
  have K7 := K0.ext E2
  have F2_values : Fld Z h2 b2 "com/example/histrix/histrix/IntList" "values" "[I" .null := D2 (Or.inl (hw _ (List.mem_of_getElem? (i := 25) rfl))) (ty := (.array .int)) (by decide)
  have F2_size : Fld Z h2 b2 "com/example/histrix/histrix/IntList" "size" "I" (.int (0 : Int32)) := D2 (Or.inl (hw _ (List.mem_of_getElem? (i := 44) rfl))) (ty := .int) (by decide)
  refine own_st (B := T2.setTop (mkF m 8 #[.val (.ref a), .val (.int x)] [(.ref b2), (.ref a)])) st2 ?_
  refine own_st (B := T2.setTop (mkF m 9 #[.val (.ref a), .val (.int x)] [(.ref b2), (.ref b2), (.ref a)])) (fun t_ k_ => XS.dup X2.here hx rfl (hb hby own_b1_d8) rfl rfl k_) ?_
  obtain ⟨_, _, ⟨T8, L8, k8, n8⟩, -, X8, ⟨Lc8, hQ8, l8, y8, z8⟩, st8⟩ := X2.specialBack hx (y := (⟨"com/example/histrix/histrix/IntList", "<init>", "()V"⟩ : MethodName)) rfl hown (mvT hZ (hw _ (List.mem_of_getElem? (i := 12) rfl))) (mvT hZ (hw _ (List.mem_of_getElem? (i := 13) rfl))) (mvT hZ (hw _ (List.mem_of_getElem? (i := 14) rfl))) (by decide) (backOf (W := 2) (rm3 l Z a0 hw [] b2 h2 n0 Z6 A2 F2_size F2_values g4) hZ (hw _ (List.mem_of_getElem? (i := 14) rfl)) (hw _ (List.mem_of_getElem? (i := 11) rfl)) (by decide) (by decide)) (g := (mkF m 9 #[.val (.ref a), .val (.int x)] [(.ref b2), (.ref b2), (.ref a)])) rfl (by rw [hml]; rfl) (Steps.refl _) (a := b2) (argsL := []) (rest := [(.ref b2), (.ref a)]) (lenOf own_pd2 rfl) rfl (by show 2 * 0 + _ ≤ _; exact Nat.le_of_eq rfl) (hb hby own_b1_d9) (fun _ _ => ⟨rfl, e2, (by decide : 1 + 1 ≤ _), (by decide : 2 + 16 ≤ _)⟩)
  dsimp only [Pt.U, Pt.locs, Pt.cells, Pt.slots] at X8 l8 y8 z8 st8 hQ8
  subst l8 y8 z8
  obtain ⟨rfl, N8q, K8, Fs8, d8, gd8, Fd8, Ad8⟩ := hQ8
  have N8 := Fr.app N0 N8q
  have u9 := E.ext E2
  have ne10 : a ≠ d8 := Nat.ne_of_lt (Nat.lt_of_lt_of_le u9.lt gd8)
  have ne11 : b2 ≠ d8 := Nat.ne_of_lt (Nat.lt_of_lt_of_le A2.lt gd8)
  have g12 : n0 ≤ d8 := Nat.le_trans Z6 gd8
  have sz13 : h0.size ≤ d8 := Nat.le_trans K7.1 gd8
  have Z14 := Nat.le_trans Z6 K8.1
  have K15 := K7.trans K8 (allS (Or.inr sz5) all0)
  refine own_st (B := T8.setTop (mkF m 12 #[.val (.ref a), .val (.int x)] [(.ref b2), (.ref a)])) (fun t_ k_ => st8.trans k_) ?_
  have u16 := u9.keep K8
  have u17 := F0.ext E2
  have u18 := u17.keep K8 (ninS ne3 nin0)
  obtain ⟨T19, h19, X19, e19, W19, st19⟩ := putF X8 hx hZ hown (host := "") (Or.inl (hw _ (List.mem_of_getElem? (i := 26) rfl))) Via.refl rfl u18 u16 (Or.inr ⟨(hw _ (List.mem_of_getElem? (i := 27) rfl)), rfl, hnm⟩) (hw _ (List.mem_of_getElem? (i := 1) rfl)) (ty := (.object "com/example/histrix/histrix/IntList")) (by decide) rfl rfl (g := (mkF m 12 #[.val (.ref a), .val (.int x)] [(.ref b2), (.ref a)])) rfl rfl (hb hby own_b1_d12)
  have Fw19 := u18.same W19
  have N19 := Fr.snoc X19 N8 ga
  have Z20 := Nat.le_trans Z14 (Keep.of_wr W19).1
  have K21 := K15.wr W19 (Or.inl (List.mem_of_getElem? (i := 0) rfl))
  refine own_st (B := T19.setTop (mkF m 15 #[.val (.ref a), .val (.int x)] [])) st19 ?_
  refine own_st (B := T19.setTop (mkF m 16 #[.val (.ref a), .val (.int x)] [(.ref a)])) (fun t_ k_ => XS.aloadN X19.here hx rfl (hb hby own_b1_d15) rfl rfl k_) ?_
  obtain ⟨T22, h22, X22, e22, E22, A22, D22, -, st22⟩ := newO X19 hx hZ hown (hw _ (List.mem_of_getElem? (i := 9) rfl)) (hw _ (List.mem_of_getElem? (i := 10) rfl)) (hw _ (List.mem_of_getElem? (i := 11) rfl)) e19 (g := (mkF m 16 #[.val (.ref a), .val (.int x)] [(.ref a)])) rfl (hb hby own_b1_d16) (by decide) (by decide)
  obtain ⟨b22, g22⟩ : ∃ z, z = h19.size := ⟨_, rfl⟩
  rw [← g22] at A22 D22 st22
  have u23 := u16.wr W19
  have ne24 : a ≠ b22 := Nat.ne_of_lt (Nat.lt_of_lt_of_le u23.lt (Nat.le_of_eq g22.symm))
  have u25 := A2.keep K8
  have u26 := u25.wr W19
  have ne27 : b2 ≠ b22 := Nat.ne_of_lt (Nat.lt_of_lt_of_le u26.lt (Nat.le_of_eq g22.symm))
  have u28 := Ad8.other W19 (Ne.symm ne10)
  have ne29 : d8 ≠ b22 := Nat.ne_of_lt (Nat.lt_of_lt_of_le u28.lt (Nat.le_of_eq g22.symm))
  have g30 : n0 ≤ b22 := Nat.le_trans Z20 (Nat.le_of_eq g22.symm)
  have sz31 : h0.size ≤ b22 := Nat.le_trans K21.1 (Nat.le_of_eq g22.symm)
  have Z32 := Nat.le_trans Z20 E22.1
  have K33 := K21.ext E22
  have F22_values : Fld Z h22 b22 "com/example/histrix/histrix/IntList" "values" "[I" .null := D22 (Or.inl (hw _ (List.mem_of_getElem? (i := 25) rfl))) (ty := (.array .int)) (by decide)
  have F22_size : Fld Z h22 b22 "com/example/histrix/histrix/IntList" "size" "I" (.int (0 : Int32)) := D22 (Or.inl (hw _ (List.mem_of_getElem? (i := 44) rfl))) (ty := .int) (by decide)
  refine own_st (B := T22.setTop (mkF m 19 #[.val (.ref a), .val (.int x)] [(.ref b22), (.ref a)])) st22 ?_
  refine own_st (B := T22.setTop (mkF m 20 #[.val (.ref a), .val (.int x)] [(.ref b22), (.ref b22), (.ref a)])) (fun t_ k_ => XS.dup X22.here hx rfl (hb hby own_b1_d19) rfl rfl k_) ?_
  obtain ⟨_, _, ⟨T34, L34, k34, n34⟩, -, X34, ⟨Lc34, hQ34, l34, y34, z34⟩, st34⟩ := X22.specialBack hx (y := (⟨"com/example/histrix/histrix/IntList", "<init>", "()V"⟩ : MethodName)) rfl hown (mvT hZ (hw _ (List.mem_of_getElem? (i := 12) rfl))) (mvT hZ (hw _ (List.mem_of_getElem? (i := 13) rfl))) (mvT hZ (hw _ (List.mem_of_getElem? (i := 14) rfl))) (by decide) (backOf (W := 2) (rm3 l Z a0 hw [] b22 h22 n0 Z32 A22 F22_size F22_values g30) hZ (hw _ (List.mem_of_getElem? (i := 14) rfl)) (hw _ (List.mem_of_getElem? (i := 11) rfl)) (by decide) (by decide)) (g := (mkF m 20 #[.val (.ref a), .val (.int x)] [(.ref b22), (.ref b22), (.ref a)])) rfl (by rw [hml]; rfl) (Steps.refl _) (a := b22) (argsL := []) (rest := [(.ref b22), (.ref a)]) (lenOf own_pd2 rfl) rfl (by show 2 * 0 + _ ≤ _; exact Nat.le_of_eq rfl) (hb hby own_b1_d20) (fun _ _ => ⟨rfl, e22, (by decide : 3 + 1 ≤ _), (by decide : 20 + 16 ≤ _)⟩)
  dsimp only [Pt.U, Pt.locs, Pt.cells, Pt.slots] at X34 l34 y34 z34 st34 hQ34
  subst l34 y34 z34
  obtain ⟨rfl, N34q, K34, Fs34, d34, gd34, Fd34, Ad34⟩ := hQ34
  have N34 := Fr.app N19 N34q
  have u35 := u23.ext E22
  have ne36 : a ≠ d34 := Nat.ne_of_lt (Nat.lt_of_lt_of_le u35.lt gd34)
  have u37 := u26.ext E22
  have ne38 : b2 ≠ d34 := Nat.ne_of_lt (Nat.lt_of_lt_of_le u37.lt gd34)
  have ne39 : b22 ≠ d34 := Nat.ne_of_lt (Nat.lt_of_lt_of_le A22.lt gd34)
  have u40 := u28.ext E22
  have ne41 : d8 ≠ d34 := Nat.ne_of_lt (Nat.lt_of_lt_of_le u40.lt gd34)
  have g42 : n0 ≤ d34 := Nat.le_trans Z32 gd34
  have sz43 : h0.size ≤ d34 := Nat.le_trans K33.1 gd34
  have Z44 := Nat.le_trans Z32 K34.1
  have K45 := K33.trans K34 (allS (Or.inr sz31) all0)
  refine own_st (B := T34.setTop (mkF m 23 #[.val (.ref a), .val (.int x)] [(.ref b22), (.ref a)])) (fun t_ k_ => st34.trans k_) ?_
  have u46 := u35.keep K34
  have u47 := F1.ext E2
  have u48 := u47.keep K8 (ninS ne3 nin0)
  have u49 := u48.other W19 (Or.inr (slot_ne (Or.inr (hw _ (List.mem_of_getElem? (i := 29) rfl))) (Or.inr (hw _ (List.mem_of_getElem? (i := 27) rfl))) (by decide) (t := (.object "com/example/histrix/histrix/IntList")) (t' := (.object "com/example/histrix/histrix/IntList")) (by decide) (by decide)))
  have u50 := u49.ext E22
  have u51 := u50.keep K34 (ninS ne24 nin0)
  obtain ⟨T52, h52, X52, e52, W52, st52⟩ := putF X34 hx hZ hown (host := "") (Or.inl (hw _ (List.mem_of_getElem? (i := 28) rfl))) Via.refl rfl u51 u46 (Or.inr ⟨(hw _ (List.mem_of_getElem? (i := 29) rfl)), rfl, hnm⟩) (hw _ (List.mem_of_getElem? (i := 1) rfl)) (ty := (.object "com/example/histrix/histrix/IntList")) (by decide) rfl rfl (g := (mkF m 23 #[.val (.ref a), .val (.int x)] [(.ref b22), (.ref a)])) rfl rfl (hb hby own_b1_d23)
  have Fw52 := u51.same W52
  have N52 := Fr.snoc X52 N34 ga
  have Z53 := Nat.le_trans Z44 (Keep.of_wr W52).1
  have K54 := K45.wr W52 (Or.inl (List.mem_of_getElem? (i := 0) rfl))
  refine own_st (B := T52.setTop (mkF m 26 #[.val (.ref a), .val (.int x)] [])) st52 ?_
  refine own_st (B := T52.setTop (mkF m 27 #[.val (.ref a), .val (.int x)] [(.ref a)])) (fun t_ k_ => XS.aloadN X52.here hx rfl (hb hby own_b1_d26) rfl rfl k_) ?_
  obtain ⟨T55, h55, X55, e55, E55, A55, D55, -, st55⟩ := newO X52 hx hZ hown (hw _ (List.mem_of_getElem? (i := 9) rfl)) (hw _ (List.mem_of_getElem? (i := 10) rfl)) (hw _ (List.mem_of_getElem? (i := 11) rfl)) e52 (g := (mkF m 27 #[.val (.ref a), .val (.int x)] [(.ref a)])) rfl (hb hby own_b1_d27) (by decide) (by decide)
  obtain ⟨b55, g55⟩ : ∃ z, z = h52.size := ⟨_, rfl⟩
  rw [← g55] at A55 D55 st55
  have u56 := u46.wr W52
  have ne57 : a ≠ b55 := Nat.ne_of_lt (Nat.lt_of_lt_of_le u56.lt (Nat.le_of_eq g55.symm))
  have u58 := u37.keep K34
  have u59 := u58.wr W52
  have ne60 : b2 ≠ b55 := Nat.ne_of_lt (Nat.lt_of_lt_of_le u59.lt (Nat.le_of_eq g55.symm))
  have u61 := A22.keep K34
  have u62 := u61.wr W52
  have ne63 : b22 ≠ b55 := Nat.ne_of_lt (Nat.lt_of_lt_of_le u62.lt (Nat.le_of_eq g55.symm))
  have u64 := Ad34.other W52 (Ne.symm ne36)
  have ne65 : d34 ≠ b55 := Nat.ne_of_lt (Nat.lt_of_lt_of_le u64.lt (Nat.le_of_eq g55.symm))
  have u66 := u40.keep K34 (ninS ne29 nin0)
  have u67 := u66.other W52 (Ne.symm ne10)
  have ne68 : d8 ≠ b55 := Nat.ne_of_lt (Nat.lt_of_lt_of_le u67.lt (Nat.le_of_eq g55.symm))
  have g69 : n0 ≤ b55 := Nat.le_trans Z53 (Nat.le_of_eq g55.symm)
  have sz70 : h0.size ≤ b55 := Nat.le_trans K54.1 (Nat.le_of_eq g55.symm)
  have Z71 := Nat.le_trans Z53 E55.1
  have K72 := K54.ext E55
  have F55_values : Fld Z h55 b55 "com/example/histrix/histrix/IntList" "values" "[I" .null := D55 (Or.inl (hw _ (List.mem_of_getElem? (i := 25) rfl))) (ty := (.array .int)) (by decide)
  have F55_size : Fld Z h55 b55 "com/example/histrix/histrix/IntList" "size" "I" (.int (0 : Int32)) := D55 (Or.inl (hw _ (List.mem_of_getElem? (i := 44) rfl))) (ty := .int) (by decide)
  refine own_st (B := T55.setTop (mkF m 30 #[.val (.ref a), .val (.int x)] [(.ref b55), (.ref a)])) st55 ?_
  refine own_st (B := T55.setTop (mkF m 31 #[.val (.ref a), .val (.int x)] [(.ref b55), (.ref b55), (.ref a)])) (fun t_ k_ => XS.dup X55.here hx rfl (hb hby own_b1_d30) rfl rfl k_) ?_
  obtain ⟨_, _, ⟨T73, L73, k73, n73⟩, -, X73, ⟨Lc73, hQ73, l73, y73, z73⟩, st73⟩ := X55.specialBack hx (y := (⟨"com/example/histrix/histrix/IntList", "<init>", "()V"⟩ : MethodName)) rfl hown (mvT hZ (hw _ (List.mem_of_getElem? (i := 12) rfl))) (mvT hZ (hw _ (List.mem_of_getElem? (i := 13) rfl))) (mvT hZ (hw _ (List.mem_of_getElem? (i := 14) rfl))) (by decide) (backOf (W := 2) (rm3 l Z a0 hw [] b55 h55 n0 Z71 A55 F55_size F55_values g69) hZ (hw _ (List.mem_of_getElem? (i := 14) rfl)) (hw _ (List.mem_of_getElem? (i := 11) rfl)) (by decide) (by decide)) (g := (mkF m 31 #[.val (.ref a), .val (.int x)] [(.ref b55), (.ref b55), (.ref a)])) rfl (by rw [hml]; rfl) (Steps.refl _) (a := b55) (argsL := []) (rest := [(.ref b55), (.ref a)]) (lenOf own_pd2 rfl) rfl (by show 2 * 0 + _ ≤ _; exact Nat.le_of_eq rfl) (hb hby own_b1_d31) (fun _ _ => ⟨rfl, e55, (by decide : 5 + 1 ≤ _), (by decide : 38 + 16 ≤ _)⟩)
  dsimp only [Pt.U, Pt.locs, Pt.cells, Pt.slots] at X73 l73 y73 z73 st73 hQ73
  subst l73 y73 z73
  obtain ⟨rfl, N73q, K73, Fs73, d73, gd73, Fd73, Ad73⟩ := hQ73
  have N73 := Fr.app N52 N73q
  have u74 := u56.ext E55
  have ne75 : a ≠ d73 := Nat.ne_of_lt (Nat.lt_of_lt_of_le u74.lt gd73)
  have u76 := u59.ext E55
  have ne77 : b2 ≠ d73 := Nat.ne_of_lt (Nat.lt_of_lt_of_le u76.lt gd73)
  have u78 := u62.ext E55
  have ne79 : b22 ≠ d73 := Nat.ne_of_lt (Nat.lt_of_lt_of_le u78.lt gd73)
  have ne80 : b55 ≠ d73 := Nat.ne_of_lt (Nat.lt_of_lt_of_le A55.lt gd73)
  have u81 := u64.ext E55
  have ne82 : d34 ≠ d73 := Nat.ne_of_lt (Nat.lt_of_lt_of_le u81.lt gd73)
  have u83 := u67.ext E55
  have ne84 : d8 ≠ d73 := Nat.ne_of_lt (Nat.lt_of_lt_of_le u83.lt gd73)
  have g85 : n0 ≤ d73 := Nat.le_trans Z71 gd73
  have sz86 : h0.size ≤ d73 := Nat.le_trans K72.1 gd73
  have Z87 := Nat.le_trans Z71 K73.1
  have K88 := K72.trans K73 (allS (Or.inr sz70) all0)
  refine own_st (B := T73.setTop (mkF m 34 #[.val (.ref a), .val (.int x)] [(.ref b55), (.ref a)])) (fun t_ k_ => st73.trans k_) ?_
  have u89 := u74.keep K73
  have u90 := F2.ext E2
  have u91 := u90.keep K8 (ninS ne3 nin0)
  have u92 := u91.other W19 (Or.inr (slot_ne (Or.inr (hw _ (List.mem_of_getElem? (i := 31) rfl))) (Or.inr (hw _ (List.mem_of_getElem? (i := 27) rfl))) (by decide) (t := (.object "com/example/histrix/histrix/IntList")) (t' := (.object "com/example/histrix/histrix/IntList")) (by decide) (by decide)))
  have u93 := u92.ext E22
  have u94 := u93.keep K34 (ninS ne24 nin0)
  have u95 := u94.other W52 (Or.inr (slot_ne (Or.inr (hw _ (List.mem_of_getElem? (i := 31) rfl))) (Or.inr (hw _ (List.mem_of_getElem? (i := 29) rfl))) (by decide) (t := (.object "com/example/histrix/histrix/IntList")) (t' := (.object "com/example/histrix/histrix/IntList")) (by decide) (by decide)))
  have u96 := u95.ext E55
  have u97 := u96.keep K73 (ninS ne57 nin0)
  obtain ⟨T98, h98, X98, e98, W98, st98⟩ := putF X73 hx hZ hown (host := "") (Or.inl (hw _ (List.mem_of_getElem? (i := 30) rfl))) Via.refl rfl u97 u89 (Or.inr ⟨(hw _ (List.mem_of_getElem? (i := 31) rfl)), rfl, hnm⟩) (hw _ (List.mem_of_getElem? (i := 1) rfl)) (ty := (.object "com/example/histrix/histrix/IntList")) (by decide) rfl rfl (g := (mkF m 34 #[.val (.ref a), .val (.int x)] [(.ref b55), (.ref a)])) rfl rfl (hb hby own_b1_d34)
  have Fw98 := u97.same W98
  have N98 := Fr.snoc X98 N73 ga
  have Z99 := Nat.le_trans Z87 (Keep.of_wr W98).1
  have K100 := K88.wr W98 (Or.inl (List.mem_of_getElem? (i := 0) rfl))
  refine own_st (B := T98.setTop (mkF m 37 #[.val (.ref a), .val (.int x)] [])) st98 ?_
  refine own_st (B := T98.setTop (mkF m 38 #[.val (.ref a), .val (.int x)] [(.ref a)])) (fun t_ k_ => XS.aloadN X98.here hx rfl (hb hby own_b1_d37) rfl rfl k_) ?_
  obtain ⟨T101, h101, X101, e101, E101, A101, D101, -, st101⟩ := newO X98 hx hZ hown (hw _ (List.mem_of_getElem? (i := 9) rfl)) (hw _ (List.mem_of_getElem? (i := 10) rfl)) (hw _ (List.mem_of_getElem? (i := 11) rfl)) e98 (g := (mkF m 38 #[.val (.ref a), .val (.int x)] [(.ref a)])) rfl (hb hby own_b1_d38) (by decide) (by decide)
  obtain ⟨b101, g101⟩ : ∃ z, z = h98.size := ⟨_, rfl⟩
  rw [← g101] at A101 D101 st101
  have u102 := u89.wr W98
  have ne103 : a ≠ b101 := Nat.ne_of_lt (Nat.lt_of_lt_of_le u102.lt (Nat.le_of_eq g101.symm))
  have u104 := u76.keep K73
  have u105 := u104.wr W98
  have ne106 : b2 ≠ b101 := Nat.ne_of_lt (Nat.lt_of_lt_of_le u105.lt (Nat.le_of_eq g101.symm))
  have u107 := u78.keep K73
  have u108 := u107.wr W98
  have ne109 : b22 ≠ b101 := Nat.ne_of_lt (Nat.lt_of_lt_of_le u108.lt (Nat.le_of_eq g101.symm))
  have u110 := A55.keep K73
  have u111 := u110.wr W98
  have ne112 : b55 ≠ b101 := Nat.ne_of_lt (Nat.lt_of_lt_of_le u111.lt (Nat.le_of_eq g101.symm))
  have u113 := u81.keep K73 (ninS ne65 nin0)
  have u114 := u113.other W98 (Ne.symm ne36)
  have ne115 : d34 ≠ b101 := Nat.ne_of_lt (Nat.lt_of_lt_of_le u114.lt (Nat.le_of_eq g101.symm))
  have u116 := Ad73.other W98 (Ne.symm ne75)
  have ne117 : d73 ≠ b101 := Nat.ne_of_lt (Nat.lt_of_lt_of_le u116.lt (Nat.le_of_eq g101.symm))
  have u118 := u83.keep K73 (ninS ne68 nin0)
  have u119 := u118.other W98 (Ne.symm ne10)
  have ne120 : d8 ≠ b101 := Nat.ne_of_lt (Nat.lt_of_lt_of_le u119.lt (Nat.le_of_eq g101.symm))
  have g121 : n0 ≤ b101 := Nat.le_trans Z99 (Nat.le_of_eq g101.symm)
  have sz122 : h0.size ≤ b101 := Nat.le_trans K100.1 (Nat.le_of_eq g101.symm)
  have Z123 := Nat.le_trans Z99 E101.1
  have K124 := K100.ext E101
  have F101_values : Fld Z h101 b101 "com/example/histrix/histrix/IntList" "values" "[I" .null := D101 (Or.inl (hw _ (List.mem_of_getElem? (i := 25) rfl))) (ty := (.array .int)) (by decide)
  have F101_size : Fld Z h101 b101 "com/example/histrix/histrix/IntList" "size" "I" (.int (0 : Int32)) := D101 (Or.inl (hw _ (List.mem_of_getElem? (i := 44) rfl))) (ty := .int) (by decide)
  refine own_st (B := T101.setTop (mkF m 41 #[.val (.ref a), .val (.int x)] [(.ref b101), (.ref a)])) st101 ?_
  refine own_st (B := T101.setTop (mkF m 42 #[.val (.ref a), .val (.int x)] [(.ref b101), (.ref b101), (.ref a)])) (fun t_ k_ => XS.dup X101.here hx rfl (hb hby own_b1_d41) rfl rfl k_) ?_
  obtain ⟨_, _, ⟨T125, L125, k125, n125⟩, -, X125, ⟨Lc125, hQ125, l125, y125, z125⟩, st125⟩ := X101.specialBack hx (y := (⟨"com/example/histrix/histrix/IntList", "<init>", "()V"⟩ : MethodName)) rfl hown (mvT hZ (hw _ (List.mem_of_getElem? (i := 12) rfl))) (mvT hZ (hw _ (List.mem_of_getElem? (i := 13) rfl))) (mvT hZ (hw _ (List.mem_of_getElem? (i := 14) rfl))) (by decide) (backOf (W := 2) (rm3 l Z a0 hw [] b101 h101 n0 Z123 A101 F101_size F101_values g121) hZ (hw _ (List.mem_of_getElem? (i := 14) rfl)) (hw _ (List.mem_of_getElem? (i := 11) rfl)) (by decide) (by decide)) (g := (mkF m 42 #[.val (.ref a), .val (.int x)] [(.ref b101), (.ref b101), (.ref a)])) rfl (by rw [hml]; rfl) (Steps.refl _) (a := b101) (argsL := []) (rest := [(.ref b101), (.ref a)]) (lenOf own_pd2 rfl) rfl (by show 2 * 0 + _ ≤ _; exact Nat.le_of_eq rfl) (hb hby own_b1_d42) (fun _ _ => ⟨rfl, e101, (by decide : 7 + 1 ≤ _), (by decide : 56 + 16 ≤ _)⟩)
  dsimp only [Pt.U, Pt.locs, Pt.cells, Pt.slots] at X125 l125 y125 z125 st125 hQ125
  subst l125 y125 z125
  obtain ⟨rfl, N125q, K125, Fs125, d125, gd125, Fd125, Ad125⟩ := hQ125
  have N125 := Fr.app N98 N125q
  have u126 := u102.ext E101
  have ne127 : a ≠ d125 := Nat.ne_of_lt (Nat.lt_of_lt_of_le u126.lt gd125)
  have ne128 : b101 ≠ d125 := Nat.ne_of_lt (Nat.lt_of_lt_of_le A101.lt gd125)
  have u129 := u105.ext E101
  have ne130 : b2 ≠ d125 := Nat.ne_of_lt (Nat.lt_of_lt_of_le u129.lt gd125)
  have u131 := u108.ext E101
  have ne132 : b22 ≠ d125 := Nat.ne_of_lt (Nat.lt_of_lt_of_le u131.lt gd125)
  have u133 := u111.ext E101
  have ne134 : b55 ≠ d125 := Nat.ne_of_lt (Nat.lt_of_lt_of_le u133.lt gd125)
  have u135 := u114.ext E101
  have ne136 : d34 ≠ d125 := Nat.ne_of_lt (Nat.lt_of_lt_of_le u135.lt gd125)
  have u137 := u116.ext E101
  have ne138 : d73 ≠ d125 := Nat.ne_of_lt (Nat.lt_of_lt_of_le u137.lt gd125)
  have u139 := u119.ext E101
  have ne140 : d8 ≠ d125 := Nat.ne_of_lt (Nat.lt_of_lt_of_le u139.lt gd125)
  have g141 : n0 ≤ d125 := Nat.le_trans Z123 gd125
  have sz142 : h0.size ≤ d125 := Nat.le_trans K124.1 gd125
  have Z143 := Nat.le_trans Z123 K125.1
  have K144 := K124.trans K125 (allS (Or.inr sz122) all0)
  refine own_st (B := T125.setTop (mkF m 45 #[.val (.ref a), .val (.int x)] [(.ref b101), (.ref a)])) (fun t_ k_ => st125.trans k_) ?_
  have u145 := u126.keep K125
  have u146 := F3.ext E2
  have u147 := u146.keep K8 (ninS ne3 nin0)
  have u148 := u147.other W19 (Or.inr (slot_ne (Or.inr (hw _ (List.mem_of_getElem? (i := 33) rfl))) (Or.inr (hw _ (List.mem_of_getElem? (i := 27) rfl))) (by decide) (t := (.object "com/example/histrix/histrix/IntList")) (t' := (.object "com/example/histrix/histrix/IntList")) (by decide) (by decide)))
  have u149 := u148.ext E22
  have u150 := u149.keep K34 (ninS ne24 nin0)
  have u151 := u150.other W52 (Or.inr (slot_ne (Or.inr (hw _ (List.mem_of_getElem? (i := 33) rfl))) (Or.inr (hw _ (List.mem_of_getElem? (i := 29) rfl))) (by decide) (t := (.object "com/example/histrix/histrix/IntList")) (t' := (.object "com/example/histrix/histrix/IntList")) (by decide) (by decide)))
  have u152 := u151.ext E55
  have u153 := u152.keep K73 (ninS ne57 nin0)
  have u154 := u153.other W98 (Or.inr (slot_ne (Or.inr (hw _ (List.mem_of_getElem? (i := 33) rfl))) (Or.inr (hw _ (List.mem_of_getElem? (i := 31) rfl))) (by decide) (t := (.object "com/example/histrix/histrix/IntList")) (t' := (.object "com/example/histrix/histrix/IntList")) (by decide) (by decide)))
  have u155 := u154.ext E101
  have u156 := u155.keep K125 (ninS ne103 nin0)
  obtain ⟨T157, h157, X157, e157, W157, st157⟩ := putF X125 hx hZ hown (host := "") (Or.inl (hw _ (List.mem_of_getElem? (i := 32) rfl))) Via.refl rfl u156 u145 (Or.inr ⟨(hw _ (List.mem_of_getElem? (i := 33) rfl)), rfl, hnm⟩) (hw _ (List.mem_of_getElem? (i := 1) rfl)) (ty := (.object "com/example/histrix/histrix/IntList")) (by decide) rfl rfl (g := (mkF m 45 #[.val (.ref a), .val (.int x)] [(.ref b101), (.ref a)])) rfl rfl (hb hby own_b1_d45)
  have Fw157 := u156.same W157
  have N157 := Fr.snoc X157 N125 ga
  have Z158 := Nat.le_trans Z143 (Keep.of_wr W157).1
  have K159 := K144.wr W157 (Or.inl (List.mem_of_getElem? (i := 0) rfl))
  refine own_st (B := T157.setTop (mkF m 48 #[.val (.ref a), .val (.int x)] [])) st157 ?_
  refine own_st (B := T157.setTop (mkF m 49 #[.val (.ref a), .val (.int x)] [(.ref a)])) (fun t_ k_ => XS.aloadN X157.here hx rfl (hb hby own_b1_d48) rfl rfl k_) ?_
  obtain ⟨T160, h160, X160, e160, E160, A160, D160, -, st160⟩ := newO X157 hx hZ hown (hw _ (List.mem_of_getElem? (i := 9) rfl)) (hw _ (List.mem_of_getElem? (i := 10) rfl)) (hw _ (List.mem_of_getElem? (i := 11) rfl)) e157 (g := (mkF m 49 #[.val (.ref a), .val (.int x)] [(.ref a)])) rfl (hb hby own_b1_d49) (by decide) (by decide)
  obtain ⟨b160, g160⟩ : ∃ z, z = h157.size := ⟨_, rfl⟩
  rw [← g160] at A160 D160 st160
  have u161 := u145.wr W157
  have ne162 : a ≠ b160 := Nat.ne_of_lt (Nat.lt_of_lt_of_le u161.lt (Nat.le_of_eq g160.symm))
  have u163 := A101.keep K125
  have u164 := u163.wr W157
  have ne165 : b101 ≠ b160 := Nat.ne_of_lt (Nat.lt_of_lt_of_le u164.lt (Nat.le_of_eq g160.symm))
  have u166 := u129.keep K125
  have u167 := u166.wr W157
  have ne168 : b2 ≠ b160 := Nat.ne_of_lt (Nat.lt_of_lt_of_le u167.lt (Nat.le_of_eq g160.symm))
  have u169 := u131.keep K125
  have u170 := u169.wr W157
  have ne171 : b22 ≠ b160 := Nat.ne_of_lt (Nat.lt_of_lt_of_le u170.lt (Nat.le_of_eq g160.symm))
  have u172 := u133.keep K125
  have u173 := u172.wr W157
  have ne174 : b55 ≠ b160 := Nat.ne_of_lt (Nat.lt_of_lt_of_le u173.lt (Nat.le_of_eq g160.symm))
  have u175 := Ad125.other W157 (Ne.symm ne127)
  have ne176 : d125 ≠ b160 := Nat.ne_of_lt (Nat.lt_of_lt_of_le u175.lt (Nat.le_of_eq g160.symm))
  have u177 := u135.keep K125 (ninS ne115 nin0)
  have u178 := u177.other W157 (Ne.symm ne36)
  have ne179 : d34 ≠ b160 := Nat.ne_of_lt (Nat.lt_of_lt_of_le u178.lt (Nat.le_of_eq g160.symm))
  have u180 := u137.keep K125 (ninS ne117 nin0)
  have u181 := u180.other W157 (Ne.symm ne75)
  have ne182 : d73 ≠ b160 := Nat.ne_of_lt (Nat.lt_of_lt_of_le u181.lt (Nat.le_of_eq g160.symm))
  have u183 := u139.keep K125 (ninS ne120 nin0)
  have u184 := u183.other W157 (Ne.symm ne10)
  have ne185 : d8 ≠ b160 := Nat.ne_of_lt (Nat.lt_of_lt_of_le u184.lt (Nat.le_of_eq g160.symm))
  have g186 : n0 ≤ b160 := Nat.le_trans Z158 (Nat.le_of_eq g160.symm)
  have sz187 : h0.size ≤ b160 := Nat.le_trans K159.1 (Nat.le_of_eq g160.symm)
  have Z188 := Nat.le_trans Z158 E160.1
  have K189 := K159.ext E160
  have F160_values : Fld Z h160 b160 "com/example/histrix/histrix/IntList" "values" "[I" .null := D160 (Or.inl (hw _ (List.mem_of_getElem? (i := 25) rfl))) (ty := (.array .int)) (by decide)
  have F160_size : Fld Z h160 b160 "com/example/histrix/histrix/IntList" "size" "I" (.int (0 : Int32)) := D160 (Or.inl (hw _ (List.mem_of_getElem? (i := 44) rfl))) (ty := .int) (by decide)
  refine own_st (B := T160.setTop (mkF m 52 #[.val (.ref a), .val (.int x)] [(.ref b160), (.ref a)])) st160 ?_
  refine own_st (B := T160.setTop (mkF m 53 #[.val (.ref a), .val (.int x)] [(.ref b160), (.ref b160), (.ref a)])) (fun t_ k_ => XS.dup X160.here hx rfl (hb hby own_b1_d52) rfl rfl k_) ?_
  obtain ⟨_, _, ⟨T190, L190, k190, n190⟩, -, X190, ⟨Lc190, hQ190, l190, y190, z190⟩, st190⟩ := X160.specialBack hx (y := (⟨"com/example/histrix/histrix/IntList", "<init>", "()V"⟩ : MethodName)) rfl hown (mvT hZ (hw _ (List.mem_of_getElem? (i := 12) rfl))) (mvT hZ (hw _ (List.mem_of_getElem? (i := 13) rfl))) (mvT hZ (hw _ (List.mem_of_getElem? (i := 14) rfl))) (by decide) (backOf (W := 2) (rm3 l Z a0 hw [] b160 h160 n0 Z188 A160 F160_size F160_values g186) hZ (hw _ (List.mem_of_getElem? (i := 14) rfl)) (hw _ (List.mem_of_getElem? (i := 11) rfl)) (by decide) (by decide)) (g := (mkF m 53 #[.val (.ref a), .val (.int x)] [(.ref b160), (.ref b160), (.ref a)])) rfl (by rw [hml]; rfl) (Steps.refl _) (a := b160) (argsL := []) (rest := [(.ref b160), (.ref a)]) (lenOf own_pd2 rfl) rfl (by show 2 * 0 + _ ≤ _; exact Nat.le_of_eq rfl) (hb hby own_b1_d53) (fun _ _ => ⟨rfl, e160, (by decide : 9 + 1 ≤ _), (by decide : 74 + 16 ≤ _)⟩)
  dsimp only [Pt.U, Pt.locs, Pt.cells, Pt.slots] at X190 l190 y190 z190 st190 hQ190
  subst l190 y190 z190
  obtain ⟨rfl, N190q, K190, Fs190, d190, gd190, Fd190, Ad190⟩ := hQ190
  have N190 := Fr.app N157 N190q
  have u191 := u161.ext E160
  have ne192 : a ≠ d190 := Nat.ne_of_lt (Nat.lt_of_lt_of_le u191.lt gd190)
  have u193 := u164.ext E160
  have ne194 : b101 ≠ d190 := Nat.ne_of_lt (Nat.lt_of_lt_of_le u193.lt gd190)
  have ne195 : b160 ≠ d190 := Nat.ne_of_lt (Nat.lt_of_lt_of_le A160.lt gd190)
  have u196 := u167.ext E160
  have ne197 : b2 ≠ d190 := Nat.ne_of_lt (Nat.lt_of_lt_of_le u196.lt gd190)
  have u198 := u170.ext E160
  have ne199 : b22 ≠ d190 := Nat.ne_of_lt (Nat.lt_of_lt_of_le u198.lt gd190)
  have u200 := u173.ext E160
  have ne201 : b55 ≠ d190 := Nat.ne_of_lt (Nat.lt_of_lt_of_le u200.lt gd190)
  have u202 := u175.ext E160
  have ne203 : d125 ≠ d190 := Nat.ne_of_lt (Nat.lt_of_lt_of_le u202.lt gd190)
  have u204 := u178.ext E160
  have ne205 : d34 ≠ d190 := Nat.ne_of_lt (Nat.lt_of_lt_of_le u204.lt gd190)
  have u206 := u181.ext E160
  have ne207 : d73 ≠ d190 := Nat.ne_of_lt (Nat.lt_of_lt_of_le u206.lt gd190)
  have u208 := u184.ext E160
  have ne209 : d8 ≠ d190 := Nat.ne_of_lt (Nat.lt_of_lt_of_le u208.lt gd190)
  have g210 : n0 ≤ d190 := Nat.le_trans Z188 gd190
  have sz211 : h0.size ≤ d190 := Nat.le_trans K189.1 gd190
  have Z212 := Nat.le_trans Z188 K190.1
  have K213 := K189.trans K190 (allS (Or.inr sz187) all0)
  refine own_st (B := T190.setTop (mkF m 56 #[.val (.ref a), .val (.int x)] [(.ref b160), (.ref a)])) (fun t_ k_ => st190.trans k_) ?_
  have u214 := u191.keep K190
  have u215 := F4.ext E2
  have u216 := u215.keep K8 (ninS ne3 nin0)
  have u217 := u216.other W19 (Or.inr (slot_ne (Or.inr (hw _ (List.mem_of_getElem? (i := 35) rfl))) (Or.inr (hw _ (List.mem_of_getElem? (i := 27) rfl))) (by decide) (t := (.object "com/example/histrix/histrix/IntList")) (t' := (.object "com/example/histrix/histrix/IntList")) (by decide) (by decide)))
  have u218 := u217.ext E22
  have u219 := u218.keep K34 (ninS ne24 nin0)
  have u220 := u219.other W52 (Or.inr (slot_ne (Or.inr (hw _ (List.mem_of_getElem? (i := 35) rfl))) (Or.inr (hw _ (List.mem_of_getElem? (i := 29) rfl))) (by decide) (t := (.object "com/example/histrix/histrix/IntList")) (t' := (.object "com/example/histrix/histrix/IntList")) (by decide) (by decide)))
  have u221 := u220.ext E55
  have u222 := u221.keep K73 (ninS ne57 nin0)
  have u223 := u222.other W98 (Or.inr (slot_ne (Or.inr (hw _ (List.mem_of_getElem? (i := 35) rfl))) (Or.inr (hw _ (List.mem_of_getElem? (i := 31) rfl))) (by decide) (t := (.object "com/example/histrix/histrix/IntList")) (t' := (.object "com/example/histrix/histrix/IntList")) (by decide) (by decide)))
  have u224 := u223.ext E101
  have u225 := u224.keep K125 (ninS ne103 nin0)
  have u226 := u225.other W157 (Or.inr (slot_ne (Or.inr (hw _ (List.mem_of_getElem? (i := 35) rfl))) (Or.inr (hw _ (List.mem_of_getElem? (i := 33) rfl))) (by decide) (t := (.object "com/example/histrix/histrix/IntList")) (t' := (.object "com/example/histrix/histrix/IntList")) (by decide) (by decide)))
  have u227 := u226.ext E160
  have u228 := u227.keep K190 (ninS ne162 nin0)
  obtain ⟨T229, h229, X229, e229, W229, st229⟩ := putF X190 hx hZ hown (host := "") (Or.inl (hw _ (List.mem_of_getElem? (i := 34) rfl))) Via.refl rfl u228 u214 (Or.inr ⟨(hw _ (List.mem_of_getElem? (i := 35) rfl)), rfl, hnm⟩) (hw _ (List.mem_of_getElem? (i := 1) rfl)) (ty := (.object "com/example/histrix/histrix/IntList")) (by decide) rfl rfl (g := (mkF m 56 #[.val (.ref a), .val (.int x)] [(.ref b160), (.ref a)])) rfl rfl (hb hby own_b1_d56)
  have Fw229 := u228.same W229
  have N229 := Fr.snoc X229 N190 ga
  have Z230 := Nat.le_trans Z212 (Keep.of_wr W229).1
  have K231 := K213.wr W229 (Or.inl (List.mem_of_getElem? (i := 0) rfl))
  refine own_st (B := T229.setTop (mkF m 59 #[.val (.ref a), .val (.int x)] [])) st229 ?_
  refine own_st (B := T229.setTop (mkF m 60 #[.val (.ref a), .val (.int x)] [(.ref a)])) (fun t_ k_ => XS.aloadN X229.here hx rfl (hb hby own_b1_d59) rfl rfl k_) ?_
  refine own_st (B := T229.setTop (mkF m 61 #[.val (.ref a), .val (.int x)] [(.int x), (.ref a)])) (fun t_ k_ => XS.iloadN X229.here hx rfl (hb hby own_b1_d60) rfl k_) ?_
  have u232 := u214.wr W229
  have u233 := F5.ext E2
  have u234 := u233.keep K8 (ninS ne3 nin0)
  have u235 := u234.other W19 (Or.inr (slot_ne (Or.inr (hw _ (List.mem_of_getElem? (i := 37) rfl))) (Or.inr (hw _ (List.mem_of_getElem? (i := 27) rfl))) (by decide) (t := .int) (t' := (.object "com/example/histrix/histrix/IntList")) (by decide) (by decide)))
  have u236 := u235.ext E22
  have u237 := u236.keep K34 (ninS ne24 nin0)
  have u238 := u237.other W52 (Or.inr (slot_ne (Or.inr (hw _ (List.mem_of_getElem? (i := 37) rfl))) (Or.inr (hw _ (List.mem_of_getElem? (i := 29) rfl))) (by decide) (t := .int) (t' := (.object "com/example/histrix/histrix/IntList")) (by decide) (by decide)))
  have u239 := u238.ext E55
  have u240 := u239.keep K73 (ninS ne57 nin0)
  have u241 := u240.other W98 (Or.inr (slot_ne (Or.inr (hw _ (List.mem_of_getElem? (i := 37) rfl))) (Or.inr (hw _ (List.mem_of_getElem? (i := 31) rfl))) (by decide) (t := .int) (t' := (.object "com/example/histrix/histrix/IntList")) (by decide) (by decide)))
  have u242 := u241.ext E101
  have u243 := u242.keep K125 (ninS ne103 nin0)
  have u244 := u243.other W157 (Or.inr (slot_ne (Or.inr (hw _ (List.mem_of_getElem? (i := 37) rfl))) (Or.inr (hw _ (List.mem_of_getElem? (i := 33) rfl))) (by decide) (t := .int) (t' := (.object "com/example/histrix/histrix/IntList")) (by decide) (by decide)))
  have u245 := u244.ext E160
  have u246 := u245.keep K190 (ninS ne162 nin0)
  have u247 := u246.other W229 (Or.inr (slot_ne (Or.inr (hw _ (List.mem_of_getElem? (i := 37) rfl))) (Or.inr (hw _ (List.mem_of_getElem? (i := 35) rfl))) (by decide) (t := .int) (t' := (.object "com/example/histrix/histrix/IntList")) (by decide) (by decide)))
  obtain ⟨T248, h248, X248, e248, W248, st248⟩ := putF X229 hx hZ hown (host := "") (Or.inl (hw _ (List.mem_of_getElem? (i := 36) rfl))) Via.refl e229 u247 u232 (Or.inr ⟨(hw _ (List.mem_of_getElem? (i := 37) rfl)), rfl, hnm⟩) (hw _ (List.mem_of_getElem? (i := 1) rfl)) (ty := .int) (by decide) rfl rfl (g := (mkF m 61 #[.val (.ref a), .val (.int x)] [(.int x), (.ref a)])) rfl rfl (hb hby own_b1_d61)
  have Fw248 := u247.same W248
  have N248 := Fr.snoc X248 N229 ga
  have Z249 := Nat.le_trans Z230 (Keep.of_wr W248).1
  have K250 := K231.wr W248 (Or.inl (List.mem_of_getElem? (i := 0) rfl))
  refine own_st (B := T248.setTop (mkF m 64 #[.val (.ref a), .val (.int x)] [])) st248 ?_
  refine own_st (B := T248.setTop (mkF m 65 #[.val (.ref a), .val (.int x)] [(.ref a)])) (fun t_ k_ => XS.aloadN X248.here hx rfl (hb hby own_b1_d64) rfl rfl k_) ?_
  have u251 := Fw157.ext E160
  have u252 := u251.keep K190 (ninS ne162 nin0)
  have u253 := u252.other W229 (Or.inr (slot_ne (Or.inr (hw _ (List.mem_of_getElem? (i := 33) rfl))) (Or.inr (hw _ (List.mem_of_getElem? (i := 35) rfl))) (by decide) (t := (.object "com/example/histrix/histrix/IntList")) (t' := (.object "com/example/histrix/histrix/IntList")) (by decide) (by decide)))
  have u254 := u253.other W248 (Or.inr (slot_ne (Or.inr (hw _ (List.mem_of_getElem? (i := 33) rfl))) (Or.inr (hw _ (List.mem_of_getElem? (i := 37) rfl))) (by decide) (t := (.object "com/example/histrix/histrix/IntList")) (t' := .int) (by decide) (by decide)))
  obtain ⟨T255, X255, e255, st255⟩ := getF X248 hx hZ hown (host := "") (Or.inl (hw _ (List.mem_of_getElem? (i := 32) rfl))) Via.refl e248 u254 (g := (mkF m 65 #[.val (.ref a), .val (.int x)] [(.ref a)])) rfl rfl (hb hby own_b1_d65)
  refine own_st (B := T255.setTop (mkF m 68 #[.val (.ref a), .val (.int x)] [(.ref b101)])) st255 ?_
  refine own_st (B := T255.setTop (mkF m 69 #[.val (.ref a), .val (.int x)] [(.int (0 : Int32)), (.ref b101)])) (fun t_ k_ => XS.iconst X255.here hx rfl (hb hby own_b1_d68) k_) ?_
  have u257 := u193.keep K190
  have u258 := u257.wr W229
  have u259 := u258.wr W248
  have u260 := Fs125.other W157 (Or.inl (Ne.symm ne103))
  have u261 := u260.ext E160
  have u262 := u261.keep K190 (ninS ne165 nin0)
  have u263 := u262.other W229 (Or.inl (Ne.symm ne103))
  have u264 := u263.other W248 (Or.inl (Ne.symm ne103))
  have u265 := Fd125.other W157 (Or.inl (Ne.symm ne103))
  have u266 := u265.ext E160
  have u267 := u266.keep K190 (ninS ne165 nin0)
  have u268 := u267.other W229 (Or.inl (Ne.symm ne103))
  have u269 := u268.other W248 (Or.inl (Ne.symm ne103))
  have u270 := u202.keep K190 (ninS ne176 nin0)
  have u271 := u270.other W229 (Ne.symm ne127)
  have u272 := u271.other W248 (Ne.symm ne127)
  obtain ⟨cq256, kq256, q256a, q256b, q256c⟩ := isOf hZ e255 u259
  obtain ⟨_, _, ⟨T256, L256, k256, n256⟩, -, X256, ⟨Lc256, hQ256, l256, y256, z256⟩, st256⟩ := X255.virtualBack hx (y := (⟨"com/example/histrix/histrix/IntList", "add", "(I)V"⟩ : MethodName)) (z := (⟨"com/example/histrix/histrix/IntList", "add", "(I)V"⟩ : MethodName)) hown (mvT hZ (hw _ (List.mem_of_getElem? (i := 38) rfl))) (mvT hZ (hw _ (List.mem_of_getElem? (i := 39) rfl))) (notFace_of_selects (args := #[]) (mvT hZ (hw _ (List.mem_of_getElem? (i := 41) rfl)))) (mvT hZ (hw _ (List.mem_of_getElem? (i := 41) rfl))) (mvT hZ (hw _ (List.mem_of_getElem? (i := 40) rfl))) (by decide) (backOf (W := 0) (rm6 l Z a0 hw [] b101 d125 (0 : Int32) (fun _ => 0) h248 n0 Z249 u259 u264 u269 u272 g121 g141 ne128) hZ (hw _ (List.mem_of_getElem? (i := 42) rfl)) (hw _ (List.mem_of_getElem? (i := 11) rfl)) (by decide) (by decide)) q256a q256c (g := (mkF m 69 #[.val (.ref a), .val (.int x)] [(.int (0 : Int32)), (.ref b101)])) rfl (by rw [hml]; rfl) (Steps.refl _) (argsL := [(.int (0 : Int32))]) (rest := []) (lenOf own_pd1 rfl) rfl (by show 2 * 0 + _ ≤ _; exact Nat.le_of_eq rfl) (hb hby own_b1_d69) (fun _ _ => ⟨rfl, e255, (by decide : 10 + 0 ≤ _), (by decide : 90 + 0 ≤ _)⟩)
  dsimp only [Pt.U, Pt.locs, Pt.cells, Pt.slots] at X256 l256 y256 z256 st256 hQ256
  subst l256 y256 z256
  obtain ⟨rfl, N256q, K256⟩ := hQ256
  have N256 := Fr.app N248 N256q
  have Z273 := Nat.le_trans Z249 K256.1
  have K274 := K250.trans K256 (allS (Or.inr sz122) (allS (Or.inr sz142) all0))
  refine own_st (B := T256.setTop (mkF m 72 #[.val (.ref a), .val (.int x)] [])) (fun t_ k_ => st256.trans k_) ?_
  refine own_retV X256 hx Bd.returns hlk (hb hby own_b1_d72) (by decide) (by decide) ?_
  show Q1 Z a x h0 n0 _ T256.heap _
  have u275 := Fw248.keep K256 (ninS ne103 (ninS ne127 nin0))
  have u276 := F6.ext E2
  have u277 := u276.keep K8 (ninS ne3 nin0)
  have u278 := u277.other W19 (Or.inr (slot_ne (Or.inl (hw _ (List.mem_of_getElem? (i := 51) rfl))) (Or.inr (hw _ (List.mem_of_getElem? (i := 27) rfl))) (by decide) (t := .int) (t' := (.object "com/example/histrix/histrix/IntList")) (by decide) (by decide)))
  have u279 := u278.ext E22
  have u280 := u279.keep K34 (ninS ne24 nin0)
  have u281 := u280.other W52 (Or.inr (slot_ne (Or.inl (hw _ (List.mem_of_getElem? (i := 51) rfl))) (Or.inr (hw _ (List.mem_of_getElem? (i := 29) rfl))) (by decide) (t := .int) (t' := (.object "com/example/histrix/histrix/IntList")) (by decide) (by decide)))
  have u282 := u281.ext E55
  have u283 := u282.keep K73 (ninS ne57 nin0)
  have u284 := u283.other W98 (Or.inr (slot_ne (Or.inl (hw _ (List.mem_of_getElem? (i := 51) rfl))) (Or.inr (hw _ (List.mem_of_getElem? (i := 31) rfl))) (by decide) (t := .int) (t' := (.object "com/example/histrix/histrix/IntList")) (by decide) (by decide)))
  have u285 := u284.ext E101
  have u286 := u285.keep K125 (ninS ne103 nin0)
  have u287 := u286.other W157 (Or.inr (slot_ne (Or.inl (hw _ (List.mem_of_getElem? (i := 51) rfl))) (Or.inr (hw _ (List.mem_of_getElem? (i := 33) rfl))) (by decide) (t := .int) (t' := (.object "com/example/histrix/histrix/IntList")) (by decide) (by decide)))
  have u288 := u287.ext E160
  have u289 := u288.keep K190 (ninS ne162 nin0)
  have u290 := u289.other W229 (Or.inr (slot_ne (Or.inl (hw _ (List.mem_of_getElem? (i := 51) rfl))) (Or.inr (hw _ (List.mem_of_getElem? (i := 35) rfl))) (by decide) (t := .int) (t' := (.object "com/example/histrix/histrix/IntList")) (by decide) (by decide)))
  have u291 := u290.other W248 (Or.inr (slot_ne (Or.inl (hw _ (List.mem_of_getElem? (i := 51) rfl))) (Or.inr (hw _ (List.mem_of_getElem? (i := 37) rfl))) (by decide) (t := .int) (t' := .int) (by decide) (by decide)))
  have u292 := u291.keep K256 (ninS ne103 (ninS ne127 nin0))
  exact ⟨rfl, N256, K274, u275, u292⟩
theorem own_b7_d0 : decode prog_44_method_2_code 0 = .ok (.aload_n 0, 1) := by decide +kernel
theorem own_b7_d1 : decode prog_44_method_2_code 1 = .ok (.getfield 30, 3) := by decide +kernel
theorem own_b7_d4 : decode prog_44_method_2_code 4 = .ok (.aload_n 0, 1) := by decide +kernel
theorem own_b7_d5 : decode prog_44_method_2_code 5 = .ok (.dup, 1) := by decide +kernel
theorem own_b7_d6 : decode prog_44_method_2_code 6 = .ok (.getfield 38, 3) := by decide +kernel
theorem own_b7_d9 : decode prog_44_method_2_code 9 = .ok (.dup_x1, 1) := by decide +kernel
theorem own_b7_d10 : decode prog_44_method_2_code 10 = .ok (.iconst 1, 1) := by decide +kernel
theorem own_b7_d11 : decode prog_44_method_2_code 11 = .ok (.iadd, 1) := by decide +kernel
theorem own_b7_d12 : decode prog_44_method_2_code 12 = .ok (.putfield 38, 3) := by decide +kernel
theorem own_b7_d15 : decode prog_44_method_2_code 15 = .ok (.iadd, 1) := by decide +kernel
theorem own_b7_d16 : decode prog_44_method_2_code 16 = .ok (.ireturn, 1) := by decide +kernel
theorem own_ef_rm7 (m : MethodId) (x0 : Addr) : entryFrame m #[(.ref x0)] 1 = mkF m 0 #[.val (.ref x0)] [] := by first | (simp [entryFrame, mkF, argsToLocals, Value.category]; done) | rfl
def Q7 (Z : State) (a : Addr) (x : Int32) (y : Int32) (h0 : Heap) (n0 : Nat) (v : Option Value) (h : Heap) (L : List Loc) : Prop := v = some (.int (x + y)) ∧ Fr n0 L ∧ Keep h0 h [a] ∧ Fld Z h a "com/example/histrix/histrix/Polygraph" "transactionCount" "I" (.int x) ∧ Fld Z h a "com/example/histrix/histrix/Polygraph" "waypointCount" "I" (.int (y + (1 : Int32)))
set_option maxRecDepth 65536 in
set_option maxHeartbeats 40000000 in
theorem rm7 (l : Launch) (Z : State) (a0 : Array Value) (hw : ∀ d ∈ tables_1, d.before a0 Z = true) (ws : List Jvm.Cond) (a : Addr) (x : Int32) (y : Int32) (h0 : Heap) (n0 : Nat) (Z0 : n0 ≤ h0.size) (E : Exa Z h0 a "com/example/histrix/histrix/Polygraph") (F0 : Fld Z h0 a "com/example/histrix/histrix/Polygraph" "transactionCount" "I" (.int x)) (F1 : Fld Z h0 a "com/example/histrix/histrix/Polygraph" "waypointCount" "I" (.int y)) (ga : n0 ≤ a) :
    MetFree l (⟨"com/example/histrix/histrix/Polygraph", "addWaypoint", "()I"⟩ : MethodName) (head1 (Jvm.Cond.code (⟨"com/example/histrix/histrix/Polygraph", "addWaypoint", "()I"⟩ : MethodName) prog_44_method_2_code 1 (some .int) :: ws) ({ frames := 0, cells := 0, slots := 0, locals := 0 } : Room)) (fun aa_ U_ => aa_ = #[(.ref a)] ∧ Z.Warmed39 U_.vm ∧ U_.heap = h0) (fun _ _ _ _ _ => True) (fun _ U_ o_ U1_ => ∃ v_ L_, o_ = .returned v_ ∧ Q7 Z a x y h0 n0 v_ U1_.heap L_ ∧ FrameEnd U_ o_ U1_ L_ ({ frames := 0, cells := 0, slots := 0, locals := 0 } : Room).cells ({ frames := 0, cells := 0, slots := 0, locals := 0 } : Room).slots) := by
  refine MetFree.of_bodySF (plainFor_of_name own_pn1) hisR ?_
  intro p e s m args below meth c s₁ Bd hml0 hP hK
  obtain ⟨rfl, hZ, hh⟩ := hP
  have hx := Bd.exec
  have hby := Bd.bytes
  have hlk := Bd.notSynchronized
  have hml : c.maxLocals = 1 := hml0
  have hown : s.vm.findClass "com/example/histrix/histrix/Polygraph" = some m.cls := findClass_of_methodNamed Bd.named
  have hnm := (name_of_methodNamed Bd.named Bd.method).1
  have X0 : Stand p l e ({ frames := 0, cells := 0, slots := 0, locals := 0 } : Room) s m #[(.ref a)] below meth c s₁ [] 0 0 := Stand.of_body Bd
  have e0 : s₁.heap = h0 := by rw [← hh, Bd.state]; rfl
  have N0 := Fr.nil n0
  show own_E p e below s (Q7 Z a x y h0 n0) ({ frames := 0, cells := 0, slots := 0, locals := 0 } : Room).cells ({ frames := 0, cells := 0, slots := 0, locals := 0 } : Room).slots (s₁.setTop (entryFrame m #[(.ref a)] 1))
  refine own_st (B := s₁.setTop (mkF m 0 #[.val (.ref a)] [])) (fun t_ k_ => castTop (own_ef_rm7 m a) k_) ?_
  have K0 : Keep h0 h0 [a] := Keep.refl _ _
  refine own_st (B := s₁.setTop (mkF m 1 #[.val (.ref a)] [(.ref a)])) (fun t_ k_ => XS.aloadN X0.here hx rfl (hb hby own_b7_d0) rfl rfl k_) ?_
  obtain ⟨T1, X1, e1, st1⟩ := getF X0 hx hZ hown (host := "") (Or.inl (hw _ (List.mem_of_getElem? (i := 36) rfl))) Via.refl e0 F0 (g := (mkF m 1 #[.val (.ref a)] [(.ref a)])) rfl rfl (hb hby own_b7_d1)
  refine own_st (B := T1.setTop (mkF m 4 #[.val (.ref a)] [(.int x)])) st1 ?_
  refine own_st (B := T1.setTop (mkF m 5 #[.val (.ref a)] [(.ref a), (.int x)])) (fun t_ k_ => XS.aloadN X1.here hx rfl (hb hby own_b7_d4) rfl rfl k_) ?_
  refine own_st (B := T1.setTop (mkF m 6 #[.val (.ref a)] [(.ref a), (.ref a), (.int x)])) (fun t_ k_ => XS.dup X1.here hx rfl (hb hby own_b7_d5) rfl rfl k_) ?_
  obtain ⟨T2, X2, e2, st2⟩ := getF X1 hx hZ hown (host := "") (Or.inl (hw _ (List.mem_of_getElem? (i := 50) rfl))) Via.refl e1 F1 (g := (mkF m 6 #[.val (.ref a)] [(.ref a), (.ref a), (.int x)])) rfl rfl (hb hby own_b7_d6)
  refine own_st (B := T2.setTop (mkF m 9 #[.val (.ref a)] [(.int y), (.ref a), (.int x)])) st2 ?_
  refine own_st (B := T2.setTop (mkF m 10 #[.val (.ref a)] [(.int y), (.ref a), (.int y), (.int x)])) (fun t_ k_ => XS.dupX1 X2.here hx rfl (hb hby own_b7_d9) rfl rfl rfl k_) ?_
  refine own_st (B := T2.setTop (mkF m 11 #[.val (.ref a)] [(.int (1 : Int32)), (.int y), (.ref a), (.int y), (.int x)])) (fun t_ k_ => XS.iconst X2.here hx rfl (hb hby own_b7_d10) k_) ?_
  refine own_st (B := T2.setTop (mkF m 12 #[.val (.ref a)] [(.int (y + (1 : Int32))), (.ref a), (.int y), (.int x)])) (fun t_ k_ => XS.iadd X2.here hx rfl (hb hby own_b7_d11) rfl k_) ?_
  obtain ⟨T3, h3, X3, e3, W3, st3⟩ := putF X2 hx hZ hown (host := "") (Or.inl (hw _ (List.mem_of_getElem? (i := 50) rfl))) Via.refl e2 F1 E (Or.inl (hw _ (List.mem_of_getElem? (i := 51) rfl))) (hw _ (List.mem_of_getElem? (i := 1) rfl)) (ty := .int) (by decide) rfl rfl (g := (mkF m 12 #[.val (.ref a)] [(.int (y + (1 : Int32))), (.ref a), (.int y), (.int x)])) rfl rfl (hb hby own_b7_d12)
  have Fw3 := F1.same W3
  have N3 := Fr.snoc X3 N0 ga
  have Z4 := Nat.le_trans Z0 (Keep.of_wr W3).1
  have K5 := K0.wr W3 (Or.inl (List.mem_of_getElem? (i := 0) rfl))
  refine own_st (B := T3.setTop (mkF m 15 #[.val (.ref a)] [(.int y), (.int x)])) st3 ?_
  refine own_st (B := T3.setTop (mkF m 16 #[.val (.ref a)] [(.int (x + y))])) (fun t_ k_ => XS.iadd X3.here hx rfl (hb hby own_b7_d15) rfl k_) ?_
  refine own_retI X3 hx Bd.returns hlk (hb hby own_b7_d16) (by decide) (by decide) ?_
  show Q7 Z a x y h0 n0 _ T3.heap _
  rw [e3]
  have u6 := F0.other W3 (Or.inr (slot_ne (Or.inr (hw _ (List.mem_of_getElem? (i := 37) rfl))) (Or.inl (hw _ (List.mem_of_getElem? (i := 51) rfl))) (by decide) (t := .int) (t' := .int) (by decide) (by decide)))
  exact ⟨rfl, N3, K5, u6, Fw3⟩
theorem own_pd3 : parseMethodDescriptor "()I" = some ⟨[], some .int⟩ := by decide +kernel
theorem own_pn2 : plainName "com/example/histrix/histrix/PolygraphAddWaypointPinLaw" = true := by first | (simp [plainName, overriddenIn]; done) | decide +kernel
theorem own_ef_rm0 (m : MethodId) (x0 : Int32) (x1 : Int32) : entryFrame m #[(.int x0), (.int x1)] maxLocals = mkF m 0 #[.val (.int x0), .val (.int x1), .unset, .unset, .unset, .unset, .unset, .unset, .unset] [] := by first | (simp [entryFrame, mkF, argsToLocals, Value.category, maxLocals]; done) | rfl
def Q0 (Z : State) (u0 : Int32) (u1 : Int32) (h0 : Heap) (n0 : Nat) (v : Option Value) (h : Heap) (L : List Loc) : Prop := v = some (.int 1) ∧ Fr n0 L
set_option maxRecDepth 65536 in
set_option maxHeartbeats 40000000 in
theorem rm0 (l : Launch) (Z : State) (a0 : Array Value) (hw : ∀ d ∈ tables_1, d.before a0 Z = true) (ws : List Jvm.Cond) (u0 : Int32) (u1 : Int32) (h0 : Heap) (n0 : Nat) (Z0 : n0 ≤ h0.size) :
    MetFree l x (head1 (Jvm.Cond.code x code maxLocals ret :: ws) room_1) (fun aa_ U_ => aa_ = #[(.int u0), (.int u1)] ∧ Z.Warmed39 U_.vm ∧ U_.heap = h0) (fun _ _ _ _ _ => True) (fun _ U_ o_ U1_ => ∃ v_ L_, o_ = .returned v_ ∧ Q0 Z u0 u1 h0 n0 v_ U1_.heap L_ ∧ FrameEnd U_ o_ U1_ L_ 22 194) := by
  refine MetFree.of_bodySF (plainFor_of_name own_pn2) hisR ?_
  intro p e s m args below meth c s₁ Bd hml0 hP hK
  obtain ⟨rfl, hZ, hh⟩ := hP
  have hx := Bd.exec
  have hby := Bd.bytes
  have hlk := Bd.notSynchronized
  have hml : c.maxLocals = 9 := hml0
  have hown : s.vm.findClass "com/example/histrix/histrix/PolygraphAddWaypointPinLaw" = some m.cls := findClass_of_methodNamed Bd.named
  have hnm := (name_of_methodNamed Bd.named Bd.method).1
  have X0 : Stand p l e room_1 s m #[(.int u0), (.int u1)] below meth c s₁ [] 0 0 := Stand.of_body Bd
  have e0 : s₁.heap = h0 := by rw [← hh, Bd.state]; rfl
  have N0 := Fr.nil n0
  show own_E p e below s (Q0 Z u0 u1 h0 n0) 22 194 (s₁.setTop (entryFrame m #[(.int u0), (.int u1)] maxLocals))
  refine own_st (B := s₁.setTop (mkF m 0 #[.val (.int u0), .val (.int u1), .unset, .unset, .unset, .unset, .unset, .unset, .unset] [])) (fun t_ k_ => castTop (own_ef_rm0 m u0 u1) k_) ?_
  obtain ⟨T1, h1, X1, e1, E1, A1, D1, -, st1⟩ := newO X0 hx hZ hown (hw _ (List.mem_of_getElem? (i := 0) rfl)) (hw _ (List.mem_of_getElem? (i := 1) rfl)) (hw _ (List.mem_of_getElem? (i := 2) rfl)) e0 (g := (mkF m 0 #[.val (.int u0), .val (.int u1), .unset, .unset, .unset, .unset, .unset, .unset, .unset] [])) rfl (hb hby at_0) (by decide) (by decide)
  obtain ⟨b1, g1⟩ : ∃ z, z = h0.size := ⟨_, rfl⟩
  rw [← g1] at A1 D1 st1
  have g2 : n0 ≤ b1 := Nat.le_trans Z0 (Nat.le_of_eq g1.symm)
  have Z3 := Nat.le_trans Z0 E1.1
  have F1_requiredFrom : Fld Z h1 b1 "com/example/histrix/histrix/Polygraph" "requiredFrom" "Lcom/example/histrix/histrix/IntList;" .null := D1 (Or.inr (hw _ (List.mem_of_getElem? (i := 27) rfl))) (ty := (.object "com/example/histrix/histrix/IntList")) (by decide)
  have F1_requiredTo : Fld Z h1 b1 "com/example/histrix/histrix/Polygraph" "requiredTo" "Lcom/example/histrix/histrix/IntList;" .null := D1 (Or.inr (hw _ (List.mem_of_getElem? (i := 29) rfl))) (ty := (.object "com/example/histrix/histrix/IntList")) (by decide)
  have F1_setMembers : Fld Z h1 b1 "com/example/histrix/histrix/Polygraph" "setMembers" "Lcom/example/histrix/histrix/IntList;" .null := D1 (Or.inr (hw _ (List.mem_of_getElem? (i := 31) rfl))) (ty := (.object "com/example/histrix/histrix/IntList")) (by decide)
  have F1_setStart : Fld Z h1 b1 "com/example/histrix/histrix/Polygraph" "setStart" "Lcom/example/histrix/histrix/IntList;" .null := D1 (Or.inr (hw _ (List.mem_of_getElem? (i := 33) rfl))) (ty := (.object "com/example/histrix/histrix/IntList")) (by decide)
  have F1_exclusions : Fld Z h1 b1 "com/example/histrix/histrix/Polygraph" "exclusions" "Lcom/example/histrix/histrix/IntList;" .null := D1 (Or.inr (hw _ (List.mem_of_getElem? (i := 35) rfl))) (ty := (.object "com/example/histrix/histrix/IntList")) (by decide)
  have F1_transactionCount : Fld Z h1 b1 "com/example/histrix/histrix/Polygraph" "transactionCount" "I" (.int (0 : Int32)) := D1 (Or.inr (hw _ (List.mem_of_getElem? (i := 37) rfl))) (ty := .int) (by decide)
  have F1_waypointCount : Fld Z h1 b1 "com/example/histrix/histrix/Polygraph" "waypointCount" "I" (.int (0 : Int32)) := D1 (Or.inl (hw _ (List.mem_of_getElem? (i := 51) rfl))) (ty := .int) (by decide)
  refine own_st (B := T1.setTop (mkF m 3 #[.val (.int u0), .val (.int u1), .unset, .unset, .unset, .unset, .unset, .unset, .unset] [(.ref b1)])) st1 ?_
  refine own_st (B := T1.setTop (mkF m 4 #[.val (.int u0), .val (.int u1), .unset, .unset, .unset, .unset, .unset, .unset, .unset] [(.ref b1), (.ref b1)])) (fun t_ k_ => XS.dup X1.here hx rfl (hb hby at_3) rfl rfl k_) ?_
  refine own_st (B := T1.setTop (mkF m 5 #[.val (.int u0), .val (.int u1), .unset, .unset, .unset, .unset, .unset, .unset, .unset] [(.int u0), (.ref b1), (.ref b1)])) (fun t_ k_ => XS.iloadN X1.here hx rfl (hb hby at_4) rfl k_) ?_
  obtain ⟨_, _, ⟨T4, L4, k4, n4⟩, -, X4, ⟨Lc4, hQ4, l4, y4, z4⟩, st4⟩ := X1.specialBack hx (y := (⟨"com/example/histrix/histrix/Polygraph", "<init>", "(I)V"⟩ : MethodName)) rfl hown (mvT hZ (hw _ (List.mem_of_getElem? (i := 3) rfl))) (mvT hZ (hw _ (List.mem_of_getElem? (i := 4) rfl))) (mvT hZ (hw _ (List.mem_of_getElem? (i := 5) rfl))) (by decide) (backOf (W := 1) (rm1 l Z a0 hw [] b1 u0 h1 n0 Z3 A1 F1_requiredFrom F1_requiredTo F1_setMembers F1_setStart F1_exclusions F1_transactionCount F1_waypointCount g2) hZ (hw _ (List.mem_of_getElem? (i := 5) rfl)) (hw _ (List.mem_of_getElem? (i := 2) rfl)) (by decide) (by decide)) (g := (mkF m 5 #[.val (.int u0), .val (.int u1), .unset, .unset, .unset, .unset, .unset, .unset, .unset] [(.int u0), (.ref b1), (.ref b1)])) rfl (by rw [hml]; rfl) (Steps.refl _) (a := b1) (argsL := [(.int u0)]) (rest := [(.ref b1)]) (lenOf own_pd1 rfl) rfl (by show 2 * 0 + _ ≤ _; exact Nat.le_of_eq rfl) (hb hby at_5) (fun _ _ => ⟨rfl, e1, (by decide : 1 + 10 ≤ _), (by decide : 7 + 90 ≤ _)⟩)
  dsimp only [Pt.U, Pt.locs, Pt.cells, Pt.slots] at X4 l4 y4 z4 st4 hQ4
  subst l4 y4 z4
  obtain ⟨rfl, N4q, K4, Ft4, Fw_4⟩ := hQ4
  have N4 := Fr.app N0 N4q
  have Z5 := Nat.le_trans Z3 K4.1
  refine own_st (B := T4.setTop (mkF m 8 #[.val (.int u0), .val (.int u1), .unset, .unset, .unset, .unset, .unset, .unset, .unset] [(.ref b1)])) (fun t_ k_ => st4.trans k_) ?_
  refine own_st (B := T4.setTop (mkF m 9 #[.val (.int u0), .val (.int u1), .val (.ref b1), .unset, .unset, .unset, .unset, .unset, .unset] [])) (fun t_ k_ => XS.astoreN X4.here hx rfl (hb hby at_8) rfl rfl (l' := #[.val (.int u0), .val (.int u1), .val (.ref b1), .unset, .unset, .unset, .unset, .unset, .unset]) rfl k_) ?_
  obtain ⟨T6, h6, X6, e6, E6, A6, D6, -, st6⟩ := newO X4 hx hZ hown (hw _ (List.mem_of_getElem? (i := 0) rfl)) (hw _ (List.mem_of_getElem? (i := 1) rfl)) (hw _ (List.mem_of_getElem? (i := 2) rfl)) rfl (g := (mkF m 9 #[.val (.int u0), .val (.int u1), .val (.ref b1), .unset, .unset, .unset, .unset, .unset, .unset] [])) rfl (hb hby at_9) (by decide) (by decide)
  obtain ⟨b6, g6⟩ : ∃ z, z = T4.heap.size := ⟨_, rfl⟩
  rw [← g6] at A6 D6 st6
  have u7 := A1.keep K4
  have ne8 : b1 ≠ b6 := Nat.ne_of_lt (Nat.lt_of_lt_of_le u7.lt (Nat.le_of_eq g6.symm))
  have g9 : n0 ≤ b6 := Nat.le_trans Z5 (Nat.le_of_eq g6.symm)
  have Z10 := Nat.le_trans Z5 E6.1
  have F6_requiredFrom : Fld Z h6 b6 "com/example/histrix/histrix/Polygraph" "requiredFrom" "Lcom/example/histrix/histrix/IntList;" .null := D6 (Or.inr (hw _ (List.mem_of_getElem? (i := 27) rfl))) (ty := (.object "com/example/histrix/histrix/IntList")) (by decide)
  have F6_requiredTo : Fld Z h6 b6 "com/example/histrix/histrix/Polygraph" "requiredTo" "Lcom/example/histrix/histrix/IntList;" .null := D6 (Or.inr (hw _ (List.mem_of_getElem? (i := 29) rfl))) (ty := (.object "com/example/histrix/histrix/IntList")) (by decide)
  have F6_setMembers : Fld Z h6 b6 "com/example/histrix/histrix/Polygraph" "setMembers" "Lcom/example/histrix/histrix/IntList;" .null := D6 (Or.inr (hw _ (List.mem_of_getElem? (i := 31) rfl))) (ty := (.object "com/example/histrix/histrix/IntList")) (by decide)
  have F6_setStart : Fld Z h6 b6 "com/example/histrix/histrix/Polygraph" "setStart" "Lcom/example/histrix/histrix/IntList;" .null := D6 (Or.inr (hw _ (List.mem_of_getElem? (i := 33) rfl))) (ty := (.object "com/example/histrix/histrix/IntList")) (by decide)
  have F6_exclusions : Fld Z h6 b6 "com/example/histrix/histrix/Polygraph" "exclusions" "Lcom/example/histrix/histrix/IntList;" .null := D6 (Or.inr (hw _ (List.mem_of_getElem? (i := 35) rfl))) (ty := (.object "com/example/histrix/histrix/IntList")) (by decide)
  have F6_transactionCount : Fld Z h6 b6 "com/example/histrix/histrix/Polygraph" "transactionCount" "I" (.int (0 : Int32)) := D6 (Or.inr (hw _ (List.mem_of_getElem? (i := 37) rfl))) (ty := .int) (by decide)
  have F6_waypointCount : Fld Z h6 b6 "com/example/histrix/histrix/Polygraph" "waypointCount" "I" (.int (0 : Int32)) := D6 (Or.inl (hw _ (List.mem_of_getElem? (i := 51) rfl))) (ty := .int) (by decide)
  refine own_st (B := T6.setTop (mkF m 12 #[.val (.int u0), .val (.int u1), .val (.ref b1), .unset, .unset, .unset, .unset, .unset, .unset] [(.ref b6)])) st6 ?_
  refine own_st (B := T6.setTop (mkF m 13 #[.val (.int u0), .val (.int u1), .val (.ref b1), .unset, .unset, .unset, .unset, .unset, .unset] [(.ref b6), (.ref b6)])) (fun t_ k_ => XS.dup X6.here hx rfl (hb hby at_12) rfl rfl k_) ?_
  refine own_st (B := T6.setTop (mkF m 14 #[.val (.int u0), .val (.int u1), .val (.ref b1), .unset, .unset, .unset, .unset, .unset, .unset] [(.int u1), (.ref b6), (.ref b6)])) (fun t_ k_ => XS.iloadN X6.here hx rfl (hb hby at_13) rfl k_) ?_
  obtain ⟨_, _, ⟨T11, L11, k11, n11⟩, -, X11, ⟨Lc11, hQ11, l11, y11, z11⟩, st11⟩ := X6.specialBack hx (y := (⟨"com/example/histrix/histrix/Polygraph", "<init>", "(I)V"⟩ : MethodName)) rfl hown (mvT hZ (hw _ (List.mem_of_getElem? (i := 3) rfl))) (mvT hZ (hw _ (List.mem_of_getElem? (i := 4) rfl))) (mvT hZ (hw _ (List.mem_of_getElem? (i := 5) rfl))) (by decide) (backOf (W := 1) (rm1 l Z a0 hw [] b6 u1 h6 n0 Z10 A6 F6_requiredFrom F6_requiredTo F6_setMembers F6_setStart F6_exclusions F6_transactionCount F6_waypointCount g9) hZ (hw _ (List.mem_of_getElem? (i := 5) rfl)) (hw _ (List.mem_of_getElem? (i := 2) rfl)) (by decide) (by decide)) (g := (mkF m 14 #[.val (.int u0), .val (.int u1), .val (.ref b1), .unset, .unset, .unset, .unset, .unset, .unset] [(.int u1), (.ref b6), (.ref b6)])) rfl (by rw [hml]; rfl) (Steps.refl _) (a := b6) (argsL := [(.int u1)]) (rest := [(.ref b6)]) (lenOf own_pd1 rfl) rfl (by show 2 * 0 + _ ≤ _; exact Nat.le_of_eq rfl) (hb hby at_14) (fun _ _ => ⟨rfl, e6, (by decide : 12 + 10 ≤ _), (by decide : 104 + 90 ≤ _)⟩)
  dsimp only [Pt.U, Pt.locs, Pt.cells, Pt.slots] at X11 l11 y11 z11 st11 hQ11
  subst l11 y11 z11
  obtain ⟨rfl, N11q, K11, Ft11, Fw_11⟩ := hQ11
  have N11 := Fr.app N4 N11q
  have Z12 := Nat.le_trans Z10 K11.1
  refine own_st (B := T11.setTop (mkF m 17 #[.val (.int u0), .val (.int u1), .val (.ref b1), .unset, .unset, .unset, .unset, .unset, .unset] [(.ref b6)])) (fun t_ k_ => st11.trans k_) ?_
  refine own_st (B := T11.setTop (mkF m 18 #[.val (.int u0), .val (.int u1), .val (.ref b1), .val (.ref b6), .unset, .unset, .unset, .unset, .unset] [])) (fun t_ k_ => XS.astoreN X11.here hx rfl (hb hby at_17) rfl rfl (l' := #[.val (.int u0), .val (.int u1), .val (.ref b1), .val (.ref b6), .unset, .unset, .unset, .unset, .unset]) rfl k_) ?_
  refine own_st (B := T11.setTop (mkF m 19 #[.val (.int u0), .val (.int u1), .val (.ref b1), .val (.ref b6), .unset, .unset, .unset, .unset, .unset] [(.ref b1)])) (fun t_ k_ => XS.aloadN X11.here hx rfl (hb hby at_18) rfl rfl k_) ?_
  have u14 := u7.ext E6
  have u15 := u14.keep K11
  have u16 := Ft4.ext E6
  have u17 := u16.keep K11 (ninS ne8 nin0)
  have u18 := Fw_4.ext E6
  have u19 := u18.keep K11 (ninS ne8 nin0)
  obtain ⟨cq13, kq13, q13a, q13b, q13c⟩ := isOf hZ rfl u15
  obtain ⟨_, _, ⟨T13, L13, k13, n13⟩, -, X13, ⟨Lc13, hQ13, l13, y13, z13⟩, st13⟩ := X11.virtualBack hx (y := (⟨"com/example/histrix/histrix/Polygraph", "addWaypoint", "()I"⟩ : MethodName)) (z := (⟨"com/example/histrix/histrix/Polygraph", "addWaypoint", "()I"⟩ : MethodName)) hown (mvT hZ (hw _ (List.mem_of_getElem? (i := 45) rfl))) (mvT hZ (hw _ (List.mem_of_getElem? (i := 46) rfl))) (notFace_of_selects (args := #[]) (mvT hZ (hw _ (List.mem_of_getElem? (i := 48) rfl)))) (mvT hZ (hw _ (List.mem_of_getElem? (i := 48) rfl))) (mvT hZ (hw _ (List.mem_of_getElem? (i := 47) rfl))) (by decide) (backOf (W := 0) (rm7 l Z a0 hw [] b1 u0 (0 : Int32) T11.heap n0 Z12 u15 u17 u19 g2) hZ (hw _ (List.mem_of_getElem? (i := 49) rfl)) (hw _ (List.mem_of_getElem? (i := 2) rfl)) (by decide) (by decide)) q13a q13c (g := (mkF m 19 #[.val (.int u0), .val (.int u1), .val (.ref b1), .val (.ref b6), .unset, .unset, .unset, .unset, .unset] [(.ref b1)])) rfl (by rw [hml]; rfl) (Steps.refl _) (argsL := []) (rest := []) (lenOf own_pd3 rfl) rfl (by show 2 * 0 + _ ≤ _; exact Nat.le_of_eq rfl) (hb hby at_19) (fun _ _ => ⟨rfl, rfl, (by decide : 22 + 0 ≤ _), (by decide : 194 + 0 ≤ _)⟩)
  dsimp only [Pt.U, Pt.locs, Pt.cells, Pt.slots] at X13 l13 y13 z13 st13 hQ13
  subst l13 y13 z13
  obtain ⟨rfl, N13q, K13, Ft13, Fw_13⟩ := hQ13
  have N13 := Fr.app N11 N13q
  have Z20 := Nat.le_trans Z12 K13.1
  refine own_st (B := T13.setTop (mkF m 22 #[.val (.int u0), .val (.int u1), .val (.ref b1), .val (.ref b6), .unset, .unset, .unset, .unset, .unset] [(.int (u0 + (0 : Int32)))])) (fun t_ k_ => st13.trans k_) ?_
  refine own_st (B := T13.setTop (mkF m 24 #[.val (.int u0), .val (.int u1), .val (.ref b1), .val (.ref b6), .val (.int (u0 + (0 : Int32))), .unset, .unset, .unset, .unset] [])) (fun t_ k_ => XS.istore X13.here hx rfl (hb hby at_22) rfl (l' := #[.val (.int u0), .val (.int u1), .val (.ref b1), .val (.ref b6), .val (.int (u0 + (0 : Int32))), .unset, .unset, .unset, .unset]) rfl k_) ?_
  refine own_st (B := T13.setTop (mkF m 25 #[.val (.int u0), .val (.int u1), .val (.ref b1), .val (.ref b6), .val (.int (u0 + (0 : Int32))), .unset, .unset, .unset, .unset] [(.ref b6)])) (fun t_ k_ => XS.aloadN X13.here hx rfl (hb hby at_24) rfl rfl k_) ?_
  have u22 := A6.keep K11
  have u23 := u22.keep K13
  have u24 := Ft11.keep K13 (ninS (Ne.symm ne8) nin0)
  have u25 := Fw_11.keep K13 (ninS (Ne.symm ne8) nin0)
  obtain ⟨cq21, kq21, q21a, q21b, q21c⟩ := isOf hZ rfl u23
  obtain ⟨_, _, ⟨T21, L21, k21, n21⟩, -, X21, ⟨Lc21, hQ21, l21, y21, z21⟩, st21⟩ := X13.virtualBack hx (y := (⟨"com/example/histrix/histrix/Polygraph", "addWaypoint", "()I"⟩ : MethodName)) (z := (⟨"com/example/histrix/histrix/Polygraph", "addWaypoint", "()I"⟩ : MethodName)) hown (mvT hZ (hw _ (List.mem_of_getElem? (i := 45) rfl))) (mvT hZ (hw _ (List.mem_of_getElem? (i := 46) rfl))) (notFace_of_selects (args := #[]) (mvT hZ (hw _ (List.mem_of_getElem? (i := 48) rfl)))) (mvT hZ (hw _ (List.mem_of_getElem? (i := 48) rfl))) (mvT hZ (hw _ (List.mem_of_getElem? (i := 47) rfl))) (by decide) (backOf (W := 0) (rm7 l Z a0 hw [] b6 u1 (0 : Int32) T13.heap n0 Z20 u23 u24 u25 g9) hZ (hw _ (List.mem_of_getElem? (i := 49) rfl)) (hw _ (List.mem_of_getElem? (i := 2) rfl)) (by decide) (by decide)) q21a q21c (g := (mkF m 25 #[.val (.int u0), .val (.int u1), .val (.ref b1), .val (.ref b6), .val (.int (u0 + (0 : Int32))), .unset, .unset, .unset, .unset] [(.ref b6)])) rfl (by rw [hml]; rfl) (Steps.refl _) (argsL := []) (rest := []) (lenOf own_pd3 rfl) rfl (by show 2 * 0 + _ ≤ _; exact Nat.le_of_eq rfl) (hb hby at_25) (fun _ _ => ⟨rfl, rfl, (by decide : 22 + 0 ≤ _), (by decide : 194 + 0 ≤ _)⟩)
  dsimp only [Pt.U, Pt.locs, Pt.cells, Pt.slots] at X21 l21 y21 z21 st21 hQ21
  subst l21 y21 z21
  obtain ⟨rfl, N21q, K21, Ft21, Fw_21⟩ := hQ21
  have N21 := Fr.app N13 N21q
  have Z26 := Nat.le_trans Z20 K21.1
  refine own_st (B := T21.setTop (mkF m 28 #[.val (.int u0), .val (.int u1), .val (.ref b1), .val (.ref b6), .val (.int (u0 + (0 : Int32))), .unset, .unset, .unset, .unset] [(.int (u1 + (0 : Int32)))])) (fun t_ k_ => st21.trans k_) ?_
  refine own_st (B := T21.setTop (mkF m 30 #[.val (.int u0), .val (.int u1), .val (.ref b1), .val (.ref b6), .val (.int (u0 + (0 : Int32))), .val (.int (u1 + (0 : Int32))), .unset, .unset, .unset] [])) (fun t_ k_ => XS.istore X21.here hx rfl (hb hby at_28) rfl (l' := #[.val (.int u0), .val (.int u1), .val (.ref b1), .val (.ref b6), .val (.int (u0 + (0 : Int32))), .val (.int (u1 + (0 : Int32))), .unset, .unset, .unset]) rfl k_) ?_
  refine own_st (B := T21.setTop (mkF m 31 #[.val (.int u0), .val (.int u1), .val (.ref b1), .val (.ref b6), .val (.int (u0 + (0 : Int32))), .val (.int (u1 + (0 : Int32))), .unset, .unset, .unset] [(.ref b1)])) (fun t_ k_ => XS.aloadN X21.here hx rfl (hb hby at_30) rfl rfl k_) ?_
  have u28 := u15.keep K13
  have u29 := u28.keep K21
  have u30 := Ft13.keep K21 (ninS ne8 nin0)
  have u31 := Fw_13.keep K21 (ninS ne8 nin0)
  obtain ⟨cq27, kq27, q27a, q27b, q27c⟩ := isOf hZ rfl u29
  obtain ⟨_, _, ⟨T27, L27, k27, n27⟩, -, X27, ⟨Lc27, hQ27, l27, y27, z27⟩, st27⟩ := X21.virtualBack hx (y := (⟨"com/example/histrix/histrix/Polygraph", "addWaypoint", "()I"⟩ : MethodName)) (z := (⟨"com/example/histrix/histrix/Polygraph", "addWaypoint", "()I"⟩ : MethodName)) hown (mvT hZ (hw _ (List.mem_of_getElem? (i := 45) rfl))) (mvT hZ (hw _ (List.mem_of_getElem? (i := 46) rfl))) (notFace_of_selects (args := #[]) (mvT hZ (hw _ (List.mem_of_getElem? (i := 48) rfl)))) (mvT hZ (hw _ (List.mem_of_getElem? (i := 48) rfl))) (mvT hZ (hw _ (List.mem_of_getElem? (i := 47) rfl))) (by decide) (backOf (W := 0) (rm7 l Z a0 hw [] b1 u0 ((0 : Int32) + (1 : Int32)) T21.heap n0 Z26 u29 u30 u31 g2) hZ (hw _ (List.mem_of_getElem? (i := 49) rfl)) (hw _ (List.mem_of_getElem? (i := 2) rfl)) (by decide) (by decide)) q27a q27c (g := (mkF m 31 #[.val (.int u0), .val (.int u1), .val (.ref b1), .val (.ref b6), .val (.int (u0 + (0 : Int32))), .val (.int (u1 + (0 : Int32))), .unset, .unset, .unset] [(.ref b1)])) rfl (by rw [hml]; rfl) (Steps.refl _) (argsL := []) (rest := []) (lenOf own_pd3 rfl) rfl (by show 2 * 0 + _ ≤ _; exact Nat.le_of_eq rfl) (hb hby at_31) (fun _ _ => ⟨rfl, rfl, (by decide : 22 + 0 ≤ _), (by decide : 194 + 0 ≤ _)⟩)
  dsimp only [Pt.U, Pt.locs, Pt.cells, Pt.slots] at X27 l27 y27 z27 st27 hQ27
  subst l27 y27 z27
  obtain ⟨rfl, N27q, K27, Ft27, Fw_27⟩ := hQ27
  have N27 := Fr.app N21 N27q
  have Z32 := Nat.le_trans Z26 K27.1
  refine own_st (B := T27.setTop (mkF m 34 #[.val (.int u0), .val (.int u1), .val (.ref b1), .val (.ref b6), .val (.int (u0 + (0 : Int32))), .val (.int (u1 + (0 : Int32))), .unset, .unset, .unset] [(.int (u0 + ((0 : Int32) + (1 : Int32))))])) (fun t_ k_ => st27.trans k_) ?_
  refine own_st (B := T27.setTop (mkF m 36 #[.val (.int u0), .val (.int u1), .val (.ref b1), .val (.ref b6), .val (.int (u0 + (0 : Int32))), .val (.int (u1 + (0 : Int32))), .val (.int (u0 + ((0 : Int32) + (1 : Int32)))), .unset, .unset] [])) (fun t_ k_ => XS.istore X27.here hx rfl (hb hby at_34) rfl (l' := #[.val (.int u0), .val (.int u1), .val (.ref b1), .val (.ref b6), .val (.int (u0 + (0 : Int32))), .val (.int (u1 + (0 : Int32))), .val (.int (u0 + ((0 : Int32) + (1 : Int32)))), .unset, .unset]) rfl k_) ?_
  refine own_st (B := T27.setTop (mkF m 37 #[.val (.int u0), .val (.int u1), .val (.ref b1), .val (.ref b6), .val (.int (u0 + (0 : Int32))), .val (.int (u1 + (0 : Int32))), .val (.int (u0 + ((0 : Int32) + (1 : Int32)))), .unset, .unset] [(.ref b1)])) (fun t_ k_ => XS.aloadN X27.here hx rfl (hb hby at_36) rfl rfl k_) ?_
  have u34 := u29.keep K27
  obtain ⟨cq33, kq33, q33a, q33b, q33c⟩ := isOf hZ rfl u34
  obtain ⟨_, _, ⟨T33, L33, k33, n33⟩, -, X33, ⟨Lc33, hQ33, l33, y33, z33⟩, st33⟩ := X27.virtualBack hx (y := (⟨"com/example/histrix/histrix/Polygraph", "addWaypoint", "()I"⟩ : MethodName)) (z := (⟨"com/example/histrix/histrix/Polygraph", "addWaypoint", "()I"⟩ : MethodName)) hown (mvT hZ (hw _ (List.mem_of_getElem? (i := 45) rfl))) (mvT hZ (hw _ (List.mem_of_getElem? (i := 46) rfl))) (notFace_of_selects (args := #[]) (mvT hZ (hw _ (List.mem_of_getElem? (i := 48) rfl)))) (mvT hZ (hw _ (List.mem_of_getElem? (i := 48) rfl))) (mvT hZ (hw _ (List.mem_of_getElem? (i := 47) rfl))) (by decide) (backOf (W := 0) (rm7 l Z a0 hw [] b1 u0 (((0 : Int32) + (1 : Int32)) + (1 : Int32)) T27.heap n0 Z32 u34 Ft27 Fw_27 g2) hZ (hw _ (List.mem_of_getElem? (i := 49) rfl)) (hw _ (List.mem_of_getElem? (i := 2) rfl)) (by decide) (by decide)) q33a q33c (g := (mkF m 37 #[.val (.int u0), .val (.int u1), .val (.ref b1), .val (.ref b6), .val (.int (u0 + (0 : Int32))), .val (.int (u1 + (0 : Int32))), .val (.int (u0 + ((0 : Int32) + (1 : Int32)))), .unset, .unset] [(.ref b1)])) rfl (by rw [hml]; rfl) (Steps.refl _) (argsL := []) (rest := []) (lenOf own_pd3 rfl) rfl (by show 2 * 0 + _ ≤ _; exact Nat.le_of_eq rfl) (hb hby at_37) (fun _ _ => ⟨rfl, rfl, (by decide : 22 + 0 ≤ _), (by decide : 194 + 0 ≤ _)⟩)
  dsimp only [Pt.U, Pt.locs, Pt.cells, Pt.slots] at X33 l33 y33 z33 st33 hQ33
  subst l33 y33 z33
  obtain ⟨rfl, N33q, K33, Ft33, Fw_33⟩ := hQ33
  have N33 := Fr.app N27 N33q
  have Z35 := Nat.le_trans Z32 K33.1
  refine own_st (B := T33.setTop (mkF m 40 #[.val (.int u0), .val (.int u1), .val (.ref b1), .val (.ref b6), .val (.int (u0 + (0 : Int32))), .val (.int (u1 + (0 : Int32))), .val (.int (u0 + ((0 : Int32) + (1 : Int32)))), .unset, .unset] [(.int (u0 + (((0 : Int32) + (1 : Int32)) + (1 : Int32))))])) (fun t_ k_ => st33.trans k_) ?_
  refine own_st (B := T33.setTop (mkF m 42 #[.val (.int u0), .val (.int u1), .val (.ref b1), .val (.ref b6), .val (.int (u0 + (0 : Int32))), .val (.int (u1 + (0 : Int32))), .val (.int (u0 + ((0 : Int32) + (1 : Int32)))), .val (.int (u0 + (((0 : Int32) + (1 : Int32)) + (1 : Int32)))), .unset] [])) (fun t_ k_ => XS.istore X33.here hx rfl (hb hby at_40) rfl (l' := #[.val (.int u0), .val (.int u1), .val (.ref b1), .val (.ref b6), .val (.int (u0 + (0 : Int32))), .val (.int (u1 + (0 : Int32))), .val (.int (u0 + ((0 : Int32) + (1 : Int32)))), .val (.int (u0 + (((0 : Int32) + (1 : Int32)) + (1 : Int32)))), .unset]) rfl k_) ?_
  refine own_st (B := T33.setTop (mkF m 43 #[.val (.int u0), .val (.int u1), .val (.ref b1), .val (.ref b6), .val (.int (u0 + (0 : Int32))), .val (.int (u1 + (0 : Int32))), .val (.int (u0 + ((0 : Int32) + (1 : Int32)))), .val (.int (u0 + (((0 : Int32) + (1 : Int32)) + (1 : Int32)))), .unset] [(.ref b6)])) (fun t_ k_ => XS.aloadN X33.here hx rfl (hb hby at_42) rfl rfl k_) ?_
  have u37 := u23.keep K21
  have u38 := u37.keep K27
  have u39 := u38.keep K33
  have u40 := Ft21.keep K27 (ninS (Ne.symm ne8) nin0)
  have u41 := u40.keep K33 (ninS (Ne.symm ne8) nin0)
  have u42 := Fw_21.keep K27 (ninS (Ne.symm ne8) nin0)
  have u43 := u42.keep K33 (ninS (Ne.symm ne8) nin0)
  obtain ⟨cq36, kq36, q36a, q36b, q36c⟩ := isOf hZ rfl u39
  obtain ⟨_, _, ⟨T36, L36, k36, n36⟩, -, X36, ⟨Lc36, hQ36, l36, y36, z36⟩, st36⟩ := X33.virtualBack hx (y := (⟨"com/example/histrix/histrix/Polygraph", "addWaypoint", "()I"⟩ : MethodName)) (z := (⟨"com/example/histrix/histrix/Polygraph", "addWaypoint", "()I"⟩ : MethodName)) hown (mvT hZ (hw _ (List.mem_of_getElem? (i := 45) rfl))) (mvT hZ (hw _ (List.mem_of_getElem? (i := 46) rfl))) (notFace_of_selects (args := #[]) (mvT hZ (hw _ (List.mem_of_getElem? (i := 48) rfl)))) (mvT hZ (hw _ (List.mem_of_getElem? (i := 48) rfl))) (mvT hZ (hw _ (List.mem_of_getElem? (i := 47) rfl))) (by decide) (backOf (W := 0) (rm7 l Z a0 hw [] b6 u1 ((0 : Int32) + (1 : Int32)) T33.heap n0 Z35 u39 u41 u43 g9) hZ (hw _ (List.mem_of_getElem? (i := 49) rfl)) (hw _ (List.mem_of_getElem? (i := 2) rfl)) (by decide) (by decide)) q36a q36c (g := (mkF m 43 #[.val (.int u0), .val (.int u1), .val (.ref b1), .val (.ref b6), .val (.int (u0 + (0 : Int32))), .val (.int (u1 + (0 : Int32))), .val (.int (u0 + ((0 : Int32) + (1 : Int32)))), .val (.int (u0 + (((0 : Int32) + (1 : Int32)) + (1 : Int32)))), .unset] [(.ref b6)])) rfl (by rw [hml]; rfl) (Steps.refl _) (argsL := []) (rest := []) (lenOf own_pd3 rfl) rfl (by show 2 * 0 + _ ≤ _; exact Nat.le_of_eq rfl) (hb hby at_43) (fun _ _ => ⟨rfl, rfl, (by decide : 22 + 0 ≤ _), (by decide : 194 + 0 ≤ _)⟩)
  dsimp only [Pt.U, Pt.locs, Pt.cells, Pt.slots] at X36 l36 y36 z36 st36 hQ36
  subst l36 y36 z36
  obtain ⟨rfl, N36q, K36, Ft36, Fw_36⟩ := hQ36
  have N36 := Fr.app N33 N36q
  have Z44 := Nat.le_trans Z35 K36.1
  refine own_st (B := T36.setTop (mkF m 46 #[.val (.int u0), .val (.int u1), .val (.ref b1), .val (.ref b6), .val (.int (u0 + (0 : Int32))), .val (.int (u1 + (0 : Int32))), .val (.int (u0 + ((0 : Int32) + (1 : Int32)))), .val (.int (u0 + (((0 : Int32) + (1 : Int32)) + (1 : Int32)))), .unset] [(.int (u1 + ((0 : Int32) + (1 : Int32))))])) (fun t_ k_ => st36.trans k_) ?_
  refine own_st (B := T36.setTop (mkF m 48 #[.val (.int u0), .val (.int u1), .val (.ref b1), .val (.ref b6), .val (.int (u0 + (0 : Int32))), .val (.int (u1 + (0 : Int32))), .val (.int (u0 + ((0 : Int32) + (1 : Int32)))), .val (.int (u0 + (((0 : Int32) + (1 : Int32)) + (1 : Int32)))), .val (.int (u1 + ((0 : Int32) + (1 : Int32))))] [])) (fun t_ k_ => XS.istore X36.here hx rfl (hb hby at_46) rfl (l' := #[.val (.int u0), .val (.int u1), .val (.ref b1), .val (.ref b6), .val (.int (u0 + (0 : Int32))), .val (.int (u1 + (0 : Int32))), .val (.int (u0 + ((0 : Int32) + (1 : Int32)))), .val (.int (u0 + (((0 : Int32) + (1 : Int32)) + (1 : Int32)))), .val (.int (u1 + ((0 : Int32) + (1 : Int32))))]) rfl k_) ?_
  refine own_st (B := T36.setTop (mkF m 50 #[.val (.int u0), .val (.int u1), .val (.ref b1), .val (.ref b6), .val (.int (u0 + (0 : Int32))), .val (.int (u1 + (0 : Int32))), .val (.int (u0 + ((0 : Int32) + (1 : Int32)))), .val (.int (u0 + (((0 : Int32) + (1 : Int32)) + (1 : Int32)))), .val (.int (u1 + ((0 : Int32) + (1 : Int32))))] [(.int (u0 + (0 : Int32)))])) (fun t_ k_ => XS.iload X36.here hx rfl (hb hby at_48) rfl k_) ?_
  refine own_st (B := T36.setTop (mkF m 51 #[.val (.int u0), .val (.int u1), .val (.ref b1), .val (.ref b6), .val (.int (u0 + (0 : Int32))), .val (.int (u1 + (0 : Int32))), .val (.int (u0 + ((0 : Int32) + (1 : Int32)))), .val (.int (u0 + (((0 : Int32) + (1 : Int32)) + (1 : Int32)))), .val (.int (u1 + ((0 : Int32) + (1 : Int32))))] [(.int u0), (.int (u0 + (0 : Int32)))])) (fun t_ k_ => XS.iloadN X36.here hx rfl (hb hby at_50) rfl k_) ?_
  have hc45 : (u0 + (0 : Int32)) = u0 := Int32.add_zero u0
  have hd45 := own_eq32 hc45
  refine own_st (B := T36.setTop (mkF m 54 #[.val (.int u0), .val (.int u1), .val (.ref b1), .val (.ref b6), .val (.int (u0 + (0 : Int32))), .val (.int (u1 + (0 : Int32))), .val (.int (u0 + ((0 : Int32) + (1 : Int32)))), .val (.int (u0 + (((0 : Int32) + (1 : Int32)) + (1 : Int32)))), .val (.int (u1 + ((0 : Int32) + (1 : Int32))))] [])) (fun t_ k_ => XS.icmpNo X36.here hx rfl (hb hby at_51) rfl (teq hc45).2 k_) ?_
  refine own_st (B := T36.setTop (mkF m 56 #[.val (.int u0), .val (.int u1), .val (.ref b1), .val (.ref b6), .val (.int (u0 + (0 : Int32))), .val (.int (u1 + (0 : Int32))), .val (.int (u0 + ((0 : Int32) + (1 : Int32)))), .val (.int (u0 + (((0 : Int32) + (1 : Int32)) + (1 : Int32)))), .val (.int (u1 + ((0 : Int32) + (1 : Int32))))] [(.int (u0 + ((0 : Int32) + (1 : Int32))))])) (fun t_ k_ => XS.iload X36.here hx rfl (hb hby at_54) rfl k_) ?_
  refine own_st (B := T36.setTop (mkF m 57 #[.val (.int u0), .val (.int u1), .val (.ref b1), .val (.ref b6), .val (.int (u0 + (0 : Int32))), .val (.int (u1 + (0 : Int32))), .val (.int (u0 + ((0 : Int32) + (1 : Int32)))), .val (.int (u0 + (((0 : Int32) + (1 : Int32)) + (1 : Int32)))), .val (.int (u1 + ((0 : Int32) + (1 : Int32))))] [(.int u0), (.int (u0 + ((0 : Int32) + (1 : Int32))))])) (fun t_ k_ => XS.iloadN X36.here hx rfl (hb hby at_56) rfl k_) ?_
  refine own_st (B := T36.setTop (mkF m 58 #[.val (.int u0), .val (.int u1), .val (.ref b1), .val (.ref b6), .val (.int (u0 + (0 : Int32))), .val (.int (u1 + (0 : Int32))), .val (.int (u0 + ((0 : Int32) + (1 : Int32)))), .val (.int (u0 + (((0 : Int32) + (1 : Int32)) + (1 : Int32)))), .val (.int (u1 + ((0 : Int32) + (1 : Int32))))] [(.int (1 : Int32)), (.int u0), (.int (u0 + ((0 : Int32) + (1 : Int32))))])) (fun t_ k_ => XS.iconst X36.here hx rfl (hb hby at_57) k_) ?_
  refine own_st (B := T36.setTop (mkF m 59 #[.val (.int u0), .val (.int u1), .val (.ref b1), .val (.ref b6), .val (.int (u0 + (0 : Int32))), .val (.int (u1 + (0 : Int32))), .val (.int (u0 + ((0 : Int32) + (1 : Int32)))), .val (.int (u0 + (((0 : Int32) + (1 : Int32)) + (1 : Int32)))), .val (.int (u1 + ((0 : Int32) + (1 : Int32))))] [(.int (u0 + (1 : Int32))), (.int (u0 + ((0 : Int32) + (1 : Int32))))])) (fun t_ k_ => XS.iadd X36.here hx rfl (hb hby at_58) rfl k_) ?_
  have hc46 : (u0 + ((0 : Int32) + (1 : Int32))) = (u0 + (1 : Int32)) := congrArg (u0 + ·) (by decide)
  have hd46 := own_eq32 hc46
  refine own_st (B := T36.setTop (mkF m 62 #[.val (.int u0), .val (.int u1), .val (.ref b1), .val (.ref b6), .val (.int (u0 + (0 : Int32))), .val (.int (u1 + (0 : Int32))), .val (.int (u0 + ((0 : Int32) + (1 : Int32)))), .val (.int (u0 + (((0 : Int32) + (1 : Int32)) + (1 : Int32)))), .val (.int (u1 + ((0 : Int32) + (1 : Int32))))] [])) (fun t_ k_ => XS.icmpNo X36.here hx rfl (hb hby at_59) rfl (teq hc46).2 k_) ?_
  refine own_st (B := T36.setTop (mkF m 64 #[.val (.int u0), .val (.int u1), .val (.ref b1), .val (.ref b6), .val (.int (u0 + (0 : Int32))), .val (.int (u1 + (0 : Int32))), .val (.int (u0 + ((0 : Int32) + (1 : Int32)))), .val (.int (u0 + (((0 : Int32) + (1 : Int32)) + (1 : Int32)))), .val (.int (u1 + ((0 : Int32) + (1 : Int32))))] [(.int (u0 + (((0 : Int32) + (1 : Int32)) + (1 : Int32))))])) (fun t_ k_ => XS.iload X36.here hx rfl (hb hby at_62) rfl k_) ?_
  refine own_st (B := T36.setTop (mkF m 65 #[.val (.int u0), .val (.int u1), .val (.ref b1), .val (.ref b6), .val (.int (u0 + (0 : Int32))), .val (.int (u1 + (0 : Int32))), .val (.int (u0 + ((0 : Int32) + (1 : Int32)))), .val (.int (u0 + (((0 : Int32) + (1 : Int32)) + (1 : Int32)))), .val (.int (u1 + ((0 : Int32) + (1 : Int32))))] [(.int u0), (.int (u0 + (((0 : Int32) + (1 : Int32)) + (1 : Int32))))])) (fun t_ k_ => XS.iloadN X36.here hx rfl (hb hby at_64) rfl k_) ?_
  refine own_st (B := T36.setTop (mkF m 66 #[.val (.int u0), .val (.int u1), .val (.ref b1), .val (.ref b6), .val (.int (u0 + (0 : Int32))), .val (.int (u1 + (0 : Int32))), .val (.int (u0 + ((0 : Int32) + (1 : Int32)))), .val (.int (u0 + (((0 : Int32) + (1 : Int32)) + (1 : Int32)))), .val (.int (u1 + ((0 : Int32) + (1 : Int32))))] [(.int (2 : Int32)), (.int u0), (.int (u0 + (((0 : Int32) + (1 : Int32)) + (1 : Int32))))])) (fun t_ k_ => XS.iconst X36.here hx rfl (hb hby at_65) k_) ?_
  refine own_st (B := T36.setTop (mkF m 67 #[.val (.int u0), .val (.int u1), .val (.ref b1), .val (.ref b6), .val (.int (u0 + (0 : Int32))), .val (.int (u1 + (0 : Int32))), .val (.int (u0 + ((0 : Int32) + (1 : Int32)))), .val (.int (u0 + (((0 : Int32) + (1 : Int32)) + (1 : Int32)))), .val (.int (u1 + ((0 : Int32) + (1 : Int32))))] [(.int (u0 + (2 : Int32))), (.int (u0 + (((0 : Int32) + (1 : Int32)) + (1 : Int32))))])) (fun t_ k_ => XS.iadd X36.here hx rfl (hb hby at_66) rfl k_) ?_
  have hc47 : (u0 + (((0 : Int32) + (1 : Int32)) + (1 : Int32))) = (u0 + (2 : Int32)) := congrArg (u0 + ·) (by decide)
  have hd47 := own_eq32 hc47
  refine own_st (B := T36.setTop (mkF m 70 #[.val (.int u0), .val (.int u1), .val (.ref b1), .val (.ref b6), .val (.int (u0 + (0 : Int32))), .val (.int (u1 + (0 : Int32))), .val (.int (u0 + ((0 : Int32) + (1 : Int32)))), .val (.int (u0 + (((0 : Int32) + (1 : Int32)) + (1 : Int32)))), .val (.int (u1 + ((0 : Int32) + (1 : Int32))))] [])) (fun t_ k_ => XS.icmpNo X36.here hx rfl (hb hby at_67) rfl (teq hc47).2 k_) ?_
  refine own_st (B := T36.setTop (mkF m 72 #[.val (.int u0), .val (.int u1), .val (.ref b1), .val (.ref b6), .val (.int (u0 + (0 : Int32))), .val (.int (u1 + (0 : Int32))), .val (.int (u0 + ((0 : Int32) + (1 : Int32)))), .val (.int (u0 + (((0 : Int32) + (1 : Int32)) + (1 : Int32)))), .val (.int (u1 + ((0 : Int32) + (1 : Int32))))] [(.int (u1 + (0 : Int32)))])) (fun t_ k_ => XS.iload X36.here hx rfl (hb hby at_70) rfl k_) ?_
  refine own_st (B := T36.setTop (mkF m 73 #[.val (.int u0), .val (.int u1), .val (.ref b1), .val (.ref b6), .val (.int (u0 + (0 : Int32))), .val (.int (u1 + (0 : Int32))), .val (.int (u0 + ((0 : Int32) + (1 : Int32)))), .val (.int (u0 + (((0 : Int32) + (1 : Int32)) + (1 : Int32)))), .val (.int (u1 + ((0 : Int32) + (1 : Int32))))] [(.int u1), (.int (u1 + (0 : Int32)))])) (fun t_ k_ => XS.iloadN X36.here hx rfl (hb hby at_72) rfl k_) ?_
  have hc48 : (u1 + (0 : Int32)) = u1 := Int32.add_zero u1
  have hd48 := own_eq32 hc48
  refine own_st (B := T36.setTop (mkF m 76 #[.val (.int u0), .val (.int u1), .val (.ref b1), .val (.ref b6), .val (.int (u0 + (0 : Int32))), .val (.int (u1 + (0 : Int32))), .val (.int (u0 + ((0 : Int32) + (1 : Int32)))), .val (.int (u0 + (((0 : Int32) + (1 : Int32)) + (1 : Int32)))), .val (.int (u1 + ((0 : Int32) + (1 : Int32))))] [])) (fun t_ k_ => XS.icmpNo X36.here hx rfl (hb hby at_73) rfl (teq hc48).2 k_) ?_
  refine own_st (B := T36.setTop (mkF m 78 #[.val (.int u0), .val (.int u1), .val (.ref b1), .val (.ref b6), .val (.int (u0 + (0 : Int32))), .val (.int (u1 + (0 : Int32))), .val (.int (u0 + ((0 : Int32) + (1 : Int32)))), .val (.int (u0 + (((0 : Int32) + (1 : Int32)) + (1 : Int32)))), .val (.int (u1 + ((0 : Int32) + (1 : Int32))))] [(.int (u1 + ((0 : Int32) + (1 : Int32))))])) (fun t_ k_ => XS.iload X36.here hx rfl (hb hby at_76) rfl k_) ?_
  refine own_st (B := T36.setTop (mkF m 79 #[.val (.int u0), .val (.int u1), .val (.ref b1), .val (.ref b6), .val (.int (u0 + (0 : Int32))), .val (.int (u1 + (0 : Int32))), .val (.int (u0 + ((0 : Int32) + (1 : Int32)))), .val (.int (u0 + (((0 : Int32) + (1 : Int32)) + (1 : Int32)))), .val (.int (u1 + ((0 : Int32) + (1 : Int32))))] [(.int u1), (.int (u1 + ((0 : Int32) + (1 : Int32))))])) (fun t_ k_ => XS.iloadN X36.here hx rfl (hb hby at_78) rfl k_) ?_
  refine own_st (B := T36.setTop (mkF m 80 #[.val (.int u0), .val (.int u1), .val (.ref b1), .val (.ref b6), .val (.int (u0 + (0 : Int32))), .val (.int (u1 + (0 : Int32))), .val (.int (u0 + ((0 : Int32) + (1 : Int32)))), .val (.int (u0 + (((0 : Int32) + (1 : Int32)) + (1 : Int32)))), .val (.int (u1 + ((0 : Int32) + (1 : Int32))))] [(.int (1 : Int32)), (.int u1), (.int (u1 + ((0 : Int32) + (1 : Int32))))])) (fun t_ k_ => XS.iconst X36.here hx rfl (hb hby at_79) k_) ?_
  refine own_st (B := T36.setTop (mkF m 81 #[.val (.int u0), .val (.int u1), .val (.ref b1), .val (.ref b6), .val (.int (u0 + (0 : Int32))), .val (.int (u1 + (0 : Int32))), .val (.int (u0 + ((0 : Int32) + (1 : Int32)))), .val (.int (u0 + (((0 : Int32) + (1 : Int32)) + (1 : Int32)))), .val (.int (u1 + ((0 : Int32) + (1 : Int32))))] [(.int (u1 + (1 : Int32))), (.int (u1 + ((0 : Int32) + (1 : Int32))))])) (fun t_ k_ => XS.iadd X36.here hx rfl (hb hby at_80) rfl k_) ?_
  have hc49 : (u1 + ((0 : Int32) + (1 : Int32))) = (u1 + (1 : Int32)) := congrArg (u1 + ·) (by decide)
  have hd49 := own_eq32 hc49
  refine own_st (B := T36.setTop (mkF m 84 #[.val (.int u0), .val (.int u1), .val (.ref b1), .val (.ref b6), .val (.int (u0 + (0 : Int32))), .val (.int (u1 + (0 : Int32))), .val (.int (u0 + ((0 : Int32) + (1 : Int32)))), .val (.int (u0 + (((0 : Int32) + (1 : Int32)) + (1 : Int32)))), .val (.int (u1 + ((0 : Int32) + (1 : Int32))))] [])) (fun t_ k_ => XS.icmpNo X36.here hx rfl (hb hby at_81) rfl (teq hc49).2 k_) ?_
  refine own_st (B := T36.setTop (mkF m 85 #[.val (.int u0), .val (.int u1), .val (.ref b1), .val (.ref b6), .val (.int (u0 + (0 : Int32))), .val (.int (u1 + (0 : Int32))), .val (.int (u0 + ((0 : Int32) + (1 : Int32)))), .val (.int (u0 + (((0 : Int32) + (1 : Int32)) + (1 : Int32)))), .val (.int (u1 + ((0 : Int32) + (1 : Int32))))] [(.int (1 : Int32))])) (fun t_ k_ => XS.iconst X36.here hx rfl (hb hby at_84) k_) ?_
  refine own_st (B := T36.setTop (mkF m 89 #[.val (.int u0), .val (.int u1), .val (.ref b1), .val (.ref b6), .val (.int (u0 + (0 : Int32))), .val (.int (u1 + (0 : Int32))), .val (.int (u0 + ((0 : Int32) + (1 : Int32)))), .val (.int (u0 + (((0 : Int32) + (1 : Int32)) + (1 : Int32)))), .val (.int (u1 + ((0 : Int32) + (1 : Int32))))] [(.int (1 : Int32))])) (fun t_ k_ => XS.goto X36.here hx rfl (pc0 := 85) (pc' := 89) rfl (hb hby at_85) (by decide) (by decide) k_) ?_
  refine own_retN X36 hx (t := .boolean) Bd.returns (by simp) hlk (hb hby at_89) (z' := (1 : Int32)) (by first | rfl | exact own_nb _ | exact own_nbb _) (by decide) (by decide) ?_
  show Q0 Z u0 u1 h0 n0 _ T36.heap _
  exact ⟨rfl, N36⟩
set_option maxRecDepth 65536 in
set_option maxHeartbeats 40000000 in
theorem comes_1 {Post : Tables → Env → Array Value → State → Outcome → State → Prop} (hpost : ∀ tb e args s v u, (limb_1_1.after args s (.returned v) u = true ∧ limb_1_2.after args s (.returned v) u = true ∧ True) → FrameEnd s (.returned v) u (Jvm.fieldLocs frame_1_writes args s ++ Jvm.arrayLocs frame_1_arrays args s ++ Jvm.staticLocs frame_1_statics s) 56 512 → Post tb e args s (.returned v) u) :
    ArmFor flags0 classFile x code maxLocals ret World_1 tables_1 room_1 Calls_1 rest_1 Pre_1 Post := by
  intro l hfl _ _ p e ha hc hk s m args below hf hA hF happ hP
  obtain ⟨hcalls, hrest, hpre⟩ := hP
  obtain ⟨-, -, -, hnamed, -, -, -, hat⟩ := (Spec.applies_iff hf).mp happ
  obtain ⟨hg, hn⟩ := and_e (Cond.before_iff.mp (show (Jvm.Cond.and given_1 narrow_1).before args s = true from hpre))
  obtain ⟨gg1, gg2⟩ := and_e hg
  obtain ⟨gg3, gg4⟩ := and_e gg2
  obtain ⟨w0, w1, rfl⟩ : ∃ w0 w1 : Value, args = #[w0, w1] := by
    have hs : args.size = 2 := by simpa [Cond.value, given_1] using gg1
    obtain ⟨L⟩ := args
    match L, hs with
    | [w0, w1], _ => exact ⟨w0, w1, rfl⟩
  have hw := fun d (hd : d ∈ tables_1) => atoms_spec (ws := Jvm.Cond.code x code maxLocals ret :: tables_1) hat d (List.mem_cons_of_mem _ hd)
  have hfit : Fit s := fun {y c} hc i hi => by
    obtain ⟨ha, rfl⟩ := Array.getElem?_eq_some_iff.mp hc
    have q := List.all_eq_true.mp ((Array.all_eq_true_iff_forall_mem.mp hF) _ (Array.getElem_mem ha)) i (List.mem_range.mpr hi)
    simpa [Array.getElem?_eq_getElem hi] using q
  obtain ⟨i0, ei0⟩ := is_v gg3
  obtain rfl : w0 = (.int i0) := Option.some.inj ei0
  obtain ⟨i1, ei1⟩ := is_v gg4
  obtain rfl : w1 = (.int i1) := Option.some.inj ei1
  obtain ⟨n, o, h1, h2, h3, _, L, rfl, ⟨rfl, N⟩, hq⟩ := rm0 l s _ hw tables_1 i0 i1 s.heap s.heap.size (Nat.le_refl _)  p e ha hc hk s m _ below hf ((Spec.applies_iff_loose hf).mp happ).1 ⟨rfl, State.Warmed39.refl s, rfl⟩ trivial
  refine ⟨n, _, h1, h2, h3, hpost _ _ _ _ _ _ ⟨Cond.after_iff.mpr rfl, Cond.after_iff.mpr (eq_i res_at (Term.int_eval (1)) rfl), trivial⟩ ⟨hq.1, hq.2.1, (hq.2.2.sift fun y hy => Or.inr (N y hy)).mono (by decide) (by decide)⟩⟩
theorem main_1_1 : Claimed_1_1 := comes_1 fun _ _ _ _ _ _ h hF => ⟨h.1, hF⟩
theorem main_1_2 : Claimed_1_2 := comes_1 fun _ _ _ _ _ _ h hF => ⟨h.2.1, hF⟩
end Jvm.Pilot.@@N@@
namespace Jvm.Pilot.@@N@@
open Jvm Jvm.ClassFile Sem Op Lib Jvm.Free Jvm.Stand Jvm.Pilot.@@N@@.Jvm.D
/-! MADE BY PROGRAM (witnessworld.py) out of the Statement's table words and the real class files: 11 classes; the members and pool entries that the words name. The judged class is class 1, her method 1. -/
namespace start1
open Jvm.ClassFile
def u (s : String) : CpInfo := .utf8 (stringToUtf16 s)
/-- a pool by its gaps: so many unusable entries, then the entry; so many at the end -/
def gap : Nat → List CpInfo → List CpInfo
  | 0, r => r
  | n + 1, r => .unusable :: gap n r
def poolList (es : List (Nat × CpInfo)) (last : Nat) : List CpInfo := es.foldr (fun e r => gap e.1 (e.2 :: r)) (gap last [])
def pool (es : List (Nat × CpInfo)) (last : Nat) : Array CpInfo := ⟨poolList es last⟩
def fileOf (pool : Array CpInfo) (this : Nat) (attrs : Array Attribute := #[]) (ms : Array MethodInfo := #[]) (fl : Nat := 33) (sup : Nat := 0) (ifs : Array Nat := #[]) (fds : Array FieldInfo := #[]) : ClassFile where
  minorVersion := 0
  majorVersion := 65
  constantPool := pool
  accessFlags := fl
  thisClass := this
  superClass := sup
  interfaces := ifs
  fields := fds
  methods := ms
  attributes := attrs
def plain (name : String) (sup : Option ClassId) : Class where
  name := name
  kind := .ordinary
  loader := none
  accessFlags := 33
  super := sup
  interfaces := #[]
  cf := none
  fields := #[]
  methods := #[]
  instanceTypes := #[]
  staticTypes := #[]
  resolved := #[]
  callSites := []
  init := .initialized
  statics := none
  mirror := none

def pool0 : Array CpInfo := pool [(5, u "<init>"), (0, u "()V"), (1, .class_ 10), (1, u "java/lang/Object")] 113

def k0c0 : Code := { maxStack := 0, maxLocals := 1, code := object_method_1_code, exceptionTable := #[], attributes := #[] }
def k0m0 : Method := { name := "<init>", desc := "()V", sig := { parameters := [], returnType := none }, accessFlags := 1, code := some k0c0 }
/-- java/lang/Object -/
def k0 : Class := { plain "java/lang/Object" none with
  accessFlags := 33
  interfaces := #[]
  cf := some (fileOf pool0 8 #[] #[{ accessFlags := 1, nameIndex := 5, descriptorIndex := 6, attributes := #[] }] 33 0 #[] #[])
  fields := #[]
  methods := #[k0m0]
  instanceTypes := #[]
  staticTypes := #[]
  resolved := Array.replicate 124 none
  statics := none }

def pool1 : Array CpInfo := pool [(2, .class_ 4), (1, u "java/lang/Object"), (0, u "<init>"), (0, u "()V"), (0, .class_ 8), (0, u "com/example/histrix/histrix/Polygraph"), (0, .methodref 7 10), (0, .nameAndType 5 11), (0, u "(I)V"), (0, .methodref 7 13), (0, .nameAndType 14 15), (0, u "addWaypoint"), (0, u "()I"), (0, .class_ 17), (0, u "com/example/histrix/histrix/PolygraphAddWaypointPinLaw"), (2, u "law"), (0, u "(II)Z")] 3

def k1m0 : Method := { name := "<init>", desc := "()V", sig := { parameters := [], returnType := none }, accessFlags := 1, code := none }
def k1c1 : Code := { maxStack := 3, maxLocals := 9, code := code, exceptionTable := #[], attributes := #[] }
def k1m1 : Method := { name := "law", desc := "(II)Z", sig := { parameters := [.int, .int], returnType := some .boolean }, accessFlags := 9, code := some k1c1 }
/-- com/example/histrix/histrix/PolygraphAddWaypointPinLaw -/
def k1 : Class := { plain "com/example/histrix/histrix/PolygraphAddWaypointPinLaw" (some 0) with
  accessFlags := 49
  interfaces := #[]
  cf := some (fileOf pool1 16 #[] #[{ accessFlags := 1, nameIndex := 5, descriptorIndex := 6, attributes := #[] }, { accessFlags := 9, nameIndex := 20, descriptorIndex := 21, attributes := #[] }] 49 2 #[] #[])
  fields := #[]
  methods := #[k1m0, k1m1]
  instanceTypes := #[]
  staticTypes := #[]
  resolved := Array.replicate 25 none
  statics := none }

def pool2 : Array CpInfo := pool [(3, .methodref 4 5), (0, .class_ 6), (0, .nameAndType 7 8), (0, u "java/lang/Object"), (0, u "<init>"), (0, u "()V"), (0, .class_ 10), (0, u "com/example/histrix/histrix/IntList"), (0, .methodref 9 5), (0, .fieldref 13 14), (0, .class_ 15), (0, .nameAndType 16 17), (0, u "com/example/histrix/histrix/Polygraph"), (0, u "requiredFrom"), (0, u "Lcom/example/histrix/histrix/IntList;"), (0, .fieldref 13 19), (0, .nameAndType 20 17), (0, u "requiredTo"), (0, .fieldref 13 22), (0, .nameAndType 23 17), (0, u "setMembers"), (0, .fieldref 13 25), (0, .nameAndType 26 17), (0, u "setStart"), (0, .fieldref 13 28), (0, .nameAndType 29 17), (0, u "exclusions"), (0, .fieldref 13 31), (0, .nameAndType 32 33), (0, u "transactionCount"), (0, u "I"), (0, .methodref 9 35), (0, .nameAndType 36 37), (0, u "add"), (0, u "(I)V"), (0, .fieldref 13 39), (0, .nameAndType 40 33), (0, u "waypointCount"), (3, u "()I"), (28, .class_ 74), (0, u "com/example/histrix/histrix/Polygraph$Runs"), (45, .class_ 121), (0, u "com/example/histrix/histrix/Polygraph$Search"), (9, u "LONGEST_ARRAY"), (4, u "addWaypoint"), (21, .class_ 159), (0, u "com/example/histrix/histrix/Polygraph$Search$Weight")] 18

def k2c0 : Code := { maxStack := 3, maxLocals := 2, code := prog_44_method_1_code, exceptionTable := #[], attributes := #[] }
def k2m0 : Method := { name := "<init>", desc := "(I)V", sig := { parameters := [.int], returnType := none }, accessFlags := 0, code := some k2c0 }
def k2c1 : Code := { maxStack := 5, maxLocals := 1, code := prog_44_method_2_code, exceptionTable := #[], attributes := #[] }
def k2m1 : Method := { name := "addWaypoint", desc := "()I", sig := { parameters := [], returnType := some .int }, accessFlags := 0, code := some k2c1 }
/-- com/example/histrix/histrix/Polygraph -/
def k2 : Class := { plain "com/example/histrix/histrix/Polygraph" (some 0) with
  accessFlags := 48
  interfaces := #[]
  cf := some (fileOf pool2 13 #[.nestMembers #[73, 120, 158]] #[{ accessFlags := 0, nameIndex := 7, descriptorIndex := 37, attributes := #[] }, { accessFlags := 0, nameIndex := 136, descriptorIndex := 44, attributes := #[] }] 48 4 #[] #[{ accessFlags := 26, nameIndex := 131, descriptorIndex := 33, attributes := #[] }, { accessFlags := 18, nameIndex := 32, descriptorIndex := 33, attributes := #[] }, { accessFlags := 2, nameIndex := 40, descriptorIndex := 33, attributes := #[] }, { accessFlags := 18, nameIndex := 16, descriptorIndex := 17, attributes := #[] }, { accessFlags := 18, nameIndex := 20, descriptorIndex := 17, attributes := #[] }, { accessFlags := 18, nameIndex := 23, descriptorIndex := 17, attributes := #[] }, { accessFlags := 18, nameIndex := 26, descriptorIndex := 17, attributes := #[] }, { accessFlags := 18, nameIndex := 29, descriptorIndex := 17, attributes := #[] }])
  fields := #[{ name := "LONGEST_ARRAY", type := .int, accessFlags := 26, slot := 0, constantValue := 0 }, { name := "transactionCount", type := .int, accessFlags := 18, slot := 0, constantValue := 0 }, { name := "waypointCount", type := .int, accessFlags := 2, slot := 1, constantValue := 0 }, { name := "requiredFrom", type := (.object "com/example/histrix/histrix/IntList"), accessFlags := 18, slot := 2, constantValue := 0 }, { name := "requiredTo", type := (.object "com/example/histrix/histrix/IntList"), accessFlags := 18, slot := 3, constantValue := 0 }, { name := "setMembers", type := (.object "com/example/histrix/histrix/IntList"), accessFlags := 18, slot := 4, constantValue := 0 }, { name := "setStart", type := (.object "com/example/histrix/histrix/IntList"), accessFlags := 18, slot := 5, constantValue := 0 }, { name := "exclusions", type := (.object "com/example/histrix/histrix/IntList"), accessFlags := 18, slot := 6, constantValue := 0 }]
  methods := #[k2m0, k2m1]
  instanceTypes := #[.int, .int, (.object "com/example/histrix/histrix/IntList"), (.object "com/example/histrix/histrix/IntList"), (.object "com/example/histrix/histrix/IntList"), (.object "com/example/histrix/histrix/IntList"), (.object "com/example/histrix/histrix/IntList")]
  staticTypes := #[.int]
  resolved := Array.replicate 178 none
  statics := none }

def pool3 : Array CpInfo := pool [(3, .methodref 4 5), (0, .class_ 6), (0, .nameAndType 7 8), (0, u "com/example/histrix/histrix/IntList"), (0, u "<init>"), (0, u "(I)V"), (0, .methodref 10 11), (0, .class_ 12), (0, .nameAndType 7 13), (0, u "java/lang/Object"), (0, u "()V"), (0, .methodref 15 16), (0, .class_ 17), (0, .nameAndType 18 19), (0, u "java/lang/Math"), (0, u "max"), (0, u "(II)I"), (0, .fieldref 4 21), (0, .nameAndType 22 23), (0, u "values"), (0, u "[I"), (0, .fieldref 4 25), (0, .nameAndType 26 27), (0, u "size"), (0, u "I"), (32, u "MAX_SIZE"), (1, u "MAX_GROWTH"), (2, u "add")] 10

def k3c0 : Code := { maxStack := 2, maxLocals := 1, code := prog_29_method_1_code, exceptionTable := #[], attributes := #[] }
def k3m0 : Method := { name := "<init>", desc := "()V", sig := { parameters := [], returnType := none }, accessFlags := 0, code := some k3c0 }
def k3c1 : Code := { maxStack := 3, maxLocals := 2, code := prog_29_method_2_code, exceptionTable := #[], attributes := #[] }
def k3m1 : Method := { name := "<init>", desc := "(I)V", sig := { parameters := [.int], returnType := none }, accessFlags := 0, code := some k3c1 }
def k3c2 : Code := { maxStack := 5, maxLocals := 2, code := prog_29_method_3_code, exceptionTable := #[], attributes := #[] }
def k3m2 : Method := { name := "add", desc := "(I)V", sig := { parameters := [.int], returnType := none }, accessFlags := 0, code := some k3c2 }
/-- com/example/histrix/histrix/IntList -/
def k3 : Class := { plain "com/example/histrix/histrix/IntList" (some 0) with
  accessFlags := 48
  interfaces := #[]
  cf := some (fileOf pool3 4 #[] #[{ accessFlags := 0, nameIndex := 7, descriptorIndex := 13, attributes := #[] }, { accessFlags := 0, nameIndex := 7, descriptorIndex := 8, attributes := #[] }, { accessFlags := 0, nameIndex := 65, descriptorIndex := 8, attributes := #[] }] 48 10 #[] #[{ accessFlags := 24, nameIndex := 60, descriptorIndex := 27, attributes := #[] }, { accessFlags := 26, nameIndex := 62, descriptorIndex := 27, attributes := #[] }, { accessFlags := 2, nameIndex := 22, descriptorIndex := 23, attributes := #[] }, { accessFlags := 2, nameIndex := 26, descriptorIndex := 27, attributes := #[] }])
  fields := #[{ name := "MAX_SIZE", type := .int, accessFlags := 24, slot := 0, constantValue := 0 }, { name := "MAX_GROWTH", type := .int, accessFlags := 26, slot := 1, constantValue := 0 }, { name := "values", type := (.array .int), accessFlags := 2, slot := 0, constantValue := 0 }, { name := "size", type := .int, accessFlags := 2, slot := 1, constantValue := 0 }]
  methods := #[k3m0, k3m1, k3m2]
  instanceTypes := #[(.array .int), .int]
  staticTypes := #[.int, .int]
  resolved := Array.replicate 76 none
  statics := none }

def pool4 : Array CpInfo := pool [(1, .class_ 2), (0, u "java/lang/Math"), (1, .class_ 6), (1, u "java/lang/Object"), (0, u "<init>"), (0, u "()V"), (89, .class_ 100), (1, u "java/lang/Math$RandomNumberGeneratorHolder"), (71, u "negativeZeroFloatBits"), (0, u "J"), (2, u "negativeZeroDoubleBits"), (21, u "max"), (46, u "$assertionsDisabled"), (0, u "Z"), (88, u "(II)I"), (2, u "twoToTheDoubleScaleDown"), (0, u "D"), (4, u "twoToTheDoubleScaleUp"), (9, u "E"), (3, u "PI"), (2, u "TAU"), (2, u "DEGREES_TO_RADIANS"), (0, u "RADIANS_TO_DEGREES")] 94

def k4m0 : Method := { name := "<init>", desc := "()V", sig := { parameters := [], returnType := none }, accessFlags := 2, code := none }
def k4c1 : Code := { maxStack := 2, maxLocals := 2, code := jdk_29_method_65_code, exceptionTable := #[], attributes := #[] }
def k4m1 : Method := { name := "max", desc := "(II)I", sig := { parameters := [.int, .int], returnType := some .int }, accessFlags := 9, code := some k4c1 }
/-- java/lang/Math -/
def k4 : Class := { plain "java/lang/Math" (some 0) with
  accessFlags := 49
  interfaces := #[]
  cf := some (fileOf pool4 1 #[.nestMembers #[98]] #[{ accessFlags := 2, nameIndex := 7, descriptorIndex := 8, attributes := #[] }, { accessFlags := 9, nameIndex := 198, descriptorIndex := 335, attributes := #[] }] 49 4 #[] #[{ accessFlags := 25, nameIndex := 354, descriptorIndex := 339, attributes := #[] }, { accessFlags := 25, nameIndex := 358, descriptorIndex := 339, attributes := #[] }, { accessFlags := 25, nameIndex := 361, descriptorIndex := 339, attributes := #[] }, { accessFlags := 26, nameIndex := 364, descriptorIndex := 339, attributes := #[] }, { accessFlags := 26, nameIndex := 365, descriptorIndex := 339, attributes := #[] }, { accessFlags := 26, nameIndex := 172, descriptorIndex := 173, attributes := #[] }, { accessFlags := 26, nameIndex := 176, descriptorIndex := 173, attributes := #[] }, { accessFlags := 8, nameIndex := 344, descriptorIndex := 339, attributes := #[] }, { accessFlags := 8, nameIndex := 338, descriptorIndex := 339, attributes := #[] }, { accessFlags := 4120, nameIndex := 245, descriptorIndex := 246, attributes := #[] }])
  fields := #[{ name := "E", type := .double, accessFlags := 25, slot := 0, constantValue := 0 }, { name := "PI", type := .double, accessFlags := 25, slot := 1, constantValue := 0 }, { name := "TAU", type := .double, accessFlags := 25, slot := 2, constantValue := 0 }, { name := "DEGREES_TO_RADIANS", type := .double, accessFlags := 26, slot := 3, constantValue := 0 }, { name := "RADIANS_TO_DEGREES", type := .double, accessFlags := 26, slot := 4, constantValue := 0 }, { name := "negativeZeroFloatBits", type := .long, accessFlags := 26, slot := 5, constantValue := 0 }, { name := "negativeZeroDoubleBits", type := .long, accessFlags := 26, slot := 6, constantValue := 0 }, { name := "twoToTheDoubleScaleUp", type := .double, accessFlags := 8, slot := 7, constantValue := 0 }, { name := "twoToTheDoubleScaleDown", type := .double, accessFlags := 8, slot := 8, constantValue := 0 }, { name := "$assertionsDisabled", type := .boolean, accessFlags := 4120, slot := 9, constantValue := 0 }]
  methods := #[k4m0, k4m1]
  instanceTypes := #[]
  staticTypes := #[.double, .double, .double, .double, .double, .long, .long, .double, .double, .boolean]
  resolved := Array.replicate 460 none
  statics := none }

def pool5 : Array CpInfo := pool [(1, u "java/lang/Cloneable"), (0, .class_ 1), (0, u "java/lang/Object"), (0, .class_ 3)] 3

/-- java/lang/Cloneable -/
def k5 : Class := { plain "java/lang/Cloneable" (some 0) with
  accessFlags := 1537
  interfaces := #[]
  cf := some (fileOf pool5 2 #[] #[] 1537 4 #[] #[])
  fields := #[]
  methods := #[]
  instanceTypes := #[]
  staticTypes := #[]
  resolved := Array.replicate 8 none
  statics := none }

def pool6 : Array CpInfo := pool [(1, u "java/io/Serializable"), (0, .class_ 1), (0, u "java/lang/Object"), (0, .class_ 3)] 3

/-- java/io/Serializable -/
def k6 : Class := { plain "java/io/Serializable" (some 0) with
  accessFlags := 1537
  interfaces := #[]
  cf := some (fileOf pool6 2 #[] #[] 1537 4 #[] #[])
  fields := #[]
  methods := #[]
  instanceTypes := #[]
  staticTypes := #[]
  resolved := Array.replicate 8 none
  statics := none }

/-- the primitive byte -/
def k7 : Class := { plain "byte" none with kind := .primitive 'B', accessFlags := 0x411 }
/-- [B -/
def k8 : Class := { plain "[B" (some 0) with kind := .array 7 .byte, interfaces := #[5, 6], accessFlags := 1041 }

/-- the primitive int -/
def k9 : Class := { plain "int" none with kind := .primitive 'I', accessFlags := 0x411 }
/-- [I -/
def k10 : Class := { plain "[I" (some 0) with kind := .array 9 .int, interfaces := #[5, 6], accessFlags := 1041 }

def heap : Heap := #[]
def classes : Array Class := #[k0, k1, k2, k3, k4, k5, k6, k7, k8, k9, k10]
def interned : List (Array UInt16 × Addr) := []
def slotsUsed : Nat := 0
def theMethod : MethodId := ⟨1, 1⟩
def args0 : Array Value := #[.int 5, .int 6]
def aboutOver (below : List Frame) : State where
  vm := { classes := classes, interned := interned.toArray }
  heap := heap
  slotsUsed := slotsUsed
  threads := #[{ frames := .invoking theMethod args0 :: below }]
def below0 : List Frame := [.native { method := ⟨0, 0⟩, args := #[] }]
def about1 : State := aboutOver below0
def p0 : Program := .bare "" "" ""
def e0 : Env := launch0.env 0 0 0
theorem w_frames : about1.frames = Frame.invoking theMethod args0 :: below0 := rfl
set_option maxRecDepth 65536 in
theorem w_args : argsFit about1.vm theMethod args0 = true := by decide +kernel
set_option maxRecDepth 65536 in
theorem w_heap : heapFits about1 = true := by decide +kernel
set_option maxRecDepth 65536 in
theorem w_runnable : about1.curStatus? = some .runnable := by decide +kernel
set_option maxRecDepth 65536 in
theorem w_alone : about1.alone = true := by decide +kernel
set_option maxRecDepth 65536 in
theorem w_named : about1.methodNamed? x = some theMethod := by decide +kernel
set_option maxRecDepth 65536 in
theorem w_hears : about1.hears theMethod below0 = true := by decide +kernel
set_option maxRecDepth 65536 in
theorem w_ripe : about1.ripe theMethod args0 below0 = true := by decide +kernel
theorem w_running : about1.status = .running := rfl
set_option maxRecDepth 65536 in
theorem w_room : about1.hasRoom e0.platform room_1 = true :=
  launch0.hasRoom_least _ room_1 (by decide +kernel) (by decide +kernel) (by decide +kernel) (by decide +kernel) (by decide +kernel) (by decide +kernel)
theorem allAtoms_all (ts : List Jvm.Cond) (a : Array Jvm.Value) (st : Jvm.State) : (allAtoms ts).before a st = ts.all (fun c => c.before a st) := by
  induction ts with
  | nil => rfl
  | cons c t ih =>
    show (Jvm.Cond.and c (allAtoms t)).before a st = _
    rw [Jvm.Cond.before_and, ih, List.all_cons]
def words1 : List Jvm.Cond := Jvm.Cond.code x code maxLocals ret :: tables_1
/-- a 'code' word, met by the world's own term for the bytes: nothing is compared byte by byte -/
theorem code_word {y : MethodName} {bytes : ByteArray} {mx : Nat} {rt : Option FieldType} {a : Array Value} {s : State} {m : MethodId} {meth : Method} {c : Code} (h1 : s.methodNamed? y = some m) (h2 : s.vm.method? m = some meth) (h3 : meth.code = some c) (h4 : c.code = bytes)
    (h5 : (c.maxLocals == mx && c.exceptionTable.isEmpty && decide (c.maxStack ≤ mostOperands) && decide (meth.sig.returnType = rt) && !meth.locks && decide (parseMethodDescriptor y.desc = some meth.sig)) = true) : (Jvm.Cond.code y bytes mx rt).before a s = true := by
  simp only [Bool.and_eq_true, beq_iff_eq, Bool.not_eq_true', decide_eq_true_eq] at h5
  obtain ⟨⟨⟨⟨⟨g1, g2⟩, g3⟩, g4⟩, g5⟩, g6⟩ := h5
  simp [Cond.before, Cond.holds, Cond.value, h1, h2, h3, h4, g1, g2, g3, g4, g5, g6]
def isCode : Jvm.Cond → Bool
  | .code _ _ _ _ => true
  | _ => false
theorem all_split {L : List Jvm.Cond} {P : Jvm.Cond → Bool} (h1 : L.all (fun c => isCode c || P c) = true) (h2 : ∀ c ∈ L.filter isCode, P c = true) : L.all P = true := by
  refine List.all_eq_true.mpr fun c hc => ?_
  have h := List.all_eq_true.mp h1 c hc
  rcases Bool.eq_false_or_eq_true (isCode c) with hi | hi
  · exact h2 c (List.mem_filter.mpr ⟨hc, hi⟩)
  · simpa [hi] using h
set_option maxRecDepth 65536 in
theorem w_c0 : (Jvm.Cond.code x code maxLocals ret).before args0 about1 = true := code_word (m := ⟨1, 1⟩) (meth := k1m1) (c := k1c1) (by decide +kernel) rfl rfl rfl (by decide +kernel)
set_option maxRecDepth 65536 in
theorem w_c1 : (Jvm.Cond.code ({ cls := "com/example/histrix/histrix/Polygraph", name := "<init>", desc := "(I)V" } : Jvm.MethodName) prog_44_method_1_code (2 : Nat) (Option.none : Option Jvm.ClassFile.FieldType)).before args0 about1 = true := code_word (m := ⟨2, 0⟩) (meth := k2m0) (c := k2c0) (by decide +kernel) rfl rfl rfl (by decide +kernel)
set_option maxRecDepth 65536 in
theorem w_c2 : (Jvm.Cond.code ({ cls := "java/lang/Object", name := "<init>", desc := "()V" } : Jvm.MethodName) object_method_1_code (1 : Nat) (Option.none : Option Jvm.ClassFile.FieldType)).before args0 about1 = true := code_word (m := ⟨0, 0⟩) (meth := k0m0) (c := k0c0) (by decide +kernel) rfl rfl rfl (by decide +kernel)
set_option maxRecDepth 65536 in
theorem w_c3 : (Jvm.Cond.code ({ cls := "com/example/histrix/histrix/IntList", name := "<init>", desc := "()V" } : Jvm.MethodName) prog_29_method_1_code (1 : Nat) (Option.none : Option Jvm.ClassFile.FieldType)).before args0 about1 = true := code_word (m := ⟨3, 0⟩) (meth := k3m0) (c := k3c0) (by decide +kernel) rfl rfl rfl (by decide +kernel)
set_option maxRecDepth 65536 in
theorem w_c4 : (Jvm.Cond.code ({ cls := "com/example/histrix/histrix/IntList", name := "<init>", desc := "(I)V" } : Jvm.MethodName) prog_29_method_2_code (2 : Nat) (Option.none : Option Jvm.ClassFile.FieldType)).before args0 about1 = true := code_word (m := ⟨3, 1⟩) (meth := k3m1) (c := k3c1) (by decide +kernel) rfl rfl rfl (by decide +kernel)
set_option maxRecDepth 65536 in
theorem w_c5 : (Jvm.Cond.code ({ cls := "java/lang/Math", name := "max", desc := "(II)I" } : Jvm.MethodName) jdk_29_method_65_code (2 : Nat) (Option.some Jvm.ClassFile.FieldType.int)).before args0 about1 = true := code_word (m := ⟨4, 1⟩) (meth := k4m1) (c := k4c1) (by decide +kernel) rfl rfl rfl (by decide +kernel)
set_option maxRecDepth 65536 in
theorem w_c6 : (Jvm.Cond.code ({ cls := "com/example/histrix/histrix/IntList", name := "add", desc := "(I)V" } : Jvm.MethodName) prog_29_method_3_code (2 : Nat) (Option.none : Option Jvm.ClassFile.FieldType)).before args0 about1 = true := code_word (m := ⟨3, 2⟩) (meth := k3m2) (c := k3c2) (by decide +kernel) rfl rfl rfl (by decide +kernel)
set_option maxRecDepth 65536 in
theorem w_c7 : (Jvm.Cond.code ({ cls := "com/example/histrix/histrix/Polygraph", name := "addWaypoint", desc := "()I" } : Jvm.MethodName) prog_44_method_2_code (1 : Nat) (Option.some Jvm.ClassFile.FieldType.int)).before args0 about1 = true := code_word (m := ⟨2, 1⟩) (meth := k2m1) (c := k2c1) (by decide +kernel) rfl rfl rfl (by decide +kernel)
def codes1 : List Jvm.Cond := [Jvm.Cond.code x code maxLocals ret, Jvm.Cond.code ({ cls := "com/example/histrix/histrix/Polygraph", name := "<init>", desc := "(I)V" } : Jvm.MethodName) prog_44_method_1_code (2 : Nat) (Option.none : Option Jvm.ClassFile.FieldType), Jvm.Cond.code ({ cls := "java/lang/Object", name := "<init>", desc := "()V" } : Jvm.MethodName) object_method_1_code (1 : Nat) (Option.none : Option Jvm.ClassFile.FieldType), Jvm.Cond.code ({ cls := "com/example/histrix/histrix/IntList", name := "<init>", desc := "()V" } : Jvm.MethodName) prog_29_method_1_code (1 : Nat) (Option.none : Option Jvm.ClassFile.FieldType), Jvm.Cond.code ({ cls := "com/example/histrix/histrix/IntList", name := "<init>", desc := "(I)V" } : Jvm.MethodName) prog_29_method_2_code (2 : Nat) (Option.none : Option Jvm.ClassFile.FieldType), Jvm.Cond.code ({ cls := "java/lang/Math", name := "max", desc := "(II)I" } : Jvm.MethodName) jdk_29_method_65_code (2 : Nat) (Option.some Jvm.ClassFile.FieldType.int), Jvm.Cond.code ({ cls := "com/example/histrix/histrix/IntList", name := "add", desc := "(I)V" } : Jvm.MethodName) prog_29_method_3_code (2 : Nat) (Option.none : Option Jvm.ClassFile.FieldType), Jvm.Cond.code ({ cls := "com/example/histrix/histrix/Polygraph", name := "addWaypoint", desc := "()I" } : Jvm.MethodName) prog_44_method_2_code (1 : Nat) (Option.some Jvm.ClassFile.FieldType.int)]
set_option maxRecDepth 65536 in
theorem codes_eq : words1.filter isCode = codes1 := rfl
theorem w_codes : ∀ c ∈ words1.filter isCode, c.before args0 about1 = true := by
  rw [codes_eq]
  intro c hc
  simp only [codes1, List.mem_cons, List.not_mem_nil, or_false] at hc
  rcases hc with rfl | rfl | rfl | rfl | rfl | rfl | rfl | rfl
  · exact w_c0
  · exact w_c1
  · exact w_c2
  · exact w_c3
  · exact w_c4
  · exact w_c5
  · exact w_c6
  · exact w_c7
set_option maxRecDepth 65536 in
theorem w_t1 : (words1.take 24).all (fun c => isCode c || c.before args0 about1) = true := by decide +kernel
set_option maxRecDepth 65536 in
theorem w_t2 : ((words1.drop 24).take 24).all (fun c => isCode c || c.before args0 about1) = true := by decide +kernel
set_option maxRecDepth 65536 in
theorem w_t3 : ((words1.drop 24).drop 24).all (fun c => isCode c || c.before args0 about1) = true := by decide +kernel
theorem w_tables : (allAtoms (Jvm.Cond.code x code maxLocals ret :: tables_1)).before args0 about1 = true := by
  rw [allAtoms_all]
  show words1.all (fun c => c.before args0 about1) = true
  refine all_split ?_ w_codes
  rw [← List.take_append_drop 24 words1, List.all_append, w_t1, ← List.take_append_drop 24 (words1.drop 24), List.all_append, w_t2, w_t3]
  rfl
set_option maxRecDepth 65536 in
theorem w_case : (Jvm.Cond.and given_1 narrow_1).before args0 about1 = true := by decide +kernel
theorem w_applies : (headSpec (Jvm.Cond.code x code maxLocals ret :: tables_1) room_1).applies x e0.platform about1 = true :=
  (Spec.applies_iff w_frames).mpr ⟨w_running, w_runnable, w_alone, w_named, w_hears, w_ripe, w_room, w_tables⟩
theorem atStart : AtStart classFile x code maxLocals ret World_1 tables_1 room_1 Calls_1 rest_1 Pre_1 launch0 p0 e0 about1 theMethod args0 below0 :=
  ⟨lists_1, trivial, launch0.admits_env _ _ _, launch0.least_env, fairChoices_fair.cas, fairChoices_fair.clock, w_frames, w_args, w_heap, w_applies, trivial, trivial, w_case⟩
end start1
theorem witness_1 : WitnessClaimed_1 := ⟨start1.p0, start1.e0, start1.about1, start1.theMethod, start1.args0, start1.below0, start1.atStart⟩
end Jvm.Pilot.@@N@@
