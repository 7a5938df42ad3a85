import JvmDerived
import JvmDerived.Pilot.@@N@@Statement
import JvmDerived.Pilot.@@N@@Code
set_option linter.unusedVariables false
set_option linter.unusedSimpArgs false

namespace Jvm.Pilot.@@N@@
open Jvm Jvm.ClassFile Sem Op Lib Jvm.Free Jvm.Stand Jvm.LawKit Jvm.RoadKit Bundle Jvm.Pilot.@@N@@.Jvm.D
section Own
variable {p : Program} {l : Launch} {e : Env} {R : Room} {s : State} {m : MethodId} {args : Array Value} {below : List Frame} {meth : Method} {c : Code} {T : State} {locs : List Loc} {cells slots : Nat} {Z : State} {h h' : Heap}
/-- the run from A comes to the method's end as Q says, with at most kc new cells and ks new slots -/
def own_E (p : Program) (e : Env) (below : List Frame) (s : State) (Q : Option Value → Heap → List Loc → Prop) (kc ks : Nat) (A : State) : Prop :=
  ∃ s₂ o, Steps p.tables e below A s₂ ∧ s₂.status = .running ∧ Ended s₂ below o ∧ ∃ v L, o = .returned v ∧ Q v s₂.heap L ∧ FrameEnd s o s₂ L kc ks
variable {Q : Option Value → Heap → List Loc → Prop} {kc ks : Nat} {A B : State}
theorem own_st (k : ∀ t, Steps p.tables e below B t → Steps p.tables e below A t) (h : own_E p e below s Q kc ks B) : own_E p e below s Q kc ks A := by
  obtain ⟨t, o, h1, h2⟩ := h
  exact ⟨t, o, k t h1, h2⟩
theorem own_end (X : Stand p l e R s m args below meth c T locs cells slots) {v : Option Value} (hv : meth.sig.returnType = none → v = none) (hlk : meth.locks = false)
    (hk : ∀ fs, (∀ (f : JFrame) (acts : List Action), f.method = m → f.locked = none → f.entered = [] → (doReturn e (T.setTop f) acts v).1 = T.setFrames fs) → Steps p.tables e below A (T.setFrames fs)) (hc : cells ≤ kc) (hs : slots ≤ ks) (hQ : Q v T.heap locs) : own_E p e below s Q kc ks A := by
  obtain ⟨fs, hr, hrun, hended, hW, hsame⟩ := X.leave (v := v) hv hlk
  exact ⟨_, _, hk fs hr, hrun, hended, _, _, rfl, hQ, ⟨_, rfl⟩, hW, hsame.mono hc hs⟩
theorem own_retN (X : Stand p l e R s m args below meth c T locs cells slots) (hx : p.tables.exec = Jvm.exec) {pc : Nat} {Ls : Array Slot} {z z' : Int32} {t : FieldType} {rest : List Value} (hret : meth.sig.returnType = some t) (ht : t = .boolean ∨ t = .byte ∨ t = .char ∨ t = .short) (hlk : meth.locks = false)
    (hd : decode c.code pc = .ok (.ireturn, 1)) (hz : nar t z = z') (hc : cells ≤ kc) (hs : slots ≤ ks) (hQ : Q (some (.int z')) T.heap locs) : own_E p e below s Q kc ks (T.setTop (mkF m pc Ls (.int z :: rest))) := by
  subst hz
  exact own_end X (fun q => by rw [hret] at q; cases q) hlk (fun fs hr => retN X hx hret ht hd hr) hc hs hQ
theorem own_retI (X : Stand p l e R s m args below meth c T locs cells slots) (hx : p.tables.exec = Jvm.exec) {pc : Nat} {Ls : Array Slot} {z : Int32} {rest : List Value} (hret : meth.sig.returnType = some .int) (hlk : meth.locks = false)
    (hd : decode c.code pc = .ok (.ireturn, 1)) (hc : cells ≤ kc) (hs : slots ≤ ks) (hQ : Q (some (.int z)) T.heap locs) : own_E p e below s Q kc ks (T.setTop (mkF m pc Ls (.int z :: rest))) := by
  refine own_end X (fun q => by rw [hret] at q; cases q) hlk (fun fs hr => ?_) hc hs hQ
  have hm' : T.vm.method? m = some meth := X.method'
  have hn : narrow .int (.int z) = .int z := rfl
  show Steps p.tables e below (T.setTop { method := m, pc := pc, locals := Ls, stack := _ :: rest, locked := none }) _
  jvm_step X.here [X.here.top, hx, hd, hm', hret, hn]
  first | (intro acts; rw [hr _ acts rfl rfl rfl]) | rw [hr _ _ rfl rfl rfl]
  exact Steps.refl _
theorem own_retJ (X : Stand p l e R s m args below meth c T locs cells slots) (hx : p.tables.exec = Jvm.exec) {pc : Nat} {Ls : Array Slot} {z : Int64} (hret : meth.sig.returnType = some .long) (hlk : meth.locks = false)
    (hd : decode c.code pc = .ok (.lreturn, 1)) (hc : cells ≤ kc) (hs : slots ≤ ks) (hQ : Q (some (.long z)) T.heap locs) : own_E p e below s Q kc ks (T.setTop (mkF m pc Ls [.long z])) :=
  own_end X (fun q => by rw [hret] at q; cases q) hlk (fun fs hr => X.lreturnOut hx hret hd hr) hc hs hQ
theorem own_retR (X : Stand p l e R s m args below meth c T locs cells slots) (hx : p.tables.exec = Jvm.exec) {pc : Nat} {Ls : Array Slot} {w : Value} {t : FieldType} (hw : w.isRef = true) (hret : meth.sig.returnType = some t) (ht : t.isReference = true) (hlk : meth.locks = false)
    (hd : decode c.code pc = .ok (.areturn, 1)) (hc : cells ≤ kc) (hs : slots ≤ ks) (hQ : Q (some w) T.heap locs) : own_E p e below s Q kc ks (T.setTop (mkF m pc Ls [w])) :=
  own_end X (fun q => by rw [hret] at q; cases q) hlk (fun fs hr => X.areturnOut hx hw hret ht hd hr) hc hs hQ
theorem own_retV (X : Stand p l e R s m args below meth c T locs cells slots) (hx : p.tables.exec = Jvm.exec) {pc : Nat} {Ls : Array Slot} (hret : meth.sig.returnType = none) (hlk : meth.locks = false)
    (hd : decode c.code pc = .ok (.return_, 1)) (hc : cells ≤ kc) (hs : slots ≤ ks) (hQ : Q none T.heap locs) : own_E p e below s Q kc ks (T.setTop (mkF m pc Ls [])) :=
  own_end X (fun _ => rfl) hlk (fun fs hr => X.returnOut hx hret hd hr) hc hs hQ
/-- a boolean as the machine holds it -/
def own_b (b : Bool) : Int32 := if b then 1 else 0
theorem own_b1 {P : Prop} [Decidable P] (h : P) : own_b (decide P) = 1 := by simp [own_b, h]
theorem own_bz {P : Prop} [Decidable P] (h : ¬ P) : own_b (decide P) = 0 := by simp [own_b, h]
theorem own_lt32 {x y : Int32} (h : x < y) : x.toInt < y.toInt := Int32.lt_iff_toInt_lt.mp h
theorem own_nlt32 {x y : Int32} (h : ¬ x < y) : ¬ x.toInt < y.toInt := fun q => h (Int32.lt_iff_toInt_lt.mpr q)
theorem own_eq32 {x y : Int32} (h : x = y) : x.toInt = y.toInt := congrArg _ h
theorem own_neq32 {x y : Int32} (h : ¬ x = y) : ¬ x.toInt = y.toInt := fun q => h (Int32.toInt_inj.mp q)
theorem own_lt64 {x y : Int64} (h : x < y) : x.toInt < y.toInt := Int64.lt_iff_toInt_lt.mp h
theorem own_nlt64 {x y : Int64} (h : ¬ x < y) : ¬ x.toInt < y.toInt := fun q => h (Int64.lt_iff_toInt_lt.mpr q)
theorem own_eq64 {x y : Int64} (h : x = y) : x.toInt = y.toInt := congrArg _ h
theorem own_neq64 {x y : Int64} (h : ¬ x = y) : ¬ x.toInt = y.toInt := fun q => h (Int64.toInt_inj.mp q)
theorem own_b0 {b : Bool} : own_b b = 0 ↔ b = false := by cases b <;> decide
theorem own_nb (b : Bool) : nar .boolean (own_b b) = own_b b := by cases b <;> rfl
theorem own_nbb (x : Int32) : nar .byte (x.toInt8.toInt32) = x.toInt8.toInt32 := by
  show x.toInt8.toInt32.toInt8.toInt32 = x.toInt8.toInt32
  rw [Int8.toInt8_toInt32]
theorem own_stV {l : Array Slot} {i : Nat} {v : Value} {o : Slot} (hold : l[i]? = some o) (ho : o = .unset ∨ ∃ w, o = .val w ∧ w.category = 1) (hv : v.category = 1) : storeLocals l i v = some (l.setIfInBounds i (.val v)) := XS.store1 hold ho hv
theorem own_narV {ty : FieldType} {v : Value} (hv : v.isRef = true) : narrow ty v = v := by
  rcases ref_cases hv with rfl | ⟨a, rfl⟩ <;> cases ty <;> rfl
theorem own_fitV {ty : FieldType} {v : Value} (ht : ty.isReference = true) (hv : v.isRef = true) : fits ty v = true := by
  rcases ref_cases hv with rfl | ⟨a, rfl⟩ <;> cases ty <;> first | rfl | (cases ht; done)
/-- an array of n places, whose place j holds f j -/
def own_A (Z : State) (h : Heap) (a : Addr) (ty : FieldType) (n : Nat) (f : Nat → Int32) : Prop := ∃ c : Cell, Arr Z h a c ty ∧ c.slots.size = n ∧ n < 2 ^ 31 ∧ (∀ j, j < n → c.slots[j]? = some (.int (f j))) ∧ ∀ j, j < n → fits ty (.int (f j)) = true
def own_up (f : Nat → Int32) (i : Nat) (v : Int32) (k : Nat) : Int32 := if k = i then v else f k
theorem own_up_same (f : Nat → Int32) (i : Nat) (v : Int32) : own_up f i v i = v := if_pos rfl
theorem own_up_ne (f : Nat → Int32) {i k : Nat} (v : Int32) (h : ¬ k = i) : own_up f i v k = f k := if_neg h
theorem own_catV {v : Value} (h : v.isRef = true) : v.category = 1 := by rcases ref_cases h with rfl | ⟨a, rfl⟩ <;> rfl
abbrev own_ix (j : Int32) (i : Nat) : Prop := ¬ j < 0 ∧ j.toNatClampNeg = i
variable {a b : Addr} {ty : FieldType} {n i : Nat} {f : Nat → Int32} {j x : Int32} {pc : Nat} {Ls : Array Slot} {rest : List Value} {sl : Nat} {v : Value} {ws : List Addr}
theorem own_A.lt (F : own_A Z h a ty n f) : a < h.size := by obtain ⟨c, A, -⟩ := F; exact A.lt
theorem own_A.ext (F : own_A Z h a ty n f) (E : Ext h h') : own_A Z h' a ty n f := by obtain ⟨c, A, r⟩ := F; exact ⟨c, A.ext E, r⟩
theorem own_A.other (F : own_A Z h b ty n f) (W : Wr h h' a sl v) (q : b ≠ a) : own_A Z h' b ty n f := by obtain ⟨c, A, r⟩ := F; exact ⟨c, A.other W q, r⟩
theorem own_A.keep (F : own_A Z h a ty n f) (K : Keep h h' ws) (q : a ∉ ws) : own_A Z h' a ty n f := by obtain ⟨c, A, r⟩ := F; exact ⟨c, ⟨K.2.1 a c A.1 q, A.2⟩, r⟩
theorem own_A.congr {g : Nat → Int32} (F : own_A Z h a ty n f) (q : ∀ j, j < n → f j = g j) : own_A Z h a ty n g := by obtain ⟨c, A, r1, r2, r3, r4⟩ := F; exact ⟨c, A, r1, r2, fun j hj => by rw [← q j hj]; exact r3 j hj, fun j hj => by rw [← q j hj]; exact r4 j hj⟩
theorem own_A.new {k : ClassId} {z : Int32} (A : Arr Z h a (newA k ty z) ty) (q : ¬ z < 0) (hz : z.toNatClampNeg = n) (hd : defaultValue ty = .int 0 := by rfl) : own_A Z h a ty n (fun _ => 0) := by
  subst hz
  exact ⟨_, A, sz_new _ _ _, (back32 q).2, fun j hj => by simp [newA, hj, hd], fun j hj => by rw [← hd]; cases ty <;> rfl⟩
theorem own_A.set (F : own_A Z h a ty n f) (hj : own_ix j i) (W : Wr h h' a j.toNatClampNeg (.int x)) (hf : fits ty (.int x) = true) : own_A Z h' a ty n (own_up f i x) := by
  obtain ⟨c, A, r1, r2, r3, r4⟩ := F
  obtain ⟨hj1, rfl⟩ := hj
  refine ⟨_, A.same W, by rw [sz_set]; exact r1, r2, fun k hk => ?_, fun k hk => ?_⟩ <;> by_cases q : k = j.toNatClampNeg
  · subst q; simp [Cell.setSlot, own_up, r1, hk]
  · simp only [Cell.setSlot, own_up, if_neg q]; rw [Array.getElem?_setIfInBounds_ne (Ne.symm q)]; exact r3 k hk
  · simp only [own_up, if_pos q]; exact hf
  · simp only [own_up, if_neg q]; exact r4 k hk
theorem own_in (hj : own_ix j i) (hi : i < n) {c : Cell} (hc : c.slots.size = n) : ¬ (j < 0 ∨ c.slots.size ≤ j.toNatClampNeg) := by
  rintro (q | q)
  · exact hj.1 q
  · rw [hj.2, hc] at q; omega
theorem own_stB (X : Stand p l e R s m args below meth c T locs cells slots) (hx : p.tables.exec = Jvm.exec) (hZ : Z.Warmed39 s.vm) (eT : T.heap = h) (A : own_A Z h a .byte n f) (hj : own_ix j i) (hi : i < n) (hd : decode c.code pc = .ok (.bastore, 1)) :
    ∃ T' h', Stand p l e R s m args below meth c T' (locs ++ [⟨a, j.toNatClampNeg⟩]) cells slots ∧ T'.heap = h' ∧ Wr h h' a j.toNatClampNeg (.int (nar .byte x)) ∧ own_A Z h' a .byte n (own_up f i (nar .byte x)) ∧ ∀ t, Steps p.tables e below (T'.setTop (mkF m (pc + 1) Ls rest)) t → Steps p.tables e below (T.setTop (mkF m pc Ls (.int x :: .int j :: .ref a :: rest))) t := by
  have A0 := A
  obtain ⟨cl, A1, r1, r2, r3, r4⟩ := A
  obtain ⟨T', h', X', e', W, st⟩ := stB X hx hZ eT A1 (j := j) (x := x) (own_in hj hi r1) (g := mkF m pc Ls (.int x :: .int j :: .ref a :: rest)) rfl rfl hd
  exact ⟨T', h', X', e', W, A0.set hj W (fits_nar_byte x), st⟩
theorem own_stI (X : Stand p l e R s m args below meth c T locs cells slots) (hx : p.tables.exec = Jvm.exec) (hZ : Z.Warmed39 s.vm) (eT : T.heap = h) (A : own_A Z h a .int n f) (hj : own_ix j i) (hi : i < n) (hd : decode c.code pc = .ok (.iastore, 1)) :
    ∃ T' h', Stand p l e R s m args below meth c T' (locs ++ [⟨a, j.toNatClampNeg⟩]) cells slots ∧ T'.heap = h' ∧ Wr h h' a j.toNatClampNeg (.int x) ∧ own_A Z h' a .int n (own_up f i x) ∧ ∀ t, Steps p.tables e below (T'.setTop (mkF m (pc + 1) Ls rest)) t → Steps p.tables e below (T.setTop (mkF m pc Ls (.int x :: .int j :: .ref a :: rest))) t := by
  have A0 := A
  obtain ⟨cl, A1, r1, r2, r3, r4⟩ := A
  obtain ⟨T', h', X', e', W, st⟩ := stI X hx hZ eT A1 (j := j) (x := x) (own_in hj hi r1) (g := mkF m pc Ls (.int x :: .int j :: .ref a :: rest)) rfl rfl hd
  exact ⟨T', h', X', e', W, A0.set hj W rfl, st⟩
theorem own_ldB (X : Stand p l e R s m args below meth c T locs cells slots) (hx : p.tables.exec = Jvm.exec) (hZ : Z.Warmed39 s.vm) (eT : T.heap = h) (A : own_A Z h a .byte n f) (hj : own_ix j i) (hi : i < n) (hd : decode c.code pc = .ok (.baload, 1)) (t : State)
    (k : Steps p.tables e below (T.setTop (mkF m (pc + 1) Ls (.int (f i) :: rest))) t) : Steps p.tables e below (T.setTop (mkF m pc Ls (.int j :: .ref a :: rest))) t := by
  obtain ⟨cl, A1, r1, r2, r3, r4⟩ := A
  exact X.baloadBytes hx (j := j) (v := .int (f i)) (by rw [eT]; exact A1.1) (State.isArrayOf_alike hZ.alike A1.2.1) A1.2.2 (own_in hj hi r1) (by rw [hj.2]; exact r3 i hi) (g := mkF m pc Ls (.int j :: .ref a :: rest)) rfl rfl hd t k
theorem own_ldI (X : Stand p l e R s m args below meth c T locs cells slots) (hx : p.tables.exec = Jvm.exec) (hZ : Z.Warmed39 s.vm) (eT : T.heap = h) (A : own_A Z h a .int n f) (hj : own_ix j i) (hi : i < n) (hd : decode c.code pc = .ok (.iaload, 1)) (t : State)
    (k : Steps p.tables e below (T.setTop (mkF m (pc + 1) Ls (.int (f i) :: rest))) t) : Steps p.tables e below (T.setTop (mkF m pc Ls (.int j :: .ref a :: rest))) t := by
  obtain ⟨cl, A1, r1, r2, r3, r4⟩ := A
  exact X.iaload hx (j := j) (v := .int (f i)) (by rw [eT]; exact A1.1) (State.isArrayOf_alike hZ.alike A1.2.1) A1.2.2 (own_in hj hi r1) (by rw [hj.2]; exact r3 i hi) (g := mkF m pc Ls (.int j :: .ref a :: rest)) rfl rfl hd t k
theorem own_len {z : Int32} (X : Stand p l e R s m args below meth c T locs cells slots) (hx : p.tables.exec = Jvm.exec) (hZ : Z.Warmed39 s.vm) (eT : T.heap = h) (A : own_A Z h a ty n f) (hz : n.toInt32 = z) (hd : decode c.code pc = .ok (.arraylength, 1)) (t : State)
    (k : Steps p.tables e below (T.setTop (mkF m (pc + 1) Ls (.int z :: rest))) t) : Steps p.tables e below (T.setTop (mkF m pc Ls (.ref a :: rest))) t := by
  obtain ⟨cl, A1, r1, r2, r3, r4⟩ := A
  subst hz
  refine X.arraylength hx (by rw [eT]; exact A1.1) (State.isArrayOf_alike hZ.alike A1.2.1) (g := mkF m pc Ls (.ref a :: rest)) rfl rfl hd t ?_
  rw [r1]; exact k
theorem own_clone (X : Stand p l e R s m args below meth c T locs cells slots) (hx : p.tables.exec = Jvm.exec) (hZ : Z.Warmed39 s.vm) {a0 : Array Value} {own ad : String} {index : Nat} (hown : s.vm.findClass own = some m.cls)
    (w1 : (Cond.methodLink own index ⟨ad, "clone", "()Ljava/lang/Object;"⟩).before a0 Z = true) (w2 : (Cond.sameMethod ad "java/lang/Object" "clone" "()Ljava/lang/Object;").before a0 Z = true) (w3 : (Cond.native ⟨"java/lang/Object", "clone", "()Ljava/lang/Object;"⟩).before a0 Z = true)
    (w4 : (Cond.instanceMethod ⟨"java/lang/Object", "clone", "()Ljava/lang/Object;"⟩).before a0 Z = true) (w5 : (Cond.selects ad ⟨ad, "clone", "()Ljava/lang/Object;"⟩ ⟨"java/lang/Object", "clone", "()Ljava/lang/Object;"⟩).before a0 Z = true) (w6 : (Cond.castable ad "java/lang/Cloneable").before a0 Z = true)
    (eT : T.heap = h) (A : own_A Z h a ty n f) (E : Exa Z h a ad) (hsize : Ls.size = c.maxLocals) (hd : decode c.code pc = .ok (.invokevirtual index, 3))
    (hf : 1 ≤ R.frames) {W cap : Nat} (hW : 2 * 0 + (rest.map fun v => v.category).sum ≤ W) (hl : W + 14 ≤ R.locals) (hcap : n ≤ cap) (hc : cells + 1 ≤ R.cells) (hsl : slots + cap ≤ R.slots) :
    ∃ T' h', Stand p l e R s m args below meth c T' locs (cells + 1) (slots + cap) ∧ T'.heap = h' ∧ Ext h h' ∧ own_A Z h' h.size ty n f ∧ Exa Z h' h.size ad ∧
      ∀ t, Steps p.tables e below (T'.setTop (mkF m (pc + 3) Ls (.ref h.size :: rest))) t → Steps p.tables e below (T.setTop (mkF m pc Ls (.ref a :: rest))) t := by
  obtain ⟨cl, A1, r1, r2, r3, r4⟩ := A
  have FC : FitC Z cl := fitC_of A1 fun i hi v hv => by rw [r1] at hi; rw [r3 i hi] at hv; cases hv; exact r4 i hi
  obtain ⟨T', h', X', e', ex, A', E', st⟩ := cloneA X hx hZ hown w1 w2 w3 w4 w5 w6 eT A1 E FC (g := mkF m pc Ls (.ref a :: rest)) rfl hsize rfl hd hf hW hl (by rw [r1]; exact hcap) hc hsl
  exact ⟨T', h', X', e', ex, ⟨cloneOf cl, A', r1, r2, r3, r4⟩, E', st⟩
theorem own_selP {s : State} {args : Array Value} {y : MethodName} {n : Nat} (hin : (Cond.instantiable y.cls n).before args s = true) (hpriv : s.PrivateAt y) (hinst : (Cond.instanceMethod y).before args s = true) (hy : y.cls ≠ "java/lang/invoke/MethodHandle" ∧ y.cls ≠ "java/lang/invoke/VarHandle") : (Cond.selects y.cls y y).before args s = true := by
  obtain ⟨c, k, h1, h2, -, h4, -⟩ := Cond.instantiable_spec hin
  exact selects_self_of_private h1 h2 (Bool.or_eq_false_iff.mp h4).1 hpriv hinst hy
theorem own_ixa (h : own_ix j i) (k : Nat) (hi : i + k < 2 ^ 31) : own_ix (j + Int32.ofNat k) (i + k) := by
  obtain ⟨h1, h2⟩ := h
  have e0 : (0 : Int32).toInt = 0 := rfl
  have e1 : (Int32.ofNat k).toInt = k := Int32.toInt_ofNat_of_lt (by omega)
  rw [Int32.lt_iff_toInt_lt, e0] at h1
  simp only [Int32.toNatClampNeg] at h2
  have h3 := c_iadd j (Int32.ofNat k); have h4 := rng32 (j + Int32.ofNat k)
  rw [e1] at h3
  refine ⟨by rw [Int32.lt_iff_toInt_lt, e0]; omega, ?_⟩
  simp only [Int32.toNatClampNeg]; omega
theorem own_ixI (h : own_ix j i) : j.toInt = i := by
  obtain ⟨h1, h2⟩ := h
  have e0 : (0 : Int32).toInt = 0 := rfl
  rw [Int32.lt_iff_toInt_lt, e0] at h1
  simp only [Int32.toNatClampNeg] at h2; omega
theorem own_ixof (h : j.toInt = i) : own_ix j i := by
  have e0 : (0 : Int32).toInt = 0 := rfl
  refine ⟨by rw [Int32.lt_iff_toInt_lt, e0]; omega, ?_⟩
  simp only [Int32.toNatClampNeg]; omega
theorem own_ixs (h : ¬ j < 0) : own_ix j j.toNatClampNeg := ⟨h, rfl⟩
theorem own_and3 (x : Int32) (k : Nat) (hk : k < 2 ^ 31) : ¬ (x &&& Int32.ofNat k) < 0 ∧ (x &&& Int32.ofNat k).toNatClampNeg ≤ k := by
  have h0 : 0 ≤ (Int32.ofNat k).toInt := by rw [Int32.toInt_ofNat_of_lt hk]; omega
  have h1 := (c_andS x (Int32.ofNat k)).2.2 h0
  have e0 : (0 : Int32).toInt = 0 := rfl
  refine ⟨by rw [Int32.lt_iff_toInt_lt, e0]; omega, ?_⟩
  have hb : (x &&& Int32.ofNat k).toBitVec.toNat ≤ k := by
    have : (x &&& Int32.ofNat k).toBitVec.toNat = x.toBitVec.toNat &&& (Int32.ofNat k).toBitVec.toNat := by rw [Int32.toBitVec_and, BitVec.toNat_and]
    rw [this]
    refine Nat.le_trans Nat.and_le_right ?_
    show (BitVec.ofNat 32 k).toNat ≤ k
    rw [BitVec.toNat_ofNat]; exact Nat.mod_le _ _
  have e : (x &&& Int32.ofNat k).toInt = ((x &&& Int32.ofNat k).toBitVec.toNat : Int) := by
    show (x &&& Int32.ofNat k).toBitVec.toInt = _
    rw [BitVec.toInt_eq_toNat_cond]; split
    · rfl
    · omega
  simp only [Int32.toNatClampNeg, e]; omega
end Own

def own_fl (a b c d : Int32) (j : Nat) : Int32 := if j = 0 then a.toInt8.toInt32 else if j = 1 then b.toInt8.toInt32 else if j = 2 then c.toInt8.toInt32 else d.toInt8.toInt32
theorem own_r5 (x : Int32) : 0 ≤ ((x &&& (7 : Int32)) % (5 : Int32)).toInt ∧ ((x &&& (7 : Int32)) % (5 : Int32)).toInt < 5 := by
  have h1 := c_and x 7 (by decide)
  have h2 := (c_irem (x &&& 7) 5 5 rfl).1 h1.1
  omega
theorem own_len5 {x : Int32} {k : Nat} (h : own_ix x k) (hk : k < 5) : k.toInt32 = x := by
  rw [← Int32.toInt_inj, own_ixI h]; exact Int32.toInt_ofNat_of_lt (by omega)
theorem own_fa {f g : Nat → Int32} {k : Nat} (hk : k < 5) (h0 : 0 < k → f 0 = g 0) (h1 : 1 < k → f 1 = g 1) (h2 : 2 < k → f 2 = g 2) (h3 : 3 < k → f 3 = g 3) : ∀ j, j < k → f j = g j := by
  intro j hj
  have : j = 0 ∨ j = 1 ∨ j = 2 ∨ j = 3 := by omega
  rcases this with rfl | rfl | rfl | rfl
  · exact h0 hj
  · exact h1 hj
  · exact h2 hj
  · exact h3 hj
theorem own_b1_d0 : decode method_3_code 0 = .ok (.iload_n 1, 1) := by decide +kernel
theorem own_b1_d1 : decode method_3_code 1 = .ok (.ifCond .le 8, 3) := by decide +kernel
theorem own_b1_d4 : decode method_3_code 4 = .ok (.aload_n 0, 1) := by decide +kernel
theorem own_b1_d5 : decode method_3_code 5 = .ok (.iconst 0, 1) := by decide +kernel
theorem own_b1_d6 : decode method_3_code 6 = .ok (.iload_n 2, 1) := by decide +kernel
theorem own_b1_d7 : decode method_3_code 7 = .ok (.i2b, 1) := by decide +kernel
theorem own_b1_d8 : decode method_3_code 8 = .ok (.bastore, 1) := by decide +kernel
theorem own_b1_d9 : decode method_3_code 9 = .ok (.iload_n 1, 1) := by decide +kernel
theorem own_b1_d10 : decode method_3_code 10 = .ok (.iconst 1, 1) := by decide +kernel
theorem own_b1_d11 : decode method_3_code 11 = .ok (.if_icmp .le 8, 3) := by decide +kernel
theorem own_b1_d14 : decode method_3_code 14 = .ok (.aload_n 0, 1) := by decide +kernel
theorem own_b1_d15 : decode method_3_code 15 = .ok (.iconst 1, 1) := by decide +kernel
theorem own_b1_d16 : decode method_3_code 16 = .ok (.iload_n 3, 1) := by decide +kernel
theorem own_b1_d17 : decode method_3_code 17 = .ok (.i2b, 1) := by decide +kernel
theorem own_b1_d18 : decode method_3_code 18 = .ok (.bastore, 1) := by decide +kernel
theorem own_b1_d19 : decode method_3_code 19 = .ok (.iload_n 1, 1) := by decide +kernel
theorem own_b1_d20 : decode method_3_code 20 = .ok (.iconst 2, 1) := by decide +kernel
theorem own_b1_d21 : decode method_3_code 21 = .ok (.if_icmp .le 9, 3) := by decide +kernel
theorem own_b1_d24 : decode method_3_code 24 = .ok (.aload_n 0, 1) := by decide +kernel
theorem own_b1_d25 : decode method_3_code 25 = .ok (.iconst 2, 1) := by decide +kernel
theorem own_b1_d26 : decode method_3_code 26 = .ok (.iload 4, 2) := by decide +kernel
theorem own_b1_d28 : decode method_3_code 28 = .ok (.i2b, 1) := by decide +kernel
theorem own_b1_d29 : decode method_3_code 29 = .ok (.bastore, 1) := by decide +kernel
theorem own_b1_d30 : decode method_3_code 30 = .ok (.iload_n 1, 1) := by decide +kernel
theorem own_b1_d31 : decode method_3_code 31 = .ok (.iconst 3, 1) := by decide +kernel
theorem own_b1_d32 : decode method_3_code 32 = .ok (.if_icmp .le 9, 3) := by decide +kernel
theorem own_b1_d35 : decode method_3_code 35 = .ok (.aload_n 0, 1) := by decide +kernel
theorem own_b1_d36 : decode method_3_code 36 = .ok (.iconst 3, 1) := by decide +kernel
theorem own_b1_d37 : decode method_3_code 37 = .ok (.iload 5, 2) := by decide +kernel
theorem own_b1_d39 : decode method_3_code 39 = .ok (.i2b, 1) := by decide +kernel
theorem own_b1_d40 : decode method_3_code 40 = .ok (.bastore, 1) := by decide +kernel
theorem own_b1_d41 : decode method_3_code 41 = .ok (.return_, 1) := by decide +kernel
theorem own_pn0 : plainName "com/example/syncline/syncline/BytesOfPinLaw" = true := by first | (simp [plainName, overriddenIn]; done) | decide +kernel
theorem own_ef_rm1 (m : MethodId) (x0 : Addr) (x1 : Int32) (x2 : Int32) (x3 : Int32) (x4 : Int32) (x5 : Int32) : entryFrame m #[(.ref x0), (.int x1), (.int x2), (.int x3), (.int x4), (.int x5)] 6 = mkF m 0 #[.val (.ref x0), .val (.int x1), .val (.int x2), .val (.int x3), .val (.int x4), .val (.int x5)] [] := by first | (simp [entryFrame, mkF, argsToLocals, Value.category]; done) | rfl
def Q1 (Z : State) (d : Addr) (x1 : Int32) (x2 : Int32) (x3 : Int32) (x4 : Int32) (x5 : Int32) (k : Nat) (f : Nat → Int32) (h0 : Heap) (n0 : Nat) (v : Option Value) (h : Heap) (L : List Loc) : Prop := v = none ∧ Fr n0 L ∧ Keep h0 h [d] ∧ own_A Z h d .byte k (own_fl x2 x3 x4 x5)
set_option maxRecDepth 65536 in
set_option maxHeartbeats 40000000 in
theorem rm1 (l : Launch) (Z : State) (a0 : Array Value) (hw : ∀ d ∈ tables_1, d.before a0 Z = true) (ws : List Jvm.Cond) (d : Addr) (x1 : Int32) (x2 : Int32) (x3 : Int32) (x4 : Int32) (x5 : Int32) (k : Nat) (f : Nat → Int32) (h0 : Heap) (n0 : Nat) (Z0 : n0 ≤ h0.size) (A : own_A Z h0 d .byte k f) (hk : own_ix x1 k) (hk5 : k < 5) (gd : n0 ≤ d) :
    MetFree l (⟨"com/example/syncline/syncline/BytesOfPinLaw", "fill", "([BIIIII)V"⟩ : MethodName) (head1 (Jvm.Cond.code (⟨"com/example/syncline/syncline/BytesOfPinLaw", "fill", "([BIIIII)V"⟩ : MethodName) method_3_code 6 none :: ws) ({ frames := 0, cells := 0, slots := 0, locals := 0 } : Room)) (fun aa_ U_ => aa_ = #[(.ref d), (.int x1), (.int x2), (.int x3), (.int x4), (.int x5)] ∧ Z.Warmed39 U_.vm ∧ U_.heap = h0) (fun _ _ _ _ _ => True) (fun _ U_ o_ U1_ => ∃ v_ L_, o_ = .returned v_ ∧ Q1 Z d x1 x2 x3 x4 x5 k f h0 n0 v_ U1_.heap L_ ∧ FrameEnd U_ o_ U1_ L_ ({ frames := 0, cells := 0, slots := 0, locals := 0 } : Room).cells ({ frames := 0, cells := 0, slots := 0, locals := 0 } : Room).slots) := by
  refine MetFree.of_bodySF (plainFor_of_name own_pn0) hisR ?_
  intro p e s m args below meth c s₁ Bd hml0 hP hK
  obtain ⟨rfl, hZ, hh⟩ := hP
  have hx := Bd.exec
  have hby := Bd.bytes
  have hlk := Bd.notSynchronized
  have hml : c.maxLocals = 6 := hml0
  have hown : s.vm.findClass "com/example/syncline/syncline/BytesOfPinLaw" = some m.cls := findClass_of_methodNamed Bd.named
  have hnm := (name_of_methodNamed Bd.named Bd.method).1
  have X0 : Stand p l e ({ frames := 0, cells := 0, slots := 0, locals := 0 } : Room) s m #[(.ref d), (.int x1), (.int x2), (.int x3), (.int x4), (.int x5)] below meth c s₁ [] 0 0 := Stand.of_body Bd
  have e0 : s₁.heap = h0 := by rw [← hh, Bd.state]; rfl
  have N0 := Fr.nil n0
  show own_E p e below s (Q1 Z d x1 x2 x3 x4 x5 k f h0 n0) ({ frames := 0, cells := 0, slots := 0, locals := 0 } : Room).cells ({ frames := 0, cells := 0, slots := 0, locals := 0 } : Room).slots (s₁.setTop (entryFrame m #[(.ref d), (.int x1), (.int x2), (.int x3), (.int x4), (.int x5)] 6))
  refine own_st (B := s₁.setTop (mkF m 0 #[.val (.ref d), .val (.int x1), .val (.int x2), .val (.int x3), .val (.int x4), .val (.int x5)] [])) (fun t_ k_ => castTop (own_ef_rm1 m d x1 x2 x3 x4 x5) k_) ?_
  have K0 : Keep h0 h0 [d] := Keep.refl _ _
  have hki := own_ixI hk
  refine own_st (B := s₁.setTop (mkF m 1 #[.val (.ref d), .val (.int x1), .val (.int x2), .val (.int x3), .val (.int x4), .val (.int x5)] [(.int x1)])) (fun t_ k_ => XS.iloadN X0.here hx rfl (hb hby own_b1_d0) rfl k_) ?_
  by_cases hc1 : (0 : Int32) < x1
  · have hd1 := own_lt32 hc1
    rw [show (0 : Int32).toInt = 0 from rfl] at hd1
    refine own_st (B := s₁.setTop (mkF m 4 #[.val (.ref d), .val (.int x1), .val (.int x2), .val (.int x3), .val (.int x4), .val (.int x5)] [])) (fun t_ k_ => XS.ifNo X0.here hx rfl (hb hby own_b1_d1) rfl ((if0 _ _).trans (tlt hc1).2.2.2) k_) ?_
    refine own_st (B := s₁.setTop (mkF m 5 #[.val (.ref d), .val (.int x1), .val (.int x2), .val (.int x3), .val (.int x4), .val (.int x5)] [(.ref d)])) (fun t_ k_ => XS.aloadN X0.here hx rfl (hb hby own_b1_d4) rfl rfl k_) ?_
    refine own_st (B := s₁.setTop (mkF m 6 #[.val (.ref d), .val (.int x1), .val (.int x2), .val (.int x3), .val (.int x4), .val (.int x5)] [(.int (0 : Int32)), (.ref d)])) (fun t_ k_ => XS.iconst X0.here hx rfl (hb hby own_b1_d5) k_) ?_
    refine own_st (B := s₁.setTop (mkF m 7 #[.val (.ref d), .val (.int x1), .val (.int x2), .val (.int x3), .val (.int x4), .val (.int x5)] [(.int x2), (.int (0 : Int32)), (.ref d)])) (fun t_ k_ => XS.iloadN X0.here hx rfl (hb hby own_b1_d6) rfl k_) ?_
    refine own_st (B := s₁.setTop (mkF m 8 #[.val (.ref d), .val (.int x1), .val (.int x2), .val (.int x3), .val (.int x4), .val (.int x5)] [(.int (x2.toInt8.toInt32)), (.int (0 : Int32)), (.ref d)])) (fun t_ k_ => XS.i2b X0.here hx rfl (hb hby own_b1_d7) rfl k_) ?_
    obtain ⟨T2, h2, X2, e2, W2, a2, st2⟩ := own_stB X0 hx hZ e0 A (i := 0) (j := (0 : Int32)) (by decide) (by omega) (pc := 8) (x := (x2.toInt8.toInt32)) (Ls := #[.val (.ref d), .val (.int x1), .val (.int x2), .val (.int x3), .val (.int x4), .val (.int x5)]) (rest := []) (hb hby own_b1_d8)
    have N2 := Fr.snoc X2 N0 gd
    have Z3 := Nat.le_trans Z0 (Keep.of_wr W2).1
    have K4 := K0.wr W2 (Or.inl (List.mem_of_getElem? (i := 0) rfl))
    refine own_st (B := T2.setTop (mkF m 9 #[.val (.ref d), .val (.int x1), .val (.int x2), .val (.int x3), .val (.int x4), .val (.int x5)] [])) st2 ?_
    refine own_st (B := T2.setTop (mkF m 10 #[.val (.ref d), .val (.int x1), .val (.int x2), .val (.int x3), .val (.int x4), .val (.int x5)] [(.int x1)])) (fun t_ k_ => XS.iloadN X2.here hx rfl (hb hby own_b1_d9) rfl k_) ?_
    refine own_st (B := T2.setTop (mkF m 11 #[.val (.ref d), .val (.int x1), .val (.int x2), .val (.int x3), .val (.int x4), .val (.int x5)] [(.int (1 : Int32)), (.int x1)])) (fun t_ k_ => XS.iconst X2.here hx rfl (hb hby own_b1_d10) k_) ?_
    by_cases hc5 : (1 : Int32) < x1
    · have hd5 := own_lt32 hc5
      rw [show (1 : Int32).toInt = 1 from rfl] at hd5
      refine own_st (B := T2.setTop (mkF m 14 #[.val (.ref d), .val (.int x1), .val (.int x2), .val (.int x3), .val (.int x4), .val (.int x5)] [])) (fun t_ k_ => XS.icmpNo X2.here hx rfl (hb hby own_b1_d11) rfl (tlt hc5).2.2.2 k_) ?_
      refine own_st (B := T2.setTop (mkF m 15 #[.val (.ref d), .val (.int x1), .val (.int x2), .val (.int x3), .val (.int x4), .val (.int x5)] [(.ref d)])) (fun t_ k_ => XS.aloadN X2.here hx rfl (hb hby own_b1_d14) rfl rfl k_) ?_
      refine own_st (B := T2.setTop (mkF m 16 #[.val (.ref d), .val (.int x1), .val (.int x2), .val (.int x3), .val (.int x4), .val (.int x5)] [(.int (1 : Int32)), (.ref d)])) (fun t_ k_ => XS.iconst X2.here hx rfl (hb hby own_b1_d15) k_) ?_
      refine own_st (B := T2.setTop (mkF m 17 #[.val (.ref d), .val (.int x1), .val (.int x2), .val (.int x3), .val (.int x4), .val (.int x5)] [(.int x3), (.int (1 : Int32)), (.ref d)])) (fun t_ k_ => XS.iloadN X2.here hx rfl (hb hby own_b1_d16) rfl k_) ?_
      refine own_st (B := T2.setTop (mkF m 18 #[.val (.ref d), .val (.int x1), .val (.int x2), .val (.int x3), .val (.int x4), .val (.int x5)] [(.int (x3.toInt8.toInt32)), (.int (1 : Int32)), (.ref d)])) (fun t_ k_ => XS.i2b X2.here hx rfl (hb hby own_b1_d17) rfl k_) ?_
      obtain ⟨T6, h6, X6, e6, W6, a6, st6⟩ := own_stB X2 hx hZ e2 a2 (i := 1) (j := (1 : Int32)) (by decide) (by omega) (pc := 18) (x := (x3.toInt8.toInt32)) (Ls := #[.val (.ref d), .val (.int x1), .val (.int x2), .val (.int x3), .val (.int x4), .val (.int x5)]) (rest := []) (hb hby own_b1_d18)
      have N6 := Fr.snoc X6 N2 gd
      have Z7 := Nat.le_trans Z3 (Keep.of_wr W6).1
      have K8 := K4.wr W6 (Or.inl (List.mem_of_getElem? (i := 0) rfl))
      refine own_st (B := T6.setTop (mkF m 19 #[.val (.ref d), .val (.int x1), .val (.int x2), .val (.int x3), .val (.int x4), .val (.int x5)] [])) st6 ?_
      refine own_st (B := T6.setTop (mkF m 20 #[.val (.ref d), .val (.int x1), .val (.int x2), .val (.int x3), .val (.int x4), .val (.int x5)] [(.int x1)])) (fun t_ k_ => XS.iloadN X6.here hx rfl (hb hby own_b1_d19) rfl k_) ?_
      refine own_st (B := T6.setTop (mkF m 21 #[.val (.ref d), .val (.int x1), .val (.int x2), .val (.int x3), .val (.int x4), .val (.int x5)] [(.int (2 : Int32)), (.int x1)])) (fun t_ k_ => XS.iconst X6.here hx rfl (hb hby own_b1_d20) k_) ?_
      by_cases hc9 : (2 : Int32) < x1
      · have hd9 := own_lt32 hc9
        rw [show (2 : Int32).toInt = 2 from rfl] at hd9
        refine own_st (B := T6.setTop (mkF m 24 #[.val (.ref d), .val (.int x1), .val (.int x2), .val (.int x3), .val (.int x4), .val (.int x5)] [])) (fun t_ k_ => XS.icmpNo X6.here hx rfl (hb hby own_b1_d21) rfl (tlt hc9).2.2.2 k_) ?_
        refine own_st (B := T6.setTop (mkF m 25 #[.val (.ref d), .val (.int x1), .val (.int x2), .val (.int x3), .val (.int x4), .val (.int x5)] [(.ref d)])) (fun t_ k_ => XS.aloadN X6.here hx rfl (hb hby own_b1_d24) rfl rfl k_) ?_
        refine own_st (B := T6.setTop (mkF m 26 #[.val (.ref d), .val (.int x1), .val (.int x2), .val (.int x3), .val (.int x4), .val (.int x5)] [(.int (2 : Int32)), (.ref d)])) (fun t_ k_ => XS.iconst X6.here hx rfl (hb hby own_b1_d25) k_) ?_
        refine own_st (B := T6.setTop (mkF m 28 #[.val (.ref d), .val (.int x1), .val (.int x2), .val (.int x3), .val (.int x4), .val (.int x5)] [(.int x4), (.int (2 : Int32)), (.ref d)])) (fun t_ k_ => XS.iload X6.here hx rfl (hb hby own_b1_d26) rfl k_) ?_
        refine own_st (B := T6.setTop (mkF m 29 #[.val (.ref d), .val (.int x1), .val (.int x2), .val (.int x3), .val (.int x4), .val (.int x5)] [(.int (x4.toInt8.toInt32)), (.int (2 : Int32)), (.ref d)])) (fun t_ k_ => XS.i2b X6.here hx rfl (hb hby own_b1_d28) rfl k_) ?_
        obtain ⟨T10, h10, X10, e10, W10, a10, st10⟩ := own_stB X6 hx hZ e6 a6 (i := 2) (j := (2 : Int32)) (by decide) (by omega) (pc := 29) (x := (x4.toInt8.toInt32)) (Ls := #[.val (.ref d), .val (.int x1), .val (.int x2), .val (.int x3), .val (.int x4), .val (.int x5)]) (rest := []) (hb hby own_b1_d29)
        have N10 := Fr.snoc X10 N6 gd
        have Z11 := Nat.le_trans Z7 (Keep.of_wr W10).1
        have K12 := K8.wr W10 (Or.inl (List.mem_of_getElem? (i := 0) rfl))
        refine own_st (B := T10.setTop (mkF m 30 #[.val (.ref d), .val (.int x1), .val (.int x2), .val (.int x3), .val (.int x4), .val (.int x5)] [])) st10 ?_
        refine own_st (B := T10.setTop (mkF m 31 #[.val (.ref d), .val (.int x1), .val (.int x2), .val (.int x3), .val (.int x4), .val (.int x5)] [(.int x1)])) (fun t_ k_ => XS.iloadN X10.here hx rfl (hb hby own_b1_d30) rfl k_) ?_
        refine own_st (B := T10.setTop (mkF m 32 #[.val (.ref d), .val (.int x1), .val (.int x2), .val (.int x3), .val (.int x4), .val (.int x5)] [(.int (3 : Int32)), (.int x1)])) (fun t_ k_ => XS.iconst X10.here hx rfl (hb hby own_b1_d31) k_) ?_
        by_cases hc13 : (3 : Int32) < x1
        · have hd13 := own_lt32 hc13
          rw [show (3 : Int32).toInt = 3 from rfl] at hd13
          refine own_st (B := T10.setTop (mkF m 35 #[.val (.ref d), .val (.int x1), .val (.int x2), .val (.int x3), .val (.int x4), .val (.int x5)] [])) (fun t_ k_ => XS.icmpNo X10.here hx rfl (hb hby own_b1_d32) rfl (tlt hc13).2.2.2 k_) ?_
          refine own_st (B := T10.setTop (mkF m 36 #[.val (.ref d), .val (.int x1), .val (.int x2), .val (.int x3), .val (.int x4), .val (.int x5)] [(.ref d)])) (fun t_ k_ => XS.aloadN X10.here hx rfl (hb hby own_b1_d35) rfl rfl k_) ?_
          refine own_st (B := T10.setTop (mkF m 37 #[.val (.ref d), .val (.int x1), .val (.int x2), .val (.int x3), .val (.int x4), .val (.int x5)] [(.int (3 : Int32)), (.ref d)])) (fun t_ k_ => XS.iconst X10.here hx rfl (hb hby own_b1_d36) k_) ?_
          refine own_st (B := T10.setTop (mkF m 39 #[.val (.ref d), .val (.int x1), .val (.int x2), .val (.int x3), .val (.int x4), .val (.int x5)] [(.int x5), (.int (3 : Int32)), (.ref d)])) (fun t_ k_ => XS.iload X10.here hx rfl (hb hby own_b1_d37) rfl k_) ?_
          refine own_st (B := T10.setTop (mkF m 40 #[.val (.ref d), .val (.int x1), .val (.int x2), .val (.int x3), .val (.int x4), .val (.int x5)] [(.int (x5.toInt8.toInt32)), (.int (3 : Int32)), (.ref d)])) (fun t_ k_ => XS.i2b X10.here hx rfl (hb hby own_b1_d39) rfl k_) ?_
          obtain ⟨T14, h14, X14, e14, W14, a14, st14⟩ := own_stB X10 hx hZ e10 a10 (i := 3) (j := (3 : Int32)) (by decide) (by omega) (pc := 40) (x := (x5.toInt8.toInt32)) (Ls := #[.val (.ref d), .val (.int x1), .val (.int x2), .val (.int x3), .val (.int x4), .val (.int x5)]) (rest := []) (hb hby own_b1_d40)
          have N14 := Fr.snoc X14 N10 gd
          have Z15 := Nat.le_trans Z11 (Keep.of_wr W14).1
          have K16 := K12.wr W14 (Or.inl (List.mem_of_getElem? (i := 0) rfl))
          refine own_st (B := T14.setTop (mkF m 41 #[.val (.ref d), .val (.int x1), .val (.int x2), .val (.int x3), .val (.int x4), .val (.int x5)] [])) st14 ?_
          refine own_retV X14 hx Bd.returns hlk (hb hby own_b1_d41) (by decide) (by decide) ?_
          show Q1 Z d x1 x2 x3 x4 x5 k f h0 n0 _ T14.heap _
          rw [e14]
          exact ⟨rfl, N14, K16, a14.congr (own_fa hk5 (fun q' => by first | (simp [own_up, own_fl, own_nbb]; done) | omega) (fun q' => by first | (simp [own_up, own_fl, own_nbb]; done) | omega) (fun q' => by first | (simp [own_up, own_fl, own_nbb]; done) | omega) (fun q' => by first | (simp [own_up, own_fl, own_nbb]; done) | omega))⟩
        · have hd13 := own_nlt32 hc13
          rw [show (3 : Int32).toInt = 3 from rfl] at hd13
          refine own_st (B := T10.setTop (mkF m 41 #[.val (.ref d), .val (.int x1), .val (.int x2), .val (.int x3), .val (.int x4), .val (.int x5)] [])) (fun t_ k_ => XS.icmpYes X10.here hx rfl (pc0 := 32) (pc' := 41) rfl (hb hby own_b1_d32) rfl (flt hc13).2.2.2 (by decide) (by decide) k_) ?_
          refine own_retV X10 hx Bd.returns hlk (hb hby own_b1_d41) (by decide) (by decide) ?_
          show Q1 Z d x1 x2 x3 x4 x5 k f h0 n0 _ T10.heap _
          rw [e10]
          exact ⟨rfl, N10, K12, a10.congr (own_fa hk5 (fun q' => by first | (simp [own_up, own_fl, own_nbb]; done) | omega) (fun q' => by first | (simp [own_up, own_fl, own_nbb]; done) | omega) (fun q' => by first | (simp [own_up, own_fl, own_nbb]; done) | omega) (fun q' => by first | (simp [own_up, own_fl, own_nbb]; done) | omega))⟩
      · have hd9 := own_nlt32 hc9
        rw [show (2 : Int32).toInt = 2 from rfl] at hd9
        refine own_st (B := T6.setTop (mkF m 30 #[.val (.ref d), .val (.int x1), .val (.int x2), .val (.int x3), .val (.int x4), .val (.int x5)] [])) (fun t_ k_ => XS.icmpYes X6.here hx rfl (pc0 := 21) (pc' := 30) rfl (hb hby own_b1_d21) rfl (flt hc9).2.2.2 (by decide) (by decide) k_) ?_
        refine own_st (B := T6.setTop (mkF m 31 #[.val (.ref d), .val (.int x1), .val (.int x2), .val (.int x3), .val (.int x4), .val (.int x5)] [(.int x1)])) (fun t_ k_ => XS.iloadN X6.here hx rfl (hb hby own_b1_d30) rfl k_) ?_
        refine own_st (B := T6.setTop (mkF m 32 #[.val (.ref d), .val (.int x1), .val (.int x2), .val (.int x3), .val (.int x4), .val (.int x5)] [(.int (3 : Int32)), (.int x1)])) (fun t_ k_ => XS.iconst X6.here hx rfl (hb hby own_b1_d31) k_) ?_
        have hc17 : ¬ ((3 : Int32) < x1) := fun q' => by have := own_lt32 q'; simp only [Int32.reduceToInt] at this; omega
        have hd17 := own_nlt32 hc17
        rw [show (3 : Int32).toInt = 3 from rfl] at hd17
        refine own_st (B := T6.setTop (mkF m 41 #[.val (.ref d), .val (.int x1), .val (.int x2), .val (.int x3), .val (.int x4), .val (.int x5)] [])) (fun t_ k_ => XS.icmpYes X6.here hx rfl (pc0 := 32) (pc' := 41) rfl (hb hby own_b1_d32) rfl (flt hc17).2.2.2 (by decide) (by decide) k_) ?_
        refine own_retV X6 hx Bd.returns hlk (hb hby own_b1_d41) (by decide) (by decide) ?_
        show Q1 Z d x1 x2 x3 x4 x5 k f h0 n0 _ T6.heap _
        rw [e6]
        exact ⟨rfl, N6, K8, a6.congr (own_fa hk5 (fun q' => by first | (simp [own_up, own_fl, own_nbb]; done) | omega) (fun q' => by first | (simp [own_up, own_fl, own_nbb]; done) | omega) (fun q' => by first | (simp [own_up, own_fl, own_nbb]; done) | omega) (fun q' => by first | (simp [own_up, own_fl, own_nbb]; done) | omega))⟩
    · have hd5 := own_nlt32 hc5
      rw [show (1 : Int32).toInt = 1 from rfl] at hd5
      refine own_st (B := T2.setTop (mkF m 19 #[.val (.ref d), .val (.int x1), .val (.int x2), .val (.int x3), .val (.int x4), .val (.int x5)] [])) (fun t_ k_ => XS.icmpYes X2.here hx rfl (pc0 := 11) (pc' := 19) rfl (hb hby own_b1_d11) rfl (flt hc5).2.2.2 (by decide) (by decide) k_) ?_
      refine own_st (B := T2.setTop (mkF m 20 #[.val (.ref d), .val (.int x1), .val (.int x2), .val (.int x3), .val (.int x4), .val (.int x5)] [(.int x1)])) (fun t_ k_ => XS.iloadN X2.here hx rfl (hb hby own_b1_d19) rfl k_) ?_
      refine own_st (B := T2.setTop (mkF m 21 #[.val (.ref d), .val (.int x1), .val (.int x2), .val (.int x3), .val (.int x4), .val (.int x5)] [(.int (2 : Int32)), (.int x1)])) (fun t_ k_ => XS.iconst X2.here hx rfl (hb hby own_b1_d20) k_) ?_
      have hc18 : ¬ ((2 : Int32) < x1) := fun q' => by have := own_lt32 q'; simp only [Int32.reduceToInt] at this; omega
      have hd18 := own_nlt32 hc18
      rw [show (2 : Int32).toInt = 2 from rfl] at hd18
      refine own_st (B := T2.setTop (mkF m 30 #[.val (.ref d), .val (.int x1), .val (.int x2), .val (.int x3), .val (.int x4), .val (.int x5)] [])) (fun t_ k_ => XS.icmpYes X2.here hx rfl (pc0 := 21) (pc' := 30) rfl (hb hby own_b1_d21) rfl (flt hc18).2.2.2 (by decide) (by decide) k_) ?_
      refine own_st (B := T2.setTop (mkF m 31 #[.val (.ref d), .val (.int x1), .val (.int x2), .val (.int x3), .val (.int x4), .val (.int x5)] [(.int x1)])) (fun t_ k_ => XS.iloadN X2.here hx rfl (hb hby own_b1_d30) rfl k_) ?_
      refine own_st (B := T2.setTop (mkF m 32 #[.val (.ref d), .val (.int x1), .val (.int x2), .val (.int x3), .val (.int x4), .val (.int x5)] [(.int (3 : Int32)), (.int x1)])) (fun t_ k_ => XS.iconst X2.here hx rfl (hb hby own_b1_d31) k_) ?_
      have hc19 : ¬ ((3 : Int32) < x1) := fun q' => by have := own_lt32 q'; simp only [Int32.reduceToInt] at this; omega
      have hd19 := own_nlt32 hc19
      rw [show (3 : Int32).toInt = 3 from rfl] at hd19
      refine own_st (B := T2.setTop (mkF m 41 #[.val (.ref d), .val (.int x1), .val (.int x2), .val (.int x3), .val (.int x4), .val (.int x5)] [])) (fun t_ k_ => XS.icmpYes X2.here hx rfl (pc0 := 32) (pc' := 41) rfl (hb hby own_b1_d32) rfl (flt hc19).2.2.2 (by decide) (by decide) k_) ?_
      refine own_retV X2 hx Bd.returns hlk (hb hby own_b1_d41) (by decide) (by decide) ?_
      show Q1 Z d x1 x2 x3 x4 x5 k f h0 n0 _ T2.heap _
      rw [e2]
      exact ⟨rfl, N2, K4, a2.congr (own_fa hk5 (fun q' => by first | (simp [own_up, own_fl, own_nbb]; done) | omega) (fun q' => by first | (simp [own_up, own_fl, own_nbb]; done) | omega) (fun q' => by first | (simp [own_up, own_fl, own_nbb]; done) | omega) (fun q' => by first | (simp [own_up, own_fl, own_nbb]; done) | omega))⟩
  · have hd1 := own_nlt32 hc1
    rw [show (0 : Int32).toInt = 0 from rfl] at hd1
    refine own_st (B := s₁.setTop (mkF m 9 #[.val (.ref d), .val (.int x1), .val (.int x2), .val (.int x3), .val (.int x4), .val (.int x5)] [])) (fun t_ k_ => XS.ifYes X0.here hx rfl (pc0 := 1) (pc' := 9) rfl (hb hby own_b1_d1) rfl ((if0 _ _).trans (flt hc1).2.2.2) (by decide) (by decide) k_) ?_
    refine own_st (B := s₁.setTop (mkF m 10 #[.val (.ref d), .val (.int x1), .val (.int x2), .val (.int x3), .val (.int x4), .val (.int x5)] [(.int x1)])) (fun t_ k_ => XS.iloadN X0.here hx rfl (hb hby own_b1_d9) rfl k_) ?_
    refine own_st (B := s₁.setTop (mkF m 11 #[.val (.ref d), .val (.int x1), .val (.int x2), .val (.int x3), .val (.int x4), .val (.int x5)] [(.int (1 : Int32)), (.int x1)])) (fun t_ k_ => XS.iconst X0.here hx rfl (hb hby own_b1_d10) k_) ?_
    have hc20 : ¬ ((1 : Int32) < x1) := fun q' => by have := own_lt32 q'; simp only [Int32.reduceToInt] at this; omega
    have hd20 := own_nlt32 hc20
    rw [show (1 : Int32).toInt = 1 from rfl] at hd20
    refine own_st (B := s₁.setTop (mkF m 19 #[.val (.ref d), .val (.int x1), .val (.int x2), .val (.int x3), .val (.int x4), .val (.int x5)] [])) (fun t_ k_ => XS.icmpYes X0.here hx rfl (pc0 := 11) (pc' := 19) rfl (hb hby own_b1_d11) rfl (flt hc20).2.2.2 (by decide) (by decide) k_) ?_
    refine own_st (B := s₁.setTop (mkF m 20 #[.val (.ref d), .val (.int x1), .val (.int x2), .val (.int x3), .val (.int x4), .val (.int x5)] [(.int x1)])) (fun t_ k_ => XS.iloadN X0.here hx rfl (hb hby own_b1_d19) rfl k_) ?_
    refine own_st (B := s₁.setTop (mkF m 21 #[.val (.ref d), .val (.int x1), .val (.int x2), .val (.int x3), .val (.int x4), .val (.int x5)] [(.int (2 : Int32)), (.int x1)])) (fun t_ k_ => XS.iconst X0.here hx rfl (hb hby own_b1_d20) k_) ?_
    have hc21 : ¬ ((2 : Int32) < x1) := fun q' => by have := own_lt32 q'; simp only [Int32.reduceToInt] at this; omega
    have hd21 := own_nlt32 hc21
    rw [show (2 : Int32).toInt = 2 from rfl] at hd21
    refine own_st (B := s₁.setTop (mkF m 30 #[.val (.ref d), .val (.int x1), .val (.int x2), .val (.int x3), .val (.int x4), .val (.int x5)] [])) (fun t_ k_ => XS.icmpYes X0.here hx rfl (pc0 := 21) (pc' := 30) rfl (hb hby own_b1_d21) rfl (flt hc21).2.2.2 (by decide) (by decide) k_) ?_
    refine own_st (B := s₁.setTop (mkF m 31 #[.val (.ref d), .val (.int x1), .val (.int x2), .val (.int x3), .val (.int x4), .val (.int x5)] [(.int x1)])) (fun t_ k_ => XS.iloadN X0.here hx rfl (hb hby own_b1_d30) rfl k_) ?_
    refine own_st (B := s₁.setTop (mkF m 32 #[.val (.ref d), .val (.int x1), .val (.int x2), .val (.int x3), .val (.int x4), .val (.int x5)] [(.int (3 : Int32)), (.int x1)])) (fun t_ k_ => XS.iconst X0.here hx rfl (hb hby own_b1_d31) k_) ?_
    have hc22 : ¬ ((3 : Int32) < x1) := fun q' => by have := own_lt32 q'; simp only [Int32.reduceToInt] at this; omega
    have hd22 := own_nlt32 hc22
    rw [show (3 : Int32).toInt = 3 from rfl] at hd22
    refine own_st (B := s₁.setTop (mkF m 41 #[.val (.ref d), .val (.int x1), .val (.int x2), .val (.int x3), .val (.int x4), .val (.int x5)] [])) (fun t_ k_ => XS.icmpYes X0.here hx rfl (pc0 := 32) (pc' := 41) rfl (hb hby own_b1_d32) rfl (flt hc22).2.2.2 (by decide) (by decide) k_) ?_
    refine own_retV X0 hx Bd.returns hlk (hb hby own_b1_d41) (by decide) (by decide) ?_
    show Q1 Z d x1 x2 x3 x4 x5 k f h0 n0 _ s₁.heap _
    rw [e0]
    exact ⟨rfl, N0, K0, A.congr (own_fa hk5 (fun q' => by first | (simp [own_up, own_fl, own_nbb]; done) | omega) (fun q' => by first | (simp [own_up, own_fl, own_nbb]; done) | omega) (fun q' => by first | (simp [own_up, own_fl, own_nbb]; done) | omega) (fun q' => by first | (simp [own_up, own_fl, own_nbb]; done) | omega))⟩
theorem own_b6_d0 : decode method_2_code 0 = .ok (.aload_n 0, 1) := by decide +kernel
theorem own_b6_d1 : decode method_2_code 1 = .ok (.arraylength, 1) := by decide +kernel
theorem own_b6_d2 : decode method_2_code 2 = .ok (.iload_n 1, 1) := by decide +kernel
theorem own_b6_d3 : decode method_2_code 3 = .ok (.if_icmp .ne 61, 3) := by decide +kernel
theorem own_b6_d6 : decode method_2_code 6 = .ok (.iload_n 1, 1) := by decide +kernel
theorem own_b6_d7 : decode method_2_code 7 = .ok (.iconst 1, 1) := by decide +kernel
theorem own_b6_d8 : decode method_2_code 8 = .ok (.if_icmp .lt 11, 3) := by decide +kernel
theorem own_b6_d11 : decode method_2_code 11 = .ok (.aload_n 0, 1) := by decide +kernel
theorem own_b6_d12 : decode method_2_code 12 = .ok (.iconst 0, 1) := by decide +kernel
theorem own_b6_d13 : decode method_2_code 13 = .ok (.baload, 1) := by decide +kernel
theorem own_b6_d14 : decode method_2_code 14 = .ok (.iload_n 2, 1) := by decide +kernel
theorem own_b6_d15 : decode method_2_code 15 = .ok (.i2b, 1) := by decide +kernel
theorem own_b6_d16 : decode method_2_code 16 = .ok (.if_icmp .ne 48, 3) := by decide +kernel
theorem own_b6_d19 : decode method_2_code 19 = .ok (.iload_n 1, 1) := by decide +kernel
theorem own_b6_d20 : decode method_2_code 20 = .ok (.iconst 2, 1) := by decide +kernel
theorem own_b6_d21 : decode method_2_code 21 = .ok (.if_icmp .lt 11, 3) := by decide +kernel
theorem own_b6_d24 : decode method_2_code 24 = .ok (.aload_n 0, 1) := by decide +kernel
theorem own_b6_d25 : decode method_2_code 25 = .ok (.iconst 1, 1) := by decide +kernel
theorem own_b6_d26 : decode method_2_code 26 = .ok (.baload, 1) := by decide +kernel
theorem own_b6_d27 : decode method_2_code 27 = .ok (.iload_n 3, 1) := by decide +kernel
theorem own_b6_d28 : decode method_2_code 28 = .ok (.i2b, 1) := by decide +kernel
theorem own_b6_d29 : decode method_2_code 29 = .ok (.if_icmp .ne 35, 3) := by decide +kernel
theorem own_b6_d32 : decode method_2_code 32 = .ok (.iload_n 1, 1) := by decide +kernel
theorem own_b6_d33 : decode method_2_code 33 = .ok (.iconst 3, 1) := by decide +kernel
theorem own_b6_d34 : decode method_2_code 34 = .ok (.if_icmp .lt 12, 3) := by decide +kernel
theorem own_b6_d37 : decode method_2_code 37 = .ok (.aload_n 0, 1) := by decide +kernel
theorem own_b6_d38 : decode method_2_code 38 = .ok (.iconst 2, 1) := by decide +kernel
theorem own_b6_d39 : decode method_2_code 39 = .ok (.baload, 1) := by decide +kernel
theorem own_b6_d40 : decode method_2_code 40 = .ok (.iload 4, 2) := by decide +kernel
theorem own_b6_d42 : decode method_2_code 42 = .ok (.i2b, 1) := by decide +kernel
theorem own_b6_d43 : decode method_2_code 43 = .ok (.if_icmp .ne 21, 3) := by decide +kernel
theorem own_b6_d46 : decode method_2_code 46 = .ok (.iload_n 1, 1) := by decide +kernel
theorem own_b6_d47 : decode method_2_code 47 = .ok (.iconst 4, 1) := by decide +kernel
theorem own_b6_d48 : decode method_2_code 48 = .ok (.if_icmp .lt 12, 3) := by decide +kernel
theorem own_b6_d51 : decode method_2_code 51 = .ok (.aload_n 0, 1) := by decide +kernel
theorem own_b6_d52 : decode method_2_code 52 = .ok (.iconst 3, 1) := by decide +kernel
theorem own_b6_d53 : decode method_2_code 53 = .ok (.baload, 1) := by decide +kernel
theorem own_b6_d54 : decode method_2_code 54 = .ok (.iload 5, 2) := by decide +kernel
theorem own_b6_d56 : decode method_2_code 56 = .ok (.i2b, 1) := by decide +kernel
theorem own_b6_d57 : decode method_2_code 57 = .ok (.if_icmp .ne 7, 3) := by decide +kernel
theorem own_b6_d60 : decode method_2_code 60 = .ok (.iconst 1, 1) := by decide +kernel
theorem own_b6_d61 : decode method_2_code 61 = .ok (.goto 4, 3) := by decide +kernel
theorem own_b6_d65 : decode method_2_code 65 = .ok (.ireturn, 1) := by decide +kernel
theorem own_ef_rm6 (m : MethodId) (x0 : Addr) (x1 : Int32) (x2 : Int32) (x3 : Int32) (x4 : Int32) (x5 : Int32) : entryFrame m #[(.ref x0), (.int x1), (.int x2), (.int x3), (.int x4), (.int x5)] 6 = mkF m 0 #[.val (.ref x0), .val (.int x1), .val (.int x2), .val (.int x3), .val (.int x4), .val (.int x5)] [] := by first | (simp [entryFrame, mkF, argsToLocals, Value.category]; done) | rfl
def Q6 (Z : State) (d : Addr) (x1 : Int32) (x2 : Int32) (x3 : Int32) (x4 : Int32) (x5 : Int32) (k : Nat) (h0 : Heap) (n0 : Nat) (v : Option Value) (h : Heap) (L : List Loc) : Prop := v = some (.int 1) ∧ Fr n0 L ∧ h = h0
set_option maxRecDepth 65536 in
set_option maxHeartbeats 40000000 in
theorem rm6 (l : Launch) (Z : State) (a0 : Array Value) (hw : ∀ d ∈ tables_1, d.before a0 Z = true) (ws : List Jvm.Cond) (d : Addr) (x1 : Int32) (x2 : Int32) (x3 : Int32) (x4 : Int32) (x5 : Int32) (k : Nat) (h0 : Heap) (n0 : Nat) (Z0 : n0 ≤ h0.size) (A : own_A Z h0 d .byte k (own_fl x2 x3 x4 x5)) (hk : own_ix x1 k) (hk5 : k < 5) :
    MetFree l (⟨"com/example/syncline/syncline/BytesOfPinLaw", "holds", "([BIIIII)Z"⟩ : MethodName) (head1 (Jvm.Cond.code (⟨"com/example/syncline/syncline/BytesOfPinLaw", "holds", "([BIIIII)Z"⟩ : MethodName) method_2_code 6 (some .boolean) :: ws) ({ frames := 0, cells := 0, slots := 0, locals := 0 } : Room)) (fun aa_ U_ => aa_ = #[(.ref d), (.int x1), (.int x2), (.int x3), (.int x4), (.int x5)] ∧ Z.Warmed39 U_.vm ∧ U_.heap = h0) (fun _ _ _ _ _ => True) (fun _ U_ o_ U1_ => ∃ v_ L_, o_ = .returned v_ ∧ Q6 Z d x1 x2 x3 x4 x5 k h0 n0 v_ U1_.heap L_ ∧ FrameEnd U_ o_ U1_ L_ ({ frames := 0, cells := 0, slots := 0, locals := 0 } : Room).cells ({ frames := 0, cells := 0, slots := 0, locals := 0 } : Room).slots) := by
  refine MetFree.of_bodySF (plainFor_of_name own_pn0) hisR ?_
  intro p e s m args below meth c s₁ Bd hml0 hP hK
  obtain ⟨rfl, hZ, hh⟩ := hP
  have hx := Bd.exec
  have hby := Bd.bytes
  have hlk := Bd.notSynchronized
  have hml : c.maxLocals = 6 := hml0
  have hown : s.vm.findClass "com/example/syncline/syncline/BytesOfPinLaw" = some m.cls := findClass_of_methodNamed Bd.named
  have hnm := (name_of_methodNamed Bd.named Bd.method).1
  have X0 : Stand p l e ({ frames := 0, cells := 0, slots := 0, locals := 0 } : Room) s m #[(.ref d), (.int x1), (.int x2), (.int x3), (.int x4), (.int x5)] below meth c s₁ [] 0 0 := Stand.of_body Bd
  have e0 : s₁.heap = h0 := by rw [← hh, Bd.state]; rfl
  have N0 := Fr.nil n0
  show own_E p e below s (Q6 Z d x1 x2 x3 x4 x5 k h0 n0) ({ frames := 0, cells := 0, slots := 0, locals := 0 } : Room).cells ({ frames := 0, cells := 0, slots := 0, locals := 0 } : Room).slots (s₁.setTop (entryFrame m #[(.ref d), (.int x1), (.int x2), (.int x3), (.int x4), (.int x5)] 6))
  refine own_st (B := s₁.setTop (mkF m 0 #[.val (.ref d), .val (.int x1), .val (.int x2), .val (.int x3), .val (.int x4), .val (.int x5)] [])) (fun t_ k_ => castTop (own_ef_rm6 m d x1 x2 x3 x4 x5) k_) ?_
  have hki := own_ixI hk
  refine own_st (B := s₁.setTop (mkF m 1 #[.val (.ref d), .val (.int x1), .val (.int x2), .val (.int x3), .val (.int x4), .val (.int x5)] [(.ref d)])) (fun t_ k_ => XS.aloadN X0.here hx rfl (hb hby own_b6_d0) rfl rfl k_) ?_
  refine own_st (B := s₁.setTop (mkF m 2 #[.val (.ref d), .val (.int x1), .val (.int x2), .val (.int x3), .val (.int x4), .val (.int x5)] [(.int (Nat.toInt32 k))])) (fun t_ k_ => own_len X0 hx hZ e0 A (z := (Nat.toInt32 k)) rfl (hb hby own_b6_d1) t_ k_) ?_
  refine own_st (B := s₁.setTop (mkF m 3 #[.val (.ref d), .val (.int x1), .val (.int x2), .val (.int x3), .val (.int x4), .val (.int x5)] [(.int x1), (.int (Nat.toInt32 k))])) (fun t_ k_ => XS.iloadN X0.here hx rfl (hb hby own_b6_d2) rfl k_) ?_
  have hc1 : (Nat.toInt32 k) = x1 := own_len5 hk hk5
  have hd1 := own_eq32 hc1
  refine own_st (B := s₁.setTop (mkF m 6 #[.val (.ref d), .val (.int x1), .val (.int x2), .val (.int x3), .val (.int x4), .val (.int x5)] [])) (fun t_ k_ => XS.icmpNo X0.here hx rfl (hb hby own_b6_d3) rfl (teq hc1).2 k_) ?_
  refine own_st (B := s₁.setTop (mkF m 7 #[.val (.ref d), .val (.int x1), .val (.int x2), .val (.int x3), .val (.int x4), .val (.int x5)] [(.int x1)])) (fun t_ k_ => XS.iloadN X0.here hx rfl (hb hby own_b6_d6) rfl k_) ?_
  refine own_st (B := s₁.setTop (mkF m 8 #[.val (.ref d), .val (.int x1), .val (.int x2), .val (.int x3), .val (.int x4), .val (.int x5)] [(.int (1 : Int32)), (.int x1)])) (fun t_ k_ => XS.iconst X0.here hx rfl (hb hby own_b6_d7) k_) ?_
  by_cases hc2 : x1 < (1 : Int32)
  · have hd2 := own_lt32 hc2
    rw [show (1 : Int32).toInt = 1 from rfl] at hd2
    refine own_st (B := s₁.setTop (mkF m 19 #[.val (.ref d), .val (.int x1), .val (.int x2), .val (.int x3), .val (.int x4), .val (.int x5)] [])) (fun t_ k_ => XS.icmpYes X0.here hx rfl (pc0 := 8) (pc' := 19) rfl (hb hby own_b6_d8) rfl (tlt hc2).1 (by decide) (by decide) k_) ?_
    refine own_st (B := s₁.setTop (mkF m 20 #[.val (.ref d), .val (.int x1), .val (.int x2), .val (.int x3), .val (.int x4), .val (.int x5)] [(.int x1)])) (fun t_ k_ => XS.iloadN X0.here hx rfl (hb hby own_b6_d19) rfl k_) ?_
    refine own_st (B := s₁.setTop (mkF m 21 #[.val (.ref d), .val (.int x1), .val (.int x2), .val (.int x3), .val (.int x4), .val (.int x5)] [(.int (2 : Int32)), (.int x1)])) (fun t_ k_ => XS.iconst X0.here hx rfl (hb hby own_b6_d20) k_) ?_
    have hc3 : x1 < (2 : Int32) := Int32.lt_iff_toInt_lt.mpr (by simp only [Int32.reduceToInt]; omega)
    have hd3 := own_lt32 hc3
    rw [show (2 : Int32).toInt = 2 from rfl] at hd3
    refine own_st (B := s₁.setTop (mkF m 32 #[.val (.ref d), .val (.int x1), .val (.int x2), .val (.int x3), .val (.int x4), .val (.int x5)] [])) (fun t_ k_ => XS.icmpYes X0.here hx rfl (pc0 := 21) (pc' := 32) rfl (hb hby own_b6_d21) rfl (tlt hc3).1 (by decide) (by decide) k_) ?_
    refine own_st (B := s₁.setTop (mkF m 33 #[.val (.ref d), .val (.int x1), .val (.int x2), .val (.int x3), .val (.int x4), .val (.int x5)] [(.int x1)])) (fun t_ k_ => XS.iloadN X0.here hx rfl (hb hby own_b6_d32) rfl k_) ?_
    refine own_st (B := s₁.setTop (mkF m 34 #[.val (.ref d), .val (.int x1), .val (.int x2), .val (.int x3), .val (.int x4), .val (.int x5)] [(.int (3 : Int32)), (.int x1)])) (fun t_ k_ => XS.iconst X0.here hx rfl (hb hby own_b6_d33) k_) ?_
    have hc4 : x1 < (3 : Int32) := Int32.lt_iff_toInt_lt.mpr (by simp only [Int32.reduceToInt]; omega)
    have hd4 := own_lt32 hc4
    rw [show (3 : Int32).toInt = 3 from rfl] at hd4
    refine own_st (B := s₁.setTop (mkF m 46 #[.val (.ref d), .val (.int x1), .val (.int x2), .val (.int x3), .val (.int x4), .val (.int x5)] [])) (fun t_ k_ => XS.icmpYes X0.here hx rfl (pc0 := 34) (pc' := 46) rfl (hb hby own_b6_d34) rfl (tlt hc4).1 (by decide) (by decide) k_) ?_
    refine own_st (B := s₁.setTop (mkF m 47 #[.val (.ref d), .val (.int x1), .val (.int x2), .val (.int x3), .val (.int x4), .val (.int x5)] [(.int x1)])) (fun t_ k_ => XS.iloadN X0.here hx rfl (hb hby own_b6_d46) rfl k_) ?_
    refine own_st (B := s₁.setTop (mkF m 48 #[.val (.ref d), .val (.int x1), .val (.int x2), .val (.int x3), .val (.int x4), .val (.int x5)] [(.int (4 : Int32)), (.int x1)])) (fun t_ k_ => XS.iconst X0.here hx rfl (hb hby own_b6_d47) k_) ?_
    have hc5 : x1 < (4 : Int32) := Int32.lt_iff_toInt_lt.mpr (by simp only [Int32.reduceToInt]; omega)
    have hd5 := own_lt32 hc5
    rw [show (4 : Int32).toInt = 4 from rfl] at hd5
    refine own_st (B := s₁.setTop (mkF m 60 #[.val (.ref d), .val (.int x1), .val (.int x2), .val (.int x3), .val (.int x4), .val (.int x5)] [])) (fun t_ k_ => XS.icmpYes X0.here hx rfl (pc0 := 48) (pc' := 60) rfl (hb hby own_b6_d48) rfl (tlt hc5).1 (by decide) (by decide) k_) ?_
    refine own_st (B := s₁.setTop (mkF m 61 #[.val (.ref d), .val (.int x1), .val (.int x2), .val (.int x3), .val (.int x4), .val (.int x5)] [(.int (1 : Int32))])) (fun t_ k_ => XS.iconst X0.here hx rfl (hb hby own_b6_d60) k_) ?_
    refine own_st (B := s₁.setTop (mkF m 65 #[.val (.ref d), .val (.int x1), .val (.int x2), .val (.int x3), .val (.int x4), .val (.int x5)] [(.int (1 : Int32))])) (fun t_ k_ => XS.goto X0.here hx rfl (pc0 := 61) (pc' := 65) rfl (hb hby own_b6_d61) (by decide) (by decide) k_) ?_
    refine own_retN X0 hx (t := .boolean) Bd.returns (by simp) hlk (hb hby own_b6_d65) (z' := (1 : Int32)) (by first | rfl | exact own_nb _ | exact own_nbb _) (by decide) (by decide) ?_
    show Q6 Z d x1 x2 x3 x4 x5 k h0 n0 _ s₁.heap _
    rw [e0]
    exact ⟨rfl, N0, rfl⟩
  · have hd2 := own_nlt32 hc2
    rw [show (1 : Int32).toInt = 1 from rfl] at hd2
    refine own_st (B := s₁.setTop (mkF m 11 #[.val (.ref d), .val (.int x1), .val (.int x2), .val (.int x3), .val (.int x4), .val (.int x5)] [])) (fun t_ k_ => XS.icmpNo X0.here hx rfl (hb hby own_b6_d8) rfl (flt hc2).1 k_) ?_
    refine own_st (B := s₁.setTop (mkF m 12 #[.val (.ref d), .val (.int x1), .val (.int x2), .val (.int x3), .val (.int x4), .val (.int x5)] [(.ref d)])) (fun t_ k_ => XS.aloadN X0.here hx rfl (hb hby own_b6_d11) rfl rfl k_) ?_
    refine own_st (B := s₁.setTop (mkF m 13 #[.val (.ref d), .val (.int x1), .val (.int x2), .val (.int x3), .val (.int x4), .val (.int x5)] [(.int (0 : Int32)), (.ref d)])) (fun t_ k_ => XS.iconst X0.here hx rfl (hb hby own_b6_d12) k_) ?_
    refine own_st (B := s₁.setTop (mkF m 14 #[.val (.ref d), .val (.int x1), .val (.int x2), .val (.int x3), .val (.int x4), .val (.int x5)] [(.int ((own_fl x2 x3 x4 x5) 0))])) (fun t_ k_ => own_ldB X0 hx hZ e0 A (i := 0) (by decide) (by omega) (hb hby own_b6_d13) t_ k_) ?_
    refine own_st (B := s₁.setTop (mkF m 15 #[.val (.ref d), .val (.int x1), .val (.int x2), .val (.int x3), .val (.int x4), .val (.int x5)] [(.int x2), (.int ((own_fl x2 x3 x4 x5) 0))])) (fun t_ k_ => XS.iloadN X0.here hx rfl (hb hby own_b6_d14) rfl k_) ?_
    refine own_st (B := s₁.setTop (mkF m 16 #[.val (.ref d), .val (.int x1), .val (.int x2), .val (.int x3), .val (.int x4), .val (.int x5)] [(.int (x2.toInt8.toInt32)), (.int ((own_fl x2 x3 x4 x5) 0))])) (fun t_ k_ => XS.i2b X0.here hx rfl (hb hby own_b6_d15) rfl k_) ?_
    have hc6 : ((own_fl x2 x3 x4 x5) 0) = (x2.toInt8.toInt32) := rfl
    have hd6 := own_eq32 hc6
    refine own_st (B := s₁.setTop (mkF m 19 #[.val (.ref d), .val (.int x1), .val (.int x2), .val (.int x3), .val (.int x4), .val (.int x5)] [])) (fun t_ k_ => XS.icmpNo X0.here hx rfl (hb hby own_b6_d16) rfl (teq hc6).2 k_) ?_
    refine own_st (B := s₁.setTop (mkF m 20 #[.val (.ref d), .val (.int x1), .val (.int x2), .val (.int x3), .val (.int x4), .val (.int x5)] [(.int x1)])) (fun t_ k_ => XS.iloadN X0.here hx rfl (hb hby own_b6_d19) rfl k_) ?_
    refine own_st (B := s₁.setTop (mkF m 21 #[.val (.ref d), .val (.int x1), .val (.int x2), .val (.int x3), .val (.int x4), .val (.int x5)] [(.int (2 : Int32)), (.int x1)])) (fun t_ k_ => XS.iconst X0.here hx rfl (hb hby own_b6_d20) k_) ?_
    by_cases hc7 : x1 < (2 : Int32)
    · have hd7 := own_lt32 hc7
      rw [show (2 : Int32).toInt = 2 from rfl] at hd7
      refine own_st (B := s₁.setTop (mkF m 32 #[.val (.ref d), .val (.int x1), .val (.int x2), .val (.int x3), .val (.int x4), .val (.int x5)] [])) (fun t_ k_ => XS.icmpYes X0.here hx rfl (pc0 := 21) (pc' := 32) rfl (hb hby own_b6_d21) rfl (tlt hc7).1 (by decide) (by decide) k_) ?_
      refine own_st (B := s₁.setTop (mkF m 33 #[.val (.ref d), .val (.int x1), .val (.int x2), .val (.int x3), .val (.int x4), .val (.int x5)] [(.int x1)])) (fun t_ k_ => XS.iloadN X0.here hx rfl (hb hby own_b6_d32) rfl k_) ?_
      refine own_st (B := s₁.setTop (mkF m 34 #[.val (.ref d), .val (.int x1), .val (.int x2), .val (.int x3), .val (.int x4), .val (.int x5)] [(.int (3 : Int32)), (.int x1)])) (fun t_ k_ => XS.iconst X0.here hx rfl (hb hby own_b6_d33) k_) ?_
      have hc8 : x1 < (3 : Int32) := Int32.lt_iff_toInt_lt.mpr (by simp only [Int32.reduceToInt]; omega)
      have hd8 := own_lt32 hc8
      rw [show (3 : Int32).toInt = 3 from rfl] at hd8
      refine own_st (B := s₁.setTop (mkF m 46 #[.val (.ref d), .val (.int x1), .val (.int x2), .val (.int x3), .val (.int x4), .val (.int x5)] [])) (fun t_ k_ => XS.icmpYes X0.here hx rfl (pc0 := 34) (pc' := 46) rfl (hb hby own_b6_d34) rfl (tlt hc8).1 (by decide) (by decide) k_) ?_
      refine own_st (B := s₁.setTop (mkF m 47 #[.val (.ref d), .val (.int x1), .val (.int x2), .val (.int x3), .val (.int x4), .val (.int x5)] [(.int x1)])) (fun t_ k_ => XS.iloadN X0.here hx rfl (hb hby own_b6_d46) rfl k_) ?_
      refine own_st (B := s₁.setTop (mkF m 48 #[.val (.ref d), .val (.int x1), .val (.int x2), .val (.int x3), .val (.int x4), .val (.int x5)] [(.int (4 : Int32)), (.int x1)])) (fun t_ k_ => XS.iconst X0.here hx rfl (hb hby own_b6_d47) k_) ?_
      have hc9 : x1 < (4 : Int32) := Int32.lt_iff_toInt_lt.mpr (by simp only [Int32.reduceToInt]; omega)
      have hd9 := own_lt32 hc9
      rw [show (4 : Int32).toInt = 4 from rfl] at hd9
      refine own_st (B := s₁.setTop (mkF m 60 #[.val (.ref d), .val (.int x1), .val (.int x2), .val (.int x3), .val (.int x4), .val (.int x5)] [])) (fun t_ k_ => XS.icmpYes X0.here hx rfl (pc0 := 48) (pc' := 60) rfl (hb hby own_b6_d48) rfl (tlt hc9).1 (by decide) (by decide) k_) ?_
      refine own_st (B := s₁.setTop (mkF m 61 #[.val (.ref d), .val (.int x1), .val (.int x2), .val (.int x3), .val (.int x4), .val (.int x5)] [(.int (1 : Int32))])) (fun t_ k_ => XS.iconst X0.here hx rfl (hb hby own_b6_d60) k_) ?_
      refine own_st (B := s₁.setTop (mkF m 65 #[.val (.ref d), .val (.int x1), .val (.int x2), .val (.int x3), .val (.int x4), .val (.int x5)] [(.int (1 : Int32))])) (fun t_ k_ => XS.goto X0.here hx rfl (pc0 := 61) (pc' := 65) rfl (hb hby own_b6_d61) (by decide) (by decide) k_) ?_
      refine own_retN X0 hx (t := .boolean) Bd.returns (by simp) hlk (hb hby own_b6_d65) (z' := (1 : Int32)) (by first | rfl | exact own_nb _ | exact own_nbb _) (by decide) (by decide) ?_
      show Q6 Z d x1 x2 x3 x4 x5 k h0 n0 _ s₁.heap _
      rw [e0]
      exact ⟨rfl, N0, rfl⟩
    · have hd7 := own_nlt32 hc7
      rw [show (2 : Int32).toInt = 2 from rfl] at hd7
      refine own_st (B := s₁.setTop (mkF m 24 #[.val (.ref d), .val (.int x1), .val (.int x2), .val (.int x3), .val (.int x4), .val (.int x5)] [])) (fun t_ k_ => XS.icmpNo X0.here hx rfl (hb hby own_b6_d21) rfl (flt hc7).1 k_) ?_
      refine own_st (B := s₁.setTop (mkF m 25 #[.val (.ref d), .val (.int x1), .val (.int x2), .val (.int x3), .val (.int x4), .val (.int x5)] [(.ref d)])) (fun t_ k_ => XS.aloadN X0.here hx rfl (hb hby own_b6_d24) rfl rfl k_) ?_
      refine own_st (B := s₁.setTop (mkF m 26 #[.val (.ref d), .val (.int x1), .val (.int x2), .val (.int x3), .val (.int x4), .val (.int x5)] [(.int (1 : Int32)), (.ref d)])) (fun t_ k_ => XS.iconst X0.here hx rfl (hb hby own_b6_d25) k_) ?_
      refine own_st (B := s₁.setTop (mkF m 27 #[.val (.ref d), .val (.int x1), .val (.int x2), .val (.int x3), .val (.int x4), .val (.int x5)] [(.int ((own_fl x2 x3 x4 x5) 1))])) (fun t_ k_ => own_ldB X0 hx hZ e0 A (i := 1) (by decide) (by omega) (hb hby own_b6_d26) t_ k_) ?_
      refine own_st (B := s₁.setTop (mkF m 28 #[.val (.ref d), .val (.int x1), .val (.int x2), .val (.int x3), .val (.int x4), .val (.int x5)] [(.int x3), (.int ((own_fl x2 x3 x4 x5) 1))])) (fun t_ k_ => XS.iloadN X0.here hx rfl (hb hby own_b6_d27) rfl k_) ?_
      refine own_st (B := s₁.setTop (mkF m 29 #[.val (.ref d), .val (.int x1), .val (.int x2), .val (.int x3), .val (.int x4), .val (.int x5)] [(.int (x3.toInt8.toInt32)), (.int ((own_fl x2 x3 x4 x5) 1))])) (fun t_ k_ => XS.i2b X0.here hx rfl (hb hby own_b6_d28) rfl k_) ?_
      have hc10 : ((own_fl x2 x3 x4 x5) 1) = (x3.toInt8.toInt32) := rfl
      have hd10 := own_eq32 hc10
      refine own_st (B := s₁.setTop (mkF m 32 #[.val (.ref d), .val (.int x1), .val (.int x2), .val (.int x3), .val (.int x4), .val (.int x5)] [])) (fun t_ k_ => XS.icmpNo X0.here hx rfl (hb hby own_b6_d29) rfl (teq hc10).2 k_) ?_
      refine own_st (B := s₁.setTop (mkF m 33 #[.val (.ref d), .val (.int x1), .val (.int x2), .val (.int x3), .val (.int x4), .val (.int x5)] [(.int x1)])) (fun t_ k_ => XS.iloadN X0.here hx rfl (hb hby own_b6_d32) rfl k_) ?_
      refine own_st (B := s₁.setTop (mkF m 34 #[.val (.ref d), .val (.int x1), .val (.int x2), .val (.int x3), .val (.int x4), .val (.int x5)] [(.int (3 : Int32)), (.int x1)])) (fun t_ k_ => XS.iconst X0.here hx rfl (hb hby own_b6_d33) k_) ?_
      by_cases hc11 : x1 < (3 : Int32)
      · have hd11 := own_lt32 hc11
        rw [show (3 : Int32).toInt = 3 from rfl] at hd11
        refine own_st (B := s₁.setTop (mkF m 46 #[.val (.ref d), .val (.int x1), .val (.int x2), .val (.int x3), .val (.int x4), .val (.int x5)] [])) (fun t_ k_ => XS.icmpYes X0.here hx rfl (pc0 := 34) (pc' := 46) rfl (hb hby own_b6_d34) rfl (tlt hc11).1 (by decide) (by decide) k_) ?_
        refine own_st (B := s₁.setTop (mkF m 47 #[.val (.ref d), .val (.int x1), .val (.int x2), .val (.int x3), .val (.int x4), .val (.int x5)] [(.int x1)])) (fun t_ k_ => XS.iloadN X0.here hx rfl (hb hby own_b6_d46) rfl k_) ?_
        refine own_st (B := s₁.setTop (mkF m 48 #[.val (.ref d), .val (.int x1), .val (.int x2), .val (.int x3), .val (.int x4), .val (.int x5)] [(.int (4 : Int32)), (.int x1)])) (fun t_ k_ => XS.iconst X0.here hx rfl (hb hby own_b6_d47) k_) ?_
        have hc12 : x1 < (4 : Int32) := Int32.lt_iff_toInt_lt.mpr (by simp only [Int32.reduceToInt]; omega)
        have hd12 := own_lt32 hc12
        rw [show (4 : Int32).toInt = 4 from rfl] at hd12
        refine own_st (B := s₁.setTop (mkF m 60 #[.val (.ref d), .val (.int x1), .val (.int x2), .val (.int x3), .val (.int x4), .val (.int x5)] [])) (fun t_ k_ => XS.icmpYes X0.here hx rfl (pc0 := 48) (pc' := 60) rfl (hb hby own_b6_d48) rfl (tlt hc12).1 (by decide) (by decide) k_) ?_
        refine own_st (B := s₁.setTop (mkF m 61 #[.val (.ref d), .val (.int x1), .val (.int x2), .val (.int x3), .val (.int x4), .val (.int x5)] [(.int (1 : Int32))])) (fun t_ k_ => XS.iconst X0.here hx rfl (hb hby own_b6_d60) k_) ?_
        refine own_st (B := s₁.setTop (mkF m 65 #[.val (.ref d), .val (.int x1), .val (.int x2), .val (.int x3), .val (.int x4), .val (.int x5)] [(.int (1 : Int32))])) (fun t_ k_ => XS.goto X0.here hx rfl (pc0 := 61) (pc' := 65) rfl (hb hby own_b6_d61) (by decide) (by decide) k_) ?_
        refine own_retN X0 hx (t := .boolean) Bd.returns (by simp) hlk (hb hby own_b6_d65) (z' := (1 : Int32)) (by first | rfl | exact own_nb _ | exact own_nbb _) (by decide) (by decide) ?_
        show Q6 Z d x1 x2 x3 x4 x5 k h0 n0 _ s₁.heap _
        rw [e0]
        exact ⟨rfl, N0, rfl⟩
      · have hd11 := own_nlt32 hc11
        rw [show (3 : Int32).toInt = 3 from rfl] at hd11
        refine own_st (B := s₁.setTop (mkF m 37 #[.val (.ref d), .val (.int x1), .val (.int x2), .val (.int x3), .val (.int x4), .val (.int x5)] [])) (fun t_ k_ => XS.icmpNo X0.here hx rfl (hb hby own_b6_d34) rfl (flt hc11).1 k_) ?_
        refine own_st (B := s₁.setTop (mkF m 38 #[.val (.ref d), .val (.int x1), .val (.int x2), .val (.int x3), .val (.int x4), .val (.int x5)] [(.ref d)])) (fun t_ k_ => XS.aloadN X0.here hx rfl (hb hby own_b6_d37) rfl rfl k_) ?_
        refine own_st (B := s₁.setTop (mkF m 39 #[.val (.ref d), .val (.int x1), .val (.int x2), .val (.int x3), .val (.int x4), .val (.int x5)] [(.int (2 : Int32)), (.ref d)])) (fun t_ k_ => XS.iconst X0.here hx rfl (hb hby own_b6_d38) k_) ?_
        refine own_st (B := s₁.setTop (mkF m 40 #[.val (.ref d), .val (.int x1), .val (.int x2), .val (.int x3), .val (.int x4), .val (.int x5)] [(.int ((own_fl x2 x3 x4 x5) 2))])) (fun t_ k_ => own_ldB X0 hx hZ e0 A (i := 2) (by decide) (by omega) (hb hby own_b6_d39) t_ k_) ?_
        refine own_st (B := s₁.setTop (mkF m 42 #[.val (.ref d), .val (.int x1), .val (.int x2), .val (.int x3), .val (.int x4), .val (.int x5)] [(.int x4), (.int ((own_fl x2 x3 x4 x5) 2))])) (fun t_ k_ => XS.iload X0.here hx rfl (hb hby own_b6_d40) rfl k_) ?_
        refine own_st (B := s₁.setTop (mkF m 43 #[.val (.ref d), .val (.int x1), .val (.int x2), .val (.int x3), .val (.int x4), .val (.int x5)] [(.int (x4.toInt8.toInt32)), (.int ((own_fl x2 x3 x4 x5) 2))])) (fun t_ k_ => XS.i2b X0.here hx rfl (hb hby own_b6_d42) rfl k_) ?_
        have hc13 : ((own_fl x2 x3 x4 x5) 2) = (x4.toInt8.toInt32) := rfl
        have hd13 := own_eq32 hc13
        refine own_st (B := s₁.setTop (mkF m 46 #[.val (.ref d), .val (.int x1), .val (.int x2), .val (.int x3), .val (.int x4), .val (.int x5)] [])) (fun t_ k_ => XS.icmpNo X0.here hx rfl (hb hby own_b6_d43) rfl (teq hc13).2 k_) ?_
        refine own_st (B := s₁.setTop (mkF m 47 #[.val (.ref d), .val (.int x1), .val (.int x2), .val (.int x3), .val (.int x4), .val (.int x5)] [(.int x1)])) (fun t_ k_ => XS.iloadN X0.here hx rfl (hb hby own_b6_d46) rfl k_) ?_
        refine own_st (B := s₁.setTop (mkF m 48 #[.val (.ref d), .val (.int x1), .val (.int x2), .val (.int x3), .val (.int x4), .val (.int x5)] [(.int (4 : Int32)), (.int x1)])) (fun t_ k_ => XS.iconst X0.here hx rfl (hb hby own_b6_d47) k_) ?_
        by_cases hc14 : x1 < (4 : Int32)
        · have hd14 := own_lt32 hc14
          rw [show (4 : Int32).toInt = 4 from rfl] at hd14
          refine own_st (B := s₁.setTop (mkF m 60 #[.val (.ref d), .val (.int x1), .val (.int x2), .val (.int x3), .val (.int x4), .val (.int x5)] [])) (fun t_ k_ => XS.icmpYes X0.here hx rfl (pc0 := 48) (pc' := 60) rfl (hb hby own_b6_d48) rfl (tlt hc14).1 (by decide) (by decide) k_) ?_
          refine own_st (B := s₁.setTop (mkF m 61 #[.val (.ref d), .val (.int x1), .val (.int x2), .val (.int x3), .val (.int x4), .val (.int x5)] [(.int (1 : Int32))])) (fun t_ k_ => XS.iconst X0.here hx rfl (hb hby own_b6_d60) k_) ?_
          refine own_st (B := s₁.setTop (mkF m 65 #[.val (.ref d), .val (.int x1), .val (.int x2), .val (.int x3), .val (.int x4), .val (.int x5)] [(.int (1 : Int32))])) (fun t_ k_ => XS.goto X0.here hx rfl (pc0 := 61) (pc' := 65) rfl (hb hby own_b6_d61) (by decide) (by decide) k_) ?_
          refine own_retN X0 hx (t := .boolean) Bd.returns (by simp) hlk (hb hby own_b6_d65) (z' := (1 : Int32)) (by first | rfl | exact own_nb _ | exact own_nbb _) (by decide) (by decide) ?_
          show Q6 Z d x1 x2 x3 x4 x5 k h0 n0 _ s₁.heap _
          rw [e0]
          exact ⟨rfl, N0, rfl⟩
        · have hd14 := own_nlt32 hc14
          rw [show (4 : Int32).toInt = 4 from rfl] at hd14
          refine own_st (B := s₁.setTop (mkF m 51 #[.val (.ref d), .val (.int x1), .val (.int x2), .val (.int x3), .val (.int x4), .val (.int x5)] [])) (fun t_ k_ => XS.icmpNo X0.here hx rfl (hb hby own_b6_d48) rfl (flt hc14).1 k_) ?_
          refine own_st (B := s₁.setTop (mkF m 52 #[.val (.ref d), .val (.int x1), .val (.int x2), .val (.int x3), .val (.int x4), .val (.int x5)] [(.ref d)])) (fun t_ k_ => XS.aloadN X0.here hx rfl (hb hby own_b6_d51) rfl rfl k_) ?_
          refine own_st (B := s₁.setTop (mkF m 53 #[.val (.ref d), .val (.int x1), .val (.int x2), .val (.int x3), .val (.int x4), .val (.int x5)] [(.int (3 : Int32)), (.ref d)])) (fun t_ k_ => XS.iconst X0.here hx rfl (hb hby own_b6_d52) k_) ?_
          refine own_st (B := s₁.setTop (mkF m 54 #[.val (.ref d), .val (.int x1), .val (.int x2), .val (.int x3), .val (.int x4), .val (.int x5)] [(.int ((own_fl x2 x3 x4 x5) 3))])) (fun t_ k_ => own_ldB X0 hx hZ e0 A (i := 3) (by decide) (by omega) (hb hby own_b6_d53) t_ k_) ?_
          refine own_st (B := s₁.setTop (mkF m 56 #[.val (.ref d), .val (.int x1), .val (.int x2), .val (.int x3), .val (.int x4), .val (.int x5)] [(.int x5), (.int ((own_fl x2 x3 x4 x5) 3))])) (fun t_ k_ => XS.iload X0.here hx rfl (hb hby own_b6_d54) rfl k_) ?_
          refine own_st (B := s₁.setTop (mkF m 57 #[.val (.ref d), .val (.int x1), .val (.int x2), .val (.int x3), .val (.int x4), .val (.int x5)] [(.int (x5.toInt8.toInt32)), (.int ((own_fl x2 x3 x4 x5) 3))])) (fun t_ k_ => XS.i2b X0.here hx rfl (hb hby own_b6_d56) rfl k_) ?_
          have hc15 : ((own_fl x2 x3 x4 x5) 3) = (x5.toInt8.toInt32) := rfl
          have hd15 := own_eq32 hc15
          refine own_st (B := s₁.setTop (mkF m 60 #[.val (.ref d), .val (.int x1), .val (.int x2), .val (.int x3), .val (.int x4), .val (.int x5)] [])) (fun t_ k_ => XS.icmpNo X0.here hx rfl (hb hby own_b6_d57) rfl (teq hc15).2 k_) ?_
          refine own_st (B := s₁.setTop (mkF m 61 #[.val (.ref d), .val (.int x1), .val (.int x2), .val (.int x3), .val (.int x4), .val (.int x5)] [(.int (1 : Int32))])) (fun t_ k_ => XS.iconst X0.here hx rfl (hb hby own_b6_d60) k_) ?_
          refine own_st (B := s₁.setTop (mkF m 65 #[.val (.ref d), .val (.int x1), .val (.int x2), .val (.int x3), .val (.int x4), .val (.int x5)] [(.int (1 : Int32))])) (fun t_ k_ => XS.goto X0.here hx rfl (pc0 := 61) (pc' := 65) rfl (hb hby own_b6_d61) (by decide) (by decide) k_) ?_
          refine own_retN X0 hx (t := .boolean) Bd.returns (by simp) hlk (hb hby own_b6_d65) (z' := (1 : Int32)) (by first | rfl | exact own_nb _ | exact own_nbb _) (by decide) (by decide) ?_
          show Q6 Z d x1 x2 x3 x4 x5 k h0 n0 _ s₁.heap _
          rw [e0]
          exact ⟨rfl, N0, rfl⟩
theorem own_b3_d0 : decode prog_6_method_1_code 0 = .ok (.aload_n 0, 1) := by decide +kernel
theorem own_b3_d1 : decode prog_6_method_1_code 1 = .ok (.invokespecial 1, 3) := by decide +kernel
theorem own_b3_d4 : decode prog_6_method_1_code 4 = .ok (.aload_n 0, 1) := by decide +kernel
theorem own_b3_d5 : decode prog_6_method_1_code 5 = .ok (.aload_n 1, 1) := by decide +kernel
theorem own_b3_d6 : decode prog_6_method_1_code 6 = .ok (.putfield 7, 3) := by decide +kernel
theorem own_b3_d9 : decode prog_6_method_1_code 9 = .ok (.return_, 1) := by decide +kernel
theorem own_pn1 : plainName "com/example/syncline/syncline/Bytes" = true := by first | (simp [plainName, overriddenIn]; done) | decide +kernel
theorem own_ef_rm3 (m : MethodId) (x0 : Addr) (x1 : Addr) : entryFrame m #[(.ref x0), (.ref x1)] 2 = mkF m 0 #[.val (.ref x0), .val (.ref x1)] [] := by first | (simp [entryFrame, mkF, argsToLocals, Value.category]; done) | rfl
def Q3 (Z : State) (a : Addr) (d : Addr) (h0 : Heap) (n0 : Nat) (v : Option Value) (h : Heap) (L : List Loc) : Prop := v = none ∧ Fr n0 L ∧ Keep h0 h [a] ∧ Fld Z h a "com/example/syncline/syncline/Bytes" "value" "[B" (.ref d)
set_option maxRecDepth 65536 in
set_option maxHeartbeats 40000000 in
theorem rm3 (l : Launch) (Z : State) (a0 : Array Value) (hw : ∀ d ∈ tables_1, d.before a0 Z = true) (ws : List Jvm.Cond) (a : Addr) (d : Addr) (h0 : Heap) (n0 : Nat) (Z0 : n0 ≤ h0.size) (E : Exa Z h0 a "com/example/syncline/syncline/Bytes") (F0 : Fld Z h0 a "com/example/syncline/syncline/Bytes" "value" "[B" .null) (ga : n0 ≤ a) :
    MetFree l (⟨"com/example/syncline/syncline/Bytes", "<init>", "([B)V"⟩ : MethodName) (head1 (Jvm.Cond.code (⟨"com/example/syncline/syncline/Bytes", "<init>", "([B)V"⟩ : MethodName) prog_6_method_1_code 2 none :: ws) ({ frames := 1, cells := 0, slots := 0, locals := 12 } : Room)) (fun aa_ U_ => aa_ = #[(.ref a), (.ref d)] ∧ Z.Warmed39 U_.vm ∧ U_.heap = h0) (fun _ _ _ _ _ => True) (fun _ U_ o_ U1_ => ∃ v_ L_, o_ = .returned v_ ∧ Q3 Z a d h0 n0 v_ U1_.heap L_ ∧ FrameEnd U_ o_ U1_ L_ ({ frames := 1, cells := 0, slots := 0, locals := 12 } : Room).cells ({ frames := 1, cells := 0, slots := 0, locals := 12 } : Room).slots) := by
  refine MetFree.of_bodySF (plainFor_of_name own_pn1) hisR ?_
  intro p e s m args below meth c s₁ Bd hml0 hP hK
  obtain ⟨rfl, hZ, hh⟩ := hP
  have hx := Bd.exec
  have hby := Bd.bytes
  have hlk := Bd.notSynchronized
  have hml : c.maxLocals = 2 := hml0
  have hown : s.vm.findClass "com/example/syncline/syncline/Bytes" = some m.cls := findClass_of_methodNamed Bd.named
  have hnm := (name_of_methodNamed Bd.named Bd.method).1
  have X0 : Stand p l e ({ frames := 1, cells := 0, slots := 0, locals := 12 } : Room) s m #[(.ref a), (.ref d)] below meth c s₁ [] 0 0 := Stand.of_body Bd
  have e0 : s₁.heap = h0 := by rw [← hh, Bd.state]; rfl
  have N0 := Fr.nil n0
  show own_E p e below s (Q3 Z a d h0 n0) ({ frames := 1, cells := 0, slots := 0, locals := 12 } : Room).cells ({ frames := 1, cells := 0, slots := 0, locals := 12 } : Room).slots (s₁.setTop (entryFrame m #[(.ref a), (.ref d)] 2))
  refine own_st (B := s₁.setTop (mkF m 0 #[.val (.ref a), .val (.ref d)] [])) (fun t_ k_ => castTop (own_ef_rm3 m a d) k_) ?_
  have K0 : Keep h0 h0 [a] := Keep.refl _ _
  refine own_st (B := s₁.setTop (mkF m 1 #[.val (.ref a), .val (.ref d)] [(.ref a)])) (fun t_ k_ => XS.aloadN X0.here hx rfl (hb hby own_b3_d0) rfl rfl k_) ?_
  obtain ⟨T1, X1, e1, st1⟩ := initO X0 hx hZ hown (hw _ (List.mem_of_getElem? (i := 23) rfl)) (hw _ (List.mem_of_getElem? (i := 24) rfl)) (hw _ (List.mem_of_getElem? (i := 25) rfl)) e0 (g := (mkF m 1 #[.val (.ref a), .val (.ref d)] [(.ref a)])) rfl (by rw [hml]; rfl) rfl (hb hby own_b3_d1) (by decide) (W := 0) (by show 2 * 0 + _ ≤ _; exact Nat.le_of_eq rfl) (by decide)
  refine own_st (B := T1.setTop (mkF m 4 #[.val (.ref a), .val (.ref d)] [])) st1 ?_
  refine own_st (B := T1.setTop (mkF m 5 #[.val (.ref a), .val (.ref d)] [(.ref a)])) (fun t_ k_ => XS.aloadN X1.here hx rfl (hb hby own_b3_d4) rfl rfl k_) ?_
  refine own_st (B := T1.setTop (mkF m 6 #[.val (.ref a), .val (.ref d)] [(.ref d), (.ref a)])) (fun t_ k_ => XS.aloadN X1.here hx rfl (hb hby own_b3_d5) rfl rfl k_) ?_
  obtain ⟨T2, h2, X2, e2, W2, st2⟩ := putF X1 hx hZ hown (host := "") (Or.inl (hw _ (List.mem_of_getElem? (i := 26) rfl))) Via.refl e1 F0 E (Or.inr ⟨(hw _ (List.mem_of_getElem? (i := 27) rfl)), rfl, hnm⟩) (hw _ (List.mem_of_getElem? (i := 10) rfl)) (ty := (.array .byte)) (by decide) rfl rfl (g := (mkF m 6 #[.val (.ref a), .val (.ref d)] [(.ref d), (.ref a)])) rfl rfl (hb hby own_b3_d6)
  have Fw2 := F0.same W2
  have N2 := Fr.snoc X2 N0 ga
  have Z3 := Nat.le_trans Z0 (Keep.of_wr W2).1
  have K4 := K0.wr W2 (Or.inl (List.mem_of_getElem? (i := 0) rfl))
  refine own_st (B := T2.setTop (mkF m 9 #[.val (.ref a), .val (.ref d)] [])) st2 ?_
  refine own_retV X2 hx Bd.returns hlk (hb hby own_b3_d9) (by decide) (by decide) ?_
  show Q3 Z a d h0 n0 _ T2.heap _
  rw [e2]
  exact ⟨rfl, N2, K4, Fw2⟩
theorem own_pd0 : parseMethodDescriptor "([B)V" = some ⟨[(.array .byte)], none⟩ := by decide +kernel
theorem own_b2_d0 : decode prog_6_method_2_code 0 = .ok (.new 8, 3) := by decide +kernel
theorem own_b2_d3 : decode prog_6_method_2_code 3 = .ok (.dup, 1) := by decide +kernel
theorem own_b2_d4 : decode prog_6_method_2_code 4 = .ok (.aload_n 0, 1) := by decide +kernel
theorem own_b2_d5 : decode prog_6_method_2_code 5 = .ok (.invokevirtual 13, 3) := by decide +kernel
theorem own_b2_d8 : decode prog_6_method_2_code 8 = .ok (.checkcast 14, 3) := by decide +kernel
theorem own_b2_d11 : decode prog_6_method_2_code 11 = .ok (.invokespecial 18, 3) := by decide +kernel
theorem own_b2_d14 : decode prog_6_method_2_code 14 = .ok (.areturn, 1) := by decide +kernel
theorem own_ef_rm2 (m : MethodId) (x0 : Addr) : entryFrame m #[(.ref x0)] 1 = mkF m 0 #[.val (.ref x0)] [] := by first | (simp [entryFrame, mkF, argsToLocals, Value.category]; done) | rfl
def Q2 (Z : State) (d : Addr) (k : Nat) (f : Nat → Int32) (h0 : Heap) (n0 : Nat) (v : Option Value) (h : Heap) (L : List Loc) : Prop := ∃ b x : Addr, v = some (.ref b) ∧ Fr n0 L ∧ Keep h0 h [] ∧ h0.size ≤ b ∧ Exa Z h b "com/example/syncline/syncline/Bytes" ∧ Fld Z h b "com/example/syncline/syncline/Bytes" "value" "[B" (.ref x) ∧ h0.size ≤ x ∧ own_A Z h x .byte k f ∧ Exa Z h x "[B"
set_option maxRecDepth 65536 in
set_option maxHeartbeats 40000000 in
theorem rm2 (l : Launch) (Z : State) (a0 : Array Value) (hw : ∀ d ∈ tables_1, d.before a0 Z = true) (ws : List Jvm.Cond) (d : Addr) (k : Nat) (f : Nat → Int32) (h0 : Heap) (n0 : Nat) (Z0 : n0 ≤ h0.size) (A : own_A Z h0 d .byte k f) (Ed : Exa Z h0 d "[B") (hk5 : k < 5) :
    MetFree l (⟨"com/example/syncline/syncline/Bytes", "of", "([B)Lcom/example/syncline/syncline/Bytes;"⟩ : MethodName) (head1 (Jvm.Cond.code (⟨"com/example/syncline/syncline/Bytes", "of", "([B)Lcom/example/syncline/syncline/Bytes;"⟩ : MethodName) prog_6_method_2_code 1 (some (.object "com/example/syncline/syncline/Bytes")) :: ws) ({ frames := 2, cells := 2, slots := 5, locals := 26 } : Room)) (fun aa_ U_ => aa_ = #[(.ref d)] ∧ Z.Warmed39 U_.vm ∧ U_.heap = h0) (fun _ _ _ _ _ => True) (fun _ U_ o_ U1_ => ∃ v_ L_, o_ = .returned v_ ∧ Q2 Z d k f h0 n0 v_ U1_.heap L_ ∧ FrameEnd U_ o_ U1_ L_ ({ frames := 2, cells := 2, slots := 5, locals := 26 } : Room).cells ({ frames := 2, cells := 2, slots := 5, locals := 26 } : Room).slots) := by
  refine MetFree.of_bodySF (plainFor_of_name own_pn1) hisR ?_
  intro p e s m args below meth c s₁ Bd hml0 hP hK
  obtain ⟨rfl, hZ, hh⟩ := hP
  have hx := Bd.exec
  have hby := Bd.bytes
  have hlk := Bd.notSynchronized
  have hml : c.maxLocals = 1 := hml0
  have hown : s.vm.findClass "com/example/syncline/syncline/Bytes" = some m.cls := findClass_of_methodNamed Bd.named
  have hnm := (name_of_methodNamed Bd.named Bd.method).1
  have X0 : Stand p l e ({ frames := 2, cells := 2, slots := 5, locals := 26 } : Room) s m #[(.ref d)] below meth c s₁ [] 0 0 := Stand.of_body Bd
  have e0 : s₁.heap = h0 := by rw [← hh, Bd.state]; rfl
  have N0 := Fr.nil n0
  show own_E p e below s (Q2 Z d k f h0 n0) ({ frames := 2, cells := 2, slots := 5, locals := 26 } : Room).cells ({ frames := 2, cells := 2, slots := 5, locals := 26 } : Room).slots (s₁.setTop (entryFrame m #[(.ref d)] 1))
  refine own_st (B := s₁.setTop (mkF m 0 #[.val (.ref d)] [])) (fun t_ k_ => castTop (own_ef_rm2 m d) k_) ?_
  have K0 : Keep h0 h0 [] := Keep.refl _ _
  obtain ⟨T1, h1, X1, e1, E1, A1, D1, -, st1⟩ := newO X0 hx hZ hown (hw _ (List.mem_of_getElem? (i := 9) rfl)) (hw _ (List.mem_of_getElem? (i := 10) rfl)) (hw _ (List.mem_of_getElem? (i := 7) rfl)) e0 (g := (mkF m 0 #[.val (.ref d)] [])) rfl (hb hby own_b2_d0) (by decide) (by decide)
  obtain ⟨b1, g1⟩ : ∃ z, z = h0.size := ⟨_, rfl⟩
  rw [← g1] at A1 D1 st1
  have ne2 : d ≠ b1 := Nat.ne_of_lt (Nat.lt_of_lt_of_le A.lt (Nat.le_of_eq g1.symm))
  have g3 : n0 ≤ b1 := Nat.le_trans Z0 (Nat.le_of_eq g1.symm)
  have sz4 : h0.size ≤ b1 := Nat.le_trans K0.1 (Nat.le_of_eq g1.symm)
  have Z5 := Nat.le_trans Z0 E1.1
  have K6 := K0.ext E1
  have F1_value : Fld Z h1 b1 "com/example/syncline/syncline/Bytes" "value" "[B" .null := D1 (Or.inr (hw _ (List.mem_of_getElem? (i := 27) rfl))) (ty := (.array .byte)) (by decide)
  refine own_st (B := T1.setTop (mkF m 3 #[.val (.ref d)] [(.ref b1)])) st1 ?_
  refine own_st (B := T1.setTop (mkF m 4 #[.val (.ref d)] [(.ref b1), (.ref b1)])) (fun t_ k_ => XS.dup X1.here hx rfl (hb hby own_b2_d3) rfl rfl k_) ?_
  refine own_st (B := T1.setTop (mkF m 5 #[.val (.ref d)] [(.ref d), (.ref b1), (.ref b1)])) (fun t_ k_ => XS.aloadN X1.here hx rfl (hb hby own_b2_d4) rfl rfl k_) ?_
  have u8 := A.ext E1
  have u9 := Ed.ext E1
  obtain ⟨T7, h7, X7, e7, E7, A7, G7, st7⟩ := own_clone X1 hx hZ hown (hw _ (List.mem_of_getElem? (i := 11) rfl)) (hw _ (List.mem_of_getElem? (i := 12) rfl)) (hw _ (List.mem_of_getElem? (i := 16) rfl)) (hw _ (List.mem_of_getElem? (i := 14) rfl)) (hw _ (List.mem_of_getElem? (i := 15) rfl)) (hw _ (List.mem_of_getElem? (i := 17) rfl)) e1 u8 u9 (pc := 5) (Ls := #[.val (.ref d)]) (rest := [(.ref b1), (.ref b1)]) (by rw [hml]; rfl) (hb hby own_b2_d5) (by decide) (W := 2) (by show 2 * 0 + _ ≤ _; exact Nat.le_of_eq rfl) (by decide) (cap := 4) (by omega) (by decide) (by decide)
  obtain ⟨b7, g7⟩ : ∃ z, z = h1.size := ⟨_, rfl⟩
  rw [← g7] at A7 G7 st7
  have ne10 : b1 ≠ b7 := Nat.ne_of_lt (Nat.lt_of_lt_of_le A1.lt (Nat.le_of_eq g7.symm))
  have ne11 : d ≠ b7 := Nat.ne_of_lt (Nat.lt_of_lt_of_le u8.lt (Nat.le_of_eq g7.symm))
  have g12 : n0 ≤ b7 := Nat.le_trans Z5 (Nat.le_of_eq g7.symm)
  have sz13 : h0.size ≤ b7 := Nat.le_trans K6.1 (Nat.le_of_eq g7.symm)
  have Z14 := Nat.le_trans Z5 E7.1
  have K15 := K6.ext E7
  refine own_st (B := T7.setTop (mkF m 8 #[.val (.ref d)] [(.ref b7), (.ref b1), (.ref b1)])) st7 ?_
  obtain ⟨T16, X16, e16, st16⟩ := castY X7 hx hZ hown (hw _ (List.mem_of_getElem? (i := 18) rfl)) e7 (Ins.self G7) (g := (mkF m 8 #[.val (.ref d)] [(.ref b7), (.ref b1), (.ref b1)])) rfl rfl (hb hby own_b2_d8)
  refine own_st (B := T16.setTop (mkF m 11 #[.val (.ref d)] [(.ref b7), (.ref b1), (.ref b1)])) st16 ?_
  have u18 := A1.ext E7
  have u19 := F1_value.ext E7
  obtain ⟨_, _, ⟨T17, L17, k17, n17⟩, -, X17, ⟨Lc17, hQ17, l17, y17, z17⟩, st17⟩ := X16.specialBack hx (y := (⟨"com/example/syncline/syncline/Bytes", "<init>", "([B)V"⟩ : MethodName)) rfl hown (mvT hZ (hw _ (List.mem_of_getElem? (i := 20) rfl))) (mvT hZ (hw _ (List.mem_of_getElem? (i := 21) rfl))) (mvT hZ (hw _ (List.mem_of_getElem? (i := 22) rfl))) (by decide) (backOf (W := 1) (rm3 l Z a0 hw [] b1 b7 h7 n0 Z14 u18 u19 g3) hZ (hw _ (List.mem_of_getElem? (i := 22) rfl)) (hw _ (List.mem_of_getElem? (i := 7) rfl)) (by decide) (by decide)) (g := (mkF m 11 #[.val (.ref d)] [(.ref b7), (.ref b1), (.ref b1)])) rfl (by rw [hml]; rfl) (Steps.refl _) (a := b1) (argsL := [(.ref b7)]) (rest := [(.ref b1)]) (lenOf own_pd0 rfl) rfl (by show 2 * 0 + _ ≤ _; exact Nat.le_of_eq rfl) (hb hby own_b2_d11) (fun _ _ => ⟨rfl, e16, (by decide : 2 + 0 ≤ _), (by decide : 5 + 0 ≤ _)⟩)
  dsimp only [Pt.U, Pt.locs, Pt.cells, Pt.slots] at X17 l17 y17 z17 st17 hQ17
  subst l17 y17 z17
  obtain ⟨rfl, N17q, K17, Fc17_0⟩ := hQ17
  have N17 := Fr.app N0 N17q
  have Z20 := Nat.le_trans Z14 K17.1
  have K21 := K15.trans K17 (allS (Or.inr sz4) all0)
  refine own_st (B := T17.setTop (mkF m 14 #[.val (.ref d)] [(.ref b1)])) (fun t_ k_ => st17.trans k_) ?_
  refine own_retR X17 hx rfl Bd.returns rfl hlk (hb hby own_b2_d14) (by decide) (by decide) ?_
  show Q2 Z d k f h0 n0 _ T17.heap _
  have u22 := u18.keep K17
  have u23 := A7.keep K17 (ninS (Ne.symm ne10) nin0)
  have u24 := G7.keep K17
  exact ⟨b1, b7, rfl, N17, K21, sz4, u22, Fc17_0, sz13, u23, u24⟩
theorem own_b5_d0 : decode prog_6_method_4_code 0 = .ok (.aload_n 0, 1) := by decide +kernel
theorem own_b5_d1 : decode prog_6_method_4_code 1 = .ok (.getfield 7, 3) := by decide +kernel
theorem own_b5_d4 : decode prog_6_method_4_code 4 = .ok (.invokevirtual 13, 3) := by decide +kernel
theorem own_b5_d7 : decode prog_6_method_4_code 7 = .ok (.checkcast 14, 3) := by decide +kernel
theorem own_b5_d10 : decode prog_6_method_4_code 10 = .ok (.areturn, 1) := by decide +kernel
theorem own_ef_rm5 (m : MethodId) (x0 : Addr) : entryFrame m #[(.ref x0)] 1 = mkF m 0 #[.val (.ref x0)] [] := by first | (simp [entryFrame, mkF, argsToLocals, Value.category]; done) | rfl
def Q5 (Z : State) (a : Addr) (d : Addr) (k : Nat) (f : Nat → Int32) (h0 : Heap) (n0 : Nat) (v : Option Value) (h : Heap) (L : List Loc) : Prop := ∃ x : Addr, v = some (.ref x) ∧ Fr n0 L ∧ Keep h0 h [] ∧ h0.size ≤ x ∧ own_A Z h x .byte k f
set_option maxRecDepth 65536 in
set_option maxHeartbeats 40000000 in
theorem rm5 (l : Launch) (Z : State) (a0 : Array Value) (hw : ∀ d ∈ tables_1, d.before a0 Z = true) (ws : List Jvm.Cond) (a : Addr) (d : Addr) (k : Nat) (f : Nat → Int32) (h0 : Heap) (n0 : Nat) (Z0 : n0 ≤ h0.size) (F : Fld Z h0 a "com/example/syncline/syncline/Bytes" "value" "[B" (.ref d)) (A : own_A Z h0 d .byte k f) (Ed : Exa Z h0 d "[B") (hk5 : k < 5) :
    MetFree l (⟨"com/example/syncline/syncline/Bytes", "toArray", "()[B"⟩ : MethodName) (head1 (Jvm.Cond.code (⟨"com/example/syncline/syncline/Bytes", "toArray", "()[B"⟩ : MethodName) prog_6_method_4_code 1 (some (.array .byte)) :: ws) ({ frames := 1, cells := 1, slots := 4, locals := 14 } : Room)) (fun aa_ U_ => aa_ = #[(.ref a)] ∧ Z.Warmed39 U_.vm ∧ U_.heap = h0) (fun _ _ _ _ _ => True) (fun _ U_ o_ U1_ => ∃ v_ L_, o_ = .returned v_ ∧ Q5 Z a d k f h0 n0 v_ U1_.heap L_ ∧ FrameEnd U_ o_ U1_ L_ ({ frames := 1, cells := 1, slots := 4, locals := 14 } : Room).cells ({ frames := 1, cells := 1, slots := 4, locals := 14 } : Room).slots) := by
  refine MetFree.of_bodySF (plainFor_of_name own_pn1) hisR ?_
  intro p e s m args below meth c s₁ Bd hml0 hP hK
  obtain ⟨rfl, hZ, hh⟩ := hP
  have hx := Bd.exec
  have hby := Bd.bytes
  have hlk := Bd.notSynchronized
  have hml : c.maxLocals = 1 := hml0
  have hown : s.vm.findClass "com/example/syncline/syncline/Bytes" = some m.cls := findClass_of_methodNamed Bd.named
  have hnm := (name_of_methodNamed Bd.named Bd.method).1
  have X0 : Stand p l e ({ frames := 1, cells := 1, slots := 4, locals := 14 } : Room) s m #[(.ref a)] below meth c s₁ [] 0 0 := Stand.of_body Bd
  have e0 : s₁.heap = h0 := by rw [← hh, Bd.state]; rfl
  have N0 := Fr.nil n0
  show own_E p e below s (Q5 Z a d k f h0 n0) ({ frames := 1, cells := 1, slots := 4, locals := 14 } : Room).cells ({ frames := 1, cells := 1, slots := 4, locals := 14 } : Room).slots (s₁.setTop (entryFrame m #[(.ref a)] 1))
  refine own_st (B := s₁.setTop (mkF m 0 #[.val (.ref a)] [])) (fun t_ k_ => castTop (own_ef_rm5 m a) k_) ?_
  have K0 : Keep h0 h0 [] := Keep.refl _ _
  refine own_st (B := s₁.setTop (mkF m 1 #[.val (.ref a)] [(.ref a)])) (fun t_ k_ => XS.aloadN X0.here hx rfl (hb hby own_b5_d0) rfl rfl k_) ?_
  obtain ⟨T1, X1, e1, st1⟩ := getF X0 hx hZ hown (host := "") (Or.inl (hw _ (List.mem_of_getElem? (i := 26) rfl))) Via.refl e0 F (g := (mkF m 1 #[.val (.ref a)] [(.ref a)])) rfl rfl (hb hby own_b5_d1)
  refine own_st (B := T1.setTop (mkF m 4 #[.val (.ref a)] [(.ref d)])) st1 ?_
  obtain ⟨T2, h2, X2, e2, E2, A2, G2, st2⟩ := own_clone X1 hx hZ hown (hw _ (List.mem_of_getElem? (i := 11) rfl)) (hw _ (List.mem_of_getElem? (i := 12) rfl)) (hw _ (List.mem_of_getElem? (i := 16) rfl)) (hw _ (List.mem_of_getElem? (i := 14) rfl)) (hw _ (List.mem_of_getElem? (i := 15) rfl)) (hw _ (List.mem_of_getElem? (i := 17) rfl)) e1 A Ed (pc := 4) (Ls := #[.val (.ref a)]) (rest := []) (by rw [hml]; rfl) (hb hby own_b5_d4) (by decide) (W := 0) (by show 2 * 0 + _ ≤ _; exact Nat.le_of_eq rfl) (by decide) (cap := 4) (by omega) (by decide) (by decide)
  obtain ⟨b2, g2⟩ : ∃ z, z = h0.size := ⟨_, rfl⟩
  rw [← g2] at A2 G2 st2
  have ne3 : a ≠ b2 := Nat.ne_of_lt (Nat.lt_of_lt_of_le F.lt (Nat.le_of_eq g2.symm))
  have ne4 : d ≠ b2 := Nat.ne_of_lt (Nat.lt_of_lt_of_le A.lt (Nat.le_of_eq g2.symm))
  have g5 : n0 ≤ b2 := Nat.le_trans Z0 (Nat.le_of_eq g2.symm)
  have sz6 : h0.size ≤ b2 := Nat.le_trans K0.1 (Nat.le_of_eq g2.symm)
  have Z7 := Nat.le_trans Z0 E2.1
  have K8 := K0.ext E2
  refine own_st (B := T2.setTop (mkF m 7 #[.val (.ref a)] [(.ref b2)])) st2 ?_
  obtain ⟨T9, X9, e9, st9⟩ := castY X2 hx hZ hown (hw _ (List.mem_of_getElem? (i := 18) rfl)) e2 (Ins.self G2) (g := (mkF m 7 #[.val (.ref a)] [(.ref b2)])) rfl rfl (hb hby own_b5_d7)
  refine own_st (B := T9.setTop (mkF m 10 #[.val (.ref a)] [(.ref b2)])) st9 ?_
  refine own_retR X9 hx rfl Bd.returns rfl hlk (hb hby own_b5_d10) (by decide) (by decide) ?_
  show Q5 Z a d k f h0 n0 _ T9.heap _
  rw [e9]
  exact ⟨b2, rfl, N0, K8, sz6, A2⟩
theorem own_b9_d0 : decode jdk_48_method_13_code 0 = .ok (.iconst 0, 1) := by decide +kernel
theorem own_b9_d1 : decode jdk_48_method_13_code 1 = .ok (.istore_n 3, 1) := by decide +kernel
theorem own_b9_d2 : decode jdk_48_method_13_code 2 = .ok (.iload_n 2, 1) := by decide +kernel
theorem own_b9_d3 : decode jdk_48_method_13_code 3 = .ok (.bipush 7, 2) := by decide +kernel
theorem own_b9_d5 : decode jdk_48_method_13_code 5 = .ok (.if_icmp .le 44, 3) := by decide +kernel
theorem own_b9_d49 : decode jdk_48_method_13_code 49 = .ok (.iload_n 3, 1) := by decide +kernel
theorem own_b9_d50 : decode jdk_48_method_13_code 50 = .ok (.iload_n 2, 1) := by decide +kernel
theorem own_b9_d51 : decode jdk_48_method_13_code 51 = .ok (.if_icmp .ge 20, 3) := by decide +kernel
theorem own_b9_d54 : decode jdk_48_method_13_code 54 = .ok (.aload_n 0, 1) := by decide +kernel
theorem own_b9_d55 : decode jdk_48_method_13_code 55 = .ok (.iload_n 3, 1) := by decide +kernel
theorem own_b9_d56 : decode jdk_48_method_13_code 56 = .ok (.baload, 1) := by decide +kernel
theorem own_b9_d57 : decode jdk_48_method_13_code 57 = .ok (.aload_n 1, 1) := by decide +kernel
theorem own_b9_d58 : decode jdk_48_method_13_code 58 = .ok (.iload_n 3, 1) := by decide +kernel
theorem own_b9_d59 : decode jdk_48_method_13_code 59 = .ok (.baload, 1) := by decide +kernel
theorem own_b9_d60 : decode jdk_48_method_13_code 60 = .ok (.if_icmp .eq 5, 3) := by decide +kernel
theorem own_b9_d65 : decode jdk_48_method_13_code 65 = .ok (.iinc 3 1, 3) := by decide +kernel
theorem own_b9_d68 : decode jdk_48_method_13_code 68 = .ok (.goto (-19), 3) := by decide +kernel
theorem own_b9_d71 : decode jdk_48_method_13_code 71 = .ok (.iconst (-1), 1) := by decide +kernel
theorem own_b9_d72 : decode jdk_48_method_13_code 72 = .ok (.ireturn, 1) := by decide +kernel
theorem own_pn2 : plainName "jdk/internal/util/ArraysSupport" = true := by first | (simp [plainName, overriddenIn]; done) | decide +kernel
theorem own_ef_rm9 (m : MethodId) (x0 : Addr) (x1 : Addr) (x2 : Int32) : entryFrame m #[(.ref x0), (.ref x1), (.int x2)] 4 = mkF m 0 #[.val (.ref x0), .val (.ref x1), .val (.int x2), .unset] [] := by first | (simp [entryFrame, mkF, argsToLocals, Value.category]; done) | rfl
def Q9 (Z : State) (a1 : Addr) (a2 : Addr) (x2 : Int32) (k : Nat) (f : Nat → Int32) (h0 : Heap) (n0 : Nat) (v : Option Value) (h : Heap) (L : List Loc) : Prop := v = some (.int (-1)) ∧ Fr n0 L ∧ h = h0
set_option maxRecDepth 65536 in
set_option maxHeartbeats 40000000 in
theorem rm9 (l : Launch) (Z : State) (a0 : Array Value) (hw : ∀ d ∈ tables_1, d.before a0 Z = true) (ws : List Jvm.Cond) (a1 : Addr) (a2 : Addr) (x2 : Int32) (k : Nat) (f : Nat → Int32) (h0 : Heap) (n0 : Nat) (Z0 : n0 ≤ h0.size) (A1 : own_A Z h0 a1 .byte k f) (A2 : own_A Z h0 a2 .byte k f) (hk : own_ix x2 k) (hk5 : k < 5) :
    MetFree l (⟨"jdk/internal/util/ArraysSupport", "mismatch", "([B[BI)I"⟩ : MethodName) (head1 (Jvm.Cond.code (⟨"jdk/internal/util/ArraysSupport", "mismatch", "([B[BI)I"⟩ : MethodName) jdk_48_method_13_code 4 (some .int) :: ws) ({ frames := 0, cells := 0, slots := 0, locals := 0 } : Room)) (fun aa_ U_ => aa_ = #[(.ref a1), (.ref a2), (.int x2)] ∧ Z.Warmed39 U_.vm ∧ U_.heap = h0) (fun _ _ _ _ _ => True) (fun _ U_ o_ U1_ => ∃ v_ L_, o_ = .returned v_ ∧ Q9 Z a1 a2 x2 k f h0 n0 v_ U1_.heap L_ ∧ FrameEnd U_ o_ U1_ L_ ({ frames := 0, cells := 0, slots := 0, locals := 0 } : Room).cells ({ frames := 0, cells := 0, slots := 0, locals := 0 } : Room).slots) := by
  refine MetFree.of_bodySF (plainFor_of_name own_pn2) hisR ?_
  intro p e s m args below meth c s₁ Bd hml0 hP hK
  obtain ⟨rfl, hZ, hh⟩ := hP
  have hx := Bd.exec
  have hby := Bd.bytes
  have hlk := Bd.notSynchronized
  have hml : c.maxLocals = 4 := hml0
  have hown : s.vm.findClass "jdk/internal/util/ArraysSupport" = some m.cls := findClass_of_methodNamed Bd.named
  have hnm := (name_of_methodNamed Bd.named Bd.method).1
  have X0 : Stand p l e ({ frames := 0, cells := 0, slots := 0, locals := 0 } : Room) s m #[(.ref a1), (.ref a2), (.int x2)] below meth c s₁ [] 0 0 := Stand.of_body Bd
  have e0 : s₁.heap = h0 := by rw [← hh, Bd.state]; rfl
  have N0 := Fr.nil n0
  show own_E p e below s (Q9 Z a1 a2 x2 k f h0 n0) ({ frames := 0, cells := 0, slots := 0, locals := 0 } : Room).cells ({ frames := 0, cells := 0, slots := 0, locals := 0 } : Room).slots (s₁.setTop (entryFrame m #[(.ref a1), (.ref a2), (.int x2)] 4))
  refine own_st (B := s₁.setTop (mkF m 0 #[.val (.ref a1), .val (.ref a2), .val (.int x2), .unset] [])) (fun t_ k_ => castTop (own_ef_rm9 m a1 a2 x2) k_) ?_
  have hki := own_ixI hk
  refine own_st (B := s₁.setTop (mkF m 1 #[.val (.ref a1), .val (.ref a2), .val (.int x2), .unset] [(.int (0 : Int32))])) (fun t_ k_ => XS.iconst X0.here hx rfl (hb hby own_b9_d0) k_) ?_
  refine own_st (B := s₁.setTop (mkF m 2 #[.val (.ref a1), .val (.ref a2), .val (.int x2), .val (.int (0 : Int32))] [])) (fun t_ k_ => XS.istoreN X0.here hx rfl (hb hby own_b9_d1) rfl (l' := #[.val (.ref a1), .val (.ref a2), .val (.int x2), .val (.int (0 : Int32))]) rfl k_) ?_
  refine own_st (B := s₁.setTop (mkF m 3 #[.val (.ref a1), .val (.ref a2), .val (.int x2), .val (.int (0 : Int32))] [(.int x2)])) (fun t_ k_ => XS.iloadN X0.here hx rfl (hb hby own_b9_d2) rfl k_) ?_
  refine own_st (B := s₁.setTop (mkF m 5 #[.val (.ref a1), .val (.ref a2), .val (.int x2), .val (.int (0 : Int32))] [(.int (7 : Int32)), (.int x2)])) (fun t_ k_ => XS.bipush X0.here hx rfl (hb hby own_b9_d3) k_) ?_
  have hc1 : ¬ ((7 : Int32) < x2) := fun q' => by have := own_lt32 q'; simp only [Int32.reduceToInt] at this; omega
  have hd1 := own_nlt32 hc1
  rw [show (7 : Int32).toInt = 7 from rfl] at hd1
  refine own_st (B := s₁.setTop (mkF m 49 #[.val (.ref a1), .val (.ref a2), .val (.int x2), .val (.int (0 : Int32))] [])) (fun t_ k_ => XS.icmpYes X0.here hx rfl (pc0 := 5) (pc' := 49) rfl (hb hby own_b9_d5) rfl (flt hc1).2.2.2 (by decide) (by decide) k_) ?_
  have lp2 : ∀ (q : Nat)  (i : Nat) (j : Int32), (q + i = k) → (own_ix j i) → own_E p e below s (Q9 Z a1 a2 x2 k f h0 n0) ({ frames := 0, cells := 0, slots := 0, locals := 0 } : Room).cells ({ frames := 0, cells := 0, slots := 0, locals := 0 } : Room).slots (s₁.setTop (mkF m 49 #[.val (.ref a1), .val (.ref a2), .val (.int x2), .val (.int j)] [])) := by
    intro q
    induction q using Nat.strongRecOn with
    | _ q ih =>
      intro i j hq hj
      have hji := own_ixI hj
      refine own_st (B := s₁.setTop (mkF m 50 #[.val (.ref a1), .val (.ref a2), .val (.int x2), .val (.int j)] [(.int j)])) (fun t_ k_ => XS.iloadN X0.here hx rfl (hb hby own_b9_d49) rfl k_) ?_
      refine own_st (B := s₁.setTop (mkF m 51 #[.val (.ref a1), .val (.ref a2), .val (.int x2), .val (.int j)] [(.int x2), (.int j)])) (fun t_ k_ => XS.iloadN X0.here hx rfl (hb hby own_b9_d50) rfl k_) ?_
      by_cases hc3 : j < x2
      · have hd3 := own_lt32 hc3
        refine own_st (B := s₁.setTop (mkF m 54 #[.val (.ref a1), .val (.ref a2), .val (.int x2), .val (.int j)] [])) (fun t_ k_ => XS.icmpNo X0.here hx rfl (hb hby own_b9_d51) rfl (tlt hc3).2.1 k_) ?_
        refine own_st (B := s₁.setTop (mkF m 55 #[.val (.ref a1), .val (.ref a2), .val (.int x2), .val (.int j)] [(.ref a1)])) (fun t_ k_ => XS.aloadN X0.here hx rfl (hb hby own_b9_d54) rfl rfl k_) ?_
        refine own_st (B := s₁.setTop (mkF m 56 #[.val (.ref a1), .val (.ref a2), .val (.int x2), .val (.int j)] [(.int j), (.ref a1)])) (fun t_ k_ => XS.iloadN X0.here hx rfl (hb hby own_b9_d55) rfl k_) ?_
        refine own_st (B := s₁.setTop (mkF m 57 #[.val (.ref a1), .val (.ref a2), .val (.int x2), .val (.int j)] [(.int (f i))])) (fun t_ k_ => own_ldB X0 hx hZ e0 A1 (i := i) hj (by omega) (hb hby own_b9_d56) t_ k_) ?_
        refine own_st (B := s₁.setTop (mkF m 58 #[.val (.ref a1), .val (.ref a2), .val (.int x2), .val (.int j)] [(.ref a2), (.int (f i))])) (fun t_ k_ => XS.aloadN X0.here hx rfl (hb hby own_b9_d57) rfl rfl k_) ?_
        refine own_st (B := s₁.setTop (mkF m 59 #[.val (.ref a1), .val (.ref a2), .val (.int x2), .val (.int j)] [(.int j), (.ref a2), (.int (f i))])) (fun t_ k_ => XS.iloadN X0.here hx rfl (hb hby own_b9_d58) rfl k_) ?_
        refine own_st (B := s₁.setTop (mkF m 60 #[.val (.ref a1), .val (.ref a2), .val (.int x2), .val (.int j)] [(.int (f i)), (.int (f i))])) (fun t_ k_ => own_ldB X0 hx hZ e0 A2 (i := i) hj (by omega) (hb hby own_b9_d59) t_ k_) ?_
        have hc4 : (f i) = (f i) := rfl
        have hd4 := own_eq32 hc4
        refine own_st (B := s₁.setTop (mkF m 65 #[.val (.ref a1), .val (.ref a2), .val (.int x2), .val (.int j)] [])) (fun t_ k_ => XS.icmpYes X0.here hx rfl (pc0 := 60) (pc' := 65) rfl (hb hby own_b9_d60) rfl (teq hc4).1 (by decide) (by decide) k_) ?_
        refine own_st (B := s₁.setTop (mkF m 68 #[.val (.ref a1), .val (.ref a2), .val (.int x2), .val (.int (j + (1 : Int32)))] [])) (fun t_ k_ => XS.iinc X0.here hx rfl (hb hby own_b9_d65) rfl (l' := #[.val (.ref a1), .val (.ref a2), .val (.int x2), .val (.int (j + (1 : Int32)))]) rfl k_) ?_
        refine own_st (B := s₁.setTop (mkF m 49 #[.val (.ref a1), .val (.ref a2), .val (.int x2), .val (.int (j + (1 : Int32)))] [])) (fun t_ k_ => XS.goto X0.here hx rfl (pc0 := 68) (pc' := 49) rfl (hb hby own_b9_d68) (by decide) (by decide) k_) ?_
        exact ih (q - 1) (by omega) (i + 1) (j + (1 : Int32)) (by omega) (own_ixa hj 1 (by omega))
      · have hd3 := own_nlt32 hc3
        refine own_st (B := s₁.setTop (mkF m 71 #[.val (.ref a1), .val (.ref a2), .val (.int x2), .val (.int j)] [])) (fun t_ k_ => XS.icmpYes X0.here hx rfl (pc0 := 51) (pc' := 71) rfl (hb hby own_b9_d51) rfl (flt hc3).2.1 (by decide) (by decide) k_) ?_
        refine own_st (B := s₁.setTop (mkF m 72 #[.val (.ref a1), .val (.ref a2), .val (.int x2), .val (.int j)] [(.int (-1 : Int32))])) (fun t_ k_ => XS.iconst X0.here hx rfl (hb hby own_b9_d71) k_) ?_
        refine own_retI X0 hx Bd.returns hlk (hb hby own_b9_d72) (by decide) (by decide) ?_
        show Q9 Z a1 a2 x2 k f h0 n0 _ s₁.heap _
        rw [e0]
        exact ⟨rfl, N0, rfl⟩
  exact lp2 k 0 (0 : Int32) (by omega) (by decide)
theorem own_pd1 : parseMethodDescriptor "([B[BI)I" = some ⟨[(.array .byte), (.array .byte), .int], some .int⟩ := by decide +kernel
theorem own_b8_d0 : decode jdk_65_method_89_code 0 = .ok (.aload_n 0, 1) := by decide +kernel
theorem own_b8_d1 : decode jdk_65_method_89_code 1 = .ok (.aload_n 1, 1) := by decide +kernel
theorem own_b8_d2 : decode jdk_65_method_89_code 2 = .ok (.if_acmp .ne 5, 3) := by decide +kernel
theorem own_b8_d7 : decode jdk_65_method_89_code 7 = .ok (.aload_n 0, 1) := by decide +kernel
theorem own_b8_d8 : decode jdk_65_method_89_code 8 = .ok (.ifnull 7, 3) := by decide +kernel
theorem own_b8_d11 : decode jdk_65_method_89_code 11 = .ok (.aload_n 1, 1) := by decide +kernel
theorem own_b8_d12 : decode jdk_65_method_89_code 12 = .ok (.ifnonnull 5, 3) := by decide +kernel
theorem own_b8_d17 : decode jdk_65_method_89_code 17 = .ok (.aload_n 0, 1) := by decide +kernel
theorem own_b8_d18 : decode jdk_65_method_89_code 18 = .ok (.arraylength, 1) := by decide +kernel
theorem own_b8_d19 : decode jdk_65_method_89_code 19 = .ok (.istore_n 2, 1) := by decide +kernel
theorem own_b8_d20 : decode jdk_65_method_89_code 20 = .ok (.aload_n 1, 1) := by decide +kernel
theorem own_b8_d21 : decode jdk_65_method_89_code 21 = .ok (.arraylength, 1) := by decide +kernel
theorem own_b8_d22 : decode jdk_65_method_89_code 22 = .ok (.iload_n 2, 1) := by decide +kernel
theorem own_b8_d23 : decode jdk_65_method_89_code 23 = .ok (.if_icmp .eq 5, 3) := by decide +kernel
theorem own_b8_d28 : decode jdk_65_method_89_code 28 = .ok (.aload_n 0, 1) := by decide +kernel
theorem own_b8_d29 : decode jdk_65_method_89_code 29 = .ok (.aload_n 1, 1) := by decide +kernel
theorem own_b8_d30 : decode jdk_65_method_89_code 30 = .ok (.iload_n 2, 1) := by decide +kernel
theorem own_b8_d31 : decode jdk_65_method_89_code 31 = .ok (.invokestatic 272, 3) := by decide +kernel
theorem own_b8_d34 : decode jdk_65_method_89_code 34 = .ok (.ifCond .ge 7, 3) := by decide +kernel
theorem own_b8_d37 : decode jdk_65_method_89_code 37 = .ok (.iconst 1, 1) := by decide +kernel
theorem own_b8_d38 : decode jdk_65_method_89_code 38 = .ok (.goto 4, 3) := by decide +kernel
theorem own_b8_d42 : decode jdk_65_method_89_code 42 = .ok (.ireturn, 1) := by decide +kernel
theorem own_pn3 : plainName "java/util/Arrays" = true := by first | (simp [plainName, overriddenIn]; done) | decide +kernel
theorem own_ef_rm8 (m : MethodId) (x0 : Addr) (x1 : Addr) : entryFrame m #[(.ref x0), (.ref x1)] 3 = mkF m 0 #[.val (.ref x0), .val (.ref x1), .unset] [] := by first | (simp [entryFrame, mkF, argsToLocals, Value.category]; done) | rfl
def Q8 (Z : State) (a1 : Addr) (a2 : Addr) (k : Nat) (f : Nat → Int32) (h0 : Heap) (n0 : Nat) (v : Option Value) (h : Heap) (L : List Loc) : Prop := v = some (.int 1) ∧ Fr n0 L ∧ h = h0
set_option maxRecDepth 65536 in
set_option maxHeartbeats 40000000 in
theorem rm8 (l : Launch) (Z : State) (a0 : Array Value) (hw : ∀ d ∈ tables_1, d.before a0 Z = true) (ws : List Jvm.Cond) (a1 : Addr) (a2 : Addr) (k : Nat) (f : Nat → Int32) (h0 : Heap) (n0 : Nat) (Z0 : n0 ≤ h0.size) (A1 : own_A Z h0 a1 .byte k f) (A2 : own_A Z h0 a2 .byte k f) (hk5 : k < 5) (hne : a1 ≠ a2) :
    MetFree l (⟨"java/util/Arrays", "equals", "([B[B)Z"⟩ : MethodName) (head1 (Jvm.Cond.code (⟨"java/util/Arrays", "equals", "([B[B)Z"⟩ : MethodName) jdk_65_method_89_code 3 (some .boolean) :: ws) ({ frames := 1, cells := 0, slots := 0, locals := 15 } : Room)) (fun aa_ U_ => aa_ = #[(.ref a1), (.ref a2)] ∧ Z.Warmed39 U_.vm ∧ U_.heap = h0) (fun _ _ _ _ _ => True) (fun _ U_ o_ U1_ => ∃ v_ L_, o_ = .returned v_ ∧ Q8 Z a1 a2 k f h0 n0 v_ U1_.heap L_ ∧ FrameEnd U_ o_ U1_ L_ ({ frames := 1, cells := 0, slots := 0, locals := 15 } : Room).cells ({ frames := 1, cells := 0, slots := 0, locals := 15 } : Room).slots) := by
  refine MetFree.of_bodySF (plainFor_of_name own_pn3) hisR ?_
  intro p e s m args below meth c s₁ Bd hml0 hP hK
  obtain ⟨rfl, hZ, hh⟩ := hP
  have hx := Bd.exec
  have hby := Bd.bytes
  have hlk := Bd.notSynchronized
  have hml : c.maxLocals = 3 := hml0
  have hown : s.vm.findClass "java/util/Arrays" = some m.cls := findClass_of_methodNamed Bd.named
  have hnm := (name_of_methodNamed Bd.named Bd.method).1
  have X0 : Stand p l e ({ frames := 1, cells := 0, slots := 0, locals := 15 } : Room) s m #[(.ref a1), (.ref a2)] below meth c s₁ [] 0 0 := Stand.of_body Bd
  have e0 : s₁.heap = h0 := by rw [← hh, Bd.state]; rfl
  have N0 := Fr.nil n0
  show own_E p e below s (Q8 Z a1 a2 k f h0 n0) ({ frames := 1, cells := 0, slots := 0, locals := 15 } : Room).cells ({ frames := 1, cells := 0, slots := 0, locals := 15 } : Room).slots (s₁.setTop (entryFrame m #[(.ref a1), (.ref a2)] 3))
  refine own_st (B := s₁.setTop (mkF m 0 #[.val (.ref a1), .val (.ref a2), .unset] [])) (fun t_ k_ => castTop (own_ef_rm8 m a1 a2) k_) ?_
  refine own_st (B := s₁.setTop (mkF m 1 #[.val (.ref a1), .val (.ref a2), .unset] [(.ref a1)])) (fun t_ k_ => XS.aloadN X0.here hx rfl (hb hby own_b8_d0) rfl rfl k_) ?_
  refine own_st (B := s₁.setTop (mkF m 2 #[.val (.ref a1), .val (.ref a2), .unset] [(.ref a2), (.ref a1)])) (fun t_ k_ => XS.aloadN X0.here hx rfl (hb hby own_b8_d1) rfl rfl k_) ?_
  refine own_st (B := s₁.setTop (mkF m 7 #[.val (.ref a1), .val (.ref a2), .unset] [])) (fun t_ k_ => Jvm.RoadKit.acmp (g := (mkF m 2 #[.val (.ref a1), .val (.ref a2), .unset] [(.ref a2), (.ref a1)])) X0 hx rfl rfl rfl (pc0 := 2) (pc' := 7) (same := false) rfl (hb hby own_b8_d2) rfl (decide_eq_false fun q => hne (Value.ref.inj q)) (by decide) (by decide) k_) ?_
  refine own_st (B := s₁.setTop (mkF m 8 #[.val (.ref a1), .val (.ref a2), .unset] [(.ref a1)])) (fun t_ k_ => XS.aloadN X0.here hx rfl (hb hby own_b8_d7) rfl rfl k_) ?_
  refine own_st (B := s₁.setTop (mkF m 11 #[.val (.ref a1), .val (.ref a2), .unset] [])) (fun t_ k_ => XS.ifnullNo X0.here hx rfl (hb hby own_b8_d8) rfl k_) ?_
  refine own_st (B := s₁.setTop (mkF m 12 #[.val (.ref a1), .val (.ref a2), .unset] [(.ref a2)])) (fun t_ k_ => XS.aloadN X0.here hx rfl (hb hby own_b8_d11) rfl rfl k_) ?_
  refine own_st (B := s₁.setTop (mkF m 17 #[.val (.ref a1), .val (.ref a2), .unset] [])) (fun t_ k_ => XT.ifnonnullYes X0.here hx rfl (pc0 := 12) (pc' := 17) rfl (hb hby own_b8_d12) rfl (by decide) (by decide) k_) ?_
  refine own_st (B := s₁.setTop (mkF m 18 #[.val (.ref a1), .val (.ref a2), .unset] [(.ref a1)])) (fun t_ k_ => XS.aloadN X0.here hx rfl (hb hby own_b8_d17) rfl rfl k_) ?_
  refine own_st (B := s₁.setTop (mkF m 19 #[.val (.ref a1), .val (.ref a2), .unset] [(.int (Nat.toInt32 k))])) (fun t_ k_ => own_len X0 hx hZ e0 A1 (z := (Nat.toInt32 k)) rfl (hb hby own_b8_d18) t_ k_) ?_
  refine own_st (B := s₁.setTop (mkF m 20 #[.val (.ref a1), .val (.ref a2), .val (.int (Nat.toInt32 k))] [])) (fun t_ k_ => XS.istoreN X0.here hx rfl (hb hby own_b8_d19) rfl (l' := #[.val (.ref a1), .val (.ref a2), .val (.int (Nat.toInt32 k))]) rfl k_) ?_
  refine own_st (B := s₁.setTop (mkF m 21 #[.val (.ref a1), .val (.ref a2), .val (.int (Nat.toInt32 k))] [(.ref a2)])) (fun t_ k_ => XS.aloadN X0.here hx rfl (hb hby own_b8_d20) rfl rfl k_) ?_
  refine own_st (B := s₁.setTop (mkF m 22 #[.val (.ref a1), .val (.ref a2), .val (.int (Nat.toInt32 k))] [(.int (Nat.toInt32 k))])) (fun t_ k_ => own_len X0 hx hZ e0 A2 (z := (Nat.toInt32 k)) rfl (hb hby own_b8_d21) t_ k_) ?_
  refine own_st (B := s₁.setTop (mkF m 23 #[.val (.ref a1), .val (.ref a2), .val (.int (Nat.toInt32 k))] [(.int (Nat.toInt32 k)), (.int (Nat.toInt32 k))])) (fun t_ k_ => XS.iloadN X0.here hx rfl (hb hby own_b8_d22) rfl k_) ?_
  have hc1 : (Nat.toInt32 k) = (Nat.toInt32 k) := rfl
  have hd1 := own_eq32 hc1
  refine own_st (B := s₁.setTop (mkF m 28 #[.val (.ref a1), .val (.ref a2), .val (.int (Nat.toInt32 k))] [])) (fun t_ k_ => XS.icmpYes X0.here hx rfl (pc0 := 23) (pc' := 28) rfl (hb hby own_b8_d23) rfl (teq hc1).1 (by decide) (by decide) k_) ?_
  refine own_st (B := s₁.setTop (mkF m 29 #[.val (.ref a1), .val (.ref a2), .val (.int (Nat.toInt32 k))] [(.ref a1)])) (fun t_ k_ => XS.aloadN X0.here hx rfl (hb hby own_b8_d28) rfl rfl k_) ?_
  refine own_st (B := s₁.setTop (mkF m 30 #[.val (.ref a1), .val (.ref a2), .val (.int (Nat.toInt32 k))] [(.ref a2), (.ref a1)])) (fun t_ k_ => XS.aloadN X0.here hx rfl (hb hby own_b8_d29) rfl rfl k_) ?_
  refine own_st (B := s₁.setTop (mkF m 31 #[.val (.ref a1), .val (.ref a2), .val (.int (Nat.toInt32 k))] [(.int (Nat.toInt32 k)), (.ref a2), (.ref a1)])) (fun t_ k_ => XS.iloadN X0.here hx rfl (hb hby own_b8_d30) rfl k_) ?_
  obtain ⟨_, _, ⟨T2, L2, k2, n2⟩, -, X2, ⟨Lc2, hQ2, l2, y2, z2⟩, st2⟩ := Jvm.LawKit.callS X0 hx (y := (⟨"jdk/internal/util/ArraysSupport", "mismatch", "([B[BI)I"⟩ : MethodName)) hown (mvT hZ (hw _ (List.mem_of_getElem? (i := 46) rfl))) (mvT hZ (hw _ (List.mem_of_getElem? (i := 47) rfl))) (mvT hZ (hw _ (List.mem_of_getElem? (i := 48) rfl))) (mvT hZ (hw _ (List.mem_of_getElem? (i := 49) rfl))) (by decide) (backOf (W := 0) (rm9 l Z a0 hw [] a1 a2 (Nat.toInt32 k) k f h0 n0 Z0 A1 A2 (own_ixof (Int32.toInt_ofNat_of_lt (by omega))) hk5) hZ (hw _ (List.mem_of_getElem? (i := 49) rfl)) (hw _ (List.mem_of_getElem? (i := 48) rfl)) (by decide) (by decide)) (g := (mkF m 31 #[.val (.ref a1), .val (.ref a2), .val (.int (Nat.toInt32 k))] [(.int (Nat.toInt32 k)), (.ref a2), (.ref a1)])) rfl (by rw [hml]; rfl) (argsL := [(.ref a1), (.ref a2), (.int (Nat.toInt32 k))]) (rest := []) (lenOf own_pd1 rfl) rfl (by show 2 * 0 + _ ≤ _; exact Nat.le_of_eq rfl) (hb hby own_b8_d31) (fun _ _ => ⟨rfl, e0, (by decide : 0 + 0 ≤ _), (by decide : 0 + 0 ≤ _)⟩)
  dsimp only [Pt.U, Pt.locs, Pt.cells, Pt.slots] at X2 l2 y2 z2 st2 hQ2
  subst l2 y2 z2
  obtain ⟨rfl, N2q, eh2⟩ := hQ2
  have N2 := Fr.app N0 N2q
  refine own_st (B := T2.setTop (mkF m 34 #[.val (.ref a1), .val (.ref a2), .val (.int (Nat.toInt32 k))] [(.int (-1 : Int32))])) st2 ?_
  refine own_st (B := T2.setTop (mkF m 37 #[.val (.ref a1), .val (.ref a2), .val (.int (Nat.toInt32 k))] [])) (fun t_ k_ => XS.ifNo X2.here hx rfl (hb hby own_b8_d34) rfl ((if0 _ _).trans (tlt (by decide : (-1 : Int32) < (0 : Int32))).2.1) k_) ?_
  refine own_st (B := T2.setTop (mkF m 38 #[.val (.ref a1), .val (.ref a2), .val (.int (Nat.toInt32 k))] [(.int (1 : Int32))])) (fun t_ k_ => XS.iconst X2.here hx rfl (hb hby own_b8_d37) k_) ?_
  refine own_st (B := T2.setTop (mkF m 42 #[.val (.ref a1), .val (.ref a2), .val (.int (Nat.toInt32 k))] [(.int (1 : Int32))])) (fun t_ k_ => XS.goto X2.here hx rfl (pc0 := 38) (pc' := 42) rfl (hb hby own_b8_d38) (by decide) (by decide) k_) ?_
  refine own_retN X2 hx (t := .boolean) Bd.returns (by simp) hlk (hb hby own_b8_d42) (z' := (1 : Int32)) (by first | rfl | exact own_nb _ | exact own_nbb _) (by decide) (by decide) ?_
  show Q8 Z a1 a2 k f h0 n0 _ T2.heap _
  rw [eh2]
  exact ⟨rfl, N2, rfl⟩
theorem own_pd2 : parseMethodDescriptor "([B[B)Z" = some ⟨[(.array .byte), (.array .byte)], some .boolean⟩ := by decide +kernel
theorem own_b7_d0 : decode prog_6_method_6_code 0 = .ok (.aload_n 1, 1) := by decide +kernel
theorem own_b7_d1 : decode prog_6_method_6_code 1 = .ok (.instanceof 8, 3) := by decide +kernel
theorem own_b7_d4 : decode prog_6_method_6_code 4 = .ok (.ifCond .eq 26, 3) := by decide +kernel
theorem own_b7_d7 : decode prog_6_method_6_code 7 = .ok (.aload_n 1, 1) := by decide +kernel
theorem own_b7_d8 : decode prog_6_method_6_code 8 = .ok (.checkcast 8, 3) := by decide +kernel
theorem own_b7_d11 : decode prog_6_method_6_code 11 = .ok (.astore_n 2, 1) := by decide +kernel
theorem own_b7_d12 : decode prog_6_method_6_code 12 = .ok (.aload_n 0, 1) := by decide +kernel
theorem own_b7_d13 : decode prog_6_method_6_code 13 = .ok (.getfield 7, 3) := by decide +kernel
theorem own_b7_d16 : decode prog_6_method_6_code 16 = .ok (.aload_n 2, 1) := by decide +kernel
theorem own_b7_d17 : decode prog_6_method_6_code 17 = .ok (.getfield 7, 3) := by decide +kernel
theorem own_b7_d20 : decode prog_6_method_6_code 20 = .ok (.invokestatic 43, 3) := by decide +kernel
theorem own_b7_d23 : decode prog_6_method_6_code 23 = .ok (.ifCond .eq 7, 3) := by decide +kernel
theorem own_b7_d26 : decode prog_6_method_6_code 26 = .ok (.iconst 1, 1) := by decide +kernel
theorem own_b7_d27 : decode prog_6_method_6_code 27 = .ok (.goto 4, 3) := by decide +kernel
theorem own_b7_d31 : decode prog_6_method_6_code 31 = .ok (.ireturn, 1) := by decide +kernel
theorem own_ef_rm7 (m : MethodId) (x0 : Addr) (x1 : Addr) : entryFrame m #[(.ref x0), (.ref x1)] 3 = mkF m 0 #[.val (.ref x0), .val (.ref x1), .unset] [] := by first | (simp [entryFrame, mkF, argsToLocals, Value.category]; done) | rfl
def Q7 (Z : State) (a : Addr) (d : Addr) (a1 : Addr) (a2 : Addr) (k : Nat) (f : Nat → Int32) (h0 : Heap) (n0 : Nat) (v : Option Value) (h : Heap) (L : List Loc) : Prop := v = some (.int 1) ∧ Fr n0 L ∧ h = h0
set_option maxRecDepth 65536 in
set_option maxHeartbeats 40000000 in
theorem rm7 (l : Launch) (Z : State) (a0 : Array Value) (hw : ∀ d ∈ tables_1, d.before a0 Z = true) (ws : List Jvm.Cond) (a : Addr) (d : Addr) (a1 : Addr) (a2 : Addr) (k : Nat) (f : Nat → Int32) (h0 : Heap) (n0 : Nat) (Z0 : n0 ≤ h0.size) (Ed : Exa Z h0 d "com/example/syncline/syncline/Bytes") (F1 : Fld Z h0 a "com/example/syncline/syncline/Bytes" "value" "[B" (.ref a1)) (F2 : Fld Z h0 d "com/example/syncline/syncline/Bytes" "value" "[B" (.ref a2)) (A1 : own_A Z h0 a1 .byte k f) (A2 : own_A Z h0 a2 .byte k f) (hk5 : k < 5) (hne : a1 ≠ a2) :
    MetFree l (⟨"com/example/syncline/syncline/Bytes", "equals", "(Ljava/lang/Object;)Z"⟩ : MethodName) (head1 (Jvm.Cond.code (⟨"com/example/syncline/syncline/Bytes", "equals", "(Ljava/lang/Object;)Z"⟩ : MethodName) prog_6_method_6_code 3 (some .boolean) :: ws) ({ frames := 2, cells := 0, slots := 0, locals := 29 } : Room)) (fun aa_ U_ => aa_ = #[(.ref a), (.ref d)] ∧ Z.Warmed39 U_.vm ∧ U_.heap = h0) (fun _ _ _ _ _ => True) (fun _ U_ o_ U1_ => ∃ v_ L_, o_ = .returned v_ ∧ Q7 Z a d a1 a2 k f h0 n0 v_ U1_.heap L_ ∧ FrameEnd U_ o_ U1_ L_ ({ frames := 2, cells := 0, slots := 0, locals := 29 } : Room).cells ({ frames := 2, cells := 0, slots := 0, locals := 29 } : Room).slots) := by
  refine MetFree.of_bodySF (plainFor_of_name own_pn1) hisR ?_
  intro p e s m args below meth c s₁ Bd hml0 hP hK
  obtain ⟨rfl, hZ, hh⟩ := hP
  have hx := Bd.exec
  have hby := Bd.bytes
  have hlk := Bd.notSynchronized
  have hml : c.maxLocals = 3 := hml0
  have hown : s.vm.findClass "com/example/syncline/syncline/Bytes" = some m.cls := findClass_of_methodNamed Bd.named
  have hnm := (name_of_methodNamed Bd.named Bd.method).1
  have X0 : Stand p l e ({ frames := 2, cells := 0, slots := 0, locals := 29 } : Room) s m #[(.ref a), (.ref d)] below meth c s₁ [] 0 0 := Stand.of_body Bd
  have e0 : s₁.heap = h0 := by rw [← hh, Bd.state]; rfl
  have N0 := Fr.nil n0
  show own_E p e below s (Q7 Z a d a1 a2 k f h0 n0) ({ frames := 2, cells := 0, slots := 0, locals := 29 } : Room).cells ({ frames := 2, cells := 0, slots := 0, locals := 29 } : Room).slots (s₁.setTop (entryFrame m #[(.ref a), (.ref d)] 3))
  refine own_st (B := s₁.setTop (mkF m 0 #[.val (.ref a), .val (.ref d), .unset] [])) (fun t_ k_ => castTop (own_ef_rm7 m a d) k_) ?_
  refine own_st (B := s₁.setTop (mkF m 1 #[.val (.ref a), .val (.ref d), .unset] [(.ref d)])) (fun t_ k_ => XS.aloadN X0.here hx rfl (hb hby own_b7_d0) rfl rfl k_) ?_
  obtain ⟨T1, X1, e1, st1⟩ := instY X0 hx hZ hown (hw _ (List.mem_of_getElem? (i := 9) rfl)) e0 (Ins.self Ed) (g := (mkF m 1 #[.val (.ref a), .val (.ref d), .unset] [(.ref d)])) rfl rfl (hb hby own_b7_d1)
  refine own_st (B := T1.setTop (mkF m 4 #[.val (.ref a), .val (.ref d), .unset] [(.int (1 : Int32))])) st1 ?_
  refine own_st (B := T1.setTop (mkF m 7 #[.val (.ref a), .val (.ref d), .unset] [])) (fun t_ k_ => XS.ifNo X1.here hx rfl (hb hby own_b7_d4) rfl ((if0 _ _).trans (feq (by decide : ¬ ((1 : Int32) = (0 : Int32)))).1) k_) ?_
  refine own_st (B := T1.setTop (mkF m 8 #[.val (.ref a), .val (.ref d), .unset] [(.ref d)])) (fun t_ k_ => XS.aloadN X1.here hx rfl (hb hby own_b7_d7) rfl rfl k_) ?_
  obtain ⟨T2, X2, e2, st2⟩ := castY X1 hx hZ hown (hw _ (List.mem_of_getElem? (i := 9) rfl)) e1 (Ins.self Ed) (g := (mkF m 8 #[.val (.ref a), .val (.ref d), .unset] [(.ref d)])) rfl rfl (hb hby own_b7_d8)
  refine own_st (B := T2.setTop (mkF m 11 #[.val (.ref a), .val (.ref d), .unset] [(.ref d)])) st2 ?_
  refine own_st (B := T2.setTop (mkF m 12 #[.val (.ref a), .val (.ref d), .val (.ref d)] [])) (fun t_ k_ => XS.astoreN X2.here hx rfl (hb hby own_b7_d11) rfl rfl (l' := #[.val (.ref a), .val (.ref d), .val (.ref d)]) rfl k_) ?_
  refine own_st (B := T2.setTop (mkF m 13 #[.val (.ref a), .val (.ref d), .val (.ref d)] [(.ref a)])) (fun t_ k_ => XS.aloadN X2.here hx rfl (hb hby own_b7_d12) rfl rfl k_) ?_
  obtain ⟨T3, X3, e3, st3⟩ := getF X2 hx hZ hown (host := "") (Or.inl (hw _ (List.mem_of_getElem? (i := 26) rfl))) Via.refl e2 F1 (g := (mkF m 13 #[.val (.ref a), .val (.ref d), .val (.ref d)] [(.ref a)])) rfl rfl (hb hby own_b7_d13)
  refine own_st (B := T3.setTop (mkF m 16 #[.val (.ref a), .val (.ref d), .val (.ref d)] [(.ref a1)])) st3 ?_
  refine own_st (B := T3.setTop (mkF m 17 #[.val (.ref a), .val (.ref d), .val (.ref d)] [(.ref d), (.ref a1)])) (fun t_ k_ => XS.aloadN X3.here hx rfl (hb hby own_b7_d16) rfl rfl k_) ?_
  obtain ⟨T4, X4, e4, st4⟩ := getF X3 hx hZ hown (host := "") (Or.inl (hw _ (List.mem_of_getElem? (i := 26) rfl))) Via.refl e3 F2 (g := (mkF m 17 #[.val (.ref a), .val (.ref d), .val (.ref d)] [(.ref d), (.ref a1)])) rfl rfl (hb hby own_b7_d17)
  refine own_st (B := T4.setTop (mkF m 20 #[.val (.ref a), .val (.ref d), .val (.ref d)] [(.ref a2), (.ref a1)])) st4 ?_
  obtain ⟨_, _, ⟨T5, L5, k5, n5⟩, -, X5, ⟨Lc5, hQ5, l5, y5, z5⟩, st5⟩ := Jvm.LawKit.callS X4 hx (y := (⟨"java/util/Arrays", "equals", "([B[B)Z"⟩ : MethodName)) hown (mvT hZ (hw _ (List.mem_of_getElem? (i := 42) rfl))) (mvT hZ (hw _ (List.mem_of_getElem? (i := 43) rfl))) (mvT hZ (hw _ (List.mem_of_getElem? (i := 44) rfl))) (mvT hZ (hw _ (List.mem_of_getElem? (i := 45) rfl))) (by decide) (backOf (W := 0) (rm8 l Z a0 hw [] a1 a2 k f h0 n0 Z0 A1 A2 hk5 hne) hZ (hw _ (List.mem_of_getElem? (i := 45) rfl)) (hw _ (List.mem_of_getElem? (i := 44) rfl)) (by decide) (by decide)) (g := (mkF m 20 #[.val (.ref a), .val (.ref d), .val (.ref d)] [(.ref a2), (.ref a1)])) rfl (by rw [hml]; rfl) (argsL := [(.ref a1), (.ref a2)]) (rest := []) (lenOf own_pd2 rfl) rfl (by show 2 * 0 + _ ≤ _; exact Nat.le_of_eq rfl) (hb hby own_b7_d20) (fun _ _ => ⟨rfl, e4, (by decide : 0 + 0 ≤ _), (by decide : 0 + 0 ≤ _)⟩)
  dsimp only [Pt.U, Pt.locs, Pt.cells, Pt.slots] at X5 l5 y5 z5 st5 hQ5
  subst l5 y5 z5
  obtain ⟨rfl, N5q, eh5⟩ := hQ5
  have N5 := Fr.app N0 N5q
  refine own_st (B := T5.setTop (mkF m 23 #[.val (.ref a), .val (.ref d), .val (.ref d)] [(.int (1 : Int32))])) st5 ?_
  refine own_st (B := T5.setTop (mkF m 26 #[.val (.ref a), .val (.ref d), .val (.ref d)] [])) (fun t_ k_ => XS.ifNo X5.here hx rfl (hb hby own_b7_d23) rfl ((if0 _ _).trans (feq (by decide : ¬ ((1 : Int32) = (0 : Int32)))).1) k_) ?_
  refine own_st (B := T5.setTop (mkF m 27 #[.val (.ref a), .val (.ref d), .val (.ref d)] [(.int (1 : Int32))])) (fun t_ k_ => XS.iconst X5.here hx rfl (hb hby own_b7_d26) k_) ?_
  refine own_st (B := T5.setTop (mkF m 31 #[.val (.ref a), .val (.ref d), .val (.ref d)] [(.int (1 : Int32))])) (fun t_ k_ => XS.goto X5.here hx rfl (pc0 := 27) (pc' := 31) rfl (hb hby own_b7_d27) (by decide) (by decide) k_) ?_
  refine own_retN X5 hx (t := .boolean) Bd.returns (by simp) hlk (hb hby own_b7_d31) (z' := (1 : Int32)) (by first | rfl | exact own_nb _ | exact own_nbb _) (by decide) (by decide) ?_
  show Q7 Z a d a1 a2 k f h0 n0 _ T5.heap _
  rw [eh5]
  exact ⟨rfl, N5, rfl⟩
theorem own_pd3 : parseMethodDescriptor "([BIIIII)V" = some ⟨[(.array .byte), .int, .int, .int, .int, .int], none⟩ := by decide +kernel
theorem own_pd4 : parseMethodDescriptor "([B)Lcom/example/syncline/syncline/Bytes;" = some ⟨[(.array .byte)], some (.object "com/example/syncline/syncline/Bytes")⟩ := by decide +kernel
theorem own_pd5 : parseMethodDescriptor "()[B" = some ⟨[], some (.array .byte)⟩ := by decide +kernel
theorem own_pd6 : parseMethodDescriptor "([BIIIII)Z" = some ⟨[(.array .byte), .int, .int, .int, .int, .int], some .boolean⟩ := by decide +kernel
theorem own_pd7 : parseMethodDescriptor "(Ljava/lang/Object;)Z" = some ⟨[(.object "java/lang/Object")], some .boolean⟩ := by decide +kernel
theorem own_ef_rm0 (m : MethodId) (x0 : Int32) (x1 : Int32) (x2 : Int32) (x3 : Int32) (x4 : Int32) : entryFrame m #[(.int x0), (.int x1), (.int x2), (.int x3), (.int x4)] maxLocals = mkF m 0 #[.val (.int x0), .val (.int x1), .val (.int x2), .val (.int x3), .val (.int x4), .unset, .unset, .unset, .unset, .unset, .unset, .unset, .unset, .unset] [] := by first | (simp [entryFrame, mkF, argsToLocals, Value.category, maxLocals]; done) | rfl
def Q0 (Z : State) (u0 : Int32) (u1 : Int32) (u2 : Int32) (u3 : Int32) (u4 : Int32) (h0 : Heap) (n0 : Nat) (v : Option Value) (h : Heap) (L : List Loc) : Prop := v = some (.int 1) ∧ Fr n0 L
set_option maxRecDepth 65536 in
set_option maxHeartbeats 40000000 in
theorem rm0 (l : Launch) (Z : State) (a0 : Array Value) (hw : ∀ d ∈ tables_1, d.before a0 Z = true) (ws : List Jvm.Cond) (u0 : Int32) (u1 : Int32) (u2 : Int32) (u3 : Int32) (u4 : Int32) (h0 : Heap) (n0 : Nat) (Z0 : n0 ≤ h0.size) :
    MetFree l x (head1 (Jvm.Cond.code x code maxLocals ret :: ws) room_1) (fun aa_ U_ => aa_ = #[(.int u0), (.int u1), (.int u2), (.int u3), (.int u4)] ∧ Z.Warmed39 U_.vm ∧ U_.heap = h0) (fun _ _ _ _ _ => True) (fun _ U_ o_ U1_ => ∃ v_ L_, o_ = .returned v_ ∧ Q0 Z u0 u1 u2 u3 u4 h0 n0 v_ U1_.heap L_ ∧ FrameEnd U_ o_ U1_ L_ 8 26) := by
  refine MetFree.of_bodySF (plainFor_of_name own_pn0) hisR ?_
  intro p e s m args below meth c s₁ Bd hml0 hP hK
  obtain ⟨rfl, hZ, hh⟩ := hP
  have hx := Bd.exec
  have hby := Bd.bytes
  have hlk := Bd.notSynchronized
  have hml : c.maxLocals = 14 := hml0
  have hown : s.vm.findClass "com/example/syncline/syncline/BytesOfPinLaw" = some m.cls := findClass_of_methodNamed Bd.named
  have hnm := (name_of_methodNamed Bd.named Bd.method).1
  have X0 : Stand p l e room_1 s m #[(.int u0), (.int u1), (.int u2), (.int u3), (.int u4)] below meth c s₁ [] 0 0 := Stand.of_body Bd
  have e0 : s₁.heap = h0 := by rw [← hh, Bd.state]; rfl
  have N0 := Fr.nil n0
  show own_E p e below s (Q0 Z u0 u1 u2 u3 u4 h0 n0) 8 26 (s₁.setTop (entryFrame m #[(.int u0), (.int u1), (.int u2), (.int u3), (.int u4)] maxLocals))
  refine own_st (B := s₁.setTop (mkF m 0 #[.val (.int u0), .val (.int u1), .val (.int u2), .val (.int u3), .val (.int u4), .unset, .unset, .unset, .unset, .unset, .unset, .unset, .unset, .unset] [])) (fun t_ k_ => castTop (own_ef_rm0 m u0 u1 u2 u3 u4) k_) ?_
  refine own_st (B := s₁.setTop (mkF m 1 #[.val (.int u0), .val (.int u1), .val (.int u2), .val (.int u3), .val (.int u4), .unset, .unset, .unset, .unset, .unset, .unset, .unset, .unset, .unset] [(.int u0)])) (fun t_ k_ => XS.iloadN X0.here hx rfl (hb hby at_0) rfl k_) ?_
  refine own_st (B := s₁.setTop (mkF m 3 #[.val (.int u0), .val (.int u1), .val (.int u2), .val (.int u3), .val (.int u4), .unset, .unset, .unset, .unset, .unset, .unset, .unset, .unset, .unset] [(.int (7 : Int32)), (.int u0)])) (fun t_ k_ => XS.bipush X0.here hx rfl (hb hby at_1) k_) ?_
  refine own_st (B := s₁.setTop (mkF m 4 #[.val (.int u0), .val (.int u1), .val (.int u2), .val (.int u3), .val (.int u4), .unset, .unset, .unset, .unset, .unset, .unset, .unset, .unset, .unset] [(.int (u0 &&& (7 : Int32)))])) (fun t_ k_ => XS.iand X0.here hx rfl (hb hby at_3) rfl k_) ?_
  refine own_st (B := s₁.setTop (mkF m 5 #[.val (.int u0), .val (.int u1), .val (.int u2), .val (.int u3), .val (.int u4), .unset, .unset, .unset, .unset, .unset, .unset, .unset, .unset, .unset] [(.int (5 : Int32)), (.int (u0 &&& (7 : Int32)))])) (fun t_ k_ => XS.iconst X0.here hx rfl (hb hby at_4) k_) ?_
  refine own_st (B := s₁.setTop (mkF m 6 #[.val (.int u0), .val (.int u1), .val (.int u2), .val (.int u3), .val (.int u4), .unset, .unset, .unset, .unset, .unset, .unset, .unset, .unset, .unset] [(.int ((u0 &&& (7 : Int32)) % (5 : Int32)))])) (fun t_ k_ => iremM X0 hx rfl (hb hby at_5) rfl (by decide) k_) ?_
  refine own_st (B := s₁.setTop (mkF m 8 #[.val (.int u0), .val (.int u1), .val (.int u2), .val (.int u3), .val (.int u4), .val (.int ((u0 &&& (7 : Int32)) % (5 : Int32))), .unset, .unset, .unset, .unset, .unset, .unset, .unset, .unset] [])) (fun t_ k_ => XS.istore X0.here hx rfl (hb hby at_6) rfl (l' := #[.val (.int u0), .val (.int u1), .val (.int u2), .val (.int u3), .val (.int u4), .val (.int ((u0 &&& (7 : Int32)) % (5 : Int32))), .unset, .unset, .unset, .unset, .unset, .unset, .unset, .unset]) rfl k_) ?_
  have h6 := own_r5 u0
  obtain ⟨y6, hy6⟩ : ∃ y, y = ((u0 &&& (7 : Int32)) % (5 : Int32)) := ⟨_, rfl⟩
  rw [← hy6] at h6 ⊢
  obtain ⟨kk, hkk⟩ : ∃ k : Nat, own_ix y6 k := ⟨y6.toInt.toNat, own_ixof (by omega)⟩
  have hkl := own_ixI hkk
  have hk5 : kk < 5 := by omega
  refine own_st (B := s₁.setTop (mkF m 10 #[.val (.int u0), .val (.int u1), .val (.int u2), .val (.int u3), .val (.int u4), .val (.int y6), .unset, .unset, .unset, .unset, .unset, .unset, .unset, .unset] [(.int y6)])) (fun t_ k_ => XS.iload X0.here hx rfl (hb hby at_8) rfl k_) ?_
  obtain ⟨T1, h1, k1, X1, e1, E1, A1, G1, st1⟩ := newPE X0 hx hZ (hw _ (List.mem_of_getElem? (i := 0) rfl)) e0 (g := (mkF m 10 #[.val (.int u0), .val (.int u1), .val (.int u2), .val (.int u3), .val (.int u4), .val (.int y6), .unset, .unset, .unset, .unset, .unset, .unset, .unset, .unset] [(.int y6)])) rfl (hb hby at_10) rfl hkk.1 (cap := 4) (by rw [hkk.2]; omega) (by decide) (by decide) (by decide) (ad := "[B") (by decide)
  obtain ⟨b1, g1⟩ : ∃ z, z = h0.size := ⟨_, rfl⟩
  rw [← g1] at A1 G1 st1
  have g2 : n0 ≤ b1 := Nat.le_trans Z0 (Nat.le_of_eq g1.symm)
  have Z3 := Nat.le_trans Z0 E1.1
  have a1 : own_A Z h1 b1 .byte kk (fun _ => 0) := own_A.new A1 hkk.1 hkk.2
  refine own_st (B := T1.setTop (mkF m 12 #[.val (.int u0), .val (.int u1), .val (.int u2), .val (.int u3), .val (.int u4), .val (.int y6), .unset, .unset, .unset, .unset, .unset, .unset, .unset, .unset] [(.ref b1)])) st1 ?_
  refine own_st (B := T1.setTop (mkF m 14 #[.val (.int u0), .val (.int u1), .val (.int u2), .val (.int u3), .val (.int u4), .val (.int y6), .val (.ref b1), .unset, .unset, .unset, .unset, .unset, .unset, .unset] [])) (fun t_ k_ => XS.astore X1.here hx rfl (hb hby at_12) rfl rfl (l' := #[.val (.int u0), .val (.int u1), .val (.int u2), .val (.int u3), .val (.int u4), .val (.int y6), .val (.ref b1), .unset, .unset, .unset, .unset, .unset, .unset, .unset]) rfl k_) ?_
  refine own_st (B := T1.setTop (mkF m 16 #[.val (.int u0), .val (.int u1), .val (.int u2), .val (.int u3), .val (.int u4), .val (.int y6), .val (.ref b1), .unset, .unset, .unset, .unset, .unset, .unset, .unset] [(.int y6)])) (fun t_ k_ => XS.iload X1.here hx rfl (hb hby at_14) rfl k_) ?_
  obtain ⟨T4, h4, k4, X4, e4, E4, A4, G4, st4⟩ := newPE X1 hx hZ (hw _ (List.mem_of_getElem? (i := 0) rfl)) e1 (g := (mkF m 16 #[.val (.int u0), .val (.int u1), .val (.int u2), .val (.int u3), .val (.int u4), .val (.int y6), .val (.ref b1), .unset, .unset, .unset, .unset, .unset, .unset, .unset] [(.int y6)])) rfl (hb hby at_16) rfl hkk.1 (cap := 4) (by rw [hkk.2]; omega) (by decide) (by decide) (by decide) (ad := "[B") (by decide)
  obtain ⟨b4, g4⟩ : ∃ z, z = h1.size := ⟨_, rfl⟩
  rw [← g4] at A4 G4 st4
  have ne5 : b1 ≠ b4 := Nat.ne_of_lt (Nat.lt_of_lt_of_le a1.lt (Nat.le_of_eq g4.symm))
  have g6 : n0 ≤ b4 := Nat.le_trans Z3 (Nat.le_of_eq g4.symm)
  have Z7 := Nat.le_trans Z3 E4.1
  have a4 : own_A Z h4 b4 .byte kk (fun _ => 0) := own_A.new A4 hkk.1 hkk.2
  refine own_st (B := T4.setTop (mkF m 18 #[.val (.int u0), .val (.int u1), .val (.int u2), .val (.int u3), .val (.int u4), .val (.int y6), .val (.ref b1), .unset, .unset, .unset, .unset, .unset, .unset, .unset] [(.ref b4)])) st4 ?_
  refine own_st (B := T4.setTop (mkF m 20 #[.val (.int u0), .val (.int u1), .val (.int u2), .val (.int u3), .val (.int u4), .val (.int y6), .val (.ref b1), .val (.ref b4), .unset, .unset, .unset, .unset, .unset, .unset] [])) (fun t_ k_ => XS.astore X4.here hx rfl (hb hby at_18) rfl rfl (l' := #[.val (.int u0), .val (.int u1), .val (.int u2), .val (.int u3), .val (.int u4), .val (.int y6), .val (.ref b1), .val (.ref b4), .unset, .unset, .unset, .unset, .unset, .unset]) rfl k_) ?_
  refine own_st (B := T4.setTop (mkF m 22 #[.val (.int u0), .val (.int u1), .val (.int u2), .val (.int u3), .val (.int u4), .val (.int y6), .val (.ref b1), .val (.ref b4), .unset, .unset, .unset, .unset, .unset, .unset] [(.ref b1)])) (fun t_ k_ => XS.aload X4.here hx rfl (hb hby at_20) rfl rfl k_) ?_
  refine own_st (B := T4.setTop (mkF m 24 #[.val (.int u0), .val (.int u1), .val (.int u2), .val (.int u3), .val (.int u4), .val (.int y6), .val (.ref b1), .val (.ref b4), .unset, .unset, .unset, .unset, .unset, .unset] [(.int y6), (.ref b1)])) (fun t_ k_ => XS.iload X4.here hx rfl (hb hby at_22) rfl k_) ?_
  refine own_st (B := T4.setTop (mkF m 25 #[.val (.int u0), .val (.int u1), .val (.int u2), .val (.int u3), .val (.int u4), .val (.int y6), .val (.ref b1), .val (.ref b4), .unset, .unset, .unset, .unset, .unset, .unset] [(.int u1), (.int y6), (.ref b1)])) (fun t_ k_ => XS.iloadN X4.here hx rfl (hb hby at_24) rfl k_) ?_
  refine own_st (B := T4.setTop (mkF m 26 #[.val (.int u0), .val (.int u1), .val (.int u2), .val (.int u3), .val (.int u4), .val (.int y6), .val (.ref b1), .val (.ref b4), .unset, .unset, .unset, .unset, .unset, .unset] [(.int u2), (.int u1), (.int y6), (.ref b1)])) (fun t_ k_ => XS.iloadN X4.here hx rfl (hb hby at_25) rfl k_) ?_
  refine own_st (B := T4.setTop (mkF m 27 #[.val (.int u0), .val (.int u1), .val (.int u2), .val (.int u3), .val (.int u4), .val (.int y6), .val (.ref b1), .val (.ref b4), .unset, .unset, .unset, .unset, .unset, .unset] [(.int u3), (.int u2), (.int u1), (.int y6), (.ref b1)])) (fun t_ k_ => XS.iloadN X4.here hx rfl (hb hby at_26) rfl k_) ?_
  refine own_st (B := T4.setTop (mkF m 29 #[.val (.int u0), .val (.int u1), .val (.int u2), .val (.int u3), .val (.int u4), .val (.int y6), .val (.ref b1), .val (.ref b4), .unset, .unset, .unset, .unset, .unset, .unset] [(.int u4), (.int u3), (.int u2), (.int u1), (.int y6), (.ref b1)])) (fun t_ k_ => XS.iload X4.here hx rfl (hb hby at_27) rfl k_) ?_
  have u9 := a1.ext E4
  obtain ⟨_, _, ⟨T8, L8, k8, n8⟩, -, X8, ⟨Lc8, hQ8, l8, y8, z8⟩, st8⟩ := Jvm.LawKit.callS X4 hx (y := (⟨"com/example/syncline/syncline/BytesOfPinLaw", "fill", "([BIIIII)V"⟩ : MethodName)) hown (mvT hZ (hw _ (List.mem_of_getElem? (i := 1) rfl))) (mvT hZ (hw _ (List.mem_of_getElem? (i := 2) rfl))) (mvT hZ (hw _ (List.mem_of_getElem? (i := 3) rfl))) (mvT hZ (hw _ (List.mem_of_getElem? (i := 4) rfl))) (by decide) (backOf (W := 0) (rm1 l Z a0 hw [] b1 y6 u1 u2 u3 u4 kk (fun _ => 0) h4 n0 Z7 u9 hkk hk5 g2) hZ (hw _ (List.mem_of_getElem? (i := 4) rfl)) (hw _ (List.mem_of_getElem? (i := 3) rfl)) (by decide) (by decide)) (g := (mkF m 29 #[.val (.int u0), .val (.int u1), .val (.int u2), .val (.int u3), .val (.int u4), .val (.int y6), .val (.ref b1), .val (.ref b4), .unset, .unset, .unset, .unset, .unset, .unset] [(.int u4), (.int u3), (.int u2), (.int u1), (.int y6), (.ref b1)])) rfl (by rw [hml]; rfl) (argsL := [(.ref b1), (.int y6), (.int u1), (.int u2), (.int u3), (.int u4)]) (rest := []) (lenOf own_pd3 rfl) rfl (by show 2 * 0 + _ ≤ _; exact Nat.le_of_eq rfl) (hb hby at_29) (fun _ _ => ⟨rfl, e4, (by decide : 2 + 0 ≤ _), (by decide : 8 + 0 ≤ _)⟩)
  dsimp only [Pt.U, Pt.locs, Pt.cells, Pt.slots] at X8 l8 y8 z8 st8 hQ8
  subst l8 y8 z8
  obtain ⟨rfl, N8q, K8, Af8⟩ := hQ8
  have N8 := Fr.app N0 N8q
  have Z10 := Nat.le_trans Z7 K8.1
  refine own_st (B := T8.setTop (mkF m 32 #[.val (.int u0), .val (.int u1), .val (.int u2), .val (.int u3), .val (.int u4), .val (.int y6), .val (.ref b1), .val (.ref b4), .unset, .unset, .unset, .unset, .unset, .unset] [])) st8 ?_
  refine own_st (B := T8.setTop (mkF m 34 #[.val (.int u0), .val (.int u1), .val (.int u2), .val (.int u3), .val (.int u4), .val (.int y6), .val (.ref b1), .val (.ref b4), .unset, .unset, .unset, .unset, .unset, .unset] [(.ref b4)])) (fun t_ k_ => XS.aload X8.here hx rfl (hb hby at_32) rfl rfl k_) ?_
  refine own_st (B := T8.setTop (mkF m 36 #[.val (.int u0), .val (.int u1), .val (.int u2), .val (.int u3), .val (.int u4), .val (.int y6), .val (.ref b1), .val (.ref b4), .unset, .unset, .unset, .unset, .unset, .unset] [(.int y6), (.ref b4)])) (fun t_ k_ => XS.iload X8.here hx rfl (hb hby at_34) rfl k_) ?_
  refine own_st (B := T8.setTop (mkF m 37 #[.val (.int u0), .val (.int u1), .val (.int u2), .val (.int u3), .val (.int u4), .val (.int y6), .val (.ref b1), .val (.ref b4), .unset, .unset, .unset, .unset, .unset, .unset] [(.int u1), (.int y6), (.ref b4)])) (fun t_ k_ => XS.iloadN X8.here hx rfl (hb hby at_36) rfl k_) ?_
  refine own_st (B := T8.setTop (mkF m 38 #[.val (.int u0), .val (.int u1), .val (.int u2), .val (.int u3), .val (.int u4), .val (.int y6), .val (.ref b1), .val (.ref b4), .unset, .unset, .unset, .unset, .unset, .unset] [(.int u2), (.int u1), (.int y6), (.ref b4)])) (fun t_ k_ => XS.iloadN X8.here hx rfl (hb hby at_37) rfl k_) ?_
  refine own_st (B := T8.setTop (mkF m 39 #[.val (.int u0), .val (.int u1), .val (.int u2), .val (.int u3), .val (.int u4), .val (.int y6), .val (.ref b1), .val (.ref b4), .unset, .unset, .unset, .unset, .unset, .unset] [(.int u3), (.int u2), (.int u1), (.int y6), (.ref b4)])) (fun t_ k_ => XS.iloadN X8.here hx rfl (hb hby at_38) rfl k_) ?_
  refine own_st (B := T8.setTop (mkF m 41 #[.val (.int u0), .val (.int u1), .val (.int u2), .val (.int u3), .val (.int u4), .val (.int y6), .val (.ref b1), .val (.ref b4), .unset, .unset, .unset, .unset, .unset, .unset] [(.int u4), (.int u3), (.int u2), (.int u1), (.int y6), (.ref b4)])) (fun t_ k_ => XS.iload X8.here hx rfl (hb hby at_39) rfl k_) ?_
  have u12 := a4.keep K8 (ninS (Ne.symm ne5) nin0)
  obtain ⟨_, _, ⟨T11, L11, k11, n11⟩, -, X11, ⟨Lc11, hQ11, l11, y11, z11⟩, st11⟩ := Jvm.LawKit.callS X8 hx (y := (⟨"com/example/syncline/syncline/BytesOfPinLaw", "fill", "([BIIIII)V"⟩ : MethodName)) hown (mvT hZ (hw _ (List.mem_of_getElem? (i := 1) rfl))) (mvT hZ (hw _ (List.mem_of_getElem? (i := 2) rfl))) (mvT hZ (hw _ (List.mem_of_getElem? (i := 3) rfl))) (mvT hZ (hw _ (List.mem_of_getElem? (i := 4) rfl))) (by decide) (backOf (W := 0) (rm1 l Z a0 hw [] b4 y6 u1 u2 u3 u4 kk (fun _ => 0) T8.heap n0 Z10 u12 hkk hk5 g6) hZ (hw _ (List.mem_of_getElem? (i := 4) rfl)) (hw _ (List.mem_of_getElem? (i := 3) rfl)) (by decide) (by decide)) (g := (mkF m 41 #[.val (.int u0), .val (.int u1), .val (.int u2), .val (.int u3), .val (.int u4), .val (.int y6), .val (.ref b1), .val (.ref b4), .unset, .unset, .unset, .unset, .unset, .unset] [(.int u4), (.int u3), (.int u2), (.int u1), (.int y6), (.ref b4)])) rfl (by rw [hml]; rfl) (argsL := [(.ref b4), (.int y6), (.int u1), (.int u2), (.int u3), (.int u4)]) (rest := []) (lenOf own_pd3 rfl) rfl (by show 2 * 0 + _ ≤ _; exact Nat.le_of_eq rfl) (hb hby at_41) (fun _ _ => ⟨rfl, rfl, (by decide : 2 + 0 ≤ _), (by decide : 8 + 0 ≤ _)⟩)
  dsimp only [Pt.U, Pt.locs, Pt.cells, Pt.slots] at X11 l11 y11 z11 st11 hQ11
  subst l11 y11 z11
  obtain ⟨rfl, N11q, K11, Af11⟩ := hQ11
  have N11 := Fr.app N8 N11q
  have Z13 := Nat.le_trans Z10 K11.1
  refine own_st (B := T11.setTop (mkF m 44 #[.val (.int u0), .val (.int u1), .val (.int u2), .val (.int u3), .val (.int u4), .val (.int y6), .val (.ref b1), .val (.ref b4), .unset, .unset, .unset, .unset, .unset, .unset] [])) st11 ?_
  refine own_st (B := T11.setTop (mkF m 46 #[.val (.int u0), .val (.int u1), .val (.int u2), .val (.int u3), .val (.int u4), .val (.int y6), .val (.ref b1), .val (.ref b4), .unset, .unset, .unset, .unset, .unset, .unset] [(.ref b1)])) (fun t_ k_ => XS.aload X11.here hx rfl (hb hby at_44) rfl rfl k_) ?_
  have u15 := Af8.keep K11 (ninS ne5 nin0)
  have u16 := G1.ext E4
  have u17 := u16.keep K8
  have u18 := u17.keep K11
  obtain ⟨_, _, ⟨T14, L14, k14, n14⟩, -, X14, ⟨Lc14, hQ14, l14, y14, z14⟩, st14⟩ := Jvm.LawKit.callS X11 hx (y := (⟨"com/example/syncline/syncline/Bytes", "of", "([B)Lcom/example/syncline/syncline/Bytes;"⟩ : MethodName)) hown (mvT hZ (hw _ (List.mem_of_getElem? (i := 5) rfl))) (mvT hZ (hw _ (List.mem_of_getElem? (i := 6) rfl))) (mvT hZ (hw _ (List.mem_of_getElem? (i := 7) rfl))) (mvT hZ (hw _ (List.mem_of_getElem? (i := 8) rfl))) (by decide) (backOf (W := 0) (rm2 l Z a0 hw [] b1 kk (own_fl u1 u2 u3 u4) T11.heap n0 Z13 u15 u18 hk5) hZ (hw _ (List.mem_of_getElem? (i := 8) rfl)) (hw _ (List.mem_of_getElem? (i := 7) rfl)) (by decide) (by decide)) (g := (mkF m 46 #[.val (.int u0), .val (.int u1), .val (.int u2), .val (.int u3), .val (.int u4), .val (.int y6), .val (.ref b1), .val (.ref b4), .unset, .unset, .unset, .unset, .unset, .unset] [(.ref b1)])) rfl (by rw [hml]; rfl) (argsL := [(.ref b1)]) (rest := []) (lenOf own_pd4 rfl) rfl (by show 2 * 0 + _ ≤ _; exact Nat.le_of_eq rfl) (hb hby at_46) (fun _ _ => ⟨rfl, rfl, (by decide : 2 + 2 ≤ _), (by decide : 8 + 5 ≤ _)⟩)
  dsimp only [Pt.U, Pt.locs, Pt.cells, Pt.slots] at X14 l14 y14 z14 st14 hQ14
  subst l14 y14 z14
  obtain ⟨b14, x14, rfl, N14q, K14, gb14, Eb14, Fb14, gx14, Ax14, Ex14⟩ := hQ14
  have N14 := Fr.app N11 N14q
  have ne19 : b1 ≠ b14 := Nat.ne_of_lt (Nat.lt_of_lt_of_le u18.lt gb14)
  have u20 := G4.keep K8
  have u21 := u20.keep K11
  have ne22 : b4 ≠ b14 := Nat.ne_of_lt (Nat.lt_of_lt_of_le u21.lt gb14)
  have g23 : n0 ≤ b14 := Nat.le_trans Z13 gb14
  have ne24 : b1 ≠ x14 := Nat.ne_of_lt (Nat.lt_of_lt_of_le u18.lt gx14)
  have ne25 : b4 ≠ x14 := Nat.ne_of_lt (Nat.lt_of_lt_of_le u21.lt gx14)
  have g26 : n0 ≤ x14 := Nat.le_trans Z13 gx14
  have Z27 := Nat.le_trans Z13 K14.1
  refine own_st (B := T14.setTop (mkF m 49 #[.val (.int u0), .val (.int u1), .val (.int u2), .val (.int u3), .val (.int u4), .val (.int y6), .val (.ref b1), .val (.ref b4), .unset, .unset, .unset, .unset, .unset, .unset] [(.ref b14)])) st14 ?_
  refine own_st (B := T14.setTop (mkF m 51 #[.val (.int u0), .val (.int u1), .val (.int u2), .val (.int u3), .val (.int u4), .val (.int y6), .val (.ref b1), .val (.ref b4), .val (.ref b14), .unset, .unset, .unset, .unset, .unset] [])) (fun t_ k_ => XS.astore X14.here hx rfl (hb hby at_49) rfl rfl (l' := #[.val (.int u0), .val (.int u1), .val (.int u2), .val (.int u3), .val (.int u4), .val (.int y6), .val (.ref b1), .val (.ref b4), .val (.ref b14), .unset, .unset, .unset, .unset, .unset]) rfl k_) ?_
  refine own_st (B := T14.setTop (mkF m 53 #[.val (.int u0), .val (.int u1), .val (.int u2), .val (.int u3), .val (.int u4), .val (.int y6), .val (.ref b1), .val (.ref b4), .val (.ref b14), .unset, .unset, .unset, .unset, .unset] [(.ref b14)])) (fun t_ k_ => XS.aload X14.here hx rfl (hb hby at_51) rfl rfl k_) ?_
  obtain ⟨cq28, kq28, q28a, q28b, q28c⟩ := isOf hZ rfl Eb14
  obtain ⟨_, _, ⟨T28, L28, k28, n28⟩, -, X28, ⟨Lc28, hQ28, l28, y28, z28⟩, st28⟩ := X14.virtualBack hx (y := (⟨"com/example/syncline/syncline/Bytes", "toArray", "()[B"⟩ : MethodName)) (z := (⟨"com/example/syncline/syncline/Bytes", "toArray", "()[B"⟩ : MethodName)) hown (mvT hZ (hw _ (List.mem_of_getElem? (i := 28) rfl))) (mvT hZ (hw _ (List.mem_of_getElem? (i := 29) rfl))) (notFace_of_selects (args := #[]) (mvT hZ (hw _ (List.mem_of_getElem? (i := 31) rfl)))) (mvT hZ (hw _ (List.mem_of_getElem? (i := 31) rfl))) (mvT hZ (hw _ (List.mem_of_getElem? (i := 30) rfl))) (by decide) (backOf (W := 0) (rm5 l Z a0 hw [] b14 x14 kk (own_fl u1 u2 u3 u4) T14.heap n0 Z27 Fb14 Ax14 Ex14 hk5) hZ (hw _ (List.mem_of_getElem? (i := 32) rfl)) (hw _ (List.mem_of_getElem? (i := 7) rfl)) (by decide) (by decide)) q28a q28c (g := (mkF m 53 #[.val (.int u0), .val (.int u1), .val (.int u2), .val (.int u3), .val (.int u4), .val (.int y6), .val (.ref b1), .val (.ref b4), .val (.ref b14), .unset, .unset, .unset, .unset, .unset] [(.ref b14)])) rfl (by rw [hml]; rfl) (Steps.refl _) (argsL := []) (rest := []) (lenOf own_pd5 rfl) rfl (by show 2 * 0 + _ ≤ _; exact Nat.le_of_eq rfl) (hb hby at_53) (fun _ _ => ⟨rfl, rfl, (by decide : 4 + 1 ≤ _), (by decide : 13 + 4 ≤ _)⟩)
  dsimp only [Pt.U, Pt.locs, Pt.cells, Pt.slots] at X28 l28 y28 z28 st28 hQ28
  subst l28 y28 z28
  obtain ⟨x28, rfl, N28q, K28, gx28, Ax28⟩ := hQ28
  have N28 := Fr.app N14 N28q
  have u29 := u18.keep K14
  have ne30 : b1 ≠ x28 := Nat.ne_of_lt (Nat.lt_of_lt_of_le u29.lt gx28)
  have ne31 : b14 ≠ x28 := Nat.ne_of_lt (Nat.lt_of_lt_of_le Eb14.lt gx28)
  have u32 := u21.keep K14
  have ne33 : b4 ≠ x28 := Nat.ne_of_lt (Nat.lt_of_lt_of_le u32.lt gx28)
  have ne34 : x14 ≠ x28 := Nat.ne_of_lt (Nat.lt_of_lt_of_le Ax14.lt gx28)
  have g35 : n0 ≤ x28 := Nat.le_trans Z27 gx28
  have Z36 := Nat.le_trans Z27 K28.1
  refine own_st (B := T28.setTop (mkF m 56 #[.val (.int u0), .val (.int u1), .val (.int u2), .val (.int u3), .val (.int u4), .val (.int y6), .val (.ref b1), .val (.ref b4), .val (.ref b14), .unset, .unset, .unset, .unset, .unset] [(.ref x28)])) (fun t_ k_ => st28.trans k_) ?_
  refine own_st (B := T28.setTop (mkF m 58 #[.val (.int u0), .val (.int u1), .val (.int u2), .val (.int u3), .val (.int u4), .val (.int y6), .val (.ref b1), .val (.ref b4), .val (.ref b14), .val (.ref x28), .unset, .unset, .unset, .unset] [])) (fun t_ k_ => XS.astore X28.here hx rfl (hb hby at_56) rfl rfl (l' := #[.val (.int u0), .val (.int u1), .val (.int u2), .val (.int u3), .val (.int u4), .val (.int y6), .val (.ref b1), .val (.ref b4), .val (.ref b14), .val (.ref x28), .unset, .unset, .unset, .unset]) rfl k_) ?_
  refine own_st (B := T28.setTop (mkF m 60 #[.val (.int u0), .val (.int u1), .val (.int u2), .val (.int u3), .val (.int u4), .val (.int y6), .val (.ref b1), .val (.ref b4), .val (.ref b14), .val (.ref x28), .unset, .unset, .unset, .unset] [(.ref x28)])) (fun t_ k_ => XS.aload X28.here hx rfl (hb hby at_58) rfl rfl k_) ?_
  refine own_st (B := T28.setTop (mkF m 62 #[.val (.int u0), .val (.int u1), .val (.int u2), .val (.int u3), .val (.int u4), .val (.int y6), .val (.ref b1), .val (.ref b4), .val (.ref b14), .val (.ref x28), .unset, .unset, .unset, .unset] [(.int y6), (.ref x28)])) (fun t_ k_ => XS.iload X28.here hx rfl (hb hby at_60) rfl k_) ?_
  refine own_st (B := T28.setTop (mkF m 63 #[.val (.int u0), .val (.int u1), .val (.int u2), .val (.int u3), .val (.int u4), .val (.int y6), .val (.ref b1), .val (.ref b4), .val (.ref b14), .val (.ref x28), .unset, .unset, .unset, .unset] [(.int u1), (.int y6), (.ref x28)])) (fun t_ k_ => XS.iloadN X28.here hx rfl (hb hby at_62) rfl k_) ?_
  refine own_st (B := T28.setTop (mkF m 64 #[.val (.int u0), .val (.int u1), .val (.int u2), .val (.int u3), .val (.int u4), .val (.int y6), .val (.ref b1), .val (.ref b4), .val (.ref b14), .val (.ref x28), .unset, .unset, .unset, .unset] [(.int u2), (.int u1), (.int y6), (.ref x28)])) (fun t_ k_ => XS.iloadN X28.here hx rfl (hb hby at_63) rfl k_) ?_
  refine own_st (B := T28.setTop (mkF m 65 #[.val (.int u0), .val (.int u1), .val (.int u2), .val (.int u3), .val (.int u4), .val (.int y6), .val (.ref b1), .val (.ref b4), .val (.ref b14), .val (.ref x28), .unset, .unset, .unset, .unset] [(.int u3), (.int u2), (.int u1), (.int y6), (.ref x28)])) (fun t_ k_ => XS.iloadN X28.here hx rfl (hb hby at_64) rfl k_) ?_
  refine own_st (B := T28.setTop (mkF m 67 #[.val (.int u0), .val (.int u1), .val (.int u2), .val (.int u3), .val (.int u4), .val (.int y6), .val (.ref b1), .val (.ref b4), .val (.ref b14), .val (.ref x28), .unset, .unset, .unset, .unset] [(.int u4), (.int u3), (.int u2), (.int u1), (.int y6), (.ref x28)])) (fun t_ k_ => XS.iload X28.here hx rfl (hb hby at_65) rfl k_) ?_
  obtain ⟨_, _, ⟨T37, L37, k37, n37⟩, -, X37, ⟨Lc37, hQ37, l37, y37, z37⟩, st37⟩ := Jvm.LawKit.callS X28 hx (y := (⟨"com/example/syncline/syncline/BytesOfPinLaw", "holds", "([BIIIII)Z"⟩ : MethodName)) hown (mvT hZ (hw _ (List.mem_of_getElem? (i := 33) rfl))) (mvT hZ (hw _ (List.mem_of_getElem? (i := 34) rfl))) (mvT hZ (hw _ (List.mem_of_getElem? (i := 3) rfl))) (mvT hZ (hw _ (List.mem_of_getElem? (i := 35) rfl))) (by decide) (backOf (W := 0) (rm6 l Z a0 hw [] x28 y6 u1 u2 u3 u4 kk T28.heap n0 Z36 Ax28 hkk hk5) hZ (hw _ (List.mem_of_getElem? (i := 35) rfl)) (hw _ (List.mem_of_getElem? (i := 3) rfl)) (by decide) (by decide)) (g := (mkF m 67 #[.val (.int u0), .val (.int u1), .val (.int u2), .val (.int u3), .val (.int u4), .val (.int y6), .val (.ref b1), .val (.ref b4), .val (.ref b14), .val (.ref x28), .unset, .unset, .unset, .unset] [(.int u4), (.int u3), (.int u2), (.int u1), (.int y6), (.ref x28)])) rfl (by rw [hml]; rfl) (argsL := [(.ref x28), (.int y6), (.int u1), (.int u2), (.int u3), (.int u4)]) (rest := []) (lenOf own_pd6 rfl) rfl (by show 2 * 0 + _ ≤ _; exact Nat.le_of_eq rfl) (hb hby at_67) (fun _ _ => ⟨rfl, rfl, (by decide : 5 + 0 ≤ _), (by decide : 17 + 0 ≤ _)⟩)
  dsimp only [Pt.U, Pt.locs, Pt.cells, Pt.slots] at X37 l37 y37 z37 st37 hQ37
  subst l37 y37 z37
  obtain ⟨rfl, N37q, eh37⟩ := hQ37
  have N37 := Fr.app N28 N37q
  refine own_st (B := T37.setTop (mkF m 70 #[.val (.int u0), .val (.int u1), .val (.int u2), .val (.int u3), .val (.int u4), .val (.int y6), .val (.ref b1), .val (.ref b4), .val (.ref b14), .val (.ref x28), .unset, .unset, .unset, .unset] [(.int (1 : Int32))])) st37 ?_
  refine own_st (B := T37.setTop (mkF m 72 #[.val (.int u0), .val (.int u1), .val (.int u2), .val (.int u3), .val (.int u4), .val (.int y6), .val (.ref b1), .val (.ref b4), .val (.ref b14), .val (.ref x28), .val (.int (1 : Int32)), .unset, .unset, .unset] [])) (fun t_ k_ => XS.istore X37.here hx rfl (hb hby at_70) rfl (l' := #[.val (.int u0), .val (.int u1), .val (.int u2), .val (.int u3), .val (.int u4), .val (.int y6), .val (.ref b1), .val (.ref b4), .val (.ref b14), .val (.ref x28), .val (.int (1 : Int32)), .unset, .unset, .unset]) rfl k_) ?_
  refine own_st (B := T37.setTop (mkF m 74 #[.val (.int u0), .val (.int u1), .val (.int u2), .val (.int u3), .val (.int u4), .val (.int y6), .val (.ref b1), .val (.ref b4), .val (.ref b14), .val (.ref x28), .val (.int (1 : Int32)), .unset, .unset, .unset] [(.ref b1)])) (fun t_ k_ => XS.aload X37.here hx rfl (hb hby at_72) rfl rfl k_) ?_
  refine own_st (B := T37.setTop (mkF m 76 #[.val (.int u0), .val (.int u1), .val (.int u2), .val (.int u3), .val (.int u4), .val (.int y6), .val (.ref b1), .val (.ref b4), .val (.ref b14), .val (.ref x28), .val (.int (1 : Int32)), .unset, .unset, .unset] [(.int y6), (.ref b1)])) (fun t_ k_ => XS.iload X37.here hx rfl (hb hby at_74) rfl k_) ?_
  refine own_st (B := T37.setTop (mkF m 77 #[.val (.int u0), .val (.int u1), .val (.int u2), .val (.int u3), .val (.int u4), .val (.int y6), .val (.ref b1), .val (.ref b4), .val (.ref b14), .val (.ref x28), .val (.int (1 : Int32)), .unset, .unset, .unset] [(.int u1), (.int y6), (.ref b1)])) (fun t_ k_ => XS.iloadN X37.here hx rfl (hb hby at_76) rfl k_) ?_
  refine own_st (B := T37.setTop (mkF m 78 #[.val (.int u0), .val (.int u1), .val (.int u2), .val (.int u3), .val (.int u4), .val (.int y6), .val (.ref b1), .val (.ref b4), .val (.ref b14), .val (.ref x28), .val (.int (1 : Int32)), .unset, .unset, .unset] [(.int (-1 : Int32)), (.int u1), (.int y6), (.ref b1)])) (fun t_ k_ => XS.iconst X37.here hx rfl (hb hby at_77) k_) ?_
  refine own_st (B := T37.setTop (mkF m 79 #[.val (.int u0), .val (.int u1), .val (.int u2), .val (.int u3), .val (.int u4), .val (.int y6), .val (.ref b1), .val (.ref b4), .val (.ref b14), .val (.ref x28), .val (.int (1 : Int32)), .unset, .unset, .unset] [(.int (u1 ^^^ (-1 : Int32))), (.int y6), (.ref b1)])) (fun t_ k_ => XS.ixor X37.here hx rfl (hb hby at_78) rfl k_) ?_
  refine own_st (B := T37.setTop (mkF m 80 #[.val (.int u0), .val (.int u1), .val (.int u2), .val (.int u3), .val (.int u4), .val (.int y6), .val (.ref b1), .val (.ref b4), .val (.ref b14), .val (.ref x28), .val (.int (1 : Int32)), .unset, .unset, .unset] [(.int u2), (.int (u1 ^^^ (-1 : Int32))), (.int y6), (.ref b1)])) (fun t_ k_ => XS.iloadN X37.here hx rfl (hb hby at_79) rfl k_) ?_
  refine own_st (B := T37.setTop (mkF m 81 #[.val (.int u0), .val (.int u1), .val (.int u2), .val (.int u3), .val (.int u4), .val (.int y6), .val (.ref b1), .val (.ref b4), .val (.ref b14), .val (.ref x28), .val (.int (1 : Int32)), .unset, .unset, .unset] [(.int (-1 : Int32)), (.int u2), (.int (u1 ^^^ (-1 : Int32))), (.int y6), (.ref b1)])) (fun t_ k_ => XS.iconst X37.here hx rfl (hb hby at_80) k_) ?_
  refine own_st (B := T37.setTop (mkF m 82 #[.val (.int u0), .val (.int u1), .val (.int u2), .val (.int u3), .val (.int u4), .val (.int y6), .val (.ref b1), .val (.ref b4), .val (.ref b14), .val (.ref x28), .val (.int (1 : Int32)), .unset, .unset, .unset] [(.int (u2 ^^^ (-1 : Int32))), (.int (u1 ^^^ (-1 : Int32))), (.int y6), (.ref b1)])) (fun t_ k_ => XS.ixor X37.here hx rfl (hb hby at_81) rfl k_) ?_
  refine own_st (B := T37.setTop (mkF m 83 #[.val (.int u0), .val (.int u1), .val (.int u2), .val (.int u3), .val (.int u4), .val (.int y6), .val (.ref b1), .val (.ref b4), .val (.ref b14), .val (.ref x28), .val (.int (1 : Int32)), .unset, .unset, .unset] [(.int u3), (.int (u2 ^^^ (-1 : Int32))), (.int (u1 ^^^ (-1 : Int32))), (.int y6), (.ref b1)])) (fun t_ k_ => XS.iloadN X37.here hx rfl (hb hby at_82) rfl k_) ?_
  refine own_st (B := T37.setTop (mkF m 84 #[.val (.int u0), .val (.int u1), .val (.int u2), .val (.int u3), .val (.int u4), .val (.int y6), .val (.ref b1), .val (.ref b4), .val (.ref b14), .val (.ref x28), .val (.int (1 : Int32)), .unset, .unset, .unset] [(.int (-1 : Int32)), (.int u3), (.int (u2 ^^^ (-1 : Int32))), (.int (u1 ^^^ (-1 : Int32))), (.int y6), (.ref b1)])) (fun t_ k_ => XS.iconst X37.here hx rfl (hb hby at_83) k_) ?_
  refine own_st (B := T37.setTop (mkF m 85 #[.val (.int u0), .val (.int u1), .val (.int u2), .val (.int u3), .val (.int u4), .val (.int y6), .val (.ref b1), .val (.ref b4), .val (.ref b14), .val (.ref x28), .val (.int (1 : Int32)), .unset, .unset, .unset] [(.int (u3 ^^^ (-1 : Int32))), (.int (u2 ^^^ (-1 : Int32))), (.int (u1 ^^^ (-1 : Int32))), (.int y6), (.ref b1)])) (fun t_ k_ => XS.ixor X37.here hx rfl (hb hby at_84) rfl k_) ?_
  refine own_st (B := T37.setTop (mkF m 87 #[.val (.int u0), .val (.int u1), .val (.int u2), .val (.int u3), .val (.int u4), .val (.int y6), .val (.ref b1), .val (.ref b4), .val (.ref b14), .val (.ref x28), .val (.int (1 : Int32)), .unset, .unset, .unset] [(.int u4), (.int (u3 ^^^ (-1 : Int32))), (.int (u2 ^^^ (-1 : Int32))), (.int (u1 ^^^ (-1 : Int32))), (.int y6), (.ref b1)])) (fun t_ k_ => XS.iload X37.here hx rfl (hb hby at_85) rfl k_) ?_
  refine own_st (B := T37.setTop (mkF m 88 #[.val (.int u0), .val (.int u1), .val (.int u2), .val (.int u3), .val (.int u4), .val (.int y6), .val (.ref b1), .val (.ref b4), .val (.ref b14), .val (.ref x28), .val (.int (1 : Int32)), .unset, .unset, .unset] [(.int (-1 : Int32)), (.int u4), (.int (u3 ^^^ (-1 : Int32))), (.int (u2 ^^^ (-1 : Int32))), (.int (u1 ^^^ (-1 : Int32))), (.int y6), (.ref b1)])) (fun t_ k_ => XS.iconst X37.here hx rfl (hb hby at_87) k_) ?_
  refine own_st (B := T37.setTop (mkF m 89 #[.val (.int u0), .val (.int u1), .val (.int u2), .val (.int u3), .val (.int u4), .val (.int y6), .val (.ref b1), .val (.ref b4), .val (.ref b14), .val (.ref x28), .val (.int (1 : Int32)), .unset, .unset, .unset] [(.int (u4 ^^^ (-1 : Int32))), (.int (u3 ^^^ (-1 : Int32))), (.int (u2 ^^^ (-1 : Int32))), (.int (u1 ^^^ (-1 : Int32))), (.int y6), (.ref b1)])) (fun t_ k_ => XS.ixor X37.here hx rfl (hb hby at_88) rfl k_) ?_
  have u39 := u15.keep K14 nin0
  have u40 := u39.keep K28 nin0
  obtain ⟨_, _, ⟨T38, L38, k38, n38⟩, -, X38, ⟨Lc38, hQ38, l38, y38, z38⟩, st38⟩ := Jvm.LawKit.callS X37 hx (y := (⟨"com/example/syncline/syncline/BytesOfPinLaw", "fill", "([BIIIII)V"⟩ : MethodName)) hown (mvT hZ (hw _ (List.mem_of_getElem? (i := 1) rfl))) (mvT hZ (hw _ (List.mem_of_getElem? (i := 2) rfl))) (mvT hZ (hw _ (List.mem_of_getElem? (i := 3) rfl))) (mvT hZ (hw _ (List.mem_of_getElem? (i := 4) rfl))) (by decide) (backOf (W := 0) (rm1 l Z a0 hw [] b1 y6 (u1 ^^^ (-1 : Int32)) (u2 ^^^ (-1 : Int32)) (u3 ^^^ (-1 : Int32)) (u4 ^^^ (-1 : Int32)) kk (own_fl u1 u2 u3 u4) T28.heap n0 Z36 u40 hkk hk5 g2) hZ (hw _ (List.mem_of_getElem? (i := 4) rfl)) (hw _ (List.mem_of_getElem? (i := 3) rfl)) (by decide) (by decide)) (g := (mkF m 89 #[.val (.int u0), .val (.int u1), .val (.int u2), .val (.int u3), .val (.int u4), .val (.int y6), .val (.ref b1), .val (.ref b4), .val (.ref b14), .val (.ref x28), .val (.int (1 : Int32)), .unset, .unset, .unset] [(.int (u4 ^^^ (-1 : Int32))), (.int (u3 ^^^ (-1 : Int32))), (.int (u2 ^^^ (-1 : Int32))), (.int (u1 ^^^ (-1 : Int32))), (.int y6), (.ref b1)])) rfl (by rw [hml]; rfl) (argsL := [(.ref b1), (.int y6), (.int (u1 ^^^ (-1 : Int32))), (.int (u2 ^^^ (-1 : Int32))), (.int (u3 ^^^ (-1 : Int32))), (.int (u4 ^^^ (-1 : Int32)))]) (rest := []) (lenOf own_pd3 rfl) rfl (by show 2 * 0 + _ ≤ _; exact Nat.le_of_eq rfl) (hb hby at_89) (fun _ _ => ⟨rfl, eh37, (by decide : 5 + 0 ≤ _), (by decide : 17 + 0 ≤ _)⟩)
  dsimp only [Pt.U, Pt.locs, Pt.cells, Pt.slots] at X38 l38 y38 z38 st38 hQ38
  subst l38 y38 z38
  obtain ⟨rfl, N38q, K38, Af38⟩ := hQ38
  have N38 := Fr.app N37 N38q
  have Z41 := Nat.le_trans Z36 K38.1
  refine own_st (B := T38.setTop (mkF m 92 #[.val (.int u0), .val (.int u1), .val (.int u2), .val (.int u3), .val (.int u4), .val (.int y6), .val (.ref b1), .val (.ref b4), .val (.ref b14), .val (.ref x28), .val (.int (1 : Int32)), .unset, .unset, .unset] [])) st38 ?_
  refine own_st (B := T38.setTop (mkF m 94 #[.val (.int u0), .val (.int u1), .val (.int u2), .val (.int u3), .val (.int u4), .val (.int y6), .val (.ref b1), .val (.ref b4), .val (.ref b14), .val (.ref x28), .val (.int (1 : Int32)), .unset, .unset, .unset] [(.ref b14)])) (fun t_ k_ => XS.aload X38.here hx rfl (hb hby at_92) rfl rfl k_) ?_
  have u43 := Fb14.keep K28 nin0
  have u44 := u43.keep K38 (ninS (Ne.symm ne19) nin0)
  have u45 := Ax14.keep K28 nin0
  have u46 := u45.keep K38 (ninS (Ne.symm ne24) nin0)
  have u47 := Ex14.keep K28
  have u48 := u47.keep K38
  have u49 := Eb14.keep K28
  have u50 := u49.keep K38
  obtain ⟨cq42, kq42, q42a, q42b, q42c⟩ := isOf hZ rfl u50
  obtain ⟨_, _, ⟨T42, L42, k42, n42⟩, -, X42, ⟨Lc42, hQ42, l42, y42, z42⟩, st42⟩ := X38.virtualBack hx (y := (⟨"com/example/syncline/syncline/Bytes", "toArray", "()[B"⟩ : MethodName)) (z := (⟨"com/example/syncline/syncline/Bytes", "toArray", "()[B"⟩ : MethodName)) hown (mvT hZ (hw _ (List.mem_of_getElem? (i := 28) rfl))) (mvT hZ (hw _ (List.mem_of_getElem? (i := 29) rfl))) (notFace_of_selects (args := #[]) (mvT hZ (hw _ (List.mem_of_getElem? (i := 31) rfl)))) (mvT hZ (hw _ (List.mem_of_getElem? (i := 31) rfl))) (mvT hZ (hw _ (List.mem_of_getElem? (i := 30) rfl))) (by decide) (backOf (W := 0) (rm5 l Z a0 hw [] b14 x14 kk (own_fl u1 u2 u3 u4) T38.heap n0 Z41 u44 u46 u48 hk5) hZ (hw _ (List.mem_of_getElem? (i := 32) rfl)) (hw _ (List.mem_of_getElem? (i := 7) rfl)) (by decide) (by decide)) q42a q42c (g := (mkF m 94 #[.val (.int u0), .val (.int u1), .val (.int u2), .val (.int u3), .val (.int u4), .val (.int y6), .val (.ref b1), .val (.ref b4), .val (.ref b14), .val (.ref x28), .val (.int (1 : Int32)), .unset, .unset, .unset] [(.ref b14)])) rfl (by rw [hml]; rfl) (Steps.refl _) (argsL := []) (rest := []) (lenOf own_pd5 rfl) rfl (by show 2 * 0 + _ ≤ _; exact Nat.le_of_eq rfl) (hb hby at_94) (fun _ _ => ⟨rfl, rfl, (by decide : 5 + 1 ≤ _), (by decide : 17 + 4 ≤ _)⟩)
  dsimp only [Pt.U, Pt.locs, Pt.cells, Pt.slots] at X42 l42 y42 z42 st42 hQ42
  subst l42 y42 z42
  obtain ⟨x42, rfl, N42q, K42, gx42, Ax42⟩ := hQ42
  have N42 := Fr.app N38 N42q
  have u51 := u29.keep K28
  have u52 := u51.keep K38
  have ne53 : b1 ≠ x42 := Nat.ne_of_lt (Nat.lt_of_lt_of_le u52.lt gx42)
  have ne54 : b14 ≠ x42 := Nat.ne_of_lt (Nat.lt_of_lt_of_le u50.lt gx42)
  have u55 := u32.keep K28
  have u56 := u55.keep K38
  have ne57 : b4 ≠ x42 := Nat.ne_of_lt (Nat.lt_of_lt_of_le u56.lt gx42)
  have ne58 : x14 ≠ x42 := Nat.ne_of_lt (Nat.lt_of_lt_of_le u46.lt gx42)
  have u59 := Ax28.keep K38 (ninS (Ne.symm ne30) nin0)
  have ne60 : x28 ≠ x42 := Nat.ne_of_lt (Nat.lt_of_lt_of_le u59.lt gx42)
  have g61 : n0 ≤ x42 := Nat.le_trans Z41 gx42
  have Z62 := Nat.le_trans Z41 K42.1
  refine own_st (B := T42.setTop (mkF m 97 #[.val (.int u0), .val (.int u1), .val (.int u2), .val (.int u3), .val (.int u4), .val (.int y6), .val (.ref b1), .val (.ref b4), .val (.ref b14), .val (.ref x28), .val (.int (1 : Int32)), .unset, .unset, .unset] [(.ref x42)])) (fun t_ k_ => st42.trans k_) ?_
  refine own_st (B := T42.setTop (mkF m 99 #[.val (.int u0), .val (.int u1), .val (.int u2), .val (.int u3), .val (.int u4), .val (.int y6), .val (.ref b1), .val (.ref b4), .val (.ref b14), .val (.ref x28), .val (.int (1 : Int32)), .val (.ref x42), .unset, .unset] [])) (fun t_ k_ => XS.astore X42.here hx rfl (hb hby at_97) rfl rfl (l' := #[.val (.int u0), .val (.int u1), .val (.int u2), .val (.int u3), .val (.int u4), .val (.int y6), .val (.ref b1), .val (.ref b4), .val (.ref b14), .val (.ref x28), .val (.int (1 : Int32)), .val (.ref x42), .unset, .unset]) rfl k_) ?_
  refine own_st (B := T42.setTop (mkF m 101 #[.val (.int u0), .val (.int u1), .val (.int u2), .val (.int u3), .val (.int u4), .val (.int y6), .val (.ref b1), .val (.ref b4), .val (.ref b14), .val (.ref x28), .val (.int (1 : Int32)), .val (.ref x42), .unset, .unset] [(.ref x42)])) (fun t_ k_ => XS.aload X42.here hx rfl (hb hby at_99) rfl rfl k_) ?_
  refine own_st (B := T42.setTop (mkF m 103 #[.val (.int u0), .val (.int u1), .val (.int u2), .val (.int u3), .val (.int u4), .val (.int y6), .val (.ref b1), .val (.ref b4), .val (.ref b14), .val (.ref x28), .val (.int (1 : Int32)), .val (.ref x42), .unset, .unset] [(.int y6), (.ref x42)])) (fun t_ k_ => XS.iload X42.here hx rfl (hb hby at_101) rfl k_) ?_
  refine own_st (B := T42.setTop (mkF m 104 #[.val (.int u0), .val (.int u1), .val (.int u2), .val (.int u3), .val (.int u4), .val (.int y6), .val (.ref b1), .val (.ref b4), .val (.ref b14), .val (.ref x28), .val (.int (1 : Int32)), .val (.ref x42), .unset, .unset] [(.int u1), (.int y6), (.ref x42)])) (fun t_ k_ => XS.iloadN X42.here hx rfl (hb hby at_103) rfl k_) ?_
  refine own_st (B := T42.setTop (mkF m 105 #[.val (.int u0), .val (.int u1), .val (.int u2), .val (.int u3), .val (.int u4), .val (.int y6), .val (.ref b1), .val (.ref b4), .val (.ref b14), .val (.ref x28), .val (.int (1 : Int32)), .val (.ref x42), .unset, .unset] [(.int u2), (.int u1), (.int y6), (.ref x42)])) (fun t_ k_ => XS.iloadN X42.here hx rfl (hb hby at_104) rfl k_) ?_
  refine own_st (B := T42.setTop (mkF m 106 #[.val (.int u0), .val (.int u1), .val (.int u2), .val (.int u3), .val (.int u4), .val (.int y6), .val (.ref b1), .val (.ref b4), .val (.ref b14), .val (.ref x28), .val (.int (1 : Int32)), .val (.ref x42), .unset, .unset] [(.int u3), (.int u2), (.int u1), (.int y6), (.ref x42)])) (fun t_ k_ => XS.iloadN X42.here hx rfl (hb hby at_105) rfl k_) ?_
  refine own_st (B := T42.setTop (mkF m 108 #[.val (.int u0), .val (.int u1), .val (.int u2), .val (.int u3), .val (.int u4), .val (.int y6), .val (.ref b1), .val (.ref b4), .val (.ref b14), .val (.ref x28), .val (.int (1 : Int32)), .val (.ref x42), .unset, .unset] [(.int u4), (.int u3), (.int u2), (.int u1), (.int y6), (.ref x42)])) (fun t_ k_ => XS.iload X42.here hx rfl (hb hby at_106) rfl k_) ?_
  obtain ⟨_, _, ⟨T63, L63, k63, n63⟩, -, X63, ⟨Lc63, hQ63, l63, y63, z63⟩, st63⟩ := Jvm.LawKit.callS X42 hx (y := (⟨"com/example/syncline/syncline/BytesOfPinLaw", "holds", "([BIIIII)Z"⟩ : MethodName)) hown (mvT hZ (hw _ (List.mem_of_getElem? (i := 33) rfl))) (mvT hZ (hw _ (List.mem_of_getElem? (i := 34) rfl))) (mvT hZ (hw _ (List.mem_of_getElem? (i := 3) rfl))) (mvT hZ (hw _ (List.mem_of_getElem? (i := 35) rfl))) (by decide) (backOf (W := 0) (rm6 l Z a0 hw [] x42 y6 u1 u2 u3 u4 kk T42.heap n0 Z62 Ax42 hkk hk5) hZ (hw _ (List.mem_of_getElem? (i := 35) rfl)) (hw _ (List.mem_of_getElem? (i := 3) rfl)) (by decide) (by decide)) (g := (mkF m 108 #[.val (.int u0), .val (.int u1), .val (.int u2), .val (.int u3), .val (.int u4), .val (.int y6), .val (.ref b1), .val (.ref b4), .val (.ref b14), .val (.ref x28), .val (.int (1 : Int32)), .val (.ref x42), .unset, .unset] [(.int u4), (.int u3), (.int u2), (.int u1), (.int y6), (.ref x42)])) rfl (by rw [hml]; rfl) (argsL := [(.ref x42), (.int y6), (.int u1), (.int u2), (.int u3), (.int u4)]) (rest := []) (lenOf own_pd6 rfl) rfl (by show 2 * 0 + _ ≤ _; exact Nat.le_of_eq rfl) (hb hby at_108) (fun _ _ => ⟨rfl, rfl, (by decide : 6 + 0 ≤ _), (by decide : 21 + 0 ≤ _)⟩)
  dsimp only [Pt.U, Pt.locs, Pt.cells, Pt.slots] at X63 l63 y63 z63 st63 hQ63
  subst l63 y63 z63
  obtain ⟨rfl, N63q, eh63⟩ := hQ63
  have N63 := Fr.app N42 N63q
  refine own_st (B := T63.setTop (mkF m 111 #[.val (.int u0), .val (.int u1), .val (.int u2), .val (.int u3), .val (.int u4), .val (.int y6), .val (.ref b1), .val (.ref b4), .val (.ref b14), .val (.ref x28), .val (.int (1 : Int32)), .val (.ref x42), .unset, .unset] [(.int (1 : Int32))])) st63 ?_
  refine own_st (B := T63.setTop (mkF m 113 #[.val (.int u0), .val (.int u1), .val (.int u2), .val (.int u3), .val (.int u4), .val (.int y6), .val (.ref b1), .val (.ref b4), .val (.ref b14), .val (.ref x28), .val (.int (1 : Int32)), .val (.ref x42), .val (.int (1 : Int32)), .unset] [])) (fun t_ k_ => XS.istore X63.here hx rfl (hb hby at_111) rfl (l' := #[.val (.int u0), .val (.int u1), .val (.int u2), .val (.int u3), .val (.int u4), .val (.int y6), .val (.ref b1), .val (.ref b4), .val (.ref b14), .val (.ref x28), .val (.int (1 : Int32)), .val (.ref x42), .val (.int (1 : Int32)), .unset]) rfl k_) ?_
  refine own_st (B := T63.setTop (mkF m 115 #[.val (.int u0), .val (.int u1), .val (.int u2), .val (.int u3), .val (.int u4), .val (.int y6), .val (.ref b1), .val (.ref b4), .val (.ref b14), .val (.ref x28), .val (.int (1 : Int32)), .val (.ref x42), .val (.int (1 : Int32)), .unset] [(.ref b14)])) (fun t_ k_ => XS.aload X63.here hx rfl (hb hby at_113) rfl rfl k_) ?_
  refine own_st (B := T63.setTop (mkF m 117 #[.val (.int u0), .val (.int u1), .val (.int u2), .val (.int u3), .val (.int u4), .val (.int y6), .val (.ref b1), .val (.ref b4), .val (.ref b14), .val (.ref x28), .val (.int (1 : Int32)), .val (.ref x42), .val (.int (1 : Int32)), .unset] [(.ref b4), (.ref b14)])) (fun t_ k_ => XS.aload X63.here hx rfl (hb hby at_115) rfl rfl k_) ?_
  have u65 := Af11.keep K14 nin0
  have u66 := u65.keep K28 nin0
  have u67 := u66.keep K38 (ninS (Ne.symm ne5) nin0)
  have u68 := u67.keep K42 nin0
  have u69 := u56.keep K42
  obtain ⟨_, _, ⟨T64, L64, k64, n64⟩, -, X64, ⟨Lc64, hQ64, l64, y64, z64⟩, st64⟩ := Jvm.LawKit.callS X63 hx (y := (⟨"com/example/syncline/syncline/Bytes", "of", "([B)Lcom/example/syncline/syncline/Bytes;"⟩ : MethodName)) hown (mvT hZ (hw _ (List.mem_of_getElem? (i := 5) rfl))) (mvT hZ (hw _ (List.mem_of_getElem? (i := 6) rfl))) (mvT hZ (hw _ (List.mem_of_getElem? (i := 7) rfl))) (mvT hZ (hw _ (List.mem_of_getElem? (i := 8) rfl))) (by decide) (backOf (W := 1) (rm2 l Z a0 hw [] b4 kk (own_fl u1 u2 u3 u4) T42.heap n0 Z62 u68 u69 hk5) hZ (hw _ (List.mem_of_getElem? (i := 8) rfl)) (hw _ (List.mem_of_getElem? (i := 7) rfl)) (by decide) (by decide)) (g := (mkF m 117 #[.val (.int u0), .val (.int u1), .val (.int u2), .val (.int u3), .val (.int u4), .val (.int y6), .val (.ref b1), .val (.ref b4), .val (.ref b14), .val (.ref x28), .val (.int (1 : Int32)), .val (.ref x42), .val (.int (1 : Int32)), .unset] [(.ref b4), (.ref b14)])) rfl (by rw [hml]; rfl) (argsL := [(.ref b4)]) (rest := [(.ref b14)]) (lenOf own_pd4 rfl) rfl (by show 2 * 0 + _ ≤ _; exact Nat.le_of_eq rfl) (hb hby at_117) (fun _ _ => ⟨rfl, eh63, (by decide : 6 + 2 ≤ _), (by decide : 21 + 5 ≤ _)⟩)
  dsimp only [Pt.U, Pt.locs, Pt.cells, Pt.slots] at X64 l64 y64 z64 st64 hQ64
  subst l64 y64 z64
  obtain ⟨b64, x64, rfl, N64q, K64, gb64, Eb64, Fb64, gx64, Ax64, Ex64⟩ := hQ64
  have N64 := Fr.app N63 N64q
  have u70 := u52.keep K42
  have ne71 : b1 ≠ b64 := Nat.ne_of_lt (Nat.lt_of_lt_of_le u70.lt gb64)
  have u72 := u50.keep K42
  have ne73 : b14 ≠ b64 := Nat.ne_of_lt (Nat.lt_of_lt_of_le u72.lt gb64)
  have ne74 : b4 ≠ b64 := Nat.ne_of_lt (Nat.lt_of_lt_of_le u69.lt gb64)
  have u75 := u46.keep K42 nin0
  have ne76 : x14 ≠ b64 := Nat.ne_of_lt (Nat.lt_of_lt_of_le u75.lt gb64)
  have u77 := u59.keep K42 nin0
  have ne78 : x28 ≠ b64 := Nat.ne_of_lt (Nat.lt_of_lt_of_le u77.lt gb64)
  have ne79 : x42 ≠ b64 := Nat.ne_of_lt (Nat.lt_of_lt_of_le Ax42.lt gb64)
  have g80 : n0 ≤ b64 := Nat.le_trans Z62 gb64
  have ne81 : b1 ≠ x64 := Nat.ne_of_lt (Nat.lt_of_lt_of_le u70.lt gx64)
  have ne82 : b14 ≠ x64 := Nat.ne_of_lt (Nat.lt_of_lt_of_le u72.lt gx64)
  have ne83 : b4 ≠ x64 := Nat.ne_of_lt (Nat.lt_of_lt_of_le u69.lt gx64)
  have ne84 : x14 ≠ x64 := Nat.ne_of_lt (Nat.lt_of_lt_of_le u75.lt gx64)
  have ne85 : x28 ≠ x64 := Nat.ne_of_lt (Nat.lt_of_lt_of_le u77.lt gx64)
  have ne86 : x42 ≠ x64 := Nat.ne_of_lt (Nat.lt_of_lt_of_le Ax42.lt gx64)
  have g87 : n0 ≤ x64 := Nat.le_trans Z62 gx64
  have Z88 := Nat.le_trans Z62 K64.1
  refine own_st (B := T64.setTop (mkF m 120 #[.val (.int u0), .val (.int u1), .val (.int u2), .val (.int u3), .val (.int u4), .val (.int y6), .val (.ref b1), .val (.ref b4), .val (.ref b14), .val (.ref x28), .val (.int (1 : Int32)), .val (.ref x42), .val (.int (1 : Int32)), .unset] [(.ref b64), (.ref b14)])) st64 ?_
  have u90 := u44.keep K42 nin0
  have u91 := u90.keep K64 nin0
  have u92 := u75.keep K64 nin0
  have u93 := u72.keep K64
  obtain ⟨cq89, kq89, q89a, q89b, q89c⟩ := isOf hZ rfl u93
  obtain ⟨_, _, ⟨T89, L89, k89, n89⟩, -, X89, ⟨Lc89, hQ89, l89, y89, z89⟩, st89⟩ := X64.virtualBack hx (y := (⟨"com/example/syncline/syncline/Bytes", "equals", "(Ljava/lang/Object;)Z"⟩ : MethodName)) (z := (⟨"com/example/syncline/syncline/Bytes", "equals", "(Ljava/lang/Object;)Z"⟩ : MethodName)) hown (mvT hZ (hw _ (List.mem_of_getElem? (i := 36) rfl))) (mvT hZ (hw _ (List.mem_of_getElem? (i := 37) rfl))) (notFace_of_selects (args := #[]) (mvT hZ (hw _ (List.mem_of_getElem? (i := 39) rfl)))) (mvT hZ (hw _ (List.mem_of_getElem? (i := 39) rfl))) (mvT hZ (hw _ (List.mem_of_getElem? (i := 38) rfl))) (by decide) (backOf (W := 0) (rm7 l Z a0 hw [] b14 b64 x14 x64 kk (own_fl u1 u2 u3 u4) T64.heap n0 Z88 Eb64 u91 Fb64 u92 Ax64 hk5 ne84) hZ (hw _ (List.mem_of_getElem? (i := 40) rfl)) (hw _ (List.mem_of_getElem? (i := 7) rfl)) (by decide) (by decide)) q89a q89c (g := (mkF m 120 #[.val (.int u0), .val (.int u1), .val (.int u2), .val (.int u3), .val (.int u4), .val (.int y6), .val (.ref b1), .val (.ref b4), .val (.ref b14), .val (.ref x28), .val (.int (1 : Int32)), .val (.ref x42), .val (.int (1 : Int32)), .unset] [(.ref b64), (.ref b14)])) rfl (by rw [hml]; rfl) (Steps.refl _) (argsL := [(.ref b64)]) (rest := []) (lenOf own_pd7 rfl) rfl (by show 2 * 0 + _ ≤ _; exact Nat.le_of_eq rfl) (hb hby at_120) (fun _ _ => ⟨rfl, rfl, (by decide : 8 + 0 ≤ _), (by decide : 26 + 0 ≤ _)⟩)
  dsimp only [Pt.U, Pt.locs, Pt.cells, Pt.slots] at X89 l89 y89 z89 st89 hQ89
  subst l89 y89 z89
  obtain ⟨rfl, N89q, eh89⟩ := hQ89
  have N89 := Fr.app N64 N89q
  refine own_st (B := T89.setTop (mkF m 123 #[.val (.int u0), .val (.int u1), .val (.int u2), .val (.int u3), .val (.int u4), .val (.int y6), .val (.ref b1), .val (.ref b4), .val (.ref b14), .val (.ref x28), .val (.int (1 : Int32)), .val (.ref x42), .val (.int (1 : Int32)), .unset] [(.int (1 : Int32))])) (fun t_ k_ => st89.trans k_) ?_
  refine own_st (B := T89.setTop (mkF m 125 #[.val (.int u0), .val (.int u1), .val (.int u2), .val (.int u3), .val (.int u4), .val (.int y6), .val (.ref b1), .val (.ref b4), .val (.ref b14), .val (.ref x28), .val (.int (1 : Int32)), .val (.ref x42), .val (.int (1 : Int32)), .val (.int (1 : Int32))] [])) (fun t_ k_ => XS.istore X89.here hx rfl (hb hby at_123) rfl (l' := #[.val (.int u0), .val (.int u1), .val (.int u2), .val (.int u3), .val (.int u4), .val (.int y6), .val (.ref b1), .val (.ref b4), .val (.ref b14), .val (.ref x28), .val (.int (1 : Int32)), .val (.ref x42), .val (.int (1 : Int32)), .val (.int (1 : Int32))]) rfl k_) ?_
  refine own_st (B := T89.setTop (mkF m 127 #[.val (.int u0), .val (.int u1), .val (.int u2), .val (.int u3), .val (.int u4), .val (.int y6), .val (.ref b1), .val (.ref b4), .val (.ref b14), .val (.ref x28), .val (.int (1 : Int32)), .val (.ref x42), .val (.int (1 : Int32)), .val (.int (1 : Int32))] [(.int (1 : Int32))])) (fun t_ k_ => XS.iload X89.here hx rfl (hb hby at_125) rfl k_) ?_
  refine own_st (B := T89.setTop (mkF m 130 #[.val (.int u0), .val (.int u1), .val (.int u2), .val (.int u3), .val (.int u4), .val (.int y6), .val (.ref b1), .val (.ref b4), .val (.ref b14), .val (.ref x28), .val (.int (1 : Int32)), .val (.ref x42), .val (.int (1 : Int32)), .val (.int (1 : Int32))] [])) (fun t_ k_ => XS.ifNo X89.here hx rfl (hb hby at_127) rfl ((if0 _ _).trans (feq (by decide : ¬ ((1 : Int32) = (0 : Int32)))).1) k_) ?_
  refine own_st (B := T89.setTop (mkF m 132 #[.val (.int u0), .val (.int u1), .val (.int u2), .val (.int u3), .val (.int u4), .val (.int y6), .val (.ref b1), .val (.ref b4), .val (.ref b14), .val (.ref x28), .val (.int (1 : Int32)), .val (.ref x42), .val (.int (1 : Int32)), .val (.int (1 : Int32))] [(.int (1 : Int32))])) (fun t_ k_ => XS.iload X89.here hx rfl (hb hby at_130) rfl k_) ?_
  refine own_st (B := T89.setTop (mkF m 135 #[.val (.int u0), .val (.int u1), .val (.int u2), .val (.int u3), .val (.int u4), .val (.int y6), .val (.ref b1), .val (.ref b4), .val (.ref b14), .val (.ref x28), .val (.int (1 : Int32)), .val (.ref x42), .val (.int (1 : Int32)), .val (.int (1 : Int32))] [])) (fun t_ k_ => XS.ifNo X89.here hx rfl (hb hby at_132) rfl ((if0 _ _).trans (feq (by decide : ¬ ((1 : Int32) = (0 : Int32)))).1) k_) ?_
  refine own_st (B := T89.setTop (mkF m 137 #[.val (.int u0), .val (.int u1), .val (.int u2), .val (.int u3), .val (.int u4), .val (.int y6), .val (.ref b1), .val (.ref b4), .val (.ref b14), .val (.ref x28), .val (.int (1 : Int32)), .val (.ref x42), .val (.int (1 : Int32)), .val (.int (1 : Int32))] [(.int (1 : Int32))])) (fun t_ k_ => XS.iload X89.here hx rfl (hb hby at_135) rfl k_) ?_
  refine own_st (B := T89.setTop (mkF m 140 #[.val (.int u0), .val (.int u1), .val (.int u2), .val (.int u3), .val (.int u4), .val (.int y6), .val (.ref b1), .val (.ref b4), .val (.ref b14), .val (.ref x28), .val (.int (1 : Int32)), .val (.ref x42), .val (.int (1 : Int32)), .val (.int (1 : Int32))] [])) (fun t_ k_ => XS.ifNo X89.here hx rfl (hb hby at_137) rfl ((if0 _ _).trans (feq (by decide : ¬ ((1 : Int32) = (0 : Int32)))).1) k_) ?_
  refine own_st (B := T89.setTop (mkF m 141 #[.val (.int u0), .val (.int u1), .val (.int u2), .val (.int u3), .val (.int u4), .val (.int y6), .val (.ref b1), .val (.ref b4), .val (.ref b14), .val (.ref x28), .val (.int (1 : Int32)), .val (.ref x42), .val (.int (1 : Int32)), .val (.int (1 : Int32))] [(.int (1 : Int32))])) (fun t_ k_ => XS.iconst X89.here hx rfl (hb hby at_140) k_) ?_
  refine own_st (B := T89.setTop (mkF m 145 #[.val (.int u0), .val (.int u1), .val (.int u2), .val (.int u3), .val (.int u4), .val (.int y6), .val (.ref b1), .val (.ref b4), .val (.ref b14), .val (.ref x28), .val (.int (1 : Int32)), .val (.ref x42), .val (.int (1 : Int32)), .val (.int (1 : Int32))] [(.int (1 : Int32))])) (fun t_ k_ => XS.goto X89.here hx rfl (pc0 := 141) (pc' := 145) rfl (hb hby at_141) (by decide) (by decide) k_) ?_
  refine own_retN X89 hx (t := .boolean) Bd.returns (by simp) hlk (hb hby at_145) (z' := (1 : Int32)) (by first | rfl | exact own_nb _ | exact own_nbb _) (by decide) (by decide) ?_
  show Q0 Z u0 u1 u2 u3 u4 h0 n0 _ T89.heap _
  rw [eh89]
  exact ⟨rfl, N89⟩
set_option maxRecDepth 65536 in
set_option maxHeartbeats 40000000 in
theorem comes_1 {Post : Tables → Env → Array Value → State → Outcome → State → Prop} (hpost : ∀ tb e args s v u, (limb_1_1.after args s (.returned v) u = true ∧ limb_1_2.after args s (.returned v) u = true ∧ True) → FrameEnd s (.returned v) u (Jvm.fieldLocs frame_1_writes args s ++ Jvm.arrayLocs frame_1_arrays args s ++ Jvm.staticLocs frame_1_statics s) 24 128 → Post tb e args s (.returned v) u) :
    ArmFor flags0 classFile x code maxLocals ret World_1 tables_1 room_1 Calls_1 rest_1 Pre_1 Post := by
  intro l hfl _ _ p e ha hc hk s m args below hf hA hF happ hP
  obtain ⟨hcalls, hrest, hpre⟩ := hP
  obtain ⟨-, -, -, hnamed, -, -, -, hat⟩ := (Spec.applies_iff hf).mp happ
  obtain ⟨hg, hn⟩ := and_e (Cond.before_iff.mp (show (Jvm.Cond.and given_1 narrow_1).before args s = true from hpre))
  obtain ⟨gg1, gg2⟩ := and_e hg
  obtain ⟨gg3, gg4⟩ := and_e gg2
  obtain ⟨gg5, gg6⟩ := and_e gg4
  obtain ⟨gg7, gg8⟩ := and_e gg6
  obtain ⟨gg9, gg10⟩ := and_e gg8
  obtain ⟨w0, w1, w2, w3, w4, rfl⟩ : ∃ w0 w1 w2 w3 w4 : Value, args = #[w0, w1, w2, w3, w4] := by
    have hs : args.size = 5 := by simpa [Cond.value, given_1] using gg1
    obtain ⟨L⟩ := args
    match L, hs with
    | [w0, w1, w2, w3, w4], _ => exact ⟨w0, w1, w2, w3, w4, rfl⟩
  have hw := fun d (hd : d ∈ tables_1) => atoms_spec (ws := Jvm.Cond.code x code maxLocals ret :: tables_1) hat d (List.mem_cons_of_mem _ hd)
  have hfit : Fit s := fun {y c} hc i hi => by
    obtain ⟨ha, rfl⟩ := Array.getElem?_eq_some_iff.mp hc
    have q := List.all_eq_true.mp ((Array.all_eq_true_iff_forall_mem.mp hF) _ (Array.getElem_mem ha)) i (List.mem_range.mpr hi)
    simpa [Array.getElem?_eq_getElem hi] using q
  obtain ⟨i0, ei0⟩ := is_v gg3
  obtain rfl : w0 = (.int i0) := Option.some.inj ei0
  obtain ⟨i1, ei1⟩ := is_v gg5
  obtain rfl : w1 = (.int i1) := Option.some.inj ei1
  obtain ⟨i2, ei2⟩ := is_v gg7
  obtain rfl : w2 = (.int i2) := Option.some.inj ei2
  obtain ⟨i3, ei3⟩ := is_v gg9
  obtain rfl : w3 = (.int i3) := Option.some.inj ei3
  obtain ⟨i4, ei4⟩ := is_v gg10
  obtain rfl : w4 = (.int i4) := Option.some.inj ei4
  obtain ⟨n, o, h1, h2, h3, _, L, rfl, ⟨rfl, N⟩, hq⟩ := rm0 l s _ hw tables_1 i0 i1 i2 i3 i4 s.heap s.heap.size (Nat.le_refl _)  p e ha hc hk s m _ below hf ((Spec.applies_iff_loose hf).mp happ).1 ⟨rfl, State.Warmed39.refl s, rfl⟩ trivial
  refine ⟨n, _, h1, h2, h3, hpost _ _ _ _ _ _ ⟨Cond.after_iff.mpr rfl, Cond.after_iff.mpr (eq_i res_at (Term.int_eval (1)) rfl), trivial⟩ ⟨hq.1, hq.2.1, (hq.2.2.sift fun y hy => Or.inr (N y hy)).mono (by decide) (by decide)⟩⟩
theorem main_1_1 : Claimed_1_1 := comes_1 fun _ _ _ _ _ _ h hF => ⟨h.1, hF⟩
theorem main_1_2 : Claimed_1_2 := comes_1 fun _ _ _ _ _ _ h hF => ⟨h.2.1, hF⟩
end Jvm.Pilot.@@N@@
namespace Jvm.Pilot.@@N@@
open Jvm Jvm.ClassFile Sem Op Lib Jvm.Free Jvm.Stand Jvm.Pilot.@@N@@.Jvm.D
/-! MADE BY PROGRAM (witnessworld.py) out of the Statement's table words and the real class files: 11 classes; the members and pool entries that the words name. The judged class is class 1, her method 3. -/
namespace start1
open Jvm.ClassFile
def u (s : String) : CpInfo := .utf8 (stringToUtf16 s)
/-- a pool by its gaps: so many unusable entries, then the entry; so many at the end -/
def gap : Nat → List CpInfo → List CpInfo
  | 0, r => r
  | n + 1, r => .unusable :: gap n r
def poolList (es : List (Nat × CpInfo)) (last : Nat) : List CpInfo := es.foldr (fun e r => gap e.1 (e.2 :: r)) (gap last [])
def pool (es : List (Nat × CpInfo)) (last : Nat) : Array CpInfo := ⟨poolList es last⟩
def fileOf (pool : Array CpInfo) (this : Nat) (attrs : Array Attribute := #[]) (ms : Array MethodInfo := #[]) (fl : Nat := 33) (sup : Nat := 0) (ifs : Array Nat := #[]) (fds : Array FieldInfo := #[]) : ClassFile where
  minorVersion := 0
  majorVersion := 65
  constantPool := pool
  accessFlags := fl
  thisClass := this
  superClass := sup
  interfaces := ifs
  fields := fds
  methods := ms
  attributes := attrs
def plain (name : String) (sup : Option ClassId) : Class where
  name := name
  kind := .ordinary
  loader := none
  accessFlags := 33
  super := sup
  interfaces := #[]
  cf := none
  fields := #[]
  methods := #[]
  instanceTypes := #[]
  staticTypes := #[]
  resolved := #[]
  callSites := []
  init := .initialized
  statics := none
  mirror := none

def pool0 : Array CpInfo := pool [(5, u "<init>"), (0, u "()V"), (1, .class_ 10), (1, u "java/lang/Object"), (85, u "clone"), (0, u "()Ljava/lang/Object;")] 26

def k0c0 : Code := { maxStack := 0, maxLocals := 1, code := object_method_1_code, exceptionTable := #[], attributes := #[] }
def k0m0 : Method := { name := "<init>", desc := "()V", sig := { parameters := [], returnType := none }, accessFlags := 1, code := some k0c0 }
def k0m1 : Method := { name := "clone", desc := "()Ljava/lang/Object;", sig := { parameters := [], returnType := some (.object "java/lang/Object") }, accessFlags := 260, code := none }
/-- java/lang/Object -/
def k0 : Class := { plain "java/lang/Object" none with
  accessFlags := 33
  interfaces := #[]
  cf := some (fileOf pool0 8 #[] #[{ accessFlags := 1, nameIndex := 5, descriptorIndex := 6, attributes := #[] }, { accessFlags := 260, nameIndex := 96, descriptorIndex := 97, attributes := #[] }] 33 0 #[] #[])
  fields := #[]
  methods := #[k0m0, k0m1]
  instanceTypes := #[]
  staticTypes := #[]
  resolved := Array.replicate 124 none
  statics := none }

def pool1 : Array CpInfo := pool [(2, .class_ 4), (1, u "java/lang/Object"), (0, u "<init>"), (0, u "()V"), (0, .methodref 8 9), (0, .class_ 10), (0, .nameAndType 11 12), (0, u "com/example/syncline/syncline/BytesOfPinLaw"), (0, u "fill"), (0, u "([BIIIII)V"), (0, .methodref 14 15), (0, .class_ 16), (0, .nameAndType 17 18), (0, u "com/example/syncline/syncline/Bytes"), (0, u "of"), (0, u "([B)Lcom/example/syncline/syncline/Bytes;"), (0, .methodref 14 20), (0, .nameAndType 21 22), (0, u "toArray"), (0, u "()[B"), (0, .methodref 8 24), (0, .nameAndType 25 26), (0, u "holds"), (0, u "([BIIIII)Z"), (0, .methodref 14 28), (0, .nameAndType 29 30), (0, u "equals"), (0, u "(Ljava/lang/Object;)Z"), (3, u "law"), (0, u "(IIIII)Z")] 4

def k1m0 : Method := { name := "<init>", desc := "()V", sig := { parameters := [], returnType := none }, accessFlags := 1, code := none }
def k1c1 : Code := { maxStack := 2, maxLocals := 6, code := method_2_code, exceptionTable := #[], attributes := #[] }
def k1m1 : Method := { name := "holds", desc := "([BIIIII)Z", sig := { parameters := [(.array .byte), .int, .int, .int, .int, .int], returnType := some .boolean }, accessFlags := 10, code := some k1c1 }
def k1c2 : Code := { maxStack := 3, maxLocals := 6, code := method_3_code, exceptionTable := #[], attributes := #[] }
def k1m2 : Method := { name := "fill", desc := "([BIIIII)V", sig := { parameters := [(.array .byte), .int, .int, .int, .int, .int], returnType := none }, accessFlags := 10, code := some k1c2 }
def k1c3 : Code := { maxStack := 7, maxLocals := 14, code := code, exceptionTable := #[], attributes := #[] }
def k1m3 : Method := { name := "law", desc := "(IIIII)Z", sig := { parameters := [.int, .int, .int, .int, .int], returnType := some .boolean }, accessFlags := 9, code := some k1c3 }
/-- com/example/syncline/syncline/BytesOfPinLaw -/
def k1 : Class := { plain "com/example/syncline/syncline/BytesOfPinLaw" (some 0) with
  accessFlags := 49
  interfaces := #[]
  cf := some (fileOf pool1 8 #[] #[{ accessFlags := 1, nameIndex := 5, descriptorIndex := 6, attributes := #[] }, { accessFlags := 10, nameIndex := 25, descriptorIndex := 26, attributes := #[] }, { accessFlags := 10, nameIndex := 11, descriptorIndex := 12, attributes := #[] }, { accessFlags := 9, nameIndex := 34, descriptorIndex := 35, attributes := #[] }] 49 2 #[] #[])
  fields := #[]
  methods := #[k1m0, k1m1, k1m2, k1m3]
  instanceTypes := #[]
  staticTypes := #[]
  resolved := Array.replicate 40 none
  statics := none }

def pool2 : Array CpInfo := pool [(1, .methodref 2 3), (0, .class_ 4), (0, .nameAndType 5 6), (0, u "java/lang/Object"), (0, u "<init>"), (0, u "()V"), (0, .fieldref 8 9), (0, .class_ 10), (0, .nameAndType 11 12), (0, u "com/example/syncline/syncline/Bytes"), (0, u "value"), (0, u "[B"), (0, .methodref 14 15), (0, .class_ 12), (0, .nameAndType 16 17), (0, u "clone"), (0, u "()Ljava/lang/Object;"), (0, .methodref 8 19), (0, .nameAndType 5 20), (0, u "([B)V"), (22, .methodref 44 45), (0, .class_ 46), (0, .nameAndType 47 48), (0, u "java/util/Arrays"), (0, u "equals"), (0, u "([B[B)Z"), (12, u "MEMBER"), (0, u "Ljava/lang/String;"), (5, u "of"), (0, u "([B)Lcom/example/syncline/syncline/Bytes;"), (2, u "toArray"), (0, u "()[B"), (0, u "(Ljava/lang/Object;)Z")] 22

def k2c0 : Code := { maxStack := 2, maxLocals := 2, code := prog_6_method_1_code, exceptionTable := #[], attributes := #[] }
def k2m0 : Method := { name := "<init>", desc := "([B)V", sig := { parameters := [(.array .byte)], returnType := none }, accessFlags := 2, code := some k2c0 }
def k2c1 : Code := { maxStack := 3, maxLocals := 1, code := prog_6_method_2_code, exceptionTable := #[], attributes := #[] }
def k2m1 : Method := { name := "of", desc := "([B)Lcom/example/syncline/syncline/Bytes;", sig := { parameters := [(.array .byte)], returnType := some (.object "com/example/syncline/syncline/Bytes") }, accessFlags := 8, code := some k2c1 }
def k2c2 : Code := { maxStack := 1, maxLocals := 1, code := prog_6_method_4_code, exceptionTable := #[], attributes := #[] }
def k2m2 : Method := { name := "toArray", desc := "()[B", sig := { parameters := [], returnType := some (.array .byte) }, accessFlags := 0, code := some k2c2 }
def k2c3 : Code := { maxStack := 2, maxLocals := 3, code := prog_6_method_6_code, exceptionTable := #[], attributes := #[] }
def k2m3 : Method := { name := "equals", desc := "(Ljava/lang/Object;)Z", sig := { parameters := [(.object "java/lang/Object")], returnType := some .boolean }, accessFlags := 1, code := some k2c3 }
/-- com/example/syncline/syncline/Bytes -/
def k2 : Class := { plain "com/example/syncline/syncline/Bytes" (some 0) with
  accessFlags := 48
  interfaces := #[]
  cf := some (fileOf pool2 8 #[] #[{ accessFlags := 2, nameIndex := 5, descriptorIndex := 20, attributes := #[] }, { accessFlags := 8, nameIndex := 68, descriptorIndex := 69, attributes := #[] }, { accessFlags := 0, nameIndex := 72, descriptorIndex := 73, attributes := #[] }, { accessFlags := 1, nameIndex := 47, descriptorIndex := 74, attributes := #[] }] 48 2 #[] #[{ accessFlags := 24, nameIndex := 61, descriptorIndex := 62, attributes := #[] }, { accessFlags := 18, nameIndex := 11, descriptorIndex := 12, attributes := #[] }])
  fields := #[{ name := "MEMBER", type := (.object "java/lang/String"), accessFlags := 24, slot := 0, constantValue := 0 }, { name := "value", type := (.array .byte), accessFlags := 18, slot := 0, constantValue := 0 }]
  methods := #[k2m0, k2m1, k2m2, k2m3]
  instanceTypes := #[(.array .byte)]
  staticTypes := #[(.object "java/lang/String")]
  resolved := Array.replicate 97 none
  statics := none }

def pool3 : Array CpInfo := pool [(1, .class_ 2), (0, u "java/lang/Cloneable"), (0, .class_ 4), (0, u "java/lang/Object")] 2

/-- java/lang/Cloneable -/
def k3 : Class := { plain "java/lang/Cloneable" (some 0) with
  accessFlags := 1537
  interfaces := #[]
  cf := some (fileOf pool3 1 #[] #[] 1537 3 #[] #[])
  fields := #[]
  methods := #[]
  instanceTypes := #[]
  staticTypes := #[]
  resolved := Array.replicate 7 none
  statics := none }

def pool4 : Array CpInfo := pool [(2, .class_ 4), (1, u "java/lang/Object"), (0, u "<init>"), (0, u "()V"), (7, .class_ 16), (1, u "java/util/Arrays"), (57, .class_ 76), (1, u "java/util/Arrays$NaturalOrder"), (36, .class_ 115), (1, u "java/util/Arrays$LegacyMergeSort"), (1, u "Z"), (128, .class_ 248), (1, u "jdk/internal/util/ArraysSupport"), (0, u "mismatch"), (22, .methodref 246 273), (0, .nameAndType 249 274), (0, u "([B[BI)I"), (23, u "equals"), (76, .class_ 376), (0, u "java/util/Arrays$ArrayList"), (68, u "$assertionsDisabled"), (9, u "([B[B)Z"), (259, u "MIN_ARRAY_SORT_GRAN"), (0, u "I"), (2, u "INSERTIONSORT_THRESHOLD"), (255, .class_ 976), (0, u "java/util/Arrays$ArrayItr")] 52

def k4m0 : Method := { name := "<init>", desc := "()V", sig := { parameters := [], returnType := none }, accessFlags := 2, code := none }
def k4c1 : Code := { maxStack := 3, maxLocals := 3, code := jdk_65_method_89_code, exceptionTable := #[], attributes := #[] }
def k4m1 : Method := { name := "equals", desc := "([B[B)Z", sig := { parameters := [(.array .byte), (.array .byte)], returnType := some .boolean }, accessFlags := 9, code := some k4c1 }
/-- java/util/Arrays -/
def k4 : Class := { plain "java/util/Arrays" (some 0) with
  accessFlags := 49
  interfaces := #[]
  cf := some (fileOf pool4 14 #[.nestMembers #[975, 375, 113, 74]] #[{ accessFlags := 2, nameIndex := 5, descriptorIndex := 6, attributes := #[] }, { accessFlags := 9, nameIndex := 298, descriptorIndex := 455, attributes := #[] }] 49 2 #[] #[{ accessFlags := 26, nameIndex := 715, descriptorIndex := 716, attributes := #[] }, { accessFlags := 26, nameIndex := 719, descriptorIndex := 716, attributes := #[] }, { accessFlags := 4120, nameIndex := 445, descriptorIndex := 117, attributes := #[] }])
  fields := #[{ name := "MIN_ARRAY_SORT_GRAN", type := .int, accessFlags := 26, slot := 0, constantValue := 0 }, { name := "INSERTIONSORT_THRESHOLD", type := .int, accessFlags := 26, slot := 1, constantValue := 0 }, { name := "$assertionsDisabled", type := .boolean, accessFlags := 4120, slot := 2, constantValue := 0 }]
  methods := #[k4m0, k4m1]
  instanceTypes := #[]
  staticTypes := #[.int, .int, .boolean]
  resolved := Array.replicate 1029 none
  statics := none }

def pool5 : Array CpInfo := pool [(9, u "<init>"), (6, .class_ 18), (1, u "java/lang/Object"), (0, u "()V"), (1, .class_ 23), (1, u "jdk/internal/util/ArraysSupport"), (0, u "LOG2_ARRAY_LONG_INDEX_SCALE"), (0, u "I"), (2, u "U"), (0, u "Ljdk/internal/misc/Unsafe;"), (8, u "BIG_ENDIAN"), (0, u "Z"), (8, u "LOG2_BYTE_BIT_SIZE"), (4, u "LOG2_ARRAY_INT_INDEX_SCALE"), (54, u "JLA"), (0, u "Ljdk/internal/access/JavaLangAccess;"), (11, u "LOG2_ARRAY_BOOLEAN_INDEX_SCALE"), (9, u "LOG2_ARRAY_BYTE_INDEX_SCALE"), (5, u "LOG2_ARRAY_CHAR_INDEX_SCALE"), (5, u "LOG2_ARRAY_SHORT_INDEX_SCALE"), (5, u "mismatch"), (12, u "LOG2_ARRAY_FLOAT_INDEX_SCALE"), (24, u "LOG2_ARRAY_DOUBLE_INDEX_SCALE"), (89, u "T_BOOLEAN"), (2, u "T_CHAR"), (1, u "T_FLOAT"), (1, u "T_DOUBLE"), (1, u "T_BYTE"), (1, u "T_SHORT"), (1, u "T_INT"), (1, u "T_LONG"), (1, u "SOFT_MAX_ARRAY_LENGTH"), (41, u "([B[BI)I")] 41

def k5m0 : Method := { name := "<init>", desc := "()V", sig := { parameters := [], returnType := none }, accessFlags := 2, code := none }
def k5c1 : Code := { maxStack := 8, maxLocals := 4, code := jdk_48_method_13_code, exceptionTable := #[], attributes := #[] }
def k5m1 : Method := { name := "mismatch", desc := "([B[BI)I", sig := { parameters := [(.array .byte), (.array .byte), .int], returnType := some .int }, accessFlags := 9, code := some k5c1 }
/-- jdk/internal/util/ArraysSupport -/
def k5 : Class := { plain "jdk/internal/util/ArraysSupport" (some 0) with
  accessFlags := 33
  interfaces := #[]
  cf := some (fileOf pool5 21 #[] #[{ accessFlags := 2, nameIndex := 9, descriptorIndex := 19, attributes := #[] }, { accessFlags := 9, nameIndex := 149, descriptorIndex := 336, attributes := #[] }] 33 16 #[] #[{ accessFlags := 24, nameIndex := 28, descriptorIndex := 29, attributes := #[] }, { accessFlags := 26, nameIndex := 38, descriptorIndex := 39, attributes := #[] }, { accessFlags := 25, nameIndex := 121, descriptorIndex := 25, attributes := #[] }, { accessFlags := 25, nameIndex := 131, descriptorIndex := 25, attributes := #[] }, { accessFlags := 25, nameIndex := 137, descriptorIndex := 25, attributes := #[] }, { accessFlags := 25, nameIndex := 143, descriptorIndex := 25, attributes := #[] }, { accessFlags := 25, nameIndex := 53, descriptorIndex := 25, attributes := #[] }, { accessFlags := 25, nameIndex := 24, descriptorIndex := 25, attributes := #[] }, { accessFlags := 25, nameIndex := 162, descriptorIndex := 25, attributes := #[] }, { accessFlags := 25, nameIndex := 187, descriptorIndex := 25, attributes := #[] }, { accessFlags := 26, nameIndex := 48, descriptorIndex := 25, attributes := #[] }, { accessFlags := 25, nameIndex := 277, descriptorIndex := 25, attributes := #[] }, { accessFlags := 25, nameIndex := 280, descriptorIndex := 25, attributes := #[] }, { accessFlags := 25, nameIndex := 282, descriptorIndex := 25, attributes := #[] }, { accessFlags := 25, nameIndex := 284, descriptorIndex := 25, attributes := #[] }, { accessFlags := 25, nameIndex := 286, descriptorIndex := 25, attributes := #[] }, { accessFlags := 25, nameIndex := 288, descriptorIndex := 25, attributes := #[] }, { accessFlags := 25, nameIndex := 290, descriptorIndex := 25, attributes := #[] }, { accessFlags := 25, nameIndex := 292, descriptorIndex := 25, attributes := #[] }, { accessFlags := 26, nameIndex := 108, descriptorIndex := 109, attributes := #[] }, { accessFlags := 25, nameIndex := 294, descriptorIndex := 25, attributes := #[] }])
  fields := #[{ name := "U", type := (.object "jdk/internal/misc/Unsafe"), accessFlags := 24, slot := 0, constantValue := 0 }, { name := "BIG_ENDIAN", type := .boolean, accessFlags := 26, slot := 1, constantValue := 0 }, { name := "LOG2_ARRAY_BOOLEAN_INDEX_SCALE", type := .int, accessFlags := 25, slot := 2, constantValue := 0 }, { name := "LOG2_ARRAY_BYTE_INDEX_SCALE", type := .int, accessFlags := 25, slot := 3, constantValue := 0 }, { name := "LOG2_ARRAY_CHAR_INDEX_SCALE", type := .int, accessFlags := 25, slot := 4, constantValue := 0 }, { name := "LOG2_ARRAY_SHORT_INDEX_SCALE", type := .int, accessFlags := 25, slot := 5, constantValue := 0 }, { name := "LOG2_ARRAY_INT_INDEX_SCALE", type := .int, accessFlags := 25, slot := 6, constantValue := 0 }, { name := "LOG2_ARRAY_LONG_INDEX_SCALE", type := .int, accessFlags := 25, slot := 7, constantValue := 0 }, { name := "LOG2_ARRAY_FLOAT_INDEX_SCALE", type := .int, accessFlags := 25, slot := 8, constantValue := 0 }, { name := "LOG2_ARRAY_DOUBLE_INDEX_SCALE", type := .int, accessFlags := 25, slot := 9, constantValue := 0 }, { name := "LOG2_BYTE_BIT_SIZE", type := .int, accessFlags := 26, slot := 10, constantValue := 0 }, { name := "T_BOOLEAN", type := .int, accessFlags := 25, slot := 11, constantValue := 0 }, { name := "T_CHAR", type := .int, accessFlags := 25, slot := 12, constantValue := 0 }, { name := "T_FLOAT", type := .int, accessFlags := 25, slot := 13, constantValue := 0 }, { name := "T_DOUBLE", type := .int, accessFlags := 25, slot := 14, constantValue := 0 }, { name := "T_BYTE", type := .int, accessFlags := 25, slot := 15, constantValue := 0 }, { name := "T_SHORT", type := .int, accessFlags := 25, slot := 16, constantValue := 0 }, { name := "T_INT", type := .int, accessFlags := 25, slot := 17, constantValue := 0 }, { name := "T_LONG", type := .int, accessFlags := 25, slot := 18, constantValue := 0 }, { name := "JLA", type := (.object "jdk/internal/access/JavaLangAccess"), accessFlags := 26, slot := 19, constantValue := 0 }, { name := "SOFT_MAX_ARRAY_LENGTH", type := .int, accessFlags := 25, slot := 20, constantValue := 0 }]
  methods := #[k5m0, k5m1]
  instanceTypes := #[]
  staticTypes := #[(.object "jdk/internal/misc/Unsafe"), .boolean, .int, .int, .int, .int, .int, .int, .int, .int, .int, .int, .int, .int, .int, .int, .int, .int, .int, (.object "jdk/internal/access/JavaLangAccess"), .int]
  resolved := Array.replicate 378 none
  statics := none }

def pool6 : Array CpInfo := pool [(1, u "java/io/Serializable"), (0, .class_ 1), (0, u "java/lang/Object"), (0, .class_ 3)] 3

/-- java/io/Serializable -/
def k6 : Class := { plain "java/io/Serializable" (some 0) with
  accessFlags := 1537
  interfaces := #[]
  cf := some (fileOf pool6 2 #[] #[] 1537 4 #[] #[])
  fields := #[]
  methods := #[]
  instanceTypes := #[]
  staticTypes := #[]
  resolved := Array.replicate 8 none
  statics := none }

/-- the primitive byte -/
def k7 : Class := { plain "byte" none with kind := .primitive 'B', accessFlags := 0x411 }
/-- [B -/
def k8 : Class := { plain "[B" (some 0) with kind := .array 7 .byte, interfaces := #[3, 6], accessFlags := 1041 }

/-- the primitive int -/
def k9 : Class := { plain "int" none with kind := .primitive 'I', accessFlags := 0x411 }
/-- [I -/
def k10 : Class := { plain "[I" (some 0) with kind := .array 9 .int, interfaces := #[3, 6], accessFlags := 1041 }

def heap : Heap := #[]
def classes : Array Class := #[k0, k1, k2, k3, k4, k5, k6, k7, k8, k9, k10]
def interned : List (Array UInt16 × Addr) := []
def slotsUsed : Nat := 0
def theMethod : MethodId := ⟨1, 3⟩
def args0 : Array Value := #[.int 5, .int 6, .int 7, .int 8, .int 1]
def aboutOver (below : List Frame) : State where
  vm := { classes := classes, interned := interned.toArray }
  heap := heap
  slotsUsed := slotsUsed
  threads := #[{ frames := .invoking theMethod args0 :: below }]
def below0 : List Frame := [.native { method := ⟨0, 0⟩, args := #[] }]
def about1 : State := aboutOver below0
def p0 : Program := .bare "" "" ""
def e0 : Env := launch0.env 0 0 0
theorem w_frames : about1.frames = Frame.invoking theMethod args0 :: below0 := rfl
set_option maxRecDepth 65536 in
theorem w_args : argsFit about1.vm theMethod args0 = true := by decide +kernel
set_option maxRecDepth 65536 in
theorem w_heap : heapFits about1 = true := by decide +kernel
set_option maxRecDepth 65536 in
theorem w_runnable : about1.curStatus? = some .runnable := by decide +kernel
set_option maxRecDepth 65536 in
theorem w_alone : about1.alone = true := by decide +kernel
set_option maxRecDepth 65536 in
theorem w_named : about1.methodNamed? x = some theMethod := by decide +kernel
set_option maxRecDepth 65536 in
theorem w_hears : about1.hears theMethod below0 = true := by decide +kernel
set_option maxRecDepth 65536 in
theorem w_ripe : about1.ripe theMethod args0 below0 = true := by decide +kernel
theorem w_running : about1.status = .running := rfl
set_option maxRecDepth 65536 in
theorem w_room : about1.hasRoom e0.platform room_1 = true :=
  launch0.hasRoom_least _ room_1 (by decide +kernel) (by decide +kernel) (by decide +kernel) (by decide +kernel) (by decide +kernel) (by decide +kernel)
theorem allAtoms_all (ts : List Jvm.Cond) (a : Array Jvm.Value) (st : Jvm.State) : (allAtoms ts).before a st = ts.all (fun c => c.before a st) := by
  induction ts with
  | nil => rfl
  | cons c t ih =>
    show (Jvm.Cond.and c (allAtoms t)).before a st = _
    rw [Jvm.Cond.before_and, ih, List.all_cons]
def words1 : List Jvm.Cond := Jvm.Cond.code x code maxLocals ret :: tables_1
/-- a 'code' word, met by the world's own term for the bytes: nothing is compared byte by byte -/
theorem code_word {y : MethodName} {bytes : ByteArray} {mx : Nat} {rt : Option FieldType} {a : Array Value} {s : State} {m : MethodId} {meth : Method} {c : Code} (h1 : s.methodNamed? y = some m) (h2 : s.vm.method? m = some meth) (h3 : meth.code = some c) (h4 : c.code = bytes)
    (h5 : (c.maxLocals == mx && c.exceptionTable.isEmpty && decide (c.maxStack ≤ mostOperands) && decide (meth.sig.returnType = rt) && !meth.locks && decide (parseMethodDescriptor y.desc = some meth.sig)) = true) : (Jvm.Cond.code y bytes mx rt).before a s = true := by
  simp only [Bool.and_eq_true, beq_iff_eq, Bool.not_eq_true', decide_eq_true_eq] at h5
  obtain ⟨⟨⟨⟨⟨g1, g2⟩, g3⟩, g4⟩, g5⟩, g6⟩ := h5
  simp [Cond.before, Cond.holds, Cond.value, h1, h2, h3, h4, g1, g2, g3, g4, g5, g6]
def isCode : Jvm.Cond → Bool
  | .code _ _ _ _ => true
  | _ => false
theorem all_split {L : List Jvm.Cond} {P : Jvm.Cond → Bool} (h1 : L.all (fun c => isCode c || P c) = true) (h2 : ∀ c ∈ L.filter isCode, P c = true) : L.all P = true := by
  refine List.all_eq_true.mpr fun c hc => ?_
  have h := List.all_eq_true.mp h1 c hc
  rcases Bool.eq_false_or_eq_true (isCode c) with hi | hi
  · exact h2 c (List.mem_filter.mpr ⟨hc, hi⟩)
  · simpa [hi] using h
set_option maxRecDepth 65536 in
theorem w_c0 : (Jvm.Cond.code x code maxLocals ret).before args0 about1 = true := code_word (m := ⟨1, 3⟩) (meth := k1m3) (c := k1c3) (by decide +kernel) rfl rfl rfl (by decide +kernel)
set_option maxRecDepth 65536 in
theorem w_c1 : (Jvm.Cond.code ({ cls := "com/example/syncline/syncline/BytesOfPinLaw", name := "fill", desc := "([BIIIII)V" } : Jvm.MethodName) method_3_code (6 : Nat) (Option.none : Option Jvm.ClassFile.FieldType)).before args0 about1 = true := code_word (m := ⟨1, 2⟩) (meth := k1m2) (c := k1c2) (by decide +kernel) rfl rfl rfl (by decide +kernel)
set_option maxRecDepth 65536 in
theorem w_c2 : (Jvm.Cond.code ({ cls := "com/example/syncline/syncline/Bytes", name := "of", desc := "([B)Lcom/example/syncline/syncline/Bytes;" } : Jvm.MethodName) prog_6_method_2_code (1 : Nat) (Option.some (Jvm.ClassFile.FieldType.object "com/example/syncline/syncline/Bytes"))).before args0 about1 = true := code_word (m := ⟨2, 1⟩) (meth := k2m1) (c := k2c1) (by decide +kernel) rfl rfl rfl (by decide +kernel)
set_option maxRecDepth 65536 in
theorem w_c3 : (Jvm.Cond.code ({ cls := "com/example/syncline/syncline/Bytes", name := "<init>", desc := "([B)V" } : Jvm.MethodName) prog_6_method_1_code (2 : Nat) (Option.none : Option Jvm.ClassFile.FieldType)).before args0 about1 = true := code_word (m := ⟨2, 0⟩) (meth := k2m0) (c := k2c0) (by decide +kernel) rfl rfl rfl (by decide +kernel)
set_option maxRecDepth 65536 in
theorem w_c4 : (Jvm.Cond.code ({ cls := "java/lang/Object", name := "<init>", desc := "()V" } : Jvm.MethodName) object_method_1_code (1 : Nat) (Option.none : Option Jvm.ClassFile.FieldType)).before args0 about1 = true := code_word (m := ⟨0, 0⟩) (meth := k0m0) (c := k0c0) (by decide +kernel) rfl rfl rfl (by decide +kernel)
set_option maxRecDepth 65536 in
theorem w_c5 : (Jvm.Cond.code ({ cls := "com/example/syncline/syncline/Bytes", name := "toArray", desc := "()[B" } : Jvm.MethodName) prog_6_method_4_code (1 : Nat) (Option.some (Jvm.ClassFile.FieldType.array Jvm.ClassFile.FieldType.byte))).before args0 about1 = true := code_word (m := ⟨2, 2⟩) (meth := k2m2) (c := k2c2) (by decide +kernel) rfl rfl rfl (by decide +kernel)
set_option maxRecDepth 65536 in
theorem w_c6 : (Jvm.Cond.code ({ cls := "com/example/syncline/syncline/BytesOfPinLaw", name := "holds", desc := "([BIIIII)Z" } : Jvm.MethodName) method_2_code (6 : Nat) (Option.some Jvm.ClassFile.FieldType.boolean)).before args0 about1 = true := code_word (m := ⟨1, 1⟩) (meth := k1m1) (c := k1c1) (by decide +kernel) rfl rfl rfl (by decide +kernel)
set_option maxRecDepth 65536 in
theorem w_c7 : (Jvm.Cond.code ({ cls := "com/example/syncline/syncline/Bytes", name := "equals", desc := "(Ljava/lang/Object;)Z" } : Jvm.MethodName) prog_6_method_6_code (3 : Nat) (Option.some Jvm.ClassFile.FieldType.boolean)).before args0 about1 = true := code_word (m := ⟨2, 3⟩) (meth := k2m3) (c := k2c3) (by decide +kernel) rfl rfl rfl (by decide +kernel)
set_option maxRecDepth 65536 in
theorem w_c8 : (Jvm.Cond.code ({ cls := "java/util/Arrays", name := "equals", desc := "([B[B)Z" } : Jvm.MethodName) jdk_65_method_89_code (3 : Nat) (Option.some Jvm.ClassFile.FieldType.boolean)).before args0 about1 = true := code_word (m := ⟨4, 1⟩) (meth := k4m1) (c := k4c1) (by decide +kernel) rfl rfl rfl (by decide +kernel)
set_option maxRecDepth 65536 in
theorem w_c9 : (Jvm.Cond.code ({ cls := "jdk/internal/util/ArraysSupport", name := "mismatch", desc := "([B[BI)I" } : Jvm.MethodName) jdk_48_method_13_code (4 : Nat) (Option.some Jvm.ClassFile.FieldType.int)).before args0 about1 = true := code_word (m := ⟨5, 1⟩) (meth := k5m1) (c := k5c1) (by decide +kernel) rfl rfl rfl (by decide +kernel)
def codes1 : List Jvm.Cond := [Jvm.Cond.code x code maxLocals ret, Jvm.Cond.code ({ cls := "com/example/syncline/syncline/BytesOfPinLaw", name := "fill", desc := "([BIIIII)V" } : Jvm.MethodName) method_3_code (6 : Nat) (Option.none : Option Jvm.ClassFile.FieldType), Jvm.Cond.code ({ cls := "com/example/syncline/syncline/Bytes", name := "of", desc := "([B)Lcom/example/syncline/syncline/Bytes;" } : Jvm.MethodName) prog_6_method_2_code (1 : Nat) (Option.some (Jvm.ClassFile.FieldType.object "com/example/syncline/syncline/Bytes")), Jvm.Cond.code ({ cls := "com/example/syncline/syncline/Bytes", name := "<init>", desc := "([B)V" } : Jvm.MethodName) prog_6_method_1_code (2 : Nat) (Option.none : Option Jvm.ClassFile.FieldType), Jvm.Cond.code ({ cls := "java/lang/Object", name := "<init>", desc := "()V" } : Jvm.MethodName) object_method_1_code (1 : Nat) (Option.none : Option Jvm.ClassFile.FieldType), Jvm.Cond.code ({ cls := "com/example/syncline/syncline/Bytes", name := "toArray", desc := "()[B" } : Jvm.MethodName) prog_6_method_4_code (1 : Nat) (Option.some (Jvm.ClassFile.FieldType.array Jvm.ClassFile.FieldType.byte)), Jvm.Cond.code ({ cls := "com/example/syncline/syncline/BytesOfPinLaw", name := "holds", desc := "([BIIIII)Z" } : Jvm.MethodName) method_2_code (6 : Nat) (Option.some Jvm.ClassFile.FieldType.boolean), Jvm.Cond.code ({ cls := "com/example/syncline/syncline/Bytes", name := "equals", desc := "(Ljava/lang/Object;)Z" } : Jvm.MethodName) prog_6_method_6_code (3 : Nat) (Option.some Jvm.ClassFile.FieldType.boolean), Jvm.Cond.code ({ cls := "java/util/Arrays", name := "equals", desc := "([B[B)Z" } : Jvm.MethodName) jdk_65_method_89_code (3 : Nat) (Option.some Jvm.ClassFile.FieldType.boolean), Jvm.Cond.code ({ cls := "jdk/internal/util/ArraysSupport", name := "mismatch", desc := "([B[BI)I" } : Jvm.MethodName) jdk_48_method_13_code (4 : Nat) (Option.some Jvm.ClassFile.FieldType.int)]
set_option maxRecDepth 65536 in
theorem codes_eq : words1.filter isCode = codes1 := rfl
theorem w_codes : ∀ c ∈ words1.filter isCode, c.before args0 about1 = true := by
  rw [codes_eq]
  intro c hc
  simp only [codes1, List.mem_cons, List.not_mem_nil, or_false] at hc
  rcases hc with rfl | rfl | rfl | rfl | rfl | rfl | rfl | rfl | rfl | rfl
  · exact w_c0
  · exact w_c1
  · exact w_c2
  · exact w_c3
  · exact w_c4
  · exact w_c5
  · exact w_c6
  · exact w_c7
  · exact w_c8
  · exact w_c9
set_option maxRecDepth 65536 in
theorem w_t1 : (words1.take 24).all (fun c => isCode c || c.before args0 about1) = true := by decide +kernel
set_option maxRecDepth 65536 in
theorem w_t2 : ((words1.drop 24).take 24).all (fun c => isCode c || c.before args0 about1) = true := by decide +kernel
set_option maxRecDepth 65536 in
theorem w_t3 : ((words1.drop 24).drop 24).all (fun c => isCode c || c.before args0 about1) = true := by decide +kernel
theorem w_tables : (allAtoms (Jvm.Cond.code x code maxLocals ret :: tables_1)).before args0 about1 = true := by
  rw [allAtoms_all]
  show words1.all (fun c => c.before args0 about1) = true
  refine all_split ?_ w_codes
  rw [← List.take_append_drop 24 words1, List.all_append, w_t1, ← List.take_append_drop 24 (words1.drop 24), List.all_append, w_t2, w_t3]
  rfl
set_option maxRecDepth 65536 in
theorem w_case : (Jvm.Cond.and given_1 narrow_1).before args0 about1 = true := by decide +kernel
theorem w_applies : (headSpec (Jvm.Cond.code x code maxLocals ret :: tables_1) room_1).applies x e0.platform about1 = true :=
  (Spec.applies_iff w_frames).mpr ⟨w_running, w_runnable, w_alone, w_named, w_hears, w_ripe, w_room, w_tables⟩
theorem atStart : AtStart classFile x code maxLocals ret World_1 tables_1 room_1 Calls_1 rest_1 Pre_1 launch0 p0 e0 about1 theMethod args0 below0 :=
  ⟨lists_1, trivial, launch0.admits_env _ _ _, launch0.least_env, fairChoices_fair.cas, fairChoices_fair.clock, w_frames, w_args, w_heap, w_applies, trivial, trivial, w_case⟩
end start1
theorem witness_1 : WitnessClaimed_1 := ⟨start1.p0, start1.e0, start1.about1, start1.theMethod, start1.args0, start1.below0, start1.atStart⟩
end Jvm.Pilot.@@N@@
