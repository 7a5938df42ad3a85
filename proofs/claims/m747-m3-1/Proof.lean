import JvmDerived
import JvmDerived.Pilot.@@N@@Statement
import JvmDerived.Pilot.@@N@@Code
set_option linter.unusedVariables false
set_option linter.unusedSimpArgs false

namespace Jvm.Pilot.@@N@@
open Jvm Jvm.ClassFile Sem Op Lib Jvm.Free Jvm.Stand Jvm.LawKit Jvm.RoadKit Bundle Jvm.Pilot.@@N@@.Jvm.D
section Own
variable {p : Program} {l : Launch} {e : Env} {R : Room} {s : State} {m : MethodId} {args : Array Value} {below : List Frame} {meth : Method} {c : Code} {T : State} {locs : List Loc} {cells slots : Nat} {Z : State} {h h' : Heap}
/-- the run from A comes to the method's end as Q says, with at most kc new cells and ks new slots -/
def own_E (p : Program) (e : Env) (below : List Frame) (s : State) (Q : Option Value → Heap → List Loc → Prop) (kc ks : Nat) (A : State) : Prop :=
  ∃ s₂ o, Steps p.tables e below A s₂ ∧ s₂.status = .running ∧ Ended s₂ below o ∧ ∃ v L, o = .returned v ∧ Q v s₂.heap L ∧ FrameEnd s o s₂ L kc ks
variable {Q : Option Value → Heap → List Loc → Prop} {kc ks : Nat} {A B : State}
theorem own_st (k : ∀ t, Steps p.tables e below B t → Steps p.tables e below A t) (h : own_E p e below s Q kc ks B) : own_E p e below s Q kc ks A := by
  obtain ⟨t, o, h1, h2⟩ := h
  exact ⟨t, o, k t h1, h2⟩
theorem own_end (X : Stand p l e R s m args below meth c T locs cells slots) {v : Option Value} (hv : meth.sig.returnType = none → v = none) (hlk : meth.locks = false)
    (hk : ∀ fs, (∀ (f : JFrame) (acts : List Action), f.method = m → f.locked = none → f.entered = [] → (doReturn e (T.setTop f) acts v).1 = T.setFrames fs) → Steps p.tables e below A (T.setFrames fs)) (hc : cells ≤ kc) (hs : slots ≤ ks) (hQ : Q v T.heap locs) : own_E p e below s Q kc ks A := by
  obtain ⟨fs, hr, hrun, hended, hW, hsame⟩ := X.leave (v := v) hv hlk
  exact ⟨_, _, hk fs hr, hrun, hended, _, _, rfl, hQ, ⟨_, rfl⟩, hW, hsame.mono hc hs⟩
theorem own_retN (X : Stand p l e R s m args below meth c T locs cells slots) (hx : p.tables.exec = Jvm.exec) {pc : Nat} {Ls : Array Slot} {z z' : Int32} {t : FieldType} {rest : List Value} (hret : meth.sig.returnType = some t) (ht : t = .boolean ∨ t = .byte ∨ t = .char ∨ t = .short) (hlk : meth.locks = false)
    (hd : decode c.code pc = .ok (.ireturn, 1)) (hz : nar t z = z') (hc : cells ≤ kc) (hs : slots ≤ ks) (hQ : Q (some (.int z')) T.heap locs) : own_E p e below s Q kc ks (T.setTop (mkF m pc Ls (.int z :: rest))) := by
  subst hz
  exact own_end X (fun q => by rw [hret] at q; cases q) hlk (fun fs hr => retN X hx hret ht hd hr) hc hs hQ
theorem own_retI (X : Stand p l e R s m args below meth c T locs cells slots) (hx : p.tables.exec = Jvm.exec) {pc : Nat} {Ls : Array Slot} {z : Int32} {rest : List Value} (hret : meth.sig.returnType = some .int) (hlk : meth.locks = false)
    (hd : decode c.code pc = .ok (.ireturn, 1)) (hc : cells ≤ kc) (hs : slots ≤ ks) (hQ : Q (some (.int z)) T.heap locs) : own_E p e below s Q kc ks (T.setTop (mkF m pc Ls (.int z :: rest))) := by
  refine own_end X (fun q => by rw [hret] at q; cases q) hlk (fun fs hr => ?_) hc hs hQ
  have hm' : T.vm.method? m = some meth := X.method'
  have hn : narrow .int (.int z) = .int z := rfl
  show Steps p.tables e below (T.setTop { method := m, pc := pc, locals := Ls, stack := _ :: rest, locked := none }) _
  jvm_step X.here [X.here.top, hx, hd, hm', hret, hn]
  first | (intro acts; rw [hr _ acts rfl rfl rfl]) | rw [hr _ _ rfl rfl rfl]
  exact Steps.refl _
theorem own_retJ (X : Stand p l e R s m args below meth c T locs cells slots) (hx : p.tables.exec = Jvm.exec) {pc : Nat} {Ls : Array Slot} {z : Int64} (hret : meth.sig.returnType = some .long) (hlk : meth.locks = false)
    (hd : decode c.code pc = .ok (.lreturn, 1)) (hc : cells ≤ kc) (hs : slots ≤ ks) (hQ : Q (some (.long z)) T.heap locs) : own_E p e below s Q kc ks (T.setTop (mkF m pc Ls [.long z])) :=
  own_end X (fun q => by rw [hret] at q; cases q) hlk (fun fs hr => X.lreturnOut hx hret hd hr) hc hs hQ
theorem own_retR (X : Stand p l e R s m args below meth c T locs cells slots) (hx : p.tables.exec = Jvm.exec) {pc : Nat} {Ls : Array Slot} {w : Value} {t : FieldType} (hw : w.isRef = true) (hret : meth.sig.returnType = some t) (ht : t.isReference = true) (hlk : meth.locks = false)
    (hd : decode c.code pc = .ok (.areturn, 1)) (hc : cells ≤ kc) (hs : slots ≤ ks) (hQ : Q (some w) T.heap locs) : own_E p e below s Q kc ks (T.setTop (mkF m pc Ls [w])) :=
  own_end X (fun q => by rw [hret] at q; cases q) hlk (fun fs hr => X.areturnOut hx hw hret ht hd hr) hc hs hQ
theorem own_retV (X : Stand p l e R s m args below meth c T locs cells slots) (hx : p.tables.exec = Jvm.exec) {pc : Nat} {Ls : Array Slot} (hret : meth.sig.returnType = none) (hlk : meth.locks = false)
    (hd : decode c.code pc = .ok (.return_, 1)) (hc : cells ≤ kc) (hs : slots ≤ ks) (hQ : Q none T.heap locs) : own_E p e below s Q kc ks (T.setTop (mkF m pc Ls [])) :=
  own_end X (fun _ => rfl) hlk (fun fs hr => X.returnOut hx hret hd hr) hc hs hQ
/-- a boolean as the machine holds it -/
def own_b (b : Bool) : Int32 := if b then 1 else 0
theorem own_b1 {P : Prop} [Decidable P] (h : P) : own_b (decide P) = 1 := by simp [own_b, h]
theorem own_bz {P : Prop} [Decidable P] (h : ¬ P) : own_b (decide P) = 0 := by simp [own_b, h]
theorem own_lt32 {x y : Int32} (h : x < y) : x.toInt < y.toInt := Int32.lt_iff_toInt_lt.mp h
theorem own_nlt32 {x y : Int32} (h : ¬ x < y) : ¬ x.toInt < y.toInt := fun q => h (Int32.lt_iff_toInt_lt.mpr q)
theorem own_eq32 {x y : Int32} (h : x = y) : x.toInt = y.toInt := congrArg _ h
theorem own_neq32 {x y : Int32} (h : ¬ x = y) : ¬ x.toInt = y.toInt := fun q => h (Int32.toInt_inj.mp q)
theorem own_lt64 {x y : Int64} (h : x < y) : x.toInt < y.toInt := Int64.lt_iff_toInt_lt.mp h
theorem own_nlt64 {x y : Int64} (h : ¬ x < y) : ¬ x.toInt < y.toInt := fun q => h (Int64.lt_iff_toInt_lt.mpr q)
theorem own_eq64 {x y : Int64} (h : x = y) : x.toInt = y.toInt := congrArg _ h
theorem own_neq64 {x y : Int64} (h : ¬ x = y) : ¬ x.toInt = y.toInt := fun q => h (Int64.toInt_inj.mp q)
theorem own_b0 {b : Bool} : own_b b = 0 ↔ b = false := by cases b <;> decide
theorem own_nb (b : Bool) : nar .boolean (own_b b) = own_b b := by cases b <;> rfl
theorem own_nbb (x : Int32) : nar .byte (x.toInt8.toInt32) = x.toInt8.toInt32 := by
  show x.toInt8.toInt32.toInt8.toInt32 = x.toInt8.toInt32
  rw [Int8.toInt8_toInt32]
theorem own_stV {l : Array Slot} {i : Nat} {v : Value} {o : Slot} (hold : l[i]? = some o) (ho : o = .unset ∨ ∃ w, o = .val w ∧ w.category = 1) (hv : v.category = 1) : storeLocals l i v = some (l.setIfInBounds i (.val v)) := XS.store1 hold ho hv
theorem own_narV {ty : FieldType} {v : Value} (hv : v.isRef = true) : narrow ty v = v := by
  rcases ref_cases hv with rfl | ⟨a, rfl⟩ <;> cases ty <;> rfl
theorem own_fitV {ty : FieldType} {v : Value} (ht : ty.isReference = true) (hv : v.isRef = true) : fits ty v = true := by
  rcases ref_cases hv with rfl | ⟨a, rfl⟩ <;> cases ty <;> first | rfl | (cases ht; done)
/-- an array of n places, whose place j holds f j -/
def own_A (Z : State) (h : Heap) (a : Addr) (ty : FieldType) (n : Nat) (f : Nat → Int32) : Prop := ∃ c : Cell, Arr Z h a c ty ∧ c.slots.size = n ∧ n < 2 ^ 31 ∧ (∀ j, j < n → c.slots[j]? = some (.int (f j))) ∧ ∀ j, j < n → fits ty (.int (f j)) = true
def own_up (f : Nat → Int32) (i : Nat) (v : Int32) (k : Nat) : Int32 := if k = i then v else f k
theorem own_up_same (f : Nat → Int32) (i : Nat) (v : Int32) : own_up f i v i = v := if_pos rfl
theorem own_up_ne (f : Nat → Int32) {i k : Nat} (v : Int32) (h : ¬ k = i) : own_up f i v k = f k := if_neg h
theorem own_catV {v : Value} (h : v.isRef = true) : v.category = 1 := by rcases ref_cases h with rfl | ⟨a, rfl⟩ <;> rfl
abbrev own_ix (j : Int32) (i : Nat) : Prop := ¬ j < 0 ∧ j.toNatClampNeg = i
variable {a b : Addr} {ty : FieldType} {n i : Nat} {f : Nat → Int32} {j x : Int32} {pc : Nat} {Ls : Array Slot} {rest : List Value} {sl : Nat} {v : Value} {ws : List Addr}
theorem own_A.lt (F : own_A Z h a ty n f) : a < h.size := by obtain ⟨c, A, -⟩ := F; exact A.lt
theorem own_A.ext (F : own_A Z h a ty n f) (E : Ext h h') : own_A Z h' a ty n f := by obtain ⟨c, A, r⟩ := F; exact ⟨c, A.ext E, r⟩
theorem own_A.other (F : own_A Z h b ty n f) (W : Wr h h' a sl v) (q : b ≠ a) : own_A Z h' b ty n f := by obtain ⟨c, A, r⟩ := F; exact ⟨c, A.other W q, r⟩
theorem own_A.keep (F : own_A Z h a ty n f) (K : Keep h h' ws) (q : a ∉ ws) : own_A Z h' a ty n f := by obtain ⟨c, A, r⟩ := F; exact ⟨c, ⟨K.2.1 a c A.1 q, A.2⟩, r⟩
theorem own_A.congr {g : Nat → Int32} (F : own_A Z h a ty n f) (q : ∀ j, j < n → f j = g j) : own_A Z h a ty n g := by obtain ⟨c, A, r1, r2, r3, r4⟩ := F; exact ⟨c, A, r1, r2, fun j hj => by rw [← q j hj]; exact r3 j hj, fun j hj => by rw [← q j hj]; exact r4 j hj⟩
theorem own_A.new {k : ClassId} {z : Int32} (A : Arr Z h a (newA k ty z) ty) (q : ¬ z < 0) (hz : z.toNatClampNeg = n) (hd : defaultValue ty = .int 0 := by rfl) : own_A Z h a ty n (fun _ => 0) := by
  subst hz
  exact ⟨_, A, sz_new _ _ _, (back32 q).2, fun j hj => by simp [newA, hj, hd], fun j hj => by rw [← hd]; cases ty <;> rfl⟩
theorem own_A.set (F : own_A Z h a ty n f) (hj : own_ix j i) (W : Wr h h' a j.toNatClampNeg (.int x)) (hf : fits ty (.int x) = true) : own_A Z h' a ty n (own_up f i x) := by
  obtain ⟨c, A, r1, r2, r3, r4⟩ := F
  obtain ⟨hj1, rfl⟩ := hj
  refine ⟨_, A.same W, by rw [sz_set]; exact r1, r2, fun k hk => ?_, fun k hk => ?_⟩ <;> by_cases q : k = j.toNatClampNeg
  · subst q; simp [Cell.setSlot, own_up, r1, hk]
  · simp only [Cell.setSlot, own_up, if_neg q]; rw [Array.getElem?_setIfInBounds_ne (Ne.symm q)]; exact r3 k hk
  · simp only [own_up, if_pos q]; exact hf
  · simp only [own_up, if_neg q]; exact r4 k hk
theorem own_in (hj : own_ix j i) (hi : i < n) {c : Cell} (hc : c.slots.size = n) : ¬ (j < 0 ∨ c.slots.size ≤ j.toNatClampNeg) := by
  rintro (q | q)
  · exact hj.1 q
  · rw [hj.2, hc] at q; omega
theorem own_stB (X : Stand p l e R s m args below meth c T locs cells slots) (hx : p.tables.exec = Jvm.exec) (hZ : Z.Warmed39 s.vm) (eT : T.heap = h) (A : own_A Z h a .byte n f) (hj : own_ix j i) (hi : i < n) (hd : decode c.code pc = .ok (.bastore, 1)) :
    ∃ T' h', Stand p l e R s m args below meth c T' (locs ++ [⟨a, j.toNatClampNeg⟩]) cells slots ∧ T'.heap = h' ∧ Wr h h' a j.toNatClampNeg (.int (nar .byte x)) ∧ own_A Z h' a .byte n (own_up f i (nar .byte x)) ∧ ∀ t, Steps p.tables e below (T'.setTop (mkF m (pc + 1) Ls rest)) t → Steps p.tables e below (T.setTop (mkF m pc Ls (.int x :: .int j :: .ref a :: rest))) t := by
  have A0 := A
  obtain ⟨cl, A1, r1, r2, r3, r4⟩ := A
  obtain ⟨T', h', X', e', W, st⟩ := stB X hx hZ eT A1 (j := j) (x := x) (own_in hj hi r1) (g := mkF m pc Ls (.int x :: .int j :: .ref a :: rest)) rfl rfl hd
  exact ⟨T', h', X', e', W, A0.set hj W (fits_nar_byte x), st⟩
theorem own_stI (X : Stand p l e R s m args below meth c T locs cells slots) (hx : p.tables.exec = Jvm.exec) (hZ : Z.Warmed39 s.vm) (eT : T.heap = h) (A : own_A Z h a .int n f) (hj : own_ix j i) (hi : i < n) (hd : decode c.code pc = .ok (.iastore, 1)) :
    ∃ T' h', Stand p l e R s m args below meth c T' (locs ++ [⟨a, j.toNatClampNeg⟩]) cells slots ∧ T'.heap = h' ∧ Wr h h' a j.toNatClampNeg (.int x) ∧ own_A Z h' a .int n (own_up f i x) ∧ ∀ t, Steps p.tables e below (T'.setTop (mkF m (pc + 1) Ls rest)) t → Steps p.tables e below (T.setTop (mkF m pc Ls (.int x :: .int j :: .ref a :: rest))) t := by
  have A0 := A
  obtain ⟨cl, A1, r1, r2, r3, r4⟩ := A
  obtain ⟨T', h', X', e', W, st⟩ := stI X hx hZ eT A1 (j := j) (x := x) (own_in hj hi r1) (g := mkF m pc Ls (.int x :: .int j :: .ref a :: rest)) rfl rfl hd
  exact ⟨T', h', X', e', W, A0.set hj W rfl, st⟩
theorem own_ldB (X : Stand p l e R s m args below meth c T locs cells slots) (hx : p.tables.exec = Jvm.exec) (hZ : Z.Warmed39 s.vm) (eT : T.heap = h) (A : own_A Z h a .byte n f) (hj : own_ix j i) (hi : i < n) (hd : decode c.code pc = .ok (.baload, 1)) (t : State)
    (k : Steps p.tables e below (T.setTop (mkF m (pc + 1) Ls (.int (f i) :: rest))) t) : Steps p.tables e below (T.setTop (mkF m pc Ls (.int j :: .ref a :: rest))) t := by
  obtain ⟨cl, A1, r1, r2, r3, r4⟩ := A
  exact X.baloadBytes hx (j := j) (v := .int (f i)) (by rw [eT]; exact A1.1) (State.isArrayOf_alike hZ.alike A1.2.1) A1.2.2 (own_in hj hi r1) (by rw [hj.2]; exact r3 i hi) (g := mkF m pc Ls (.int j :: .ref a :: rest)) rfl rfl hd t k
theorem own_ldI (X : Stand p l e R s m args below meth c T locs cells slots) (hx : p.tables.exec = Jvm.exec) (hZ : Z.Warmed39 s.vm) (eT : T.heap = h) (A : own_A Z h a .int n f) (hj : own_ix j i) (hi : i < n) (hd : decode c.code pc = .ok (.iaload, 1)) (t : State)
    (k : Steps p.tables e below (T.setTop (mkF m (pc + 1) Ls (.int (f i) :: rest))) t) : Steps p.tables e below (T.setTop (mkF m pc Ls (.int j :: .ref a :: rest))) t := by
  obtain ⟨cl, A1, r1, r2, r3, r4⟩ := A
  exact X.iaload hx (j := j) (v := .int (f i)) (by rw [eT]; exact A1.1) (State.isArrayOf_alike hZ.alike A1.2.1) A1.2.2 (own_in hj hi r1) (by rw [hj.2]; exact r3 i hi) (g := mkF m pc Ls (.int j :: .ref a :: rest)) rfl rfl hd t k
theorem own_len {z : Int32} (X : Stand p l e R s m args below meth c T locs cells slots) (hx : p.tables.exec = Jvm.exec) (hZ : Z.Warmed39 s.vm) (eT : T.heap = h) (A : own_A Z h a ty n f) (hz : n.toInt32 = z) (hd : decode c.code pc = .ok (.arraylength, 1)) (t : State)
    (k : Steps p.tables e below (T.setTop (mkF m (pc + 1) Ls (.int z :: rest))) t) : Steps p.tables e below (T.setTop (mkF m pc Ls (.ref a :: rest))) t := by
  obtain ⟨cl, A1, r1, r2, r3, r4⟩ := A
  subst hz
  refine X.arraylength hx (by rw [eT]; exact A1.1) (State.isArrayOf_alike hZ.alike A1.2.1) (g := mkF m pc Ls (.ref a :: rest)) rfl rfl hd t ?_
  rw [r1]; exact k
theorem own_clone (X : Stand p l e R s m args below meth c T locs cells slots) (hx : p.tables.exec = Jvm.exec) (hZ : Z.Warmed39 s.vm) {a0 : Array Value} {own ad : String} {index : Nat} (hown : s.vm.findClass own = some m.cls)
    (w1 : (Cond.methodLink own index ⟨ad, "clone", "()Ljava/lang/Object;"⟩).before a0 Z = true) (w2 : (Cond.sameMethod ad "java/lang/Object" "clone" "()Ljava/lang/Object;").before a0 Z = true) (w3 : (Cond.native ⟨"java/lang/Object", "clone", "()Ljava/lang/Object;"⟩).before a0 Z = true)
    (w4 : (Cond.instanceMethod ⟨"java/lang/Object", "clone", "()Ljava/lang/Object;"⟩).before a0 Z = true) (w5 : (Cond.selects ad ⟨ad, "clone", "()Ljava/lang/Object;"⟩ ⟨"java/lang/Object", "clone", "()Ljava/lang/Object;"⟩).before a0 Z = true) (w6 : (Cond.castable ad "java/lang/Cloneable").before a0 Z = true)
    (eT : T.heap = h) (A : own_A Z h a ty n f) (E : Exa Z h a ad) (hsize : Ls.size = c.maxLocals) (hd : decode c.code pc = .ok (.invokevirtual index, 3))
    (hf : 1 ≤ R.frames) {W cap : Nat} (hW : 2 * 0 + (rest.map fun v => v.category).sum ≤ W) (hl : W + 14 ≤ R.locals) (hcap : n ≤ cap) (hc : cells + 1 ≤ R.cells) (hsl : slots + cap ≤ R.slots) :
    ∃ T' h', Stand p l e R s m args below meth c T' locs (cells + 1) (slots + cap) ∧ T'.heap = h' ∧ Ext h h' ∧ own_A Z h' h.size ty n f ∧ Exa Z h' h.size ad ∧
      ∀ t, Steps p.tables e below (T'.setTop (mkF m (pc + 3) Ls (.ref h.size :: rest))) t → Steps p.tables e below (T.setTop (mkF m pc Ls (.ref a :: rest))) t := by
  obtain ⟨cl, A1, r1, r2, r3, r4⟩ := A
  have FC : FitC Z cl := fitC_of A1 fun i hi v hv => by rw [r1] at hi; rw [r3 i hi] at hv; cases hv; exact r4 i hi
  obtain ⟨T', h', X', e', ex, A', E', st⟩ := cloneA X hx hZ hown w1 w2 w3 w4 w5 w6 eT A1 E FC (g := mkF m pc Ls (.ref a :: rest)) rfl hsize rfl hd hf hW hl (by rw [r1]; exact hcap) hc hsl
  exact ⟨T', h', X', e', ex, ⟨cloneOf cl, A', r1, r2, r3, r4⟩, E', st⟩
theorem own_selP {s : State} {args : Array Value} {y : MethodName} {n : Nat} (hin : (Cond.instantiable y.cls n).before args s = true) (hpriv : s.PrivateAt y) (hinst : (Cond.instanceMethod y).before args s = true) (hy : y.cls ≠ "java/lang/invoke/MethodHandle" ∧ y.cls ≠ "java/lang/invoke/VarHandle") : (Cond.selects y.cls y y).before args s = true := by
  obtain ⟨c, k, h1, h2, -, h4, -⟩ := Cond.instantiable_spec hin
  exact selects_self_of_private h1 h2 (Bool.or_eq_false_iff.mp h4).1 hpriv hinst hy
theorem own_ixa (h : own_ix j i) (k : Nat) (hi : i + k < 2 ^ 31) : own_ix (j + Int32.ofNat k) (i + k) := by
  obtain ⟨h1, h2⟩ := h
  have e0 : (0 : Int32).toInt = 0 := rfl
  have e1 : (Int32.ofNat k).toInt = k := Int32.toInt_ofNat_of_lt (by omega)
  rw [Int32.lt_iff_toInt_lt, e0] at h1
  simp only [Int32.toNatClampNeg] at h2
  have h3 := c_iadd j (Int32.ofNat k); have h4 := rng32 (j + Int32.ofNat k)
  rw [e1] at h3
  refine ⟨by rw [Int32.lt_iff_toInt_lt, e0]; omega, ?_⟩
  simp only [Int32.toNatClampNeg]; omega
theorem own_ixI (h : own_ix j i) : j.toInt = i := by
  obtain ⟨h1, h2⟩ := h
  have e0 : (0 : Int32).toInt = 0 := rfl
  rw [Int32.lt_iff_toInt_lt, e0] at h1
  simp only [Int32.toNatClampNeg] at h2; omega
theorem own_ixof (h : j.toInt = i) : own_ix j i := by
  have e0 : (0 : Int32).toInt = 0 := rfl
  refine ⟨by rw [Int32.lt_iff_toInt_lt, e0]; omega, ?_⟩
  simp only [Int32.toNatClampNeg]; omega
theorem own_ixs (h : ¬ j < 0) : own_ix j j.toNatClampNeg := ⟨h, rfl⟩
theorem own_and3 (x : Int32) (k : Nat) (hk : k < 2 ^ 31) : ¬ (x &&& Int32.ofNat k) < 0 ∧ (x &&& Int32.ofNat k).toNatClampNeg ≤ k := by
  have h0 : 0 ≤ (Int32.ofNat k).toInt := by rw [Int32.toInt_ofNat_of_lt hk]; omega
  have h1 := (c_andS x (Int32.ofNat k)).2.2 h0
  have e0 : (0 : Int32).toInt = 0 := rfl
  refine ⟨by rw [Int32.lt_iff_toInt_lt, e0]; omega, ?_⟩
  have hb : (x &&& Int32.ofNat k).toBitVec.toNat ≤ k := by
    have : (x &&& Int32.ofNat k).toBitVec.toNat = x.toBitVec.toNat &&& (Int32.ofNat k).toBitVec.toNat := by rw [Int32.toBitVec_and, BitVec.toNat_and]
    rw [this]
    refine Nat.le_trans Nat.and_le_right ?_
    show (BitVec.ofNat 32 k).toNat ≤ k
    rw [BitVec.toNat_ofNat]; exact Nat.mod_le _ _
  have e : (x &&& Int32.ofNat k).toInt = ((x &&& Int32.ofNat k).toBitVec.toNat : Int) := by
    show (x &&& Int32.ofNat k).toBitVec.toInt = _
    rw [BitVec.toInt_eq_toNat_cond]; split
    · rfl
    · omega
  simp only [Int32.toNatClampNeg, e]; omega
end Own

def own_sh (w : Int64) (k : Int32) : Int32 := ((w.toUInt64 >>> (((8 : Int32) * k) &&& 0x3f).toInt64.toUInt64).toInt64).toInt32.toInt8.toInt32
def own_at (i st : Int32) (w0 w1 : Int64) : Int32 := if i - st < 0 then own_sh w1 (i &&& 7) else if i - st < 8 then own_sh w0 (i - st) else own_sh w1 (i &&& 7)
def own_g (f : Nat → Int32) (kp kl : Nat) : Nat → Int64
  | 0 => 0
  | t + 1 => (own_g f kp kl t <<< ((8 : Int32) &&& 0x3f).toInt64) ||| ((f (kp + (kl - 1 - t)) &&& (255 : Int32)).toInt64)
theorem own_dec {j : Int32} {kl t' : Nat} (hk : kl ≤ 8) (hj : j.toInt = (kl : Int) - 1 - t') (h : ¬ j.toInt < 0) : (j + (-1 : Int32)).toInt = (kl : Int) - 1 - ((t' + 1 : Nat) : Int) := by
  have q1 := c_iadd j (-1); have q2 := rng32 (j + (-1)); rw [show (-1 : Int32).toInt = -1 from by decide] at q1
  omega
theorem own_dec0 {y : Int32} {kl : Nat} (hk : kl ≤ 8) (hy : y.toInt = kl) : (y - (1 : Int32)).toInt = (kl : Int) - 1 - ((0 : Nat) : Int) := by
  have q1 := c_isub y 1; have q2 := rng32 (y - 1); rw [show (1 : Int32).toInt = 1 from rfl] at q1
  omega
theorem own_ixu {x0 j : Int32} {kp kl t' : Nat} (hk : kl ≤ 8) (hn : kp + kl ≤ 16) (h0 : x0.toInt = kp) (hj : j.toInt = (kl : Int) - 1 - t') (h : ¬ j.toInt < 0) : own_ix (x0 + j) (kp + (kl - 1 - t')) := by
  have q1 := c_iadd x0 j; have q2 := rng32 (x0 + j)
  exact own_ixof (by omega)
theorem own_g_z (f : Nat → Int32) (kp kl : Nat) : own_g f kp kl 0 = 0 := rfl
theorem own_g_s (f : Nat → Int32) (kp kl t : Nat) : own_g f kp kl (t + 1) = (own_g f kp kl t <<< ((8 : Int32) &&& 0x3f).toInt64) ||| ((f (kp + (kl - 1 - t)) &&& (255 : Int32)).toInt64) := rfl
theorem own_b1_d0 : decode method_3_code 0 = .ok (.iload_n 0, 1) := by decide +kernel
theorem own_b1_d1 : decode method_3_code 1 = .ok (.iload_n 1, 1) := by decide +kernel
theorem own_b1_d2 : decode method_3_code 2 = .ok (.isub, 1) := by decide +kernel
theorem own_b1_d3 : decode method_3_code 3 = .ok (.istore 6, 2) := by decide +kernel
theorem own_b1_d5 : decode method_3_code 5 = .ok (.iload 6, 2) := by decide +kernel
theorem own_b1_d7 : decode method_3_code 7 = .ok (.ifCond .lt 20, 3) := by decide +kernel
theorem own_b1_d10 : decode method_3_code 10 = .ok (.iload 6, 2) := by decide +kernel
theorem own_b1_d12 : decode method_3_code 12 = .ok (.bipush 8, 2) := by decide +kernel
theorem own_b1_d14 : decode method_3_code 14 = .ok (.if_icmp .ge 13, 3) := by decide +kernel
theorem own_b1_d17 : decode method_3_code 17 = .ok (.lload_n 2, 1) := by decide +kernel
theorem own_b1_d18 : decode method_3_code 18 = .ok (.bipush 8, 2) := by decide +kernel
theorem own_b1_d20 : decode method_3_code 20 = .ok (.iload 6, 2) := by decide +kernel
theorem own_b1_d22 : decode method_3_code 22 = .ok (.imul, 1) := by decide +kernel
theorem own_b1_d23 : decode method_3_code 23 = .ok (.lushr, 1) := by decide +kernel
theorem own_b1_d24 : decode method_3_code 24 = .ok (.l2i, 1) := by decide +kernel
theorem own_b1_d25 : decode method_3_code 25 = .ok (.i2b, 1) := by decide +kernel
theorem own_b1_d26 : decode method_3_code 26 = .ok (.ireturn, 1) := by decide +kernel
theorem own_b1_d27 : decode method_3_code 27 = .ok (.lload 4, 2) := by decide +kernel
theorem own_b1_d29 : decode method_3_code 29 = .ok (.bipush 8, 2) := by decide +kernel
theorem own_b1_d31 : decode method_3_code 31 = .ok (.iload_n 0, 1) := by decide +kernel
theorem own_b1_d32 : decode method_3_code 32 = .ok (.bipush 7, 2) := by decide +kernel
theorem own_b1_d34 : decode method_3_code 34 = .ok (.iand, 1) := by decide +kernel
theorem own_b1_d35 : decode method_3_code 35 = .ok (.imul, 1) := by decide +kernel
theorem own_b1_d36 : decode method_3_code 36 = .ok (.lushr, 1) := by decide +kernel
theorem own_b1_d37 : decode method_3_code 37 = .ok (.l2i, 1) := by decide +kernel
theorem own_b1_d38 : decode method_3_code 38 = .ok (.i2b, 1) := by decide +kernel
theorem own_b1_d39 : decode method_3_code 39 = .ok (.ireturn, 1) := by decide +kernel
theorem own_pn0 : plainName "com/example/syncline/syncline/ByteCursorUnsignedPinLaw" = true := by first | (simp [plainName, overriddenIn]; done) | decide +kernel
theorem own_ef_rm1 (m : MethodId) (x0 : Int32) (x1 : Int32) (x2 : Int64) (x3 : Int64) : entryFrame m #[(.int x0), (.int x1), (.long x2), (.long x3)] 7 = mkF m 0 #[.val (.int x0), .val (.int x1), .val (.long x2), .second, .val (.long x3), .second, .unset] [] := by first | (simp [entryFrame, mkF, argsToLocals, Value.category]; done) | rfl
def Q1 (Z : State) (x0 : Int32) (x1 : Int32) (x2 : Int64) (x3 : Int64) (h0 : Heap) (n0 : Nat) (v : Option Value) (h : Heap) (L : List Loc) : Prop := v = some (.int (own_at x0 x1 x2 x3)) ∧ Fr n0 L ∧ h = h0
set_option maxRecDepth 65536 in
set_option maxHeartbeats 40000000 in
theorem rm1 (l : Launch) (Z : State) (a0 : Array Value) (hw : ∀ d ∈ tables_1, d.before a0 Z = true) (ws : List Jvm.Cond) (x0 : Int32) (x1 : Int32) (x2 : Int64) (x3 : Int64) (h0 : Heap) (n0 : Nat) (Z0 : n0 ≤ h0.size) :
    MetFree l (⟨"com/example/syncline/syncline/ByteCursorUnsignedPinLaw", "at", "(IIJJ)B"⟩ : MethodName) (head1 (Jvm.Cond.code (⟨"com/example/syncline/syncline/ByteCursorUnsignedPinLaw", "at", "(IIJJ)B"⟩ : MethodName) method_3_code 7 (some .byte) :: ws) ({ frames := 0, cells := 0, slots := 0, locals := 0 } : Room)) (fun aa_ U_ => aa_ = #[(.int x0), (.int x1), (.long x2), (.long x3)] ∧ Z.Warmed39 U_.vm ∧ U_.heap = h0) (fun _ _ _ _ _ => True) (fun _ U_ o_ U1_ => ∃ v_ L_, o_ = .returned v_ ∧ Q1 Z x0 x1 x2 x3 h0 n0 v_ U1_.heap L_ ∧ FrameEnd U_ o_ U1_ L_ ({ frames := 0, cells := 0, slots := 0, locals := 0 } : Room).cells ({ frames := 0, cells := 0, slots := 0, locals := 0 } : Room).slots) := by
  refine MetFree.of_bodySF (plainFor_of_name own_pn0) hisR ?_
  intro p e s m args below meth c s₁ Bd hml0 hP hK
  obtain ⟨rfl, hZ, hh⟩ := hP
  have hx := Bd.exec
  have hby := Bd.bytes
  have hlk := Bd.notSynchronized
  have hml : c.maxLocals = 7 := hml0
  have hown : s.vm.findClass "com/example/syncline/syncline/ByteCursorUnsignedPinLaw" = some m.cls := findClass_of_methodNamed Bd.named
  have hnm := (name_of_methodNamed Bd.named Bd.method).1
  have X0 : Stand p l e ({ frames := 0, cells := 0, slots := 0, locals := 0 } : Room) s m #[(.int x0), (.int x1), (.long x2), (.long x3)] below meth c s₁ [] 0 0 := Stand.of_body Bd
  have e0 : s₁.heap = h0 := by rw [← hh, Bd.state]; rfl
  have N0 := Fr.nil n0
  show own_E p e below s (Q1 Z x0 x1 x2 x3 h0 n0) ({ frames := 0, cells := 0, slots := 0, locals := 0 } : Room).cells ({ frames := 0, cells := 0, slots := 0, locals := 0 } : Room).slots (s₁.setTop (entryFrame m #[(.int x0), (.int x1), (.long x2), (.long x3)] 7))
  refine own_st (B := s₁.setTop (mkF m 0 #[.val (.int x0), .val (.int x1), .val (.long x2), .second, .val (.long x3), .second, .unset] [])) (fun t_ k_ => castTop (own_ef_rm1 m x0 x1 x2 x3) k_) ?_
  refine own_st (B := s₁.setTop (mkF m 1 #[.val (.int x0), .val (.int x1), .val (.long x2), .second, .val (.long x3), .second, .unset] [(.int x0)])) (fun t_ k_ => XS.iloadN X0.here hx rfl (hb hby own_b1_d0) rfl k_) ?_
  refine own_st (B := s₁.setTop (mkF m 2 #[.val (.int x0), .val (.int x1), .val (.long x2), .second, .val (.long x3), .second, .unset] [(.int x1), (.int x0)])) (fun t_ k_ => XS.iloadN X0.here hx rfl (hb hby own_b1_d1) rfl k_) ?_
  refine own_st (B := s₁.setTop (mkF m 3 #[.val (.int x0), .val (.int x1), .val (.long x2), .second, .val (.long x3), .second, .unset] [(.int (x0 - x1))])) (fun t_ k_ => XS.isub X0.here hx rfl (hb hby own_b1_d2) rfl k_) ?_
  refine own_st (B := s₁.setTop (mkF m 5 #[.val (.int x0), .val (.int x1), .val (.long x2), .second, .val (.long x3), .second, .val (.int (x0 - x1))] [])) (fun t_ k_ => XS.istore X0.here hx rfl (hb hby own_b1_d3) rfl (l' := #[.val (.int x0), .val (.int x1), .val (.long x2), .second, .val (.long x3), .second, .val (.int (x0 - x1))]) rfl k_) ?_
  refine own_st (B := s₁.setTop (mkF m 7 #[.val (.int x0), .val (.int x1), .val (.long x2), .second, .val (.long x3), .second, .val (.int (x0 - x1))] [(.int (x0 - x1))])) (fun t_ k_ => XS.iload X0.here hx rfl (hb hby own_b1_d5) rfl k_) ?_
  by_cases hc1 : (x0 - x1) < (0 : Int32)
  · have hd1 := own_lt32 hc1
    rw [show (0 : Int32).toInt = 0 from rfl] at hd1
    refine own_st (B := s₁.setTop (mkF m 27 #[.val (.int x0), .val (.int x1), .val (.long x2), .second, .val (.long x3), .second, .val (.int (x0 - x1))] [])) (fun t_ k_ => XS.ifYes X0.here hx rfl (pc0 := 7) (pc' := 27) rfl (hb hby own_b1_d7) rfl ((if0 _ _).trans (tlt hc1).1) (by decide) (by decide) k_) ?_
    refine own_st (B := s₁.setTop (mkF m 29 #[.val (.int x0), .val (.int x1), .val (.long x2), .second, .val (.long x3), .second, .val (.int (x0 - x1))] [(.long x3)])) (fun t_ k_ => XS.lload X0.here hx rfl (hb hby own_b1_d27) rfl k_) ?_
    refine own_st (B := s₁.setTop (mkF m 31 #[.val (.int x0), .val (.int x1), .val (.long x2), .second, .val (.long x3), .second, .val (.int (x0 - x1))] [(.int (8 : Int32)), (.long x3)])) (fun t_ k_ => XS.bipush X0.here hx rfl (hb hby own_b1_d29) k_) ?_
    refine own_st (B := s₁.setTop (mkF m 32 #[.val (.int x0), .val (.int x1), .val (.long x2), .second, .val (.long x3), .second, .val (.int (x0 - x1))] [(.int x0), (.int (8 : Int32)), (.long x3)])) (fun t_ k_ => XS.iloadN X0.here hx rfl (hb hby own_b1_d31) rfl k_) ?_
    refine own_st (B := s₁.setTop (mkF m 34 #[.val (.int x0), .val (.int x1), .val (.long x2), .second, .val (.long x3), .second, .val (.int (x0 - x1))] [(.int (7 : Int32)), (.int x0), (.int (8 : Int32)), (.long x3)])) (fun t_ k_ => XS.bipush X0.here hx rfl (hb hby own_b1_d32) k_) ?_
    refine own_st (B := s₁.setTop (mkF m 35 #[.val (.int x0), .val (.int x1), .val (.long x2), .second, .val (.long x3), .second, .val (.int (x0 - x1))] [(.int (x0 &&& (7 : Int32))), (.int (8 : Int32)), (.long x3)])) (fun t_ k_ => XS.iand X0.here hx rfl (hb hby own_b1_d34) rfl k_) ?_
    refine own_st (B := s₁.setTop (mkF m 36 #[.val (.int x0), .val (.int x1), .val (.long x2), .second, .val (.long x3), .second, .val (.int (x0 - x1))] [(.int ((8 : Int32) * (x0 &&& (7 : Int32)))), (.long x3)])) (fun t_ k_ => XS.imul X0.here hx rfl (hb hby own_b1_d35) rfl k_) ?_
    refine own_st (B := s₁.setTop (mkF m 37 #[.val (.int x0), .val (.int x1), .val (.long x2), .second, .val (.long x3), .second, .val (.int (x0 - x1))] [(.long ((x3.toUInt64 >>> (((8 : Int32) * (x0 &&& (7 : Int32))) &&& 0x3f).toInt64.toUInt64).toInt64))])) (fun t_ k_ => XS.lushr X0.here hx rfl (hb hby own_b1_d36) rfl k_) ?_
    refine own_st (B := s₁.setTop (mkF m 38 #[.val (.int x0), .val (.int x1), .val (.long x2), .second, .val (.long x3), .second, .val (.int (x0 - x1))] [(.int (((x3.toUInt64 >>> (((8 : Int32) * (x0 &&& (7 : Int32))) &&& 0x3f).toInt64.toUInt64).toInt64).toInt32))])) (fun t_ k_ => XS.l2i X0.here hx rfl (hb hby own_b1_d37) rfl k_) ?_
    refine own_st (B := s₁.setTop (mkF m 39 #[.val (.int x0), .val (.int x1), .val (.long x2), .second, .val (.long x3), .second, .val (.int (x0 - x1))] [(.int ((((x3.toUInt64 >>> (((8 : Int32) * (x0 &&& (7 : Int32))) &&& 0x3f).toInt64.toUInt64).toInt64).toInt32).toInt8.toInt32))])) (fun t_ k_ => XS.i2b X0.here hx rfl (hb hby own_b1_d38) rfl k_) ?_
    refine own_retN X0 hx (t := .byte) Bd.returns (by simp) hlk (hb hby own_b1_d39) (z' := ((((x3.toUInt64 >>> (((8 : Int32) * (x0 &&& (7 : Int32))) &&& 0x3f).toInt64.toUInt64).toInt64).toInt32).toInt8.toInt32)) (by first | exact own_nbb _ | rfl) (by decide) (by decide) ?_
    show Q1 Z x0 x1 x2 x3 h0 n0 _ s₁.heap _
    rw [e0]
    exact ⟨by simp only [own_at, own_sh, hc1, if_true, if_false], N0, rfl⟩
  · have hd1 := own_nlt32 hc1
    rw [show (0 : Int32).toInt = 0 from rfl] at hd1
    refine own_st (B := s₁.setTop (mkF m 10 #[.val (.int x0), .val (.int x1), .val (.long x2), .second, .val (.long x3), .second, .val (.int (x0 - x1))] [])) (fun t_ k_ => XS.ifNo X0.here hx rfl (hb hby own_b1_d7) rfl ((if0 _ _).trans (flt hc1).1) k_) ?_
    refine own_st (B := s₁.setTop (mkF m 12 #[.val (.int x0), .val (.int x1), .val (.long x2), .second, .val (.long x3), .second, .val (.int (x0 - x1))] [(.int (x0 - x1))])) (fun t_ k_ => XS.iload X0.here hx rfl (hb hby own_b1_d10) rfl k_) ?_
    refine own_st (B := s₁.setTop (mkF m 14 #[.val (.int x0), .val (.int x1), .val (.long x2), .second, .val (.long x3), .second, .val (.int (x0 - x1))] [(.int (8 : Int32)), (.int (x0 - x1))])) (fun t_ k_ => XS.bipush X0.here hx rfl (hb hby own_b1_d12) k_) ?_
    by_cases hc2 : (x0 - x1) < (8 : Int32)
    · have hd2 := own_lt32 hc2
      rw [show (8 : Int32).toInt = 8 from rfl] at hd2
      refine own_st (B := s₁.setTop (mkF m 17 #[.val (.int x0), .val (.int x1), .val (.long x2), .second, .val (.long x3), .second, .val (.int (x0 - x1))] [])) (fun t_ k_ => XS.icmpNo X0.here hx rfl (hb hby own_b1_d14) rfl (tlt hc2).2.1 k_) ?_
      refine own_st (B := s₁.setTop (mkF m 18 #[.val (.int x0), .val (.int x1), .val (.long x2), .second, .val (.long x3), .second, .val (.int (x0 - x1))] [(.long x2)])) (fun t_ k_ => XS.lloadN X0.here hx rfl (hb hby own_b1_d17) rfl k_) ?_
      refine own_st (B := s₁.setTop (mkF m 20 #[.val (.int x0), .val (.int x1), .val (.long x2), .second, .val (.long x3), .second, .val (.int (x0 - x1))] [(.int (8 : Int32)), (.long x2)])) (fun t_ k_ => XS.bipush X0.here hx rfl (hb hby own_b1_d18) k_) ?_
      refine own_st (B := s₁.setTop (mkF m 22 #[.val (.int x0), .val (.int x1), .val (.long x2), .second, .val (.long x3), .second, .val (.int (x0 - x1))] [(.int (x0 - x1)), (.int (8 : Int32)), (.long x2)])) (fun t_ k_ => XS.iload X0.here hx rfl (hb hby own_b1_d20) rfl k_) ?_
      refine own_st (B := s₁.setTop (mkF m 23 #[.val (.int x0), .val (.int x1), .val (.long x2), .second, .val (.long x3), .second, .val (.int (x0 - x1))] [(.int ((8 : Int32) * (x0 - x1))), (.long x2)])) (fun t_ k_ => XS.imul X0.here hx rfl (hb hby own_b1_d22) rfl k_) ?_
      refine own_st (B := s₁.setTop (mkF m 24 #[.val (.int x0), .val (.int x1), .val (.long x2), .second, .val (.long x3), .second, .val (.int (x0 - x1))] [(.long ((x2.toUInt64 >>> (((8 : Int32) * (x0 - x1)) &&& 0x3f).toInt64.toUInt64).toInt64))])) (fun t_ k_ => XS.lushr X0.here hx rfl (hb hby own_b1_d23) rfl k_) ?_
      refine own_st (B := s₁.setTop (mkF m 25 #[.val (.int x0), .val (.int x1), .val (.long x2), .second, .val (.long x3), .second, .val (.int (x0 - x1))] [(.int (((x2.toUInt64 >>> (((8 : Int32) * (x0 - x1)) &&& 0x3f).toInt64.toUInt64).toInt64).toInt32))])) (fun t_ k_ => XS.l2i X0.here hx rfl (hb hby own_b1_d24) rfl k_) ?_
      refine own_st (B := s₁.setTop (mkF m 26 #[.val (.int x0), .val (.int x1), .val (.long x2), .second, .val (.long x3), .second, .val (.int (x0 - x1))] [(.int ((((x2.toUInt64 >>> (((8 : Int32) * (x0 - x1)) &&& 0x3f).toInt64.toUInt64).toInt64).toInt32).toInt8.toInt32))])) (fun t_ k_ => XS.i2b X0.here hx rfl (hb hby own_b1_d25) rfl k_) ?_
      refine own_retN X0 hx (t := .byte) Bd.returns (by simp) hlk (hb hby own_b1_d26) (z' := ((((x2.toUInt64 >>> (((8 : Int32) * (x0 - x1)) &&& 0x3f).toInt64.toUInt64).toInt64).toInt32).toInt8.toInt32)) (by first | exact own_nbb _ | rfl) (by decide) (by decide) ?_
      show Q1 Z x0 x1 x2 x3 h0 n0 _ s₁.heap _
      rw [e0]
      exact ⟨by simp only [own_at, own_sh, hc1, hc2, if_true, if_false], N0, rfl⟩
    · have hd2 := own_nlt32 hc2
      rw [show (8 : Int32).toInt = 8 from rfl] at hd2
      refine own_st (B := s₁.setTop (mkF m 27 #[.val (.int x0), .val (.int x1), .val (.long x2), .second, .val (.long x3), .second, .val (.int (x0 - x1))] [])) (fun t_ k_ => XS.icmpYes X0.here hx rfl (pc0 := 14) (pc' := 27) rfl (hb hby own_b1_d14) rfl (flt hc2).2.1 (by decide) (by decide) k_) ?_
      refine own_st (B := s₁.setTop (mkF m 29 #[.val (.int x0), .val (.int x1), .val (.long x2), .second, .val (.long x3), .second, .val (.int (x0 - x1))] [(.long x3)])) (fun t_ k_ => XS.lload X0.here hx rfl (hb hby own_b1_d27) rfl k_) ?_
      refine own_st (B := s₁.setTop (mkF m 31 #[.val (.int x0), .val (.int x1), .val (.long x2), .second, .val (.long x3), .second, .val (.int (x0 - x1))] [(.int (8 : Int32)), (.long x3)])) (fun t_ k_ => XS.bipush X0.here hx rfl (hb hby own_b1_d29) k_) ?_
      refine own_st (B := s₁.setTop (mkF m 32 #[.val (.int x0), .val (.int x1), .val (.long x2), .second, .val (.long x3), .second, .val (.int (x0 - x1))] [(.int x0), (.int (8 : Int32)), (.long x3)])) (fun t_ k_ => XS.iloadN X0.here hx rfl (hb hby own_b1_d31) rfl k_) ?_
      refine own_st (B := s₁.setTop (mkF m 34 #[.val (.int x0), .val (.int x1), .val (.long x2), .second, .val (.long x3), .second, .val (.int (x0 - x1))] [(.int (7 : Int32)), (.int x0), (.int (8 : Int32)), (.long x3)])) (fun t_ k_ => XS.bipush X0.here hx rfl (hb hby own_b1_d32) k_) ?_
      refine own_st (B := s₁.setTop (mkF m 35 #[.val (.int x0), .val (.int x1), .val (.long x2), .second, .val (.long x3), .second, .val (.int (x0 - x1))] [(.int (x0 &&& (7 : Int32))), (.int (8 : Int32)), (.long x3)])) (fun t_ k_ => XS.iand X0.here hx rfl (hb hby own_b1_d34) rfl k_) ?_
      refine own_st (B := s₁.setTop (mkF m 36 #[.val (.int x0), .val (.int x1), .val (.long x2), .second, .val (.long x3), .second, .val (.int (x0 - x1))] [(.int ((8 : Int32) * (x0 &&& (7 : Int32)))), (.long x3)])) (fun t_ k_ => XS.imul X0.here hx rfl (hb hby own_b1_d35) rfl k_) ?_
      refine own_st (B := s₁.setTop (mkF m 37 #[.val (.int x0), .val (.int x1), .val (.long x2), .second, .val (.long x3), .second, .val (.int (x0 - x1))] [(.long ((x3.toUInt64 >>> (((8 : Int32) * (x0 &&& (7 : Int32))) &&& 0x3f).toInt64.toUInt64).toInt64))])) (fun t_ k_ => XS.lushr X0.here hx rfl (hb hby own_b1_d36) rfl k_) ?_
      refine own_st (B := s₁.setTop (mkF m 38 #[.val (.int x0), .val (.int x1), .val (.long x2), .second, .val (.long x3), .second, .val (.int (x0 - x1))] [(.int (((x3.toUInt64 >>> (((8 : Int32) * (x0 &&& (7 : Int32))) &&& 0x3f).toInt64.toUInt64).toInt64).toInt32))])) (fun t_ k_ => XS.l2i X0.here hx rfl (hb hby own_b1_d37) rfl k_) ?_
      refine own_st (B := s₁.setTop (mkF m 39 #[.val (.int x0), .val (.int x1), .val (.long x2), .second, .val (.long x3), .second, .val (.int (x0 - x1))] [(.int ((((x3.toUInt64 >>> (((8 : Int32) * (x0 &&& (7 : Int32))) &&& 0x3f).toInt64.toUInt64).toInt64).toInt32).toInt8.toInt32))])) (fun t_ k_ => XS.i2b X0.here hx rfl (hb hby own_b1_d38) rfl k_) ?_
      refine own_retN X0 hx (t := .byte) Bd.returns (by simp) hlk (hb hby own_b1_d39) (z' := ((((x3.toUInt64 >>> (((8 : Int32) * (x0 &&& (7 : Int32))) &&& 0x3f).toInt64.toUInt64).toInt64).toInt32).toInt8.toInt32)) (by first | exact own_nbb _ | rfl) (by decide) (by decide) ?_
      show Q1 Z x0 x1 x2 x3 h0 n0 _ s₁.heap _
      rw [e0]
      exact ⟨by simp only [own_at, own_sh, hc1, hc2, if_true, if_false], N0, rfl⟩
theorem own_b2_d0 : decode prog_5_method_1_code 0 = .ok (.aload_n 0, 1) := by decide +kernel
theorem own_b2_d1 : decode prog_5_method_1_code 1 = .ok (.invokespecial 1, 3) := by decide +kernel
theorem own_b2_d4 : decode prog_5_method_1_code 4 = .ok (.aload_n 0, 1) := by decide +kernel
theorem own_b2_d5 : decode prog_5_method_1_code 5 = .ok (.aload_n 1, 1) := by decide +kernel
theorem own_b2_d6 : decode prog_5_method_1_code 6 = .ok (.putfield 7, 3) := by decide +kernel
theorem own_b2_d9 : decode prog_5_method_1_code 9 = .ok (.aload_n 0, 1) := by decide +kernel
theorem own_b2_d10 : decode prog_5_method_1_code 10 = .ok (.iload_n 2, 1) := by decide +kernel
theorem own_b2_d11 : decode prog_5_method_1_code 11 = .ok (.putfield 13, 3) := by decide +kernel
theorem own_b2_d14 : decode prog_5_method_1_code 14 = .ok (.aload_n 0, 1) := by decide +kernel
theorem own_b2_d15 : decode prog_5_method_1_code 15 = .ok (.iload_n 3, 1) := by decide +kernel
theorem own_b2_d16 : decode prog_5_method_1_code 16 = .ok (.putfield 17, 3) := by decide +kernel
theorem own_b2_d19 : decode prog_5_method_1_code 19 = .ok (.return_, 1) := by decide +kernel
theorem own_pn1 : plainName "com/example/syncline/syncline/ByteCursor" = true := by first | (simp [plainName, overriddenIn]; done) | decide +kernel
theorem own_ef_rm2 (m : MethodId) (x0 : Addr) (x1 : Addr) (x2 : Int32) (x3 : Int32) : entryFrame m #[(.ref x0), (.ref x1), (.int x2), (.int x3)] 4 = mkF m 0 #[.val (.ref x0), .val (.ref x1), .val (.int x2), .val (.int x3)] [] := by first | (simp [entryFrame, mkF, argsToLocals, Value.category]; done) | rfl
def Q2 (Z : State) (a : Addr) (d : Addr) (x0 : Int32) (x1 : Int32) (h0 : Heap) (n0 : Nat) (v : Option Value) (h : Heap) (L : List Loc) : Prop := v = none ∧ Fr n0 L ∧ Keep h0 h [a] ∧ Fld Z h a "com/example/syncline/syncline/ByteCursor" "bytes" "[B" (.ref d) ∧ Fld Z h a "com/example/syncline/syncline/ByteCursor" "position" "I" (.int x0) ∧ Fld Z h a "com/example/syncline/syncline/ByteCursor" "end" "I" (.int x1)
set_option maxRecDepth 65536 in
set_option maxHeartbeats 40000000 in
theorem rm2 (l : Launch) (Z : State) (a0 : Array Value) (hw : ∀ d ∈ tables_1, d.before a0 Z = true) (ws : List Jvm.Cond) (a : Addr) (d : Addr) (x0 : Int32) (x1 : Int32) (h0 : Heap) (n0 : Nat) (Z0 : n0 ≤ h0.size) (E : Exa Z h0 a "com/example/syncline/syncline/ByteCursor") (F0 : Fld Z h0 a "com/example/syncline/syncline/ByteCursor" "bytes" "[B" .null) (F1 : Fld Z h0 a "com/example/syncline/syncline/ByteCursor" "position" "I" (.int (0 : Int32))) (F2 : Fld Z h0 a "com/example/syncline/syncline/ByteCursor" "end" "I" (.int (0 : Int32))) (ga : n0 ≤ a) :
    MetFree l (⟨"com/example/syncline/syncline/ByteCursor", "<init>", "([BII)V"⟩ : MethodName) (head1 (Jvm.Cond.code (⟨"com/example/syncline/syncline/ByteCursor", "<init>", "([BII)V"⟩ : MethodName) prog_5_method_1_code 4 none :: ws) ({ frames := 1, cells := 0, slots := 0, locals := 12 } : Room)) (fun aa_ U_ => aa_ = #[(.ref a), (.ref d), (.int x0), (.int x1)] ∧ Z.Warmed39 U_.vm ∧ U_.heap = h0) (fun _ _ _ _ _ => True) (fun _ U_ o_ U1_ => ∃ v_ L_, o_ = .returned v_ ∧ Q2 Z a d x0 x1 h0 n0 v_ U1_.heap L_ ∧ FrameEnd U_ o_ U1_ L_ ({ frames := 1, cells := 0, slots := 0, locals := 12 } : Room).cells ({ frames := 1, cells := 0, slots := 0, locals := 12 } : Room).slots) := by
  refine MetFree.of_bodySF (plainFor_of_name own_pn1) hisR ?_
  intro p e s m args below meth c s₁ Bd hml0 hP hK
  obtain ⟨rfl, hZ, hh⟩ := hP
  have hx := Bd.exec
  have hby := Bd.bytes
  have hlk := Bd.notSynchronized
  have hml : c.maxLocals = 4 := hml0
  have hown : s.vm.findClass "com/example/syncline/syncline/ByteCursor" = some m.cls := findClass_of_methodNamed Bd.named
  have hnm := (name_of_methodNamed Bd.named Bd.method).1
  have X0 : Stand p l e ({ frames := 1, cells := 0, slots := 0, locals := 12 } : Room) s m #[(.ref a), (.ref d), (.int x0), (.int x1)] below meth c s₁ [] 0 0 := Stand.of_body Bd
  have e0 : s₁.heap = h0 := by rw [← hh, Bd.state]; rfl
  have N0 := Fr.nil n0
  show own_E p e below s (Q2 Z a d x0 x1 h0 n0) ({ frames := 1, cells := 0, slots := 0, locals := 12 } : Room).cells ({ frames := 1, cells := 0, slots := 0, locals := 12 } : Room).slots (s₁.setTop (entryFrame m #[(.ref a), (.ref d), (.int x0), (.int x1)] 4))
  refine own_st (B := s₁.setTop (mkF m 0 #[.val (.ref a), .val (.ref d), .val (.int x0), .val (.int x1)] [])) (fun t_ k_ => castTop (own_ef_rm2 m a d x0 x1) k_) ?_
  have K0 : Keep h0 h0 [a] := Keep.refl _ _
  refine own_st (B := s₁.setTop (mkF m 1 #[.val (.ref a), .val (.ref d), .val (.int x0), .val (.int x1)] [(.ref a)])) (fun t_ k_ => XS.aloadN X0.here hx rfl (hb hby own_b2_d0) rfl rfl k_) ?_
  obtain ⟨T1, X1, e1, st1⟩ := initO X0 hx hZ hown (hw _ (List.mem_of_getElem? (i := 11) rfl)) (hw _ (List.mem_of_getElem? (i := 12) rfl)) (hw _ (List.mem_of_getElem? (i := 13) rfl)) e0 (g := (mkF m 1 #[.val (.ref a), .val (.ref d), .val (.int x0), .val (.int x1)] [(.ref a)])) rfl (by rw [hml]; rfl) rfl (hb hby own_b2_d1) (by decide) (W := 0) (by show 2 * 0 + _ ≤ _; exact Nat.le_of_eq rfl) (by decide)
  refine own_st (B := T1.setTop (mkF m 4 #[.val (.ref a), .val (.ref d), .val (.int x0), .val (.int x1)] [])) st1 ?_
  refine own_st (B := T1.setTop (mkF m 5 #[.val (.ref a), .val (.ref d), .val (.int x0), .val (.int x1)] [(.ref a)])) (fun t_ k_ => XS.aloadN X1.here hx rfl (hb hby own_b2_d4) rfl rfl k_) ?_
  refine own_st (B := T1.setTop (mkF m 6 #[.val (.ref a), .val (.ref d), .val (.int x0), .val (.int x1)] [(.ref d), (.ref a)])) (fun t_ k_ => XS.aloadN X1.here hx rfl (hb hby own_b2_d5) rfl rfl k_) ?_
  obtain ⟨T2, h2, X2, e2, W2, st2⟩ := putF X1 hx hZ hown (host := "") (Or.inl (hw _ (List.mem_of_getElem? (i := 14) rfl))) Via.refl e1 F0 E (Or.inr ⟨(hw _ (List.mem_of_getElem? (i := 15) rfl)), rfl, hnm⟩) (hw _ (List.mem_of_getElem? (i := 6) rfl)) (ty := (.array .byte)) (by decide) rfl rfl (g := (mkF m 6 #[.val (.ref a), .val (.ref d), .val (.int x0), .val (.int x1)] [(.ref d), (.ref a)])) rfl rfl (hb hby own_b2_d6)
  have Fw2 := F0.same W2
  have N2 := Fr.snoc X2 N0 ga
  have Z3 := Nat.le_trans Z0 (Keep.of_wr W2).1
  have K4 := K0.wr W2 (Or.inl (List.mem_of_getElem? (i := 0) rfl))
  refine own_st (B := T2.setTop (mkF m 9 #[.val (.ref a), .val (.ref d), .val (.int x0), .val (.int x1)] [])) st2 ?_
  refine own_st (B := T2.setTop (mkF m 10 #[.val (.ref a), .val (.ref d), .val (.int x0), .val (.int x1)] [(.ref a)])) (fun t_ k_ => XS.aloadN X2.here hx rfl (hb hby own_b2_d9) rfl rfl k_) ?_
  refine own_st (B := T2.setTop (mkF m 11 #[.val (.ref a), .val (.ref d), .val (.int x0), .val (.int x1)] [(.int x0), (.ref a)])) (fun t_ k_ => XS.iloadN X2.here hx rfl (hb hby own_b2_d10) rfl k_) ?_
  have u5 := E.wr W2
  have u6 := F1.other W2 (Or.inr (slot_ne (Or.inl (hw _ (List.mem_of_getElem? (i := 17) rfl))) (Or.inr (hw _ (List.mem_of_getElem? (i := 15) rfl))) (by decide) (t := .int) (t' := (.array .byte)) (by decide) (by decide)))
  obtain ⟨T7, h7, X7, e7, W7, st7⟩ := putF X2 hx hZ hown (host := "") (Or.inl (hw _ (List.mem_of_getElem? (i := 16) rfl))) Via.refl e2 u6 u5 (Or.inl (hw _ (List.mem_of_getElem? (i := 17) rfl))) (hw _ (List.mem_of_getElem? (i := 6) rfl)) (ty := .int) (by decide) rfl rfl (g := (mkF m 11 #[.val (.ref a), .val (.ref d), .val (.int x0), .val (.int x1)] [(.int x0), (.ref a)])) rfl rfl (hb hby own_b2_d11)
  have Fw7 := u6.same W7
  have N7 := Fr.snoc X7 N2 ga
  have Z8 := Nat.le_trans Z3 (Keep.of_wr W7).1
  have K9 := K4.wr W7 (Or.inl (List.mem_of_getElem? (i := 0) rfl))
  refine own_st (B := T7.setTop (mkF m 14 #[.val (.ref a), .val (.ref d), .val (.int x0), .val (.int x1)] [])) st7 ?_
  refine own_st (B := T7.setTop (mkF m 15 #[.val (.ref a), .val (.ref d), .val (.int x0), .val (.int x1)] [(.ref a)])) (fun t_ k_ => XS.aloadN X7.here hx rfl (hb hby own_b2_d14) rfl rfl k_) ?_
  refine own_st (B := T7.setTop (mkF m 16 #[.val (.ref a), .val (.ref d), .val (.int x0), .val (.int x1)] [(.int x1), (.ref a)])) (fun t_ k_ => XS.iloadN X7.here hx rfl (hb hby own_b2_d15) rfl k_) ?_
  have u10 := u5.wr W7
  have u11 := F2.other W2 (Or.inr (slot_ne (Or.inr (hw _ (List.mem_of_getElem? (i := 19) rfl))) (Or.inr (hw _ (List.mem_of_getElem? (i := 15) rfl))) (by decide) (t := .int) (t' := (.array .byte)) (by decide) (by decide)))
  have u12 := u11.other W7 (Or.inr (slot_ne (Or.inr (hw _ (List.mem_of_getElem? (i := 19) rfl))) (Or.inl (hw _ (List.mem_of_getElem? (i := 17) rfl))) (by decide) (t := .int) (t' := .int) (by decide) (by decide)))
  obtain ⟨T13, h13, X13, e13, W13, st13⟩ := putF X7 hx hZ hown (host := "") (Or.inl (hw _ (List.mem_of_getElem? (i := 18) rfl))) Via.refl e7 u12 u10 (Or.inr ⟨(hw _ (List.mem_of_getElem? (i := 19) rfl)), rfl, hnm⟩) (hw _ (List.mem_of_getElem? (i := 6) rfl)) (ty := .int) (by decide) rfl rfl (g := (mkF m 16 #[.val (.ref a), .val (.ref d), .val (.int x0), .val (.int x1)] [(.int x1), (.ref a)])) rfl rfl (hb hby own_b2_d16)
  have Fw13 := u12.same W13
  have N13 := Fr.snoc X13 N7 ga
  have Z14 := Nat.le_trans Z8 (Keep.of_wr W13).1
  have K15 := K9.wr W13 (Or.inl (List.mem_of_getElem? (i := 0) rfl))
  refine own_st (B := T13.setTop (mkF m 19 #[.val (.ref a), .val (.ref d), .val (.int x0), .val (.int x1)] [])) st13 ?_
  refine own_retV X13 hx Bd.returns hlk (hb hby own_b2_d19) (by decide) (by decide) ?_
  show Q2 Z a d x0 x1 h0 n0 _ T13.heap _
  rw [e13]
  have u16 := Fw2.other W7 (Or.inr (slot_ne (Or.inr (hw _ (List.mem_of_getElem? (i := 15) rfl))) (Or.inl (hw _ (List.mem_of_getElem? (i := 17) rfl))) (by decide) (t := (.array .byte)) (t' := .int) (by decide) (by decide)))
  have u17 := u16.other W13 (Or.inr (slot_ne (Or.inr (hw _ (List.mem_of_getElem? (i := 15) rfl))) (Or.inr (hw _ (List.mem_of_getElem? (i := 19) rfl))) (by decide) (t := (.array .byte)) (t' := .int) (by decide) (by decide)))
  have u18 := Fw7.other W13 (Or.inr (slot_ne (Or.inl (hw _ (List.mem_of_getElem? (i := 17) rfl))) (Or.inr (hw _ (List.mem_of_getElem? (i := 19) rfl))) (by decide) (t := .int) (t' := .int) (by decide) (by decide)))
  exact ⟨rfl, N13, K15, u17, u18, Fw13⟩
theorem own_b5_d0 : decode prog_5_method_19_code 0 = .ok (.iload_n 1, 1) := by decide +kernel
theorem own_b5_d1 : decode prog_5_method_19_code 1 = .ok (.ifCond .lt 16, 3) := by decide +kernel
theorem own_b5_d4 : decode prog_5_method_19_code 4 = .ok (.iload_n 1, 1) := by decide +kernel
theorem own_b5_d5 : decode prog_5_method_19_code 5 = .ok (.aload_n 0, 1) := by decide +kernel
theorem own_b5_d6 : decode prog_5_method_19_code 6 = .ok (.getfield 17, 3) := by decide +kernel
theorem own_b5_d9 : decode prog_5_method_19_code 9 = .ok (.aload_n 0, 1) := by decide +kernel
theorem own_b5_d10 : decode prog_5_method_19_code 10 = .ok (.getfield 13, 3) := by decide +kernel
theorem own_b5_d13 : decode prog_5_method_19_code 13 = .ok (.isub, 1) := by decide +kernel
theorem own_b5_d14 : decode prog_5_method_19_code 14 = .ok (.if_icmp .le 13, 3) := by decide +kernel
theorem own_b5_d27 : decode prog_5_method_19_code 27 = .ok (.return_, 1) := by decide +kernel
theorem own_ef_rm5 (m : MethodId) (x0 : Addr) (x1 : Int32) : entryFrame m #[(.ref x0), (.int x1)] 2 = mkF m 0 #[.val (.ref x0), .val (.int x1)] [] := by first | (simp [entryFrame, mkF, argsToLocals, Value.category]; done) | rfl
def Q5 (Z : State) (a : Addr) (y : Int32) (x0 : Int32) (x1 : Int32) (h0 : Heap) (n0 : Nat) (v : Option Value) (h : Heap) (L : List Loc) : Prop := v = none ∧ Fr n0 L ∧ h = h0
set_option maxRecDepth 65536 in
set_option maxHeartbeats 40000000 in
theorem rm5 (l : Launch) (Z : State) (a0 : Array Value) (hw : ∀ d ∈ tables_1, d.before a0 Z = true) (ws : List Jvm.Cond) (a : Addr) (y : Int32) (x0 : Int32) (x1 : Int32) (h0 : Heap) (n0 : Nat) (Z0 : n0 ≤ h0.size) (F1 : Fld Z h0 a "com/example/syncline/syncline/ByteCursor" "position" "I" (.int x0)) (F2 : Fld Z h0 a "com/example/syncline/syncline/ByteCursor" "end" "I" (.int x1)) (hl : ¬ (y < (0 : Int32))) (hn : ¬ ((x1 - x0) < y)) :
    MetFree l (⟨"com/example/syncline/syncline/ByteCursor", "need", "(I)V"⟩ : MethodName) (head1 (Jvm.Cond.code (⟨"com/example/syncline/syncline/ByteCursor", "need", "(I)V"⟩ : MethodName) prog_5_method_19_code 2 none :: ws) ({ frames := 0, cells := 0, slots := 0, locals := 0 } : Room)) (fun aa_ U_ => aa_ = #[(.ref a), (.int y)] ∧ Z.Warmed39 U_.vm ∧ U_.heap = h0) (fun _ _ _ _ _ => True) (fun _ U_ o_ U1_ => ∃ v_ L_, o_ = .returned v_ ∧ Q5 Z a y x0 x1 h0 n0 v_ U1_.heap L_ ∧ FrameEnd U_ o_ U1_ L_ ({ frames := 0, cells := 0, slots := 0, locals := 0 } : Room).cells ({ frames := 0, cells := 0, slots := 0, locals := 0 } : Room).slots) := by
  refine MetFree.of_bodySF (plainFor_of_name own_pn1) hisR ?_
  intro p e s m args below meth c s₁ Bd hml0 hP hK
  obtain ⟨rfl, hZ, hh⟩ := hP
  have hx := Bd.exec
  have hby := Bd.bytes
  have hlk := Bd.notSynchronized
  have hml : c.maxLocals = 2 := hml0
  have hown : s.vm.findClass "com/example/syncline/syncline/ByteCursor" = some m.cls := findClass_of_methodNamed Bd.named
  have hnm := (name_of_methodNamed Bd.named Bd.method).1
  have X0 : Stand p l e ({ frames := 0, cells := 0, slots := 0, locals := 0 } : Room) s m #[(.ref a), (.int y)] below meth c s₁ [] 0 0 := Stand.of_body Bd
  have e0 : s₁.heap = h0 := by rw [← hh, Bd.state]; rfl
  have N0 := Fr.nil n0
  show own_E p e below s (Q5 Z a y x0 x1 h0 n0) ({ frames := 0, cells := 0, slots := 0, locals := 0 } : Room).cells ({ frames := 0, cells := 0, slots := 0, locals := 0 } : Room).slots (s₁.setTop (entryFrame m #[(.ref a), (.int y)] 2))
  refine own_st (B := s₁.setTop (mkF m 0 #[.val (.ref a), .val (.int y)] [])) (fun t_ k_ => castTop (own_ef_rm5 m a y) k_) ?_
  refine own_st (B := s₁.setTop (mkF m 1 #[.val (.ref a), .val (.int y)] [(.int y)])) (fun t_ k_ => XS.iloadN X0.here hx rfl (hb hby own_b5_d0) rfl k_) ?_
  have hc1 : ¬ (y < (0 : Int32)) := hl
  have hd1 := own_nlt32 hc1
  rw [show (0 : Int32).toInt = 0 from rfl] at hd1
  refine own_st (B := s₁.setTop (mkF m 4 #[.val (.ref a), .val (.int y)] [])) (fun t_ k_ => XS.ifNo X0.here hx rfl (hb hby own_b5_d1) rfl ((if0 _ _).trans (flt hc1).1) k_) ?_
  refine own_st (B := s₁.setTop (mkF m 5 #[.val (.ref a), .val (.int y)] [(.int y)])) (fun t_ k_ => XS.iloadN X0.here hx rfl (hb hby own_b5_d4) rfl k_) ?_
  refine own_st (B := s₁.setTop (mkF m 6 #[.val (.ref a), .val (.int y)] [(.ref a), (.int y)])) (fun t_ k_ => XS.aloadN X0.here hx rfl (hb hby own_b5_d5) rfl rfl k_) ?_
  obtain ⟨T2, X2, e2, st2⟩ := getF X0 hx hZ hown (host := "") (Or.inl (hw _ (List.mem_of_getElem? (i := 18) rfl))) Via.refl e0 F2 (g := (mkF m 6 #[.val (.ref a), .val (.int y)] [(.ref a), (.int y)])) rfl rfl (hb hby own_b5_d6)
  refine own_st (B := T2.setTop (mkF m 9 #[.val (.ref a), .val (.int y)] [(.int x1), (.int y)])) st2 ?_
  refine own_st (B := T2.setTop (mkF m 10 #[.val (.ref a), .val (.int y)] [(.ref a), (.int x1), (.int y)])) (fun t_ k_ => XS.aloadN X2.here hx rfl (hb hby own_b5_d9) rfl rfl k_) ?_
  obtain ⟨T3, X3, e3, st3⟩ := getF X2 hx hZ hown (host := "") (Or.inl (hw _ (List.mem_of_getElem? (i := 16) rfl))) Via.refl e2 F1 (g := (mkF m 10 #[.val (.ref a), .val (.int y)] [(.ref a), (.int x1), (.int y)])) rfl rfl (hb hby own_b5_d10)
  refine own_st (B := T3.setTop (mkF m 13 #[.val (.ref a), .val (.int y)] [(.int x0), (.int x1), (.int y)])) st3 ?_
  refine own_st (B := T3.setTop (mkF m 14 #[.val (.ref a), .val (.int y)] [(.int (x1 - x0)), (.int y)])) (fun t_ k_ => XS.isub X3.here hx rfl (hb hby own_b5_d13) rfl k_) ?_
  have hc4 : ¬ ((x1 - x0) < y) := hn
  have hd4 := own_nlt32 hc4
  refine own_st (B := T3.setTop (mkF m 27 #[.val (.ref a), .val (.int y)] [])) (fun t_ k_ => XS.icmpYes X3.here hx rfl (pc0 := 14) (pc' := 27) rfl (hb hby own_b5_d14) rfl (flt hc4).2.2.2 (by decide) (by decide) k_) ?_
  refine own_retV X3 hx Bd.returns hlk (hb hby own_b5_d27) (by decide) (by decide) ?_
  show Q5 Z a y x0 x1 h0 n0 _ T3.heap _
  rw [e3]
  exact ⟨rfl, N0, rfl⟩
theorem own_pd0 : parseMethodDescriptor "(I)V" = some ⟨[.int], none⟩ := by decide +kernel
theorem own_b4_d0 : decode prog_5_method_8_code 0 = .ok (.aload_n 0, 1) := by decide +kernel
theorem own_b4_d1 : decode prog_5_method_8_code 1 = .ok (.iload_n 1, 1) := by decide +kernel
theorem own_b4_d2 : decode prog_5_method_8_code 2 = .ok (.invokevirtual 20, 3) := by decide +kernel
theorem own_b4_d5 : decode prog_5_method_8_code 5 = .ok (.lconst 0, 1) := by decide +kernel
theorem own_b4_d6 : decode prog_5_method_8_code 6 = .ok (.lstore_n 2, 1) := by decide +kernel
theorem own_b4_d7 : decode prog_5_method_8_code 7 = .ok (.iload_n 1, 1) := by decide +kernel
theorem own_b4_d8 : decode prog_5_method_8_code 8 = .ok (.iconst 1, 1) := by decide +kernel
theorem own_b4_d9 : decode prog_5_method_8_code 9 = .ok (.isub, 1) := by decide +kernel
theorem own_b4_d10 : decode prog_5_method_8_code 10 = .ok (.istore 4, 2) := by decide +kernel
theorem own_b4_d12 : decode prog_5_method_8_code 12 = .ok (.iload 4, 2) := by decide +kernel
theorem own_b4_d14 : decode prog_5_method_8_code 14 = .ok (.ifCond .lt 32, 3) := by decide +kernel
theorem own_b4_d17 : decode prog_5_method_8_code 17 = .ok (.lload_n 2, 1) := by decide +kernel
theorem own_b4_d18 : decode prog_5_method_8_code 18 = .ok (.bipush 8, 2) := by decide +kernel
theorem own_b4_d20 : decode prog_5_method_8_code 20 = .ok (.lshl, 1) := by decide +kernel
theorem own_b4_d21 : decode prog_5_method_8_code 21 = .ok (.aload_n 0, 1) := by decide +kernel
theorem own_b4_d22 : decode prog_5_method_8_code 22 = .ok (.getfield 7, 3) := by decide +kernel
theorem own_b4_d25 : decode prog_5_method_8_code 25 = .ok (.aload_n 0, 1) := by decide +kernel
theorem own_b4_d26 : decode prog_5_method_8_code 26 = .ok (.getfield 13, 3) := by decide +kernel
theorem own_b4_d29 : decode prog_5_method_8_code 29 = .ok (.iload 4, 2) := by decide +kernel
theorem own_b4_d31 : decode prog_5_method_8_code 31 = .ok (.iadd, 1) := by decide +kernel
theorem own_b4_d32 : decode prog_5_method_8_code 32 = .ok (.baload, 1) := by decide +kernel
theorem own_b4_d33 : decode prog_5_method_8_code 33 = .ok (.sipush 255, 3) := by decide +kernel
theorem own_b4_d36 : decode prog_5_method_8_code 36 = .ok (.iand, 1) := by decide +kernel
theorem own_b4_d37 : decode prog_5_method_8_code 37 = .ok (.i2l, 1) := by decide +kernel
theorem own_b4_d38 : decode prog_5_method_8_code 38 = .ok (.lor, 1) := by decide +kernel
theorem own_b4_d39 : decode prog_5_method_8_code 39 = .ok (.lstore_n 2, 1) := by decide +kernel
theorem own_b4_d40 : decode prog_5_method_8_code 40 = .ok (.iinc 4 (-1), 3) := by decide +kernel
theorem own_b4_d43 : decode prog_5_method_8_code 43 = .ok (.goto (-31), 3) := by decide +kernel
theorem own_b4_d46 : decode prog_5_method_8_code 46 = .ok (.aload_n 0, 1) := by decide +kernel
theorem own_b4_d47 : decode prog_5_method_8_code 47 = .ok (.dup, 1) := by decide +kernel
theorem own_b4_d48 : decode prog_5_method_8_code 48 = .ok (.getfield 13, 3) := by decide +kernel
theorem own_b4_d51 : decode prog_5_method_8_code 51 = .ok (.iload_n 1, 1) := by decide +kernel
theorem own_b4_d52 : decode prog_5_method_8_code 52 = .ok (.iadd, 1) := by decide +kernel
theorem own_b4_d53 : decode prog_5_method_8_code 53 = .ok (.putfield 13, 3) := by decide +kernel
theorem own_b4_d56 : decode prog_5_method_8_code 56 = .ok (.lload_n 2, 1) := by decide +kernel
theorem own_b4_d57 : decode prog_5_method_8_code 57 = .ok (.lreturn, 1) := by decide +kernel
theorem own_ef_rm4 (m : MethodId) (x0 : Addr) (x1 : Int32) : entryFrame m #[(.ref x0), (.int x1)] 5 = mkF m 0 #[.val (.ref x0), .val (.int x1), .unset, .unset, .unset] [] := by first | (simp [entryFrame, mkF, argsToLocals, Value.category]; done) | rfl
def Q4 (Z : State) (a : Addr) (d : Addr) (y : Int32) (x0 : Int32) (x1 : Int32) (kp : Nat) (kl : Nat) (f : Nat → Int32) (h0 : Heap) (n0 : Nat) (v : Option Value) (h : Heap) (L : List Loc) : Prop := v = some (.long (own_g f kp kl kl)) ∧ Fr n0 L ∧ Keep h0 h [a] ∧ Fld Z h a "com/example/syncline/syncline/ByteCursor" "position" "I" (.int (x0 + y)) ∧ Fld Z h a "com/example/syncline/syncline/ByteCursor" "end" "I" (.int x1)
set_option maxRecDepth 65536 in
set_option maxHeartbeats 40000000 in
theorem rm4 (l : Launch) (Z : State) (a0 : Array Value) (hw : ∀ d ∈ tables_1, d.before a0 Z = true) (ws : List Jvm.Cond) (a : Addr) (d : Addr) (y : Int32) (x0 : Int32) (x1 : Int32) (kp : Nat) (kl : Nat) (f : Nat → Int32) (h0 : Heap) (n0 : Nat) (Z0 : n0 ≤ h0.size) (E : Exa Z h0 a "com/example/syncline/syncline/ByteCursor") (F0 : Fld Z h0 a "com/example/syncline/syncline/ByteCursor" "bytes" "[B" (.ref d)) (F1 : Fld Z h0 a "com/example/syncline/syncline/ByteCursor" "position" "I" (.int x0)) (F2 : Fld Z h0 a "com/example/syncline/syncline/ByteCursor" "end" "I" (.int x1)) (A : own_A Z h0 d .byte 16 f) (ga : n0 ≤ a) (hl : ¬ (y < (0 : Int32))) (hn : ¬ ((x1 - x0) < y)) (hkp : x0.toInt = kp) (hkl : y.toInt = kl) (hk8 : kl ≤ 8) (hkn : kp + kl ≤ 16) :
    MetFree l (⟨"com/example/syncline/syncline/ByteCursor", "unsigned", "(I)J"⟩ : MethodName) (head1 (Jvm.Cond.code (⟨"com/example/syncline/syncline/ByteCursor", "unsigned", "(I)J"⟩ : MethodName) prog_5_method_8_code 5 (some .long) :: ws) ({ frames := 1, cells := 0, slots := 0, locals := 13 } : Room)) (fun aa_ U_ => aa_ = #[(.ref a), (.int y)] ∧ Z.Warmed39 U_.vm ∧ U_.heap = h0) (fun _ _ _ _ _ => True) (fun _ U_ o_ U1_ => ∃ v_ L_, o_ = .returned v_ ∧ Q4 Z a d y x0 x1 kp kl f h0 n0 v_ U1_.heap L_ ∧ FrameEnd U_ o_ U1_ L_ ({ frames := 1, cells := 0, slots := 0, locals := 13 } : Room).cells ({ frames := 1, cells := 0, slots := 0, locals := 13 } : Room).slots) := by
  refine MetFree.of_bodySF (plainFor_of_name own_pn1) hisR ?_
  intro p e s m args below meth c s₁ Bd hml0 hP hK
  obtain ⟨rfl, hZ, hh⟩ := hP
  have hx := Bd.exec
  have hby := Bd.bytes
  have hlk := Bd.notSynchronized
  have hml : c.maxLocals = 5 := hml0
  have hown : s.vm.findClass "com/example/syncline/syncline/ByteCursor" = some m.cls := findClass_of_methodNamed Bd.named
  have hnm := (name_of_methodNamed Bd.named Bd.method).1
  have X0 : Stand p l e ({ frames := 1, cells := 0, slots := 0, locals := 13 } : Room) s m #[(.ref a), (.int y)] below meth c s₁ [] 0 0 := Stand.of_body Bd
  have e0 : s₁.heap = h0 := by rw [← hh, Bd.state]; rfl
  have N0 := Fr.nil n0
  show own_E p e below s (Q4 Z a d y x0 x1 kp kl f h0 n0) ({ frames := 1, cells := 0, slots := 0, locals := 13 } : Room).cells ({ frames := 1, cells := 0, slots := 0, locals := 13 } : Room).slots (s₁.setTop (entryFrame m #[(.ref a), (.int y)] 5))
  refine own_st (B := s₁.setTop (mkF m 0 #[.val (.ref a), .val (.int y), .unset, .unset, .unset] [])) (fun t_ k_ => castTop (own_ef_rm4 m a y) k_) ?_
  have K0 : Keep h0 h0 [a] := Keep.refl _ _
  refine own_st (B := s₁.setTop (mkF m 1 #[.val (.ref a), .val (.int y), .unset, .unset, .unset] [(.ref a)])) (fun t_ k_ => XS.aloadN X0.here hx rfl (hb hby own_b4_d0) rfl rfl k_) ?_
  refine own_st (B := s₁.setTop (mkF m 2 #[.val (.ref a), .val (.int y), .unset, .unset, .unset] [(.int y), (.ref a)])) (fun t_ k_ => XS.iloadN X0.here hx rfl (hb hby own_b4_d1) rfl k_) ?_
  obtain ⟨cq1, q1, q1'⟩ := E.cell
  obtain ⟨_, _, ⟨T1, Lq1, kq1, nq1⟩, -, X1, ⟨Lc1, hQ1, lq1, yq1, zq1⟩, st1⟩ := X0.privateBack hx (y := (⟨"com/example/syncline/syncline/ByteCursor", "need", "(I)V"⟩ : MethodName)) hown (mvT hZ (hw _ (List.mem_of_getElem? (i := 25) rfl))) (mvT hZ (hw _ (List.mem_of_getElem? (i := 26) rfl))) (own_selP (y := (⟨"com/example/syncline/syncline/ByteCursor", "need", "(I)V"⟩ : MethodName)) (mvT hZ (hw _ (List.mem_of_getElem? (i := 6) rfl))) (Cond.privateMethod_at (mvP hZ (hw _ (List.mem_of_getElem? (i := 27) rfl)) (args := #[]))) (mvT hZ (hw _ (List.mem_of_getElem? (i := 26) rfl))) (by decide)) (Cond.privateMethod_at (mvP hZ (hw _ (List.mem_of_getElem? (i := 27) rfl)) (args := #[]))) (mvT hZ (hw _ (List.mem_of_getElem? (i := 28) rfl))) (by decide) (backOf (W := 0) (rm5 l Z a0 hw [] a y x0 x1 h0 n0 Z0 F1 F2 hl hn) hZ (hw _ (List.mem_of_getElem? (i := 28) rfl)) (hw _ (List.mem_of_getElem? (i := 7) rfl)) (by decide) (by decide)) (g := (mkF m 2 #[.val (.ref a), .val (.int y), .unset, .unset, .unset] [(.int y), (.ref a)])) rfl (by rw [hml]; rfl) (Steps.refl _) (a := a) (by rw [e0]; exact q1) q1' (argsL := [(.int y)]) (rest := []) (lenOf own_pd0 rfl) rfl (by show 2 * 0 + _ ≤ _; exact Nat.le_of_eq rfl) (hb hby own_b4_d2) (fun _ _ => ⟨rfl, e0, (by decide : 0 + 0 ≤ _), (by decide : 0 + 0 ≤ _)⟩)
  dsimp only [Pt.U, Pt.locs, Pt.cells, Pt.slots] at X1 lq1 yq1 zq1 st1 hQ1
  rw [lq1, yq1, zq1] at X1
  have X1 : Stand p l e _ s m _ below meth c T1 _ 0 0 := X1
  obtain ⟨rfl, N1q, eh1⟩ := hQ1
  have N1 := Fr.app N0 N1q
  refine own_st (B := T1.setTop (mkF m 5 #[.val (.ref a), .val (.int y), .unset, .unset, .unset] [])) (fun t_ k_ => st1.trans k_) ?_
  refine own_st (B := T1.setTop (mkF m 6 #[.val (.ref a), .val (.int y), .unset, .unset, .unset] [(.long (0 : Int64))])) (fun t_ k_ => XS.lconst X1.here hx rfl (hb hby own_b4_d5) k_) ?_
  refine own_st (B := T1.setTop (mkF m 7 #[.val (.ref a), .val (.int y), .val (.long (0 : Int64)), .second, .unset] [])) (fun t_ k_ => XS.lstoreN X1.here hx rfl (hb hby own_b4_d6) rfl (l' := #[.val (.ref a), .val (.int y), .val (.long (0 : Int64)), .second, .unset]) rfl k_) ?_
  refine own_st (B := T1.setTop (mkF m 8 #[.val (.ref a), .val (.int y), .val (.long (0 : Int64)), .second, .unset] [(.int y)])) (fun t_ k_ => XS.iloadN X1.here hx rfl (hb hby own_b4_d7) rfl k_) ?_
  refine own_st (B := T1.setTop (mkF m 9 #[.val (.ref a), .val (.int y), .val (.long (0 : Int64)), .second, .unset] [(.int (1 : Int32)), (.int y)])) (fun t_ k_ => XS.iconst X1.here hx rfl (hb hby own_b4_d8) k_) ?_
  refine own_st (B := T1.setTop (mkF m 10 #[.val (.ref a), .val (.int y), .val (.long (0 : Int64)), .second, .unset] [(.int (y - (1 : Int32)))])) (fun t_ k_ => XS.isub X1.here hx rfl (hb hby own_b4_d9) rfl k_) ?_
  refine own_st (B := T1.setTop (mkF m 12 #[.val (.ref a), .val (.int y), .val (.long (0 : Int64)), .second, .val (.int (y - (1 : Int32)))] [])) (fun t_ k_ => XS.istore X1.here hx rfl (hb hby own_b4_d10) rfl (l' := #[.val (.ref a), .val (.int y), .val (.long (0 : Int64)), .second, .val (.int (y - (1 : Int32)))]) rfl k_) ?_
  rw [← own_g_z f kp kl]
  have lp2 : ∀ (q : Nat) (Tlp2 : State) (lolp2 : List Loc) (Xlp2 : Stand p l e ({ frames := 1, cells := 0, slots := 0, locals := 13 } : Room) s m #[(.ref a), (.int y)] below meth c Tlp2 lolp2 0 0) (elp2 : Tlp2.heap = h0) (Nlp2 : Fr n0 lolp2) (t' : Nat) (j : Int32), (q + t' = kl) → (j.toInt = (kl : Int) - 1 - t') → own_E p e below s (Q4 Z a d y x0 x1 kp kl f h0 n0) ({ frames := 1, cells := 0, slots := 0, locals := 13 } : Room).cells ({ frames := 1, cells := 0, slots := 0, locals := 13 } : Room).slots (Tlp2.setTop (mkF m 12 #[.val (.ref a), .val (.int y), .val (.long (own_g f kp kl t')), .second, .val (.int j)] [])) := by
    intro q
    induction q using Nat.strongRecOn with
    | _ q ih =>
      intro Tlp2 lolp2 Xlp2 elp2 Nlp2 t' j hq hj
      refine own_st (B := Tlp2.setTop (mkF m 14 #[.val (.ref a), .val (.int y), .val (.long (own_g f kp kl t')), .second, .val (.int j)] [(.int j)])) (fun t_ k_ => XS.iload Xlp2.here hx rfl (hb hby own_b4_d12) rfl k_) ?_
      by_cases hc3 : j < (0 : Int32)
      · have hd3 := own_lt32 hc3
        rw [show (0 : Int32).toInt = 0 from rfl] at hd3
        refine own_st (B := Tlp2.setTop (mkF m 46 #[.val (.ref a), .val (.int y), .val (.long (own_g f kp kl t')), .second, .val (.int j)] [])) (fun t_ k_ => XS.ifYes Xlp2.here hx rfl (pc0 := 14) (pc' := 46) rfl (hb hby own_b4_d14) rfl ((if0 _ _).trans (tlt hc3).1) (by decide) (by decide) k_) ?_
        refine own_st (B := Tlp2.setTop (mkF m 47 #[.val (.ref a), .val (.int y), .val (.long (own_g f kp kl t')), .second, .val (.int j)] [(.ref a)])) (fun t_ k_ => XS.aloadN Xlp2.here hx rfl (hb hby own_b4_d46) rfl rfl k_) ?_
        refine own_st (B := Tlp2.setTop (mkF m 48 #[.val (.ref a), .val (.int y), .val (.long (own_g f kp kl t')), .second, .val (.int j)] [(.ref a), (.ref a)])) (fun t_ k_ => XS.dup Xlp2.here hx rfl (hb hby own_b4_d47) rfl rfl k_) ?_
        obtain ⟨T4, X4, e4, st4⟩ := getF Xlp2 hx hZ hown (host := "") (Or.inl (hw _ (List.mem_of_getElem? (i := 16) rfl))) Via.refl elp2 F1 (g := (mkF m 48 #[.val (.ref a), .val (.int y), .val (.long (own_g f kp kl t')), .second, .val (.int j)] [(.ref a), (.ref a)])) rfl rfl (hb hby own_b4_d48)
        refine own_st (B := T4.setTop (mkF m 51 #[.val (.ref a), .val (.int y), .val (.long (own_g f kp kl t')), .second, .val (.int j)] [(.int x0), (.ref a)])) st4 ?_
        refine own_st (B := T4.setTop (mkF m 52 #[.val (.ref a), .val (.int y), .val (.long (own_g f kp kl t')), .second, .val (.int j)] [(.int y), (.int x0), (.ref a)])) (fun t_ k_ => XS.iloadN X4.here hx rfl (hb hby own_b4_d51) rfl k_) ?_
        refine own_st (B := T4.setTop (mkF m 53 #[.val (.ref a), .val (.int y), .val (.long (own_g f kp kl t')), .second, .val (.int j)] [(.int (x0 + y)), (.ref a)])) (fun t_ k_ => XS.iadd X4.here hx rfl (hb hby own_b4_d52) rfl k_) ?_
        obtain ⟨T5, h5, X5, e5, W5, st5⟩ := putF X4 hx hZ hown (host := "") (Or.inl (hw _ (List.mem_of_getElem? (i := 16) rfl))) Via.refl e4 F1 E (Or.inl (hw _ (List.mem_of_getElem? (i := 17) rfl))) (hw _ (List.mem_of_getElem? (i := 6) rfl)) (ty := .int) (by decide) rfl rfl (g := (mkF m 53 #[.val (.ref a), .val (.int y), .val (.long (own_g f kp kl t')), .second, .val (.int j)] [(.int (x0 + y)), (.ref a)])) rfl rfl (hb hby own_b4_d53)
        have Fw5 := F1.same W5
        have N5 := Fr.snoc X5 Nlp2 ga
        have Z6 := Nat.le_trans Z0 (Keep.of_wr W5).1
        have K7 := K0.wr W5 (Or.inl (List.mem_of_getElem? (i := 0) rfl))
        refine own_st (B := T5.setTop (mkF m 56 #[.val (.ref a), .val (.int y), .val (.long (own_g f kp kl t')), .second, .val (.int j)] [])) st5 ?_
        refine own_st (B := T5.setTop (mkF m 57 #[.val (.ref a), .val (.int y), .val (.long (own_g f kp kl t')), .second, .val (.int j)] [(.long (own_g f kp kl t'))])) (fun t_ k_ => XS.lloadN X5.here hx rfl (hb hby own_b4_d56) rfl k_) ?_
        refine own_retJ X5 hx Bd.returns hlk (hb hby own_b4_d57) (by decide) (by decide) ?_
        show Q4 Z a d y x0 x1 kp kl f h0 n0 _ T5.heap _
        rw [e5]
        have u8 := F2.other W5 (Or.inr (slot_ne (Or.inr (hw _ (List.mem_of_getElem? (i := 19) rfl))) (Or.inl (hw _ (List.mem_of_getElem? (i := 17) rfl))) (by decide) (t := .int) (t' := .int) (by decide) (by decide)))
        have ht : t' = kl := by omega
        rw [ht]
        exact ⟨rfl, N5, K7, Fw5, u8⟩
      · have hd3 := own_nlt32 hc3
        rw [show (0 : Int32).toInt = 0 from rfl] at hd3
        refine own_st (B := Tlp2.setTop (mkF m 17 #[.val (.ref a), .val (.int y), .val (.long (own_g f kp kl t')), .second, .val (.int j)] [])) (fun t_ k_ => XS.ifNo Xlp2.here hx rfl (hb hby own_b4_d14) rfl ((if0 _ _).trans (flt hc3).1) k_) ?_
        refine own_st (B := Tlp2.setTop (mkF m 18 #[.val (.ref a), .val (.int y), .val (.long (own_g f kp kl t')), .second, .val (.int j)] [(.long (own_g f kp kl t'))])) (fun t_ k_ => XS.lloadN Xlp2.here hx rfl (hb hby own_b4_d17) rfl k_) ?_
        refine own_st (B := Tlp2.setTop (mkF m 20 #[.val (.ref a), .val (.int y), .val (.long (own_g f kp kl t')), .second, .val (.int j)] [(.int (8 : Int32)), (.long (own_g f kp kl t'))])) (fun t_ k_ => XS.bipush Xlp2.here hx rfl (hb hby own_b4_d18) k_) ?_
        refine own_st (B := Tlp2.setTop (mkF m 21 #[.val (.ref a), .val (.int y), .val (.long (own_g f kp kl t')), .second, .val (.int j)] [(.long ((own_g f kp kl t') <<< ((8 : Int32) &&& 0x3f).toInt64))])) (fun t_ k_ => XS.lshl Xlp2.here hx rfl (hb hby own_b4_d20) rfl k_) ?_
        refine own_st (B := Tlp2.setTop (mkF m 22 #[.val (.ref a), .val (.int y), .val (.long (own_g f kp kl t')), .second, .val (.int j)] [(.ref a), (.long ((own_g f kp kl t') <<< ((8 : Int32) &&& 0x3f).toInt64))])) (fun t_ k_ => XS.aloadN Xlp2.here hx rfl (hb hby own_b4_d21) rfl rfl k_) ?_
        obtain ⟨T9, X9, e9, st9⟩ := getF Xlp2 hx hZ hown (host := "") (Or.inl (hw _ (List.mem_of_getElem? (i := 14) rfl))) Via.refl elp2 F0 (g := (mkF m 22 #[.val (.ref a), .val (.int y), .val (.long (own_g f kp kl t')), .second, .val (.int j)] [(.ref a), (.long ((own_g f kp kl t') <<< ((8 : Int32) &&& 0x3f).toInt64))])) rfl rfl (hb hby own_b4_d22)
        refine own_st (B := T9.setTop (mkF m 25 #[.val (.ref a), .val (.int y), .val (.long (own_g f kp kl t')), .second, .val (.int j)] [(.ref d), (.long ((own_g f kp kl t') <<< ((8 : Int32) &&& 0x3f).toInt64))])) st9 ?_
        refine own_st (B := T9.setTop (mkF m 26 #[.val (.ref a), .val (.int y), .val (.long (own_g f kp kl t')), .second, .val (.int j)] [(.ref a), (.ref d), (.long ((own_g f kp kl t') <<< ((8 : Int32) &&& 0x3f).toInt64))])) (fun t_ k_ => XS.aloadN X9.here hx rfl (hb hby own_b4_d25) rfl rfl k_) ?_
        obtain ⟨T10, X10, e10, st10⟩ := getF X9 hx hZ hown (host := "") (Or.inl (hw _ (List.mem_of_getElem? (i := 16) rfl))) Via.refl e9 F1 (g := (mkF m 26 #[.val (.ref a), .val (.int y), .val (.long (own_g f kp kl t')), .second, .val (.int j)] [(.ref a), (.ref d), (.long ((own_g f kp kl t') <<< ((8 : Int32) &&& 0x3f).toInt64))])) rfl rfl (hb hby own_b4_d26)
        refine own_st (B := T10.setTop (mkF m 29 #[.val (.ref a), .val (.int y), .val (.long (own_g f kp kl t')), .second, .val (.int j)] [(.int x0), (.ref d), (.long ((own_g f kp kl t') <<< ((8 : Int32) &&& 0x3f).toInt64))])) st10 ?_
        refine own_st (B := T10.setTop (mkF m 31 #[.val (.ref a), .val (.int y), .val (.long (own_g f kp kl t')), .second, .val (.int j)] [(.int j), (.int x0), (.ref d), (.long ((own_g f kp kl t') <<< ((8 : Int32) &&& 0x3f).toInt64))])) (fun t_ k_ => XS.iload X10.here hx rfl (hb hby own_b4_d29) rfl k_) ?_
        refine own_st (B := T10.setTop (mkF m 32 #[.val (.ref a), .val (.int y), .val (.long (own_g f kp kl t')), .second, .val (.int j)] [(.int (x0 + j)), (.ref d), (.long ((own_g f kp kl t') <<< ((8 : Int32) &&& 0x3f).toInt64))])) (fun t_ k_ => XS.iadd X10.here hx rfl (hb hby own_b4_d31) rfl k_) ?_
        refine own_st (B := T10.setTop (mkF m 33 #[.val (.ref a), .val (.int y), .val (.long (own_g f kp kl t')), .second, .val (.int j)] [(.int (f (kp + (kl - 1 - t')))), (.long ((own_g f kp kl t') <<< ((8 : Int32) &&& 0x3f).toInt64))])) (fun t_ k_ => own_ldB X10 hx hZ e10 A (i := (kp + (kl - 1 - t'))) (own_ixu hk8 hkn hkp hj hd3) (by omega) (hb hby own_b4_d32) t_ k_) ?_
        refine own_st (B := T10.setTop (mkF m 36 #[.val (.ref a), .val (.int y), .val (.long (own_g f kp kl t')), .second, .val (.int j)] [(.int (255 : Int32)), (.int (f (kp + (kl - 1 - t')))), (.long ((own_g f kp kl t') <<< ((8 : Int32) &&& 0x3f).toInt64))])) (fun t_ k_ => XS.sipush X10.here hx rfl (hb hby own_b4_d33) k_) ?_
        refine own_st (B := T10.setTop (mkF m 37 #[.val (.ref a), .val (.int y), .val (.long (own_g f kp kl t')), .second, .val (.int j)] [(.int ((f (kp + (kl - 1 - t'))) &&& (255 : Int32))), (.long ((own_g f kp kl t') <<< ((8 : Int32) &&& 0x3f).toInt64))])) (fun t_ k_ => XS.iand X10.here hx rfl (hb hby own_b4_d36) rfl k_) ?_
        refine own_st (B := T10.setTop (mkF m 38 #[.val (.ref a), .val (.int y), .val (.long (own_g f kp kl t')), .second, .val (.int j)] [(.long (((f (kp + (kl - 1 - t'))) &&& (255 : Int32)).toInt64)), (.long ((own_g f kp kl t') <<< ((8 : Int32) &&& 0x3f).toInt64))])) (fun t_ k_ => XS.i2l X10.here hx rfl (hb hby own_b4_d37) rfl k_) ?_
        refine own_st (B := T10.setTop (mkF m 39 #[.val (.ref a), .val (.int y), .val (.long (own_g f kp kl t')), .second, .val (.int j)] [(.long (((own_g f kp kl t') <<< ((8 : Int32) &&& 0x3f).toInt64) ||| (((f (kp + (kl - 1 - t'))) &&& (255 : Int32)).toInt64)))])) (fun t_ k_ => XS.lor X10.here hx rfl (hb hby own_b4_d38) rfl k_) ?_
        refine own_st (B := T10.setTop (mkF m 40 #[.val (.ref a), .val (.int y), .val (.long (((own_g f kp kl t') <<< ((8 : Int32) &&& 0x3f).toInt64) ||| (((f (kp + (kl - 1 - t'))) &&& (255 : Int32)).toInt64))), .second, .val (.int j)] [])) (fun t_ k_ => XS.lstoreN X10.here hx rfl (hb hby own_b4_d39) rfl (l' := #[.val (.ref a), .val (.int y), .val (.long (((own_g f kp kl t') <<< ((8 : Int32) &&& 0x3f).toInt64) ||| (((f (kp + (kl - 1 - t'))) &&& (255 : Int32)).toInt64))), .second, .val (.int j)]) rfl k_) ?_
        rw [← own_g_s f kp kl t']
        refine own_st (B := T10.setTop (mkF m 43 #[.val (.ref a), .val (.int y), .val (.long (own_g f kp kl (t' + 1))), .second, .val (.int (j + (-1 : Int32)))] [])) (fun t_ k_ => XS.iinc X10.here hx rfl (hb hby own_b4_d40) rfl (l' := #[.val (.ref a), .val (.int y), .val (.long (own_g f kp kl (t' + 1))), .second, .val (.int (j + (-1 : Int32)))]) rfl k_) ?_
        refine own_st (B := T10.setTop (mkF m 12 #[.val (.ref a), .val (.int y), .val (.long (own_g f kp kl (t' + 1))), .second, .val (.int (j + (-1 : Int32)))] [])) (fun t_ k_ => XS.goto X10.here hx rfl (pc0 := 43) (pc' := 12) rfl (hb hby own_b4_d43) (by decide) (by decide) k_) ?_
        exact ih (q - 1) (by omega) _ _ X10 e10 Nlp2 (t' + 1) (j + (-1 : Int32)) (by omega) (own_dec hk8 hj hd3)
  exact lp2 kl _ _ X1 eh1 N1 0 (y - (1 : Int32)) (by omega) (own_dec0 hk8 hkl)
theorem own_b6_d0 : decode prog_5_method_2_code 0 = .ok (.aload_n 0, 1) := by decide +kernel
theorem own_b6_d1 : decode prog_5_method_2_code 1 = .ok (.getfield 13, 3) := by decide +kernel
theorem own_b6_d4 : decode prog_5_method_2_code 4 = .ok (.ireturn, 1) := by decide +kernel
theorem own_ef_rm6 (m : MethodId) (x0 : Addr) : entryFrame m #[(.ref x0)] 1 = mkF m 0 #[.val (.ref x0)] [] := by first | (simp [entryFrame, mkF, argsToLocals, Value.category]; done) | rfl
def Q6 (Z : State) (a : Addr) (u : Int32) (h0 : Heap) (n0 : Nat) (v : Option Value) (h : Heap) (L : List Loc) : Prop := v = some (.int u) ∧ Fr n0 L ∧ h = h0
set_option maxRecDepth 65536 in
set_option maxHeartbeats 40000000 in
theorem rm6 (l : Launch) (Z : State) (a0 : Array Value) (hw : ∀ d ∈ tables_1, d.before a0 Z = true) (ws : List Jvm.Cond) (a : Addr) (u : Int32) (h0 : Heap) (n0 : Nat) (Z0 : n0 ≤ h0.size) (F : Fld Z h0 a "com/example/syncline/syncline/ByteCursor" "position" "I" (.int u)) :
    MetFree l (⟨"com/example/syncline/syncline/ByteCursor", "position", "()I"⟩ : MethodName) (head1 (Jvm.Cond.code (⟨"com/example/syncline/syncline/ByteCursor", "position", "()I"⟩ : MethodName) prog_5_method_2_code 1 (some .int) :: ws) ({ frames := 0, cells := 0, slots := 0, locals := 0 } : Room)) (fun aa_ U_ => aa_ = #[(.ref a)] ∧ Z.Warmed39 U_.vm ∧ U_.heap = h0) (fun _ _ _ _ _ => True) (fun _ U_ o_ U1_ => ∃ v_ L_, o_ = .returned v_ ∧ Q6 Z a u h0 n0 v_ U1_.heap L_ ∧ FrameEnd U_ o_ U1_ L_ ({ frames := 0, cells := 0, slots := 0, locals := 0 } : Room).cells ({ frames := 0, cells := 0, slots := 0, locals := 0 } : Room).slots) := by
  refine MetFree.of_bodySF (plainFor_of_name own_pn1) hisR ?_
  intro p e s m args below meth c s₁ Bd hml0 hP hK
  obtain ⟨rfl, hZ, hh⟩ := hP
  have hx := Bd.exec
  have hby := Bd.bytes
  have hlk := Bd.notSynchronized
  have hml : c.maxLocals = 1 := hml0
  have hown : s.vm.findClass "com/example/syncline/syncline/ByteCursor" = some m.cls := findClass_of_methodNamed Bd.named
  have hnm := (name_of_methodNamed Bd.named Bd.method).1
  have X0 : Stand p l e ({ frames := 0, cells := 0, slots := 0, locals := 0 } : Room) s m #[(.ref a)] below meth c s₁ [] 0 0 := Stand.of_body Bd
  have e0 : s₁.heap = h0 := by rw [← hh, Bd.state]; rfl
  have N0 := Fr.nil n0
  show own_E p e below s (Q6 Z a u h0 n0) ({ frames := 0, cells := 0, slots := 0, locals := 0 } : Room).cells ({ frames := 0, cells := 0, slots := 0, locals := 0 } : Room).slots (s₁.setTop (entryFrame m #[(.ref a)] 1))
  refine own_st (B := s₁.setTop (mkF m 0 #[.val (.ref a)] [])) (fun t_ k_ => castTop (own_ef_rm6 m a) k_) ?_
  refine own_st (B := s₁.setTop (mkF m 1 #[.val (.ref a)] [(.ref a)])) (fun t_ k_ => XS.aloadN X0.here hx rfl (hb hby own_b6_d0) rfl rfl k_) ?_
  obtain ⟨T1, X1, e1, st1⟩ := getF X0 hx hZ hown (host := "") (Or.inl (hw _ (List.mem_of_getElem? (i := 16) rfl))) Via.refl e0 F (g := (mkF m 1 #[.val (.ref a)] [(.ref a)])) rfl rfl (hb hby own_b6_d1)
  refine own_st (B := T1.setTop (mkF m 4 #[.val (.ref a)] [(.int u)])) st1 ?_
  refine own_retI X1 hx Bd.returns hlk (hb hby own_b6_d4) (by decide) (by decide) ?_
  show Q6 Z a u h0 n0 _ T1.heap _
  rw [e1]
  exact ⟨rfl, N0, rfl⟩
theorem own_b7_d0 : decode prog_5_method_3_code 0 = .ok (.aload_n 0, 1) := by decide +kernel
theorem own_b7_d1 : decode prog_5_method_3_code 1 = .ok (.getfield 17, 3) := by decide +kernel
theorem own_b7_d4 : decode prog_5_method_3_code 4 = .ok (.aload_n 0, 1) := by decide +kernel
theorem own_b7_d5 : decode prog_5_method_3_code 5 = .ok (.getfield 13, 3) := by decide +kernel
theorem own_b7_d8 : decode prog_5_method_3_code 8 = .ok (.isub, 1) := by decide +kernel
theorem own_b7_d9 : decode prog_5_method_3_code 9 = .ok (.ireturn, 1) := by decide +kernel
theorem own_ef_rm7 (m : MethodId) (x0 : Addr) : entryFrame m #[(.ref x0)] 1 = mkF m 0 #[.val (.ref x0)] [] := by first | (simp [entryFrame, mkF, argsToLocals, Value.category]; done) | rfl
def Q7 (Z : State) (a : Addr) (x0 : Int32) (x1 : Int32) (h0 : Heap) (n0 : Nat) (v : Option Value) (h : Heap) (L : List Loc) : Prop := v = some (.int (x1 - x0)) ∧ Fr n0 L ∧ h = h0
set_option maxRecDepth 65536 in
set_option maxHeartbeats 40000000 in
theorem rm7 (l : Launch) (Z : State) (a0 : Array Value) (hw : ∀ d ∈ tables_1, d.before a0 Z = true) (ws : List Jvm.Cond) (a : Addr) (x0 : Int32) (x1 : Int32) (h0 : Heap) (n0 : Nat) (Z0 : n0 ≤ h0.size) (F1 : Fld Z h0 a "com/example/syncline/syncline/ByteCursor" "position" "I" (.int x0)) (F2 : Fld Z h0 a "com/example/syncline/syncline/ByteCursor" "end" "I" (.int x1)) :
    MetFree l (⟨"com/example/syncline/syncline/ByteCursor", "remaining", "()I"⟩ : MethodName) (head1 (Jvm.Cond.code (⟨"com/example/syncline/syncline/ByteCursor", "remaining", "()I"⟩ : MethodName) prog_5_method_3_code 1 (some .int) :: ws) ({ frames := 0, cells := 0, slots := 0, locals := 0 } : Room)) (fun aa_ U_ => aa_ = #[(.ref a)] ∧ Z.Warmed39 U_.vm ∧ U_.heap = h0) (fun _ _ _ _ _ => True) (fun _ U_ o_ U1_ => ∃ v_ L_, o_ = .returned v_ ∧ Q7 Z a x0 x1 h0 n0 v_ U1_.heap L_ ∧ FrameEnd U_ o_ U1_ L_ ({ frames := 0, cells := 0, slots := 0, locals := 0 } : Room).cells ({ frames := 0, cells := 0, slots := 0, locals := 0 } : Room).slots) := by
  refine MetFree.of_bodySF (plainFor_of_name own_pn1) hisR ?_
  intro p e s m args below meth c s₁ Bd hml0 hP hK
  obtain ⟨rfl, hZ, hh⟩ := hP
  have hx := Bd.exec
  have hby := Bd.bytes
  have hlk := Bd.notSynchronized
  have hml : c.maxLocals = 1 := hml0
  have hown : s.vm.findClass "com/example/syncline/syncline/ByteCursor" = some m.cls := findClass_of_methodNamed Bd.named
  have hnm := (name_of_methodNamed Bd.named Bd.method).1
  have X0 : Stand p l e ({ frames := 0, cells := 0, slots := 0, locals := 0 } : Room) s m #[(.ref a)] below meth c s₁ [] 0 0 := Stand.of_body Bd
  have e0 : s₁.heap = h0 := by rw [← hh, Bd.state]; rfl
  have N0 := Fr.nil n0
  show own_E p e below s (Q7 Z a x0 x1 h0 n0) ({ frames := 0, cells := 0, slots := 0, locals := 0 } : Room).cells ({ frames := 0, cells := 0, slots := 0, locals := 0 } : Room).slots (s₁.setTop (entryFrame m #[(.ref a)] 1))
  refine own_st (B := s₁.setTop (mkF m 0 #[.val (.ref a)] [])) (fun t_ k_ => castTop (own_ef_rm7 m a) k_) ?_
  refine own_st (B := s₁.setTop (mkF m 1 #[.val (.ref a)] [(.ref a)])) (fun t_ k_ => XS.aloadN X0.here hx rfl (hb hby own_b7_d0) rfl rfl k_) ?_
  obtain ⟨T1, X1, e1, st1⟩ := getF X0 hx hZ hown (host := "") (Or.inl (hw _ (List.mem_of_getElem? (i := 18) rfl))) Via.refl e0 F2 (g := (mkF m 1 #[.val (.ref a)] [(.ref a)])) rfl rfl (hb hby own_b7_d1)
  refine own_st (B := T1.setTop (mkF m 4 #[.val (.ref a)] [(.int x1)])) st1 ?_
  refine own_st (B := T1.setTop (mkF m 5 #[.val (.ref a)] [(.ref a), (.int x1)])) (fun t_ k_ => XS.aloadN X1.here hx rfl (hb hby own_b7_d4) rfl rfl k_) ?_
  obtain ⟨T2, X2, e2, st2⟩ := getF X1 hx hZ hown (host := "") (Or.inl (hw _ (List.mem_of_getElem? (i := 16) rfl))) Via.refl e1 F1 (g := (mkF m 5 #[.val (.ref a)] [(.ref a), (.int x1)])) rfl rfl (hb hby own_b7_d5)
  refine own_st (B := T2.setTop (mkF m 8 #[.val (.ref a)] [(.int x0), (.int x1)])) st2 ?_
  refine own_st (B := T2.setTop (mkF m 9 #[.val (.ref a)] [(.int (x1 - x0))])) (fun t_ k_ => XS.isub X2.here hx rfl (hb hby own_b7_d8) rfl k_) ?_
  refine own_retI X2 hx Bd.returns hlk (hb hby own_b7_d9) (by decide) (by decide) ?_
  show Q7 Z a x0 x1 h0 n0 _ T2.heap _
  rw [e2]
  exact ⟨rfl, N0, rfl⟩
theorem own_u64 (w : Int64) : w.toInt % 18446744073709551616 = (w.toBitVec.toNat : Int) := by
  show w.toBitVec.toInt % _ = _
  rw [BitVec.toInt_eq_toNat_cond]; have := w.toBitVec.isLt; split <;> omega
/-- the k-th byte of w, as a natural -/
theorem own_shb (w : Int64) (i : Nat) (hi : i < 8) (k : Int32) (hk : k.toInt = i) : (own_sh w k).toInt % 256 = ((w.toBitVec.toNat / 2 ^ (8 * i) % 256 : Nat) : Int) := by
  have hk' : k = Int32.ofNat i := by rw [← Int32.toInt_inj, hk]; exact (Int32.toInt_ofNat_of_lt (by omega)).symm
  have hu := own_u64 w
  unfold own_sh
  have h1 := c_i2b ((w.toUInt64 >>> (((8 : Int32) * k) &&& 0x3f).toInt64.toUInt64).toInt64).toInt32
  have h2 := c_l2i ((w.toUInt64 >>> (((8 : Int32) * k) &&& 0x3f).toInt64.toUInt64).toInt64)
  have h3 : (((w.toUInt64 >>> (((8 : Int32) * k) &&& 0x3f).toInt64.toUInt64).toInt64).toInt) % 256 = ((w.toBitVec.toNat / 2 ^ (8 * i) % 256 : Nat) : Int) := by
    by_cases h0 : i = 0
    · subst h0
      rw [hk', show ((8 : Int32) * Int32.ofNat 0 &&& 0x3f).toInt64.toUInt64 = 0 from by decide]
      simp only [Nat.mul_zero, Nat.pow_zero, Nat.div_one]
      have : (w.toUInt64 >>> (0 : UInt64)).toInt64 = w := by
        rw [show w.toUInt64 >>> (0 : UInt64) = w.toUInt64 from by simp]; simp
      rw [this]; omega
    · have hm : ((8 : Int32) * k).toBitVec.toNat % 64 = 8 * i := by
        rw [hk']
        have : i = 1 ∨ i = 2 ∨ i = 3 ∨ i = 4 ∨ i = 5 ∨ i = 6 ∨ i = 7 := by omega
        rcases this with rfl | rfl | rfl | rfl | rfl | rfl | rfl <;> decide
      have h4 := c_lushr w ((8 : Int32) * k) (8 * i) hm (by omega)
      rw [h4, hu, Int.natCast_emod, Int.natCast_ediv]
      rfl
  omega
theorem own_ld8 (x : Int64) (b : Int64) (hx : x.toBitVec.toNat < 2 ^ 56) (hb : 0 ≤ b.toInt) (hb' : b.toInt < 256) : ((x <<< ((8 : Int32) &&& 0x3f).toInt64 ||| b).toBitVec.toNat : Int) = x.toBitVec.toNat * 256 + b.toInt := by
  have h1 := c_lshl x 8 8 (by decide)
  have hu := own_u64 x
  have r1 := rng64 (x <<< ((8 : Int32) &&& 0x3f).toInt64)
  generalize x <<< ((8 : Int32) &&& 0x3f).toInt64 = y at *
  have hu3 := own_u64 (y ||| b)
  rw [show ((2 ^ 8 : Nat) : Int) = 256 from rfl] at h1
  have h2 := c_orL y b 8 (by decide) 256 rfl (by omega) hb hb'
  omega
theorem own_gv (f : Nat → Int32) (kp kl : Nat) (w : Int64) (hl : kl ≤ 8) (hf : ∀ i, i < kl → (f (kp + i)).toInt % 256 = ((w.toBitVec.toNat / 2 ^ (8 * i) % 256 : Nat) : Int)) : ∀ t, t ≤ kl → (own_g f kp kl t).toBitVec.toNat = w.toBitVec.toNat / 2 ^ (8 * (kl - t)) % 2 ^ (8 * t)
  | 0, _ => by simp [own_g, Nat.mod_one]
  | t + 1, ht => by
    have ih := own_gv f kp kl w hl hf t (by omega)
    have hb := hf (kl - 1 - t) (by omega)
    have hm := c_mask (f (kp + (kl - 1 - t))) 255 8 (by decide) (by decide)
    rw [show ((2 ^ 8 : Nat) : Int) = 256 from rfl, hb] at hm
    have hlt : (own_g f kp kl t).toBitVec.toNat < 2 ^ 56 := by
      rw [ih]
      refine Nat.lt_of_lt_of_le (Nat.mod_lt _ (Nat.two_pow_pos _)) (Nat.pow_le_pow_right (by decide) (by omega))
    have hc := c_i2l (f (kp + (kl - 1 - t)) &&& 255)
    have h8 := own_ld8 (own_g f kp kl t) ((f (kp + (kl - 1 - t)) &&& 255).toInt64) hlt (by omega) (by omega)
    rw [hc, hm, ih] at h8
    have e1 : kl - (t + 1) = kl - 1 - t := by omega
    have e2 : kl - t = (kl - 1 - t) + 1 := by omega
    rw [own_g_s]
    rw [e1]; rw [e2] at h8
    generalize w.toBitVec.toNat = U at *
    generalize kl - 1 - t = r at *
    have e3 : U / 2 ^ (8 * (r + 1)) = U / 2 ^ (8 * r) / 256 := by rw [show 8 * (r + 1) = 8 * r + 8 by omega, Nat.pow_add, ← Nat.div_div_eq_div_mul]
    rw [e3] at h8
    generalize U / 2 ^ (8 * r) = W at *
    have e4 : W % 2 ^ (8 * (t + 1)) = W % 256 + 256 * (W / 256 % 2 ^ (8 * t)) := by rw [show 8 * (t + 1) = 8 + 8 * t by omega, Nat.pow_add, show 2 ^ 8 = 256 from rfl, Nat.mod_mul]
    rw [e4]; omega
theorem own_F {st : Int32} {ks : Nat} {w0 w1 : Int64} (hs : st.toInt = ks) (hk : ks < 4) (i : Nat) (hi : i < 8) : (own_at (Int32.ofNat (ks + i)) st w0 w1).toInt % 256 = ((w0.toBitVec.toNat / 2 ^ (8 * i) % 256 : Nat) : Int) := by
  have e1 : (Int32.ofNat (ks + i)).toInt = ks + i := Int32.toInt_ofNat_of_lt (by omega)
  have h1 := c_isub (Int32.ofNat (ks + i)) st; have h2 := rng32 (Int32.ofNat (ks + i) - st)
  have e2 : (Int32.ofNat (ks + i) - st).toInt = i := by omega
  have n1 : ¬ (Int32.ofNat (ks + i) - st < 0) := by rw [Int32.lt_iff_toInt_lt, e2, show (0 : Int32).toInt = 0 from rfl]; omega
  have n2 : Int32.ofNat (ks + i) - st < 8 := by rw [Int32.lt_iff_toInt_lt, e2, show (8 : Int32).toInt = 8 from rfl]; omega
  unfold own_at; rw [if_neg n1, if_pos n2]; exact own_shb w0 i hi _ e2
def own_exp (y : Int32) (w : Int64) : Int64 := if y = 8 then w else w &&& (((1 : Int64) <<< (((8 : Int32) * y) &&& 0x3f).toInt64) - (1 : Int64))
theorem own_toNat {x y : Int64} (h : x.toBitVec.toNat = y.toBitVec.toNat) : x = y := Int64.toBitVec_inj.mp (BitVec.eq_of_toNat_eq h)
theorem own_key {st y : Int32} {kp kl : Nat} {w0 w1 : Int64} {f : Nat → Int32} (hf : ∀ j, j < 16 → f j = own_at (Int32.ofNat j) st w0 w1) (hs : st.toInt = kp) (hk : kp < 4) (hy : y.toInt = kl) (h1 : 1 ≤ kl) (h8 : kl ≤ 8) : own_g f kp kl kl = own_exp y w0 := by
  have hg := own_gv f kp kl w0 h8 (fun i hi => by rw [hf _ (by omega)]; exact own_F hs hk i (by omega)) kl (Nat.le_refl _)
  rw [Nat.sub_self, Nat.mul_zero, Nat.pow_zero, Nat.div_one] at hg
  have hy' : y = Int32.ofNat kl := by rw [← Int32.toInt_inj, hy]; exact (Int32.toInt_ofNat_of_lt (by omega)).symm
  apply own_toNat
  rw [hg]
  have hlt := w0.toBitVec.isLt
  unfold own_exp
  have hm : ∀ k, k ≤ 63 → ∀ M : Int64, M.toBitVec.toNat = 2 ^ k - 1 → w0.toBitVec.toNat % 2 ^ k = (w0 &&& M).toBitVec.toNat := by
    intro k hk M hM
    have c1 := c_maskL w0 M k hk hM
    have c2 := own_u64 (w0 &&& M); have c3 := own_u64 w0
    have : (w0 &&& M).toBitVec.toNat = w0.toBitVec.toNat % 2 ^ k := by
      rw [Int64.toBitVec_and, BitVec.toNat_and, hM, Nat.and_two_pow_sub_one_eq_mod]
    exact this.symm
  have : kl = 1 ∨ kl = 2 ∨ kl = 3 ∨ kl = 4 ∨ kl = 5 ∨ kl = 6 ∨ kl = 7 ∨ kl = 8 := by omega
  rcases this with rfl | rfl | rfl | rfl | rfl | rfl | rfl | rfl <;> subst hy'
  · rw [if_neg (by decide)]; exact hm 8 (by decide) _ (by decide)
  · rw [if_neg (by decide)]; exact hm 16 (by decide) _ (by decide)
  · rw [if_neg (by decide)]; exact hm 24 (by decide) _ (by decide)
  · rw [if_neg (by decide)]; exact hm 32 (by decide) _ (by decide)
  · rw [if_neg (by decide)]; exact hm 40 (by decide) _ (by decide)
  · rw [if_neg (by decide)]; exact hm 48 (by decide) _ (by decide)
  · rw [if_neg (by decide)]; exact hm 56 (by decide) _ (by decide)
  · rw [if_pos (by decide)]; exact Nat.mod_eq_of_lt hlt
theorem own_sub2 (x y : Int32) : (x + y) - x = y := by
  rw [← Int32.toInt_inj]; have h1 := c_iadd x y; have h2 := c_isub (x + y) x; have r1 := rng32 (x + y); have r2 := rng32 (x + y - x); have r3 := rng32 y; have r4 := rng32 x; omega
theorem own_b16 (f : Nat → Int32) (g : Nat → Int32) (h : ∀ j : Fin 16, f j = g j) : ∀ j, j < 16 → f j = g j := fun j hj => h ⟨j, hj⟩
theorem own_natb (i st : Int32) (w0 w1 : Int64) : nar .byte (own_at i st w0 w1) = own_at i st w0 w1 := by
  unfold own_at own_sh; split
  · exact own_nbb _
  · split <;> exact own_nbb _
theorem own_pd1 : parseMethodDescriptor "(IIJJ)B" = some ⟨[.int, .int, .long, .long], some .byte⟩ := by decide +kernel
theorem own_pd2 : parseMethodDescriptor "([BII)V" = some ⟨[(.array .byte), .int, .int], none⟩ := by decide +kernel
theorem own_pd3 : parseMethodDescriptor "(I)J" = some ⟨[.int], some .long⟩ := by decide +kernel
theorem own_pd4 : parseMethodDescriptor "()I" = some ⟨[], some .int⟩ := by decide +kernel
theorem own_ef_rm0 (m : MethodId) (x0 : Int64) (x1 : Int64) (x2 : Int32) (x3 : Int32) (x4 : Int32) : entryFrame m #[(.long x0), (.long x1), (.int x2), (.int x3), (.int x4)] maxLocals = mkF m 0 #[.val (.long x0), .second, .val (.long x1), .second, .val (.int x2), .val (.int x3), .val (.int x4), .unset, .unset, .unset, .unset, .unset, .unset, .unset, .unset, .unset] [] := by first | (simp [entryFrame, mkF, argsToLocals, Value.category, maxLocals]; done) | rfl
def Q0 (Z : State) (u0 : Int64) (u1 : Int64) (u2 : Int32) (u3 : Int32) (u4 : Int32) (h0 : Heap) (n0 : Nat) (v : Option Value) (h : Heap) (L : List Loc) : Prop := v = some (.int 1) ∧ Fr n0 L
set_option maxRecDepth 65536 in
set_option maxHeartbeats 40000000 in
theorem rm0 (l : Launch) (Z : State) (a0 : Array Value) (hw : ∀ d ∈ tables_1, d.before a0 Z = true) (ws : List Jvm.Cond) (u0 : Int64) (u1 : Int64) (u2 : Int32) (u3 : Int32) (u4 : Int32) (h0 : Heap) (n0 : Nat) (Z0 : n0 ≤ h0.size) :
    MetFree l x (head1 (Jvm.Cond.code x code maxLocals ret :: ws) room_1) (fun aa_ U_ => aa_ = #[(.long u0), (.long u1), (.int u2), (.int u3), (.int u4)] ∧ Z.Warmed39 U_.vm ∧ U_.heap = h0) (fun _ _ _ _ _ => True) (fun _ U_ o_ U1_ => ∃ v_ L_, o_ = .returned v_ ∧ Q0 Z u0 u1 u2 u3 u4 h0 n0 v_ U1_.heap L_ ∧ FrameEnd U_ o_ U1_ L_ 2 19) := by
  refine MetFree.of_bodySF (plainFor_of_name own_pn0) hisR ?_
  intro p e s m args below meth c s₁ Bd hml0 hP hK
  obtain ⟨rfl, hZ, hh⟩ := hP
  have hx := Bd.exec
  have hby := Bd.bytes
  have hlk := Bd.notSynchronized
  have hml : c.maxLocals = 16 := hml0
  have hown : s.vm.findClass "com/example/syncline/syncline/ByteCursorUnsignedPinLaw" = some m.cls := findClass_of_methodNamed Bd.named
  have hnm := (name_of_methodNamed Bd.named Bd.method).1
  have X0 : Stand p l e room_1 s m #[(.long u0), (.long u1), (.int u2), (.int u3), (.int u4)] below meth c s₁ [] 0 0 := Stand.of_body Bd
  have e0 : s₁.heap = h0 := by rw [← hh, Bd.state]; rfl
  have N0 := Fr.nil n0
  show own_E p e below s (Q0 Z u0 u1 u2 u3 u4 h0 n0) 2 19 (s₁.setTop (entryFrame m #[(.long u0), (.long u1), (.int u2), (.int u3), (.int u4)] maxLocals))
  refine own_st (B := s₁.setTop (mkF m 0 #[.val (.long u0), .second, .val (.long u1), .second, .val (.int u2), .val (.int u3), .val (.int u4), .unset, .unset, .unset, .unset, .unset, .unset, .unset, .unset, .unset] [])) (fun t_ k_ => castTop (own_ef_rm0 m u0 u1 u2 u3 u4) k_) ?_
  refine own_st (B := s₁.setTop (mkF m 2 #[.val (.long u0), .second, .val (.long u1), .second, .val (.int u2), .val (.int u3), .val (.int u4), .unset, .unset, .unset, .unset, .unset, .unset, .unset, .unset, .unset] [(.int u2)])) (fun t_ k_ => XS.iload X0.here hx rfl (hb hby at_0) rfl k_) ?_
  refine own_st (B := s₁.setTop (mkF m 4 #[.val (.long u0), .second, .val (.long u1), .second, .val (.int u2), .val (.int u3), .val (.int u4), .unset, .unset, .unset, .unset, .unset, .unset, .unset, .unset, .unset] [(.int (7 : Int32)), (.int u2)])) (fun t_ k_ => XS.bipush X0.here hx rfl (hb hby at_2) k_) ?_
  refine own_st (B := s₁.setTop (mkF m 5 #[.val (.long u0), .second, .val (.long u1), .second, .val (.int u2), .val (.int u3), .val (.int u4), .unset, .unset, .unset, .unset, .unset, .unset, .unset, .unset, .unset] [(.int (u2 &&& (7 : Int32)))])) (fun t_ k_ => XS.iand X0.here hx rfl (hb hby at_4) rfl k_) ?_
  refine own_st (B := s₁.setTop (mkF m 6 #[.val (.long u0), .second, .val (.long u1), .second, .val (.int u2), .val (.int u3), .val (.int u4), .unset, .unset, .unset, .unset, .unset, .unset, .unset, .unset, .unset] [(.int (1 : Int32)), (.int (u2 &&& (7 : Int32)))])) (fun t_ k_ => XS.iconst X0.here hx rfl (hb hby at_5) k_) ?_
  refine own_st (B := s₁.setTop (mkF m 7 #[.val (.long u0), .second, .val (.long u1), .second, .val (.int u2), .val (.int u3), .val (.int u4), .unset, .unset, .unset, .unset, .unset, .unset, .unset, .unset, .unset] [(.int ((u2 &&& (7 : Int32)) + (1 : Int32)))])) (fun t_ k_ => XS.iadd X0.here hx rfl (hb hby at_6) rfl k_) ?_
  refine own_st (B := s₁.setTop (mkF m 9 #[.val (.long u0), .second, .val (.long u1), .second, .val (.int u2), .val (.int u3), .val (.int u4), .val (.int ((u2 &&& (7 : Int32)) + (1 : Int32))), .unset, .unset, .unset, .unset, .unset, .unset, .unset, .unset] [])) (fun t_ k_ => XS.istore X0.here hx rfl (hb hby at_7) rfl (l' := #[.val (.long u0), .second, .val (.long u1), .second, .val (.int u2), .val (.int u3), .val (.int u4), .val (.int ((u2 &&& (7 : Int32)) + (1 : Int32))), .unset, .unset, .unset, .unset, .unset, .unset, .unset, .unset]) rfl k_) ?_
  refine own_st (B := s₁.setTop (mkF m 11 #[.val (.long u0), .second, .val (.long u1), .second, .val (.int u2), .val (.int u3), .val (.int u4), .val (.int ((u2 &&& (7 : Int32)) + (1 : Int32))), .unset, .unset, .unset, .unset, .unset, .unset, .unset, .unset] [(.int u3)])) (fun t_ k_ => XS.iload X0.here hx rfl (hb hby at_9) rfl k_) ?_
  refine own_st (B := s₁.setTop (mkF m 12 #[.val (.long u0), .second, .val (.long u1), .second, .val (.int u2), .val (.int u3), .val (.int u4), .val (.int ((u2 &&& (7 : Int32)) + (1 : Int32))), .unset, .unset, .unset, .unset, .unset, .unset, .unset, .unset] [(.int (3 : Int32)), (.int u3)])) (fun t_ k_ => XS.iconst X0.here hx rfl (hb hby at_11) k_) ?_
  refine own_st (B := s₁.setTop (mkF m 13 #[.val (.long u0), .second, .val (.long u1), .second, .val (.int u2), .val (.int u3), .val (.int u4), .val (.int ((u2 &&& (7 : Int32)) + (1 : Int32))), .unset, .unset, .unset, .unset, .unset, .unset, .unset, .unset] [(.int (u3 &&& (3 : Int32)))])) (fun t_ k_ => XS.iand X0.here hx rfl (hb hby at_12) rfl k_) ?_
  refine own_st (B := s₁.setTop (mkF m 15 #[.val (.long u0), .second, .val (.long u1), .second, .val (.int u2), .val (.int u3), .val (.int u4), .val (.int ((u2 &&& (7 : Int32)) + (1 : Int32))), .val (.int (u3 &&& (3 : Int32))), .unset, .unset, .unset, .unset, .unset, .unset, .unset] [])) (fun t_ k_ => XS.istore X0.here hx rfl (hb hby at_13) rfl (l' := #[.val (.long u0), .second, .val (.long u1), .second, .val (.int u2), .val (.int u3), .val (.int u4), .val (.int ((u2 &&& (7 : Int32)) + (1 : Int32))), .val (.int (u3 &&& (3 : Int32))), .unset, .unset, .unset, .unset, .unset, .unset, .unset]) rfl k_) ?_
  refine own_st (B := s₁.setTop (mkF m 17 #[.val (.long u0), .second, .val (.long u1), .second, .val (.int u2), .val (.int u3), .val (.int u4), .val (.int ((u2 &&& (7 : Int32)) + (1 : Int32))), .val (.int (u3 &&& (3 : Int32))), .unset, .unset, .unset, .unset, .unset, .unset, .unset] [(.int u4)])) (fun t_ k_ => XS.iload X0.here hx rfl (hb hby at_15) rfl k_) ?_
  refine own_st (B := s₁.setTop (mkF m 18 #[.val (.long u0), .second, .val (.long u1), .second, .val (.int u2), .val (.int u3), .val (.int u4), .val (.int ((u2 &&& (7 : Int32)) + (1 : Int32))), .val (.int (u3 &&& (3 : Int32))), .unset, .unset, .unset, .unset, .unset, .unset, .unset] [(.int (3 : Int32)), (.int u4)])) (fun t_ k_ => XS.iconst X0.here hx rfl (hb hby at_17) k_) ?_
  refine own_st (B := s₁.setTop (mkF m 19 #[.val (.long u0), .second, .val (.long u1), .second, .val (.int u2), .val (.int u3), .val (.int u4), .val (.int ((u2 &&& (7 : Int32)) + (1 : Int32))), .val (.int (u3 &&& (3 : Int32))), .unset, .unset, .unset, .unset, .unset, .unset, .unset] [(.int (u4 &&& (3 : Int32)))])) (fun t_ k_ => XS.iand X0.here hx rfl (hb hby at_18) rfl k_) ?_
  refine own_st (B := s₁.setTop (mkF m 21 #[.val (.long u0), .second, .val (.long u1), .second, .val (.int u2), .val (.int u3), .val (.int u4), .val (.int ((u2 &&& (7 : Int32)) + (1 : Int32))), .val (.int (u3 &&& (3 : Int32))), .val (.int (u4 &&& (3 : Int32))), .unset, .unset, .unset, .unset, .unset, .unset] [])) (fun t_ k_ => XS.istore X0.here hx rfl (hb hby at_19) rfl (l' := #[.val (.long u0), .second, .val (.long u1), .second, .val (.int u2), .val (.int u3), .val (.int u4), .val (.int ((u2 &&& (7 : Int32)) + (1 : Int32))), .val (.int (u3 &&& (3 : Int32))), .val (.int (u4 &&& (3 : Int32))), .unset, .unset, .unset, .unset, .unset, .unset]) rfl k_) ?_
  have q7 := c_and u2 7 (by decide); have q8 := c_and u3 3 (by decide); have q9 := c_and u4 3 (by decide)
  rw [show (7 : Int32).toInt = 7 from rfl] at q7; rw [show (3 : Int32).toInt = 3 from rfl] at q8 q9
  have q7' := c_iadd (u2 &&& 7) 1; have q7r := rng32 ((u2 &&& 7) + 1); rw [show (1 : Int32).toInt = 1 from rfl] at q7'
  obtain ⟨y7, hy7⟩ : ∃ y, y = ((u2 &&& (7 : Int32)) + (1 : Int32)) := ⟨_, rfl⟩
  obtain ⟨y8, hy8⟩ : ∃ y, y = (u3 &&& (3 : Int32)) := ⟨_, rfl⟩
  obtain ⟨y9, hy9⟩ : ∃ y, y = (u4 &&& (3 : Int32)) := ⟨_, rfl⟩
  rw [← hy7] at q7' q7r ⊢
  rw [← hy8] at q8 ⊢
  rw [← hy9] at q9 ⊢
  obtain ⟨kl, hkl⟩ : ∃ k : Nat, y7.toInt = k := ⟨y7.toInt.toNat, by omega⟩
  obtain ⟨kp, hkp⟩ : ∃ k : Nat, y8.toInt = k := ⟨y8.toInt.toNat, by omega⟩
  have hk1 : 1 ≤ kl := by omega
  have hk8 : kl ≤ 8 := by omega
  have hkp4 : kp < 4 := by omega
  refine own_st (B := s₁.setTop (mkF m 23 #[.val (.long u0), .second, .val (.long u1), .second, .val (.int u2), .val (.int u3), .val (.int u4), .val (.int y7), .val (.int y8), .val (.int y9), .unset, .unset, .unset, .unset, .unset, .unset] [(.int (16 : Int32))])) (fun t_ k_ => XS.bipush X0.here hx rfl (hb hby at_21) k_) ?_
  obtain ⟨T1, h1, k1, X1, e1, E1, A1, G1, st1⟩ := newPE X0 hx hZ (hw _ (List.mem_of_getElem? (i := 0) rfl)) e0 (g := (mkF m 23 #[.val (.long u0), .second, .val (.long u1), .second, .val (.int u2), .val (.int u3), .val (.int u4), .val (.int y7), .val (.int y8), .val (.int y9), .unset, .unset, .unset, .unset, .unset, .unset] [(.int (16 : Int32))])) rfl (hb hby at_23) rfl (by decide) (cap := 16) (by decide) (by decide) (by decide) (by decide) (ad := "[B") (by decide)
  obtain ⟨b1, g1⟩ : ∃ z, z = h0.size := ⟨_, rfl⟩
  rw [← g1] at A1 G1 st1
  have g2 : n0 ≤ b1 := Nat.le_trans Z0 (Nat.le_of_eq g1.symm)
  have Z3 := Nat.le_trans Z0 E1.1
  have X1 : Stand p l e _ s m _ below meth c T1 _ 1 16 := X1
  have a1 : own_A Z h1 b1 .byte 16 (fun _ => 0) := own_A.new A1 (by decide) rfl
  refine own_st (B := T1.setTop (mkF m 25 #[.val (.long u0), .second, .val (.long u1), .second, .val (.int u2), .val (.int u3), .val (.int u4), .val (.int y7), .val (.int y8), .val (.int y9), .unset, .unset, .unset, .unset, .unset, .unset] [(.ref b1)])) st1 ?_
  refine own_st (B := T1.setTop (mkF m 27 #[.val (.long u0), .second, .val (.long u1), .second, .val (.int u2), .val (.int u3), .val (.int u4), .val (.int y7), .val (.int y8), .val (.int y9), .val (.ref b1), .unset, .unset, .unset, .unset, .unset] [])) (fun t_ k_ => XS.astore X1.here hx rfl (hb hby at_25) rfl rfl (l' := #[.val (.long u0), .second, .val (.long u1), .second, .val (.int u2), .val (.int u3), .val (.int u4), .val (.int y7), .val (.int y8), .val (.int y9), .val (.ref b1), .unset, .unset, .unset, .unset, .unset]) rfl k_) ?_
  refine own_st (B := T1.setTop (mkF m 29 #[.val (.long u0), .second, .val (.long u1), .second, .val (.int u2), .val (.int u3), .val (.int u4), .val (.int y7), .val (.int y8), .val (.int y9), .val (.ref b1), .unset, .unset, .unset, .unset, .unset] [(.ref b1)])) (fun t_ k_ => XS.aload X1.here hx rfl (hb hby at_27) rfl rfl k_) ?_
  refine own_st (B := T1.setTop (mkF m 30 #[.val (.long u0), .second, .val (.long u1), .second, .val (.int u2), .val (.int u3), .val (.int u4), .val (.int y7), .val (.int y8), .val (.int y9), .val (.ref b1), .unset, .unset, .unset, .unset, .unset] [(.int (0 : Int32)), (.ref b1)])) (fun t_ k_ => XS.iconst X1.here hx rfl (hb hby at_29) k_) ?_
  refine own_st (B := T1.setTop (mkF m 31 #[.val (.long u0), .second, .val (.long u1), .second, .val (.int u2), .val (.int u3), .val (.int u4), .val (.int y7), .val (.int y8), .val (.int y9), .val (.ref b1), .unset, .unset, .unset, .unset, .unset] [(.int (0 : Int32)), (.int (0 : Int32)), (.ref b1)])) (fun t_ k_ => XS.iconst X1.here hx rfl (hb hby at_30) k_) ?_
  refine own_st (B := T1.setTop (mkF m 33 #[.val (.long u0), .second, .val (.long u1), .second, .val (.int u2), .val (.int u3), .val (.int u4), .val (.int y7), .val (.int y8), .val (.int y9), .val (.ref b1), .unset, .unset, .unset, .unset, .unset] [(.int y8), (.int (0 : Int32)), (.int (0 : Int32)), (.ref b1)])) (fun t_ k_ => XS.iload X1.here hx rfl (hb hby at_31) rfl k_) ?_
  refine own_st (B := T1.setTop (mkF m 34 #[.val (.long u0), .second, .val (.long u1), .second, .val (.int u2), .val (.int u3), .val (.int u4), .val (.int y7), .val (.int y8), .val (.int y9), .val (.ref b1), .unset, .unset, .unset, .unset, .unset] [(.long u0), (.int y8), (.int (0 : Int32)), (.int (0 : Int32)), (.ref b1)])) (fun t_ k_ => XS.lloadN X1.here hx rfl (hb hby at_33) rfl k_) ?_
  refine own_st (B := T1.setTop (mkF m 35 #[.val (.long u0), .second, .val (.long u1), .second, .val (.int u2), .val (.int u3), .val (.int u4), .val (.int y7), .val (.int y8), .val (.int y9), .val (.ref b1), .unset, .unset, .unset, .unset, .unset] [(.long u1), (.long u0), (.int y8), (.int (0 : Int32)), (.int (0 : Int32)), (.ref b1)])) (fun t_ k_ => XS.lloadN X1.here hx rfl (hb hby at_34) rfl k_) ?_
  obtain ⟨_, _, ⟨T4, Lq4, kq4, nq4⟩, -, X4, ⟨Lc4, hQ4, lq4, yq4, zq4⟩, st4⟩ := Jvm.LawKit.callS X1 hx (y := (⟨"com/example/syncline/syncline/ByteCursorUnsignedPinLaw", "at", "(IIJJ)B"⟩ : MethodName)) hown (mvT hZ (hw _ (List.mem_of_getElem? (i := 1) rfl))) (mvT hZ (hw _ (List.mem_of_getElem? (i := 2) rfl))) (mvT hZ (hw _ (List.mem_of_getElem? (i := 3) rfl))) (mvT hZ (hw _ (List.mem_of_getElem? (i := 4) rfl))) (by decide) (backOf (W := 2) (rm1 l Z a0 hw [] (0 : Int32) y8 u0 u1 h1 n0 Z3 ) hZ (hw _ (List.mem_of_getElem? (i := 4) rfl)) (hw _ (List.mem_of_getElem? (i := 3) rfl)) (by decide) (by decide)) (g := (mkF m 35 #[.val (.long u0), .second, .val (.long u1), .second, .val (.int u2), .val (.int u3), .val (.int u4), .val (.int y7), .val (.int y8), .val (.int y9), .val (.ref b1), .unset, .unset, .unset, .unset, .unset] [(.long u1), (.long u0), (.int y8), (.int (0 : Int32)), (.int (0 : Int32)), (.ref b1)])) rfl (by rw [hml]; rfl) (argsL := [(.int (0 : Int32)), (.int y8), (.long u0), (.long u1)]) (rest := [(.int (0 : Int32)), (.ref b1)]) (lenOf own_pd1 rfl) rfl (by show 2 * 0 + _ ≤ _; exact Nat.le_of_eq rfl) (hb hby at_35) (fun _ _ => ⟨rfl, e1, (by decide : 1 + 0 ≤ _), (by decide : 16 + 0 ≤ _)⟩)
  dsimp only [Pt.U, Pt.locs, Pt.cells, Pt.slots] at X4 lq4 yq4 zq4 st4 hQ4
  rw [lq4, yq4, zq4] at X4
  have X4 : Stand p l e _ s m _ below meth c T4 _ 1 16 := X4
  obtain ⟨rfl, N4q, eh4⟩ := hQ4
  have N4 := Fr.app N0 N4q
  refine own_st (B := T4.setTop (mkF m 38 #[.val (.long u0), .second, .val (.long u1), .second, .val (.int u2), .val (.int u3), .val (.int u4), .val (.int y7), .val (.int y8), .val (.int y9), .val (.ref b1), .unset, .unset, .unset, .unset, .unset] [(.int (own_at (0 : Int32) y8 u0 u1)), (.int (0 : Int32)), (.ref b1)])) st4 ?_
  obtain ⟨T5, h5, X5, e5, W5, a5, st5⟩ := own_stB X4 hx hZ eh4 a1 (i := 0) (j := (0 : Int32)) (by decide) (by decide) (pc := 38) (x := (own_at (0 : Int32) y8 u0 u1)) (Ls := #[.val (.long u0), .second, .val (.long u1), .second, .val (.int u2), .val (.int u3), .val (.int u4), .val (.int y7), .val (.int y8), .val (.int y9), .val (.ref b1), .unset, .unset, .unset, .unset, .unset]) (rest := []) (hb hby at_38)
  have N5 := Fr.snoc X5 N4 g2
  have Z6 := Nat.le_trans Z3 (Keep.of_wr W5).1
  refine own_st (B := T5.setTop (mkF m 39 #[.val (.long u0), .second, .val (.long u1), .second, .val (.int u2), .val (.int u3), .val (.int u4), .val (.int y7), .val (.int y8), .val (.int y9), .val (.ref b1), .unset, .unset, .unset, .unset, .unset] [])) st5 ?_
  refine own_st (B := T5.setTop (mkF m 41 #[.val (.long u0), .second, .val (.long u1), .second, .val (.int u2), .val (.int u3), .val (.int u4), .val (.int y7), .val (.int y8), .val (.int y9), .val (.ref b1), .unset, .unset, .unset, .unset, .unset] [(.ref b1)])) (fun t_ k_ => XS.aload X5.here hx rfl (hb hby at_39) rfl rfl k_) ?_
  refine own_st (B := T5.setTop (mkF m 42 #[.val (.long u0), .second, .val (.long u1), .second, .val (.int u2), .val (.int u3), .val (.int u4), .val (.int y7), .val (.int y8), .val (.int y9), .val (.ref b1), .unset, .unset, .unset, .unset, .unset] [(.int (1 : Int32)), (.ref b1)])) (fun t_ k_ => XS.iconst X5.here hx rfl (hb hby at_41) k_) ?_
  refine own_st (B := T5.setTop (mkF m 43 #[.val (.long u0), .second, .val (.long u1), .second, .val (.int u2), .val (.int u3), .val (.int u4), .val (.int y7), .val (.int y8), .val (.int y9), .val (.ref b1), .unset, .unset, .unset, .unset, .unset] [(.int (1 : Int32)), (.int (1 : Int32)), (.ref b1)])) (fun t_ k_ => XS.iconst X5.here hx rfl (hb hby at_42) k_) ?_
  refine own_st (B := T5.setTop (mkF m 45 #[.val (.long u0), .second, .val (.long u1), .second, .val (.int u2), .val (.int u3), .val (.int u4), .val (.int y7), .val (.int y8), .val (.int y9), .val (.ref b1), .unset, .unset, .unset, .unset, .unset] [(.int y8), (.int (1 : Int32)), (.int (1 : Int32)), (.ref b1)])) (fun t_ k_ => XS.iload X5.here hx rfl (hb hby at_43) rfl k_) ?_
  refine own_st (B := T5.setTop (mkF m 46 #[.val (.long u0), .second, .val (.long u1), .second, .val (.int u2), .val (.int u3), .val (.int u4), .val (.int y7), .val (.int y8), .val (.int y9), .val (.ref b1), .unset, .unset, .unset, .unset, .unset] [(.long u0), (.int y8), (.int (1 : Int32)), (.int (1 : Int32)), (.ref b1)])) (fun t_ k_ => XS.lloadN X5.here hx rfl (hb hby at_45) rfl k_) ?_
  refine own_st (B := T5.setTop (mkF m 47 #[.val (.long u0), .second, .val (.long u1), .second, .val (.int u2), .val (.int u3), .val (.int u4), .val (.int y7), .val (.int y8), .val (.int y9), .val (.ref b1), .unset, .unset, .unset, .unset, .unset] [(.long u1), (.long u0), (.int y8), (.int (1 : Int32)), (.int (1 : Int32)), (.ref b1)])) (fun t_ k_ => XS.lloadN X5.here hx rfl (hb hby at_46) rfl k_) ?_
  obtain ⟨_, _, ⟨T7, Lq7, kq7, nq7⟩, -, X7, ⟨Lc7, hQ7, lq7, yq7, zq7⟩, st7⟩ := Jvm.LawKit.callS X5 hx (y := (⟨"com/example/syncline/syncline/ByteCursorUnsignedPinLaw", "at", "(IIJJ)B"⟩ : MethodName)) hown (mvT hZ (hw _ (List.mem_of_getElem? (i := 1) rfl))) (mvT hZ (hw _ (List.mem_of_getElem? (i := 2) rfl))) (mvT hZ (hw _ (List.mem_of_getElem? (i := 3) rfl))) (mvT hZ (hw _ (List.mem_of_getElem? (i := 4) rfl))) (by decide) (backOf (W := 2) (rm1 l Z a0 hw [] (1 : Int32) y8 u0 u1 h5 n0 Z6 ) hZ (hw _ (List.mem_of_getElem? (i := 4) rfl)) (hw _ (List.mem_of_getElem? (i := 3) rfl)) (by decide) (by decide)) (g := (mkF m 47 #[.val (.long u0), .second, .val (.long u1), .second, .val (.int u2), .val (.int u3), .val (.int u4), .val (.int y7), .val (.int y8), .val (.int y9), .val (.ref b1), .unset, .unset, .unset, .unset, .unset] [(.long u1), (.long u0), (.int y8), (.int (1 : Int32)), (.int (1 : Int32)), (.ref b1)])) rfl (by rw [hml]; rfl) (argsL := [(.int (1 : Int32)), (.int y8), (.long u0), (.long u1)]) (rest := [(.int (1 : Int32)), (.ref b1)]) (lenOf own_pd1 rfl) rfl (by show 2 * 0 + _ ≤ _; exact Nat.le_of_eq rfl) (hb hby at_47) (fun _ _ => ⟨rfl, e5, (by decide : 1 + 0 ≤ _), (by decide : 16 + 0 ≤ _)⟩)
  dsimp only [Pt.U, Pt.locs, Pt.cells, Pt.slots] at X7 lq7 yq7 zq7 st7 hQ7
  rw [lq7, yq7, zq7] at X7
  have X7 : Stand p l e _ s m _ below meth c T7 _ 1 16 := X7
  obtain ⟨rfl, N7q, eh7⟩ := hQ7
  have N7 := Fr.app N5 N7q
  refine own_st (B := T7.setTop (mkF m 50 #[.val (.long u0), .second, .val (.long u1), .second, .val (.int u2), .val (.int u3), .val (.int u4), .val (.int y7), .val (.int y8), .val (.int y9), .val (.ref b1), .unset, .unset, .unset, .unset, .unset] [(.int (own_at (1 : Int32) y8 u0 u1)), (.int (1 : Int32)), (.ref b1)])) st7 ?_
  obtain ⟨T8, h8, X8, e8, W8, a8, st8⟩ := own_stB X7 hx hZ eh7 a5 (i := 1) (j := (1 : Int32)) (by decide) (by decide) (pc := 50) (x := (own_at (1 : Int32) y8 u0 u1)) (Ls := #[.val (.long u0), .second, .val (.long u1), .second, .val (.int u2), .val (.int u3), .val (.int u4), .val (.int y7), .val (.int y8), .val (.int y9), .val (.ref b1), .unset, .unset, .unset, .unset, .unset]) (rest := []) (hb hby at_50)
  have N8 := Fr.snoc X8 N7 g2
  have Z9 := Nat.le_trans Z6 (Keep.of_wr W8).1
  refine own_st (B := T8.setTop (mkF m 51 #[.val (.long u0), .second, .val (.long u1), .second, .val (.int u2), .val (.int u3), .val (.int u4), .val (.int y7), .val (.int y8), .val (.int y9), .val (.ref b1), .unset, .unset, .unset, .unset, .unset] [])) st8 ?_
  refine own_st (B := T8.setTop (mkF m 53 #[.val (.long u0), .second, .val (.long u1), .second, .val (.int u2), .val (.int u3), .val (.int u4), .val (.int y7), .val (.int y8), .val (.int y9), .val (.ref b1), .unset, .unset, .unset, .unset, .unset] [(.ref b1)])) (fun t_ k_ => XS.aload X8.here hx rfl (hb hby at_51) rfl rfl k_) ?_
  refine own_st (B := T8.setTop (mkF m 54 #[.val (.long u0), .second, .val (.long u1), .second, .val (.int u2), .val (.int u3), .val (.int u4), .val (.int y7), .val (.int y8), .val (.int y9), .val (.ref b1), .unset, .unset, .unset, .unset, .unset] [(.int (2 : Int32)), (.ref b1)])) (fun t_ k_ => XS.iconst X8.here hx rfl (hb hby at_53) k_) ?_
  refine own_st (B := T8.setTop (mkF m 55 #[.val (.long u0), .second, .val (.long u1), .second, .val (.int u2), .val (.int u3), .val (.int u4), .val (.int y7), .val (.int y8), .val (.int y9), .val (.ref b1), .unset, .unset, .unset, .unset, .unset] [(.int (2 : Int32)), (.int (2 : Int32)), (.ref b1)])) (fun t_ k_ => XS.iconst X8.here hx rfl (hb hby at_54) k_) ?_
  refine own_st (B := T8.setTop (mkF m 57 #[.val (.long u0), .second, .val (.long u1), .second, .val (.int u2), .val (.int u3), .val (.int u4), .val (.int y7), .val (.int y8), .val (.int y9), .val (.ref b1), .unset, .unset, .unset, .unset, .unset] [(.int y8), (.int (2 : Int32)), (.int (2 : Int32)), (.ref b1)])) (fun t_ k_ => XS.iload X8.here hx rfl (hb hby at_55) rfl k_) ?_
  refine own_st (B := T8.setTop (mkF m 58 #[.val (.long u0), .second, .val (.long u1), .second, .val (.int u2), .val (.int u3), .val (.int u4), .val (.int y7), .val (.int y8), .val (.int y9), .val (.ref b1), .unset, .unset, .unset, .unset, .unset] [(.long u0), (.int y8), (.int (2 : Int32)), (.int (2 : Int32)), (.ref b1)])) (fun t_ k_ => XS.lloadN X8.here hx rfl (hb hby at_57) rfl k_) ?_
  refine own_st (B := T8.setTop (mkF m 59 #[.val (.long u0), .second, .val (.long u1), .second, .val (.int u2), .val (.int u3), .val (.int u4), .val (.int y7), .val (.int y8), .val (.int y9), .val (.ref b1), .unset, .unset, .unset, .unset, .unset] [(.long u1), (.long u0), (.int y8), (.int (2 : Int32)), (.int (2 : Int32)), (.ref b1)])) (fun t_ k_ => XS.lloadN X8.here hx rfl (hb hby at_58) rfl k_) ?_
  obtain ⟨_, _, ⟨T10, Lq10, kq10, nq10⟩, -, X10, ⟨Lc10, hQ10, lq10, yq10, zq10⟩, st10⟩ := Jvm.LawKit.callS X8 hx (y := (⟨"com/example/syncline/syncline/ByteCursorUnsignedPinLaw", "at", "(IIJJ)B"⟩ : MethodName)) hown (mvT hZ (hw _ (List.mem_of_getElem? (i := 1) rfl))) (mvT hZ (hw _ (List.mem_of_getElem? (i := 2) rfl))) (mvT hZ (hw _ (List.mem_of_getElem? (i := 3) rfl))) (mvT hZ (hw _ (List.mem_of_getElem? (i := 4) rfl))) (by decide) (backOf (W := 2) (rm1 l Z a0 hw [] (2 : Int32) y8 u0 u1 h8 n0 Z9 ) hZ (hw _ (List.mem_of_getElem? (i := 4) rfl)) (hw _ (List.mem_of_getElem? (i := 3) rfl)) (by decide) (by decide)) (g := (mkF m 59 #[.val (.long u0), .second, .val (.long u1), .second, .val (.int u2), .val (.int u3), .val (.int u4), .val (.int y7), .val (.int y8), .val (.int y9), .val (.ref b1), .unset, .unset, .unset, .unset, .unset] [(.long u1), (.long u0), (.int y8), (.int (2 : Int32)), (.int (2 : Int32)), (.ref b1)])) rfl (by rw [hml]; rfl) (argsL := [(.int (2 : Int32)), (.int y8), (.long u0), (.long u1)]) (rest := [(.int (2 : Int32)), (.ref b1)]) (lenOf own_pd1 rfl) rfl (by show 2 * 0 + _ ≤ _; exact Nat.le_of_eq rfl) (hb hby at_59) (fun _ _ => ⟨rfl, e8, (by decide : 1 + 0 ≤ _), (by decide : 16 + 0 ≤ _)⟩)
  dsimp only [Pt.U, Pt.locs, Pt.cells, Pt.slots] at X10 lq10 yq10 zq10 st10 hQ10
  rw [lq10, yq10, zq10] at X10
  have X10 : Stand p l e _ s m _ below meth c T10 _ 1 16 := X10
  obtain ⟨rfl, N10q, eh10⟩ := hQ10
  have N10 := Fr.app N8 N10q
  refine own_st (B := T10.setTop (mkF m 62 #[.val (.long u0), .second, .val (.long u1), .second, .val (.int u2), .val (.int u3), .val (.int u4), .val (.int y7), .val (.int y8), .val (.int y9), .val (.ref b1), .unset, .unset, .unset, .unset, .unset] [(.int (own_at (2 : Int32) y8 u0 u1)), (.int (2 : Int32)), (.ref b1)])) st10 ?_
  obtain ⟨T11, h11, X11, e11, W11, a11, st11⟩ := own_stB X10 hx hZ eh10 a8 (i := 2) (j := (2 : Int32)) (by decide) (by decide) (pc := 62) (x := (own_at (2 : Int32) y8 u0 u1)) (Ls := #[.val (.long u0), .second, .val (.long u1), .second, .val (.int u2), .val (.int u3), .val (.int u4), .val (.int y7), .val (.int y8), .val (.int y9), .val (.ref b1), .unset, .unset, .unset, .unset, .unset]) (rest := []) (hb hby at_62)
  have N11 := Fr.snoc X11 N10 g2
  have Z12 := Nat.le_trans Z9 (Keep.of_wr W11).1
  refine own_st (B := T11.setTop (mkF m 63 #[.val (.long u0), .second, .val (.long u1), .second, .val (.int u2), .val (.int u3), .val (.int u4), .val (.int y7), .val (.int y8), .val (.int y9), .val (.ref b1), .unset, .unset, .unset, .unset, .unset] [])) st11 ?_
  refine own_st (B := T11.setTop (mkF m 65 #[.val (.long u0), .second, .val (.long u1), .second, .val (.int u2), .val (.int u3), .val (.int u4), .val (.int y7), .val (.int y8), .val (.int y9), .val (.ref b1), .unset, .unset, .unset, .unset, .unset] [(.ref b1)])) (fun t_ k_ => XS.aload X11.here hx rfl (hb hby at_63) rfl rfl k_) ?_
  refine own_st (B := T11.setTop (mkF m 66 #[.val (.long u0), .second, .val (.long u1), .second, .val (.int u2), .val (.int u3), .val (.int u4), .val (.int y7), .val (.int y8), .val (.int y9), .val (.ref b1), .unset, .unset, .unset, .unset, .unset] [(.int (3 : Int32)), (.ref b1)])) (fun t_ k_ => XS.iconst X11.here hx rfl (hb hby at_65) k_) ?_
  refine own_st (B := T11.setTop (mkF m 67 #[.val (.long u0), .second, .val (.long u1), .second, .val (.int u2), .val (.int u3), .val (.int u4), .val (.int y7), .val (.int y8), .val (.int y9), .val (.ref b1), .unset, .unset, .unset, .unset, .unset] [(.int (3 : Int32)), (.int (3 : Int32)), (.ref b1)])) (fun t_ k_ => XS.iconst X11.here hx rfl (hb hby at_66) k_) ?_
  refine own_st (B := T11.setTop (mkF m 69 #[.val (.long u0), .second, .val (.long u1), .second, .val (.int u2), .val (.int u3), .val (.int u4), .val (.int y7), .val (.int y8), .val (.int y9), .val (.ref b1), .unset, .unset, .unset, .unset, .unset] [(.int y8), (.int (3 : Int32)), (.int (3 : Int32)), (.ref b1)])) (fun t_ k_ => XS.iload X11.here hx rfl (hb hby at_67) rfl k_) ?_
  refine own_st (B := T11.setTop (mkF m 70 #[.val (.long u0), .second, .val (.long u1), .second, .val (.int u2), .val (.int u3), .val (.int u4), .val (.int y7), .val (.int y8), .val (.int y9), .val (.ref b1), .unset, .unset, .unset, .unset, .unset] [(.long u0), (.int y8), (.int (3 : Int32)), (.int (3 : Int32)), (.ref b1)])) (fun t_ k_ => XS.lloadN X11.here hx rfl (hb hby at_69) rfl k_) ?_
  refine own_st (B := T11.setTop (mkF m 71 #[.val (.long u0), .second, .val (.long u1), .second, .val (.int u2), .val (.int u3), .val (.int u4), .val (.int y7), .val (.int y8), .val (.int y9), .val (.ref b1), .unset, .unset, .unset, .unset, .unset] [(.long u1), (.long u0), (.int y8), (.int (3 : Int32)), (.int (3 : Int32)), (.ref b1)])) (fun t_ k_ => XS.lloadN X11.here hx rfl (hb hby at_70) rfl k_) ?_
  obtain ⟨_, _, ⟨T13, Lq13, kq13, nq13⟩, -, X13, ⟨Lc13, hQ13, lq13, yq13, zq13⟩, st13⟩ := Jvm.LawKit.callS X11 hx (y := (⟨"com/example/syncline/syncline/ByteCursorUnsignedPinLaw", "at", "(IIJJ)B"⟩ : MethodName)) hown (mvT hZ (hw _ (List.mem_of_getElem? (i := 1) rfl))) (mvT hZ (hw _ (List.mem_of_getElem? (i := 2) rfl))) (mvT hZ (hw _ (List.mem_of_getElem? (i := 3) rfl))) (mvT hZ (hw _ (List.mem_of_getElem? (i := 4) rfl))) (by decide) (backOf (W := 2) (rm1 l Z a0 hw [] (3 : Int32) y8 u0 u1 h11 n0 Z12 ) hZ (hw _ (List.mem_of_getElem? (i := 4) rfl)) (hw _ (List.mem_of_getElem? (i := 3) rfl)) (by decide) (by decide)) (g := (mkF m 71 #[.val (.long u0), .second, .val (.long u1), .second, .val (.int u2), .val (.int u3), .val (.int u4), .val (.int y7), .val (.int y8), .val (.int y9), .val (.ref b1), .unset, .unset, .unset, .unset, .unset] [(.long u1), (.long u0), (.int y8), (.int (3 : Int32)), (.int (3 : Int32)), (.ref b1)])) rfl (by rw [hml]; rfl) (argsL := [(.int (3 : Int32)), (.int y8), (.long u0), (.long u1)]) (rest := [(.int (3 : Int32)), (.ref b1)]) (lenOf own_pd1 rfl) rfl (by show 2 * 0 + _ ≤ _; exact Nat.le_of_eq rfl) (hb hby at_71) (fun _ _ => ⟨rfl, e11, (by decide : 1 + 0 ≤ _), (by decide : 16 + 0 ≤ _)⟩)
  dsimp only [Pt.U, Pt.locs, Pt.cells, Pt.slots] at X13 lq13 yq13 zq13 st13 hQ13
  rw [lq13, yq13, zq13] at X13
  have X13 : Stand p l e _ s m _ below meth c T13 _ 1 16 := X13
  obtain ⟨rfl, N13q, eh13⟩ := hQ13
  have N13 := Fr.app N11 N13q
  refine own_st (B := T13.setTop (mkF m 74 #[.val (.long u0), .second, .val (.long u1), .second, .val (.int u2), .val (.int u3), .val (.int u4), .val (.int y7), .val (.int y8), .val (.int y9), .val (.ref b1), .unset, .unset, .unset, .unset, .unset] [(.int (own_at (3 : Int32) y8 u0 u1)), (.int (3 : Int32)), (.ref b1)])) st13 ?_
  obtain ⟨T14, h14, X14, e14, W14, a14, st14⟩ := own_stB X13 hx hZ eh13 a11 (i := 3) (j := (3 : Int32)) (by decide) (by decide) (pc := 74) (x := (own_at (3 : Int32) y8 u0 u1)) (Ls := #[.val (.long u0), .second, .val (.long u1), .second, .val (.int u2), .val (.int u3), .val (.int u4), .val (.int y7), .val (.int y8), .val (.int y9), .val (.ref b1), .unset, .unset, .unset, .unset, .unset]) (rest := []) (hb hby at_74)
  have N14 := Fr.snoc X14 N13 g2
  have Z15 := Nat.le_trans Z12 (Keep.of_wr W14).1
  refine own_st (B := T14.setTop (mkF m 75 #[.val (.long u0), .second, .val (.long u1), .second, .val (.int u2), .val (.int u3), .val (.int u4), .val (.int y7), .val (.int y8), .val (.int y9), .val (.ref b1), .unset, .unset, .unset, .unset, .unset] [])) st14 ?_
  refine own_st (B := T14.setTop (mkF m 77 #[.val (.long u0), .second, .val (.long u1), .second, .val (.int u2), .val (.int u3), .val (.int u4), .val (.int y7), .val (.int y8), .val (.int y9), .val (.ref b1), .unset, .unset, .unset, .unset, .unset] [(.ref b1)])) (fun t_ k_ => XS.aload X14.here hx rfl (hb hby at_75) rfl rfl k_) ?_
  refine own_st (B := T14.setTop (mkF m 78 #[.val (.long u0), .second, .val (.long u1), .second, .val (.int u2), .val (.int u3), .val (.int u4), .val (.int y7), .val (.int y8), .val (.int y9), .val (.ref b1), .unset, .unset, .unset, .unset, .unset] [(.int (4 : Int32)), (.ref b1)])) (fun t_ k_ => XS.iconst X14.here hx rfl (hb hby at_77) k_) ?_
  refine own_st (B := T14.setTop (mkF m 79 #[.val (.long u0), .second, .val (.long u1), .second, .val (.int u2), .val (.int u3), .val (.int u4), .val (.int y7), .val (.int y8), .val (.int y9), .val (.ref b1), .unset, .unset, .unset, .unset, .unset] [(.int (4 : Int32)), (.int (4 : Int32)), (.ref b1)])) (fun t_ k_ => XS.iconst X14.here hx rfl (hb hby at_78) k_) ?_
  refine own_st (B := T14.setTop (mkF m 81 #[.val (.long u0), .second, .val (.long u1), .second, .val (.int u2), .val (.int u3), .val (.int u4), .val (.int y7), .val (.int y8), .val (.int y9), .val (.ref b1), .unset, .unset, .unset, .unset, .unset] [(.int y8), (.int (4 : Int32)), (.int (4 : Int32)), (.ref b1)])) (fun t_ k_ => XS.iload X14.here hx rfl (hb hby at_79) rfl k_) ?_
  refine own_st (B := T14.setTop (mkF m 82 #[.val (.long u0), .second, .val (.long u1), .second, .val (.int u2), .val (.int u3), .val (.int u4), .val (.int y7), .val (.int y8), .val (.int y9), .val (.ref b1), .unset, .unset, .unset, .unset, .unset] [(.long u0), (.int y8), (.int (4 : Int32)), (.int (4 : Int32)), (.ref b1)])) (fun t_ k_ => XS.lloadN X14.here hx rfl (hb hby at_81) rfl k_) ?_
  refine own_st (B := T14.setTop (mkF m 83 #[.val (.long u0), .second, .val (.long u1), .second, .val (.int u2), .val (.int u3), .val (.int u4), .val (.int y7), .val (.int y8), .val (.int y9), .val (.ref b1), .unset, .unset, .unset, .unset, .unset] [(.long u1), (.long u0), (.int y8), (.int (4 : Int32)), (.int (4 : Int32)), (.ref b1)])) (fun t_ k_ => XS.lloadN X14.here hx rfl (hb hby at_82) rfl k_) ?_
  obtain ⟨_, _, ⟨T16, Lq16, kq16, nq16⟩, -, X16, ⟨Lc16, hQ16, lq16, yq16, zq16⟩, st16⟩ := Jvm.LawKit.callS X14 hx (y := (⟨"com/example/syncline/syncline/ByteCursorUnsignedPinLaw", "at", "(IIJJ)B"⟩ : MethodName)) hown (mvT hZ (hw _ (List.mem_of_getElem? (i := 1) rfl))) (mvT hZ (hw _ (List.mem_of_getElem? (i := 2) rfl))) (mvT hZ (hw _ (List.mem_of_getElem? (i := 3) rfl))) (mvT hZ (hw _ (List.mem_of_getElem? (i := 4) rfl))) (by decide) (backOf (W := 2) (rm1 l Z a0 hw [] (4 : Int32) y8 u0 u1 h14 n0 Z15 ) hZ (hw _ (List.mem_of_getElem? (i := 4) rfl)) (hw _ (List.mem_of_getElem? (i := 3) rfl)) (by decide) (by decide)) (g := (mkF m 83 #[.val (.long u0), .second, .val (.long u1), .second, .val (.int u2), .val (.int u3), .val (.int u4), .val (.int y7), .val (.int y8), .val (.int y9), .val (.ref b1), .unset, .unset, .unset, .unset, .unset] [(.long u1), (.long u0), (.int y8), (.int (4 : Int32)), (.int (4 : Int32)), (.ref b1)])) rfl (by rw [hml]; rfl) (argsL := [(.int (4 : Int32)), (.int y8), (.long u0), (.long u1)]) (rest := [(.int (4 : Int32)), (.ref b1)]) (lenOf own_pd1 rfl) rfl (by show 2 * 0 + _ ≤ _; exact Nat.le_of_eq rfl) (hb hby at_83) (fun _ _ => ⟨rfl, e14, (by decide : 1 + 0 ≤ _), (by decide : 16 + 0 ≤ _)⟩)
  dsimp only [Pt.U, Pt.locs, Pt.cells, Pt.slots] at X16 lq16 yq16 zq16 st16 hQ16
  rw [lq16, yq16, zq16] at X16
  have X16 : Stand p l e _ s m _ below meth c T16 _ 1 16 := X16
  obtain ⟨rfl, N16q, eh16⟩ := hQ16
  have N16 := Fr.app N14 N16q
  refine own_st (B := T16.setTop (mkF m 86 #[.val (.long u0), .second, .val (.long u1), .second, .val (.int u2), .val (.int u3), .val (.int u4), .val (.int y7), .val (.int y8), .val (.int y9), .val (.ref b1), .unset, .unset, .unset, .unset, .unset] [(.int (own_at (4 : Int32) y8 u0 u1)), (.int (4 : Int32)), (.ref b1)])) st16 ?_
  obtain ⟨T17, h17, X17, e17, W17, a17, st17⟩ := own_stB X16 hx hZ eh16 a14 (i := 4) (j := (4 : Int32)) (by decide) (by decide) (pc := 86) (x := (own_at (4 : Int32) y8 u0 u1)) (Ls := #[.val (.long u0), .second, .val (.long u1), .second, .val (.int u2), .val (.int u3), .val (.int u4), .val (.int y7), .val (.int y8), .val (.int y9), .val (.ref b1), .unset, .unset, .unset, .unset, .unset]) (rest := []) (hb hby at_86)
  have N17 := Fr.snoc X17 N16 g2
  have Z18 := Nat.le_trans Z15 (Keep.of_wr W17).1
  refine own_st (B := T17.setTop (mkF m 87 #[.val (.long u0), .second, .val (.long u1), .second, .val (.int u2), .val (.int u3), .val (.int u4), .val (.int y7), .val (.int y8), .val (.int y9), .val (.ref b1), .unset, .unset, .unset, .unset, .unset] [])) st17 ?_
  refine own_st (B := T17.setTop (mkF m 89 #[.val (.long u0), .second, .val (.long u1), .second, .val (.int u2), .val (.int u3), .val (.int u4), .val (.int y7), .val (.int y8), .val (.int y9), .val (.ref b1), .unset, .unset, .unset, .unset, .unset] [(.ref b1)])) (fun t_ k_ => XS.aload X17.here hx rfl (hb hby at_87) rfl rfl k_) ?_
  refine own_st (B := T17.setTop (mkF m 90 #[.val (.long u0), .second, .val (.long u1), .second, .val (.int u2), .val (.int u3), .val (.int u4), .val (.int y7), .val (.int y8), .val (.int y9), .val (.ref b1), .unset, .unset, .unset, .unset, .unset] [(.int (5 : Int32)), (.ref b1)])) (fun t_ k_ => XS.iconst X17.here hx rfl (hb hby at_89) k_) ?_
  refine own_st (B := T17.setTop (mkF m 91 #[.val (.long u0), .second, .val (.long u1), .second, .val (.int u2), .val (.int u3), .val (.int u4), .val (.int y7), .val (.int y8), .val (.int y9), .val (.ref b1), .unset, .unset, .unset, .unset, .unset] [(.int (5 : Int32)), (.int (5 : Int32)), (.ref b1)])) (fun t_ k_ => XS.iconst X17.here hx rfl (hb hby at_90) k_) ?_
  refine own_st (B := T17.setTop (mkF m 93 #[.val (.long u0), .second, .val (.long u1), .second, .val (.int u2), .val (.int u3), .val (.int u4), .val (.int y7), .val (.int y8), .val (.int y9), .val (.ref b1), .unset, .unset, .unset, .unset, .unset] [(.int y8), (.int (5 : Int32)), (.int (5 : Int32)), (.ref b1)])) (fun t_ k_ => XS.iload X17.here hx rfl (hb hby at_91) rfl k_) ?_
  refine own_st (B := T17.setTop (mkF m 94 #[.val (.long u0), .second, .val (.long u1), .second, .val (.int u2), .val (.int u3), .val (.int u4), .val (.int y7), .val (.int y8), .val (.int y9), .val (.ref b1), .unset, .unset, .unset, .unset, .unset] [(.long u0), (.int y8), (.int (5 : Int32)), (.int (5 : Int32)), (.ref b1)])) (fun t_ k_ => XS.lloadN X17.here hx rfl (hb hby at_93) rfl k_) ?_
  refine own_st (B := T17.setTop (mkF m 95 #[.val (.long u0), .second, .val (.long u1), .second, .val (.int u2), .val (.int u3), .val (.int u4), .val (.int y7), .val (.int y8), .val (.int y9), .val (.ref b1), .unset, .unset, .unset, .unset, .unset] [(.long u1), (.long u0), (.int y8), (.int (5 : Int32)), (.int (5 : Int32)), (.ref b1)])) (fun t_ k_ => XS.lloadN X17.here hx rfl (hb hby at_94) rfl k_) ?_
  obtain ⟨_, _, ⟨T19, Lq19, kq19, nq19⟩, -, X19, ⟨Lc19, hQ19, lq19, yq19, zq19⟩, st19⟩ := Jvm.LawKit.callS X17 hx (y := (⟨"com/example/syncline/syncline/ByteCursorUnsignedPinLaw", "at", "(IIJJ)B"⟩ : MethodName)) hown (mvT hZ (hw _ (List.mem_of_getElem? (i := 1) rfl))) (mvT hZ (hw _ (List.mem_of_getElem? (i := 2) rfl))) (mvT hZ (hw _ (List.mem_of_getElem? (i := 3) rfl))) (mvT hZ (hw _ (List.mem_of_getElem? (i := 4) rfl))) (by decide) (backOf (W := 2) (rm1 l Z a0 hw [] (5 : Int32) y8 u0 u1 h17 n0 Z18 ) hZ (hw _ (List.mem_of_getElem? (i := 4) rfl)) (hw _ (List.mem_of_getElem? (i := 3) rfl)) (by decide) (by decide)) (g := (mkF m 95 #[.val (.long u0), .second, .val (.long u1), .second, .val (.int u2), .val (.int u3), .val (.int u4), .val (.int y7), .val (.int y8), .val (.int y9), .val (.ref b1), .unset, .unset, .unset, .unset, .unset] [(.long u1), (.long u0), (.int y8), (.int (5 : Int32)), (.int (5 : Int32)), (.ref b1)])) rfl (by rw [hml]; rfl) (argsL := [(.int (5 : Int32)), (.int y8), (.long u0), (.long u1)]) (rest := [(.int (5 : Int32)), (.ref b1)]) (lenOf own_pd1 rfl) rfl (by show 2 * 0 + _ ≤ _; exact Nat.le_of_eq rfl) (hb hby at_95) (fun _ _ => ⟨rfl, e17, (by decide : 1 + 0 ≤ _), (by decide : 16 + 0 ≤ _)⟩)
  dsimp only [Pt.U, Pt.locs, Pt.cells, Pt.slots] at X19 lq19 yq19 zq19 st19 hQ19
  rw [lq19, yq19, zq19] at X19
  have X19 : Stand p l e _ s m _ below meth c T19 _ 1 16 := X19
  obtain ⟨rfl, N19q, eh19⟩ := hQ19
  have N19 := Fr.app N17 N19q
  refine own_st (B := T19.setTop (mkF m 98 #[.val (.long u0), .second, .val (.long u1), .second, .val (.int u2), .val (.int u3), .val (.int u4), .val (.int y7), .val (.int y8), .val (.int y9), .val (.ref b1), .unset, .unset, .unset, .unset, .unset] [(.int (own_at (5 : Int32) y8 u0 u1)), (.int (5 : Int32)), (.ref b1)])) st19 ?_
  obtain ⟨T20, h20, X20, e20, W20, a20, st20⟩ := own_stB X19 hx hZ eh19 a17 (i := 5) (j := (5 : Int32)) (by decide) (by decide) (pc := 98) (x := (own_at (5 : Int32) y8 u0 u1)) (Ls := #[.val (.long u0), .second, .val (.long u1), .second, .val (.int u2), .val (.int u3), .val (.int u4), .val (.int y7), .val (.int y8), .val (.int y9), .val (.ref b1), .unset, .unset, .unset, .unset, .unset]) (rest := []) (hb hby at_98)
  have N20 := Fr.snoc X20 N19 g2
  have Z21 := Nat.le_trans Z18 (Keep.of_wr W20).1
  refine own_st (B := T20.setTop (mkF m 99 #[.val (.long u0), .second, .val (.long u1), .second, .val (.int u2), .val (.int u3), .val (.int u4), .val (.int y7), .val (.int y8), .val (.int y9), .val (.ref b1), .unset, .unset, .unset, .unset, .unset] [])) st20 ?_
  refine own_st (B := T20.setTop (mkF m 101 #[.val (.long u0), .second, .val (.long u1), .second, .val (.int u2), .val (.int u3), .val (.int u4), .val (.int y7), .val (.int y8), .val (.int y9), .val (.ref b1), .unset, .unset, .unset, .unset, .unset] [(.ref b1)])) (fun t_ k_ => XS.aload X20.here hx rfl (hb hby at_99) rfl rfl k_) ?_
  refine own_st (B := T20.setTop (mkF m 103 #[.val (.long u0), .second, .val (.long u1), .second, .val (.int u2), .val (.int u3), .val (.int u4), .val (.int y7), .val (.int y8), .val (.int y9), .val (.ref b1), .unset, .unset, .unset, .unset, .unset] [(.int (6 : Int32)), (.ref b1)])) (fun t_ k_ => XS.bipush X20.here hx rfl (hb hby at_101) k_) ?_
  refine own_st (B := T20.setTop (mkF m 105 #[.val (.long u0), .second, .val (.long u1), .second, .val (.int u2), .val (.int u3), .val (.int u4), .val (.int y7), .val (.int y8), .val (.int y9), .val (.ref b1), .unset, .unset, .unset, .unset, .unset] [(.int (6 : Int32)), (.int (6 : Int32)), (.ref b1)])) (fun t_ k_ => XS.bipush X20.here hx rfl (hb hby at_103) k_) ?_
  refine own_st (B := T20.setTop (mkF m 107 #[.val (.long u0), .second, .val (.long u1), .second, .val (.int u2), .val (.int u3), .val (.int u4), .val (.int y7), .val (.int y8), .val (.int y9), .val (.ref b1), .unset, .unset, .unset, .unset, .unset] [(.int y8), (.int (6 : Int32)), (.int (6 : Int32)), (.ref b1)])) (fun t_ k_ => XS.iload X20.here hx rfl (hb hby at_105) rfl k_) ?_
  refine own_st (B := T20.setTop (mkF m 108 #[.val (.long u0), .second, .val (.long u1), .second, .val (.int u2), .val (.int u3), .val (.int u4), .val (.int y7), .val (.int y8), .val (.int y9), .val (.ref b1), .unset, .unset, .unset, .unset, .unset] [(.long u0), (.int y8), (.int (6 : Int32)), (.int (6 : Int32)), (.ref b1)])) (fun t_ k_ => XS.lloadN X20.here hx rfl (hb hby at_107) rfl k_) ?_
  refine own_st (B := T20.setTop (mkF m 109 #[.val (.long u0), .second, .val (.long u1), .second, .val (.int u2), .val (.int u3), .val (.int u4), .val (.int y7), .val (.int y8), .val (.int y9), .val (.ref b1), .unset, .unset, .unset, .unset, .unset] [(.long u1), (.long u0), (.int y8), (.int (6 : Int32)), (.int (6 : Int32)), (.ref b1)])) (fun t_ k_ => XS.lloadN X20.here hx rfl (hb hby at_108) rfl k_) ?_
  obtain ⟨_, _, ⟨T22, Lq22, kq22, nq22⟩, -, X22, ⟨Lc22, hQ22, lq22, yq22, zq22⟩, st22⟩ := Jvm.LawKit.callS X20 hx (y := (⟨"com/example/syncline/syncline/ByteCursorUnsignedPinLaw", "at", "(IIJJ)B"⟩ : MethodName)) hown (mvT hZ (hw _ (List.mem_of_getElem? (i := 1) rfl))) (mvT hZ (hw _ (List.mem_of_getElem? (i := 2) rfl))) (mvT hZ (hw _ (List.mem_of_getElem? (i := 3) rfl))) (mvT hZ (hw _ (List.mem_of_getElem? (i := 4) rfl))) (by decide) (backOf (W := 2) (rm1 l Z a0 hw [] (6 : Int32) y8 u0 u1 h20 n0 Z21 ) hZ (hw _ (List.mem_of_getElem? (i := 4) rfl)) (hw _ (List.mem_of_getElem? (i := 3) rfl)) (by decide) (by decide)) (g := (mkF m 109 #[.val (.long u0), .second, .val (.long u1), .second, .val (.int u2), .val (.int u3), .val (.int u4), .val (.int y7), .val (.int y8), .val (.int y9), .val (.ref b1), .unset, .unset, .unset, .unset, .unset] [(.long u1), (.long u0), (.int y8), (.int (6 : Int32)), (.int (6 : Int32)), (.ref b1)])) rfl (by rw [hml]; rfl) (argsL := [(.int (6 : Int32)), (.int y8), (.long u0), (.long u1)]) (rest := [(.int (6 : Int32)), (.ref b1)]) (lenOf own_pd1 rfl) rfl (by show 2 * 0 + _ ≤ _; exact Nat.le_of_eq rfl) (hb hby at_109) (fun _ _ => ⟨rfl, e20, (by decide : 1 + 0 ≤ _), (by decide : 16 + 0 ≤ _)⟩)
  dsimp only [Pt.U, Pt.locs, Pt.cells, Pt.slots] at X22 lq22 yq22 zq22 st22 hQ22
  rw [lq22, yq22, zq22] at X22
  have X22 : Stand p l e _ s m _ below meth c T22 _ 1 16 := X22
  obtain ⟨rfl, N22q, eh22⟩ := hQ22
  have N22 := Fr.app N20 N22q
  refine own_st (B := T22.setTop (mkF m 112 #[.val (.long u0), .second, .val (.long u1), .second, .val (.int u2), .val (.int u3), .val (.int u4), .val (.int y7), .val (.int y8), .val (.int y9), .val (.ref b1), .unset, .unset, .unset, .unset, .unset] [(.int (own_at (6 : Int32) y8 u0 u1)), (.int (6 : Int32)), (.ref b1)])) st22 ?_
  obtain ⟨T23, h23, X23, e23, W23, a23, st23⟩ := own_stB X22 hx hZ eh22 a20 (i := 6) (j := (6 : Int32)) (by decide) (by decide) (pc := 112) (x := (own_at (6 : Int32) y8 u0 u1)) (Ls := #[.val (.long u0), .second, .val (.long u1), .second, .val (.int u2), .val (.int u3), .val (.int u4), .val (.int y7), .val (.int y8), .val (.int y9), .val (.ref b1), .unset, .unset, .unset, .unset, .unset]) (rest := []) (hb hby at_112)
  have N23 := Fr.snoc X23 N22 g2
  have Z24 := Nat.le_trans Z21 (Keep.of_wr W23).1
  refine own_st (B := T23.setTop (mkF m 113 #[.val (.long u0), .second, .val (.long u1), .second, .val (.int u2), .val (.int u3), .val (.int u4), .val (.int y7), .val (.int y8), .val (.int y9), .val (.ref b1), .unset, .unset, .unset, .unset, .unset] [])) st23 ?_
  refine own_st (B := T23.setTop (mkF m 115 #[.val (.long u0), .second, .val (.long u1), .second, .val (.int u2), .val (.int u3), .val (.int u4), .val (.int y7), .val (.int y8), .val (.int y9), .val (.ref b1), .unset, .unset, .unset, .unset, .unset] [(.ref b1)])) (fun t_ k_ => XS.aload X23.here hx rfl (hb hby at_113) rfl rfl k_) ?_
  refine own_st (B := T23.setTop (mkF m 117 #[.val (.long u0), .second, .val (.long u1), .second, .val (.int u2), .val (.int u3), .val (.int u4), .val (.int y7), .val (.int y8), .val (.int y9), .val (.ref b1), .unset, .unset, .unset, .unset, .unset] [(.int (7 : Int32)), (.ref b1)])) (fun t_ k_ => XS.bipush X23.here hx rfl (hb hby at_115) k_) ?_
  refine own_st (B := T23.setTop (mkF m 119 #[.val (.long u0), .second, .val (.long u1), .second, .val (.int u2), .val (.int u3), .val (.int u4), .val (.int y7), .val (.int y8), .val (.int y9), .val (.ref b1), .unset, .unset, .unset, .unset, .unset] [(.int (7 : Int32)), (.int (7 : Int32)), (.ref b1)])) (fun t_ k_ => XS.bipush X23.here hx rfl (hb hby at_117) k_) ?_
  refine own_st (B := T23.setTop (mkF m 121 #[.val (.long u0), .second, .val (.long u1), .second, .val (.int u2), .val (.int u3), .val (.int u4), .val (.int y7), .val (.int y8), .val (.int y9), .val (.ref b1), .unset, .unset, .unset, .unset, .unset] [(.int y8), (.int (7 : Int32)), (.int (7 : Int32)), (.ref b1)])) (fun t_ k_ => XS.iload X23.here hx rfl (hb hby at_119) rfl k_) ?_
  refine own_st (B := T23.setTop (mkF m 122 #[.val (.long u0), .second, .val (.long u1), .second, .val (.int u2), .val (.int u3), .val (.int u4), .val (.int y7), .val (.int y8), .val (.int y9), .val (.ref b1), .unset, .unset, .unset, .unset, .unset] [(.long u0), (.int y8), (.int (7 : Int32)), (.int (7 : Int32)), (.ref b1)])) (fun t_ k_ => XS.lloadN X23.here hx rfl (hb hby at_121) rfl k_) ?_
  refine own_st (B := T23.setTop (mkF m 123 #[.val (.long u0), .second, .val (.long u1), .second, .val (.int u2), .val (.int u3), .val (.int u4), .val (.int y7), .val (.int y8), .val (.int y9), .val (.ref b1), .unset, .unset, .unset, .unset, .unset] [(.long u1), (.long u0), (.int y8), (.int (7 : Int32)), (.int (7 : Int32)), (.ref b1)])) (fun t_ k_ => XS.lloadN X23.here hx rfl (hb hby at_122) rfl k_) ?_
  obtain ⟨_, _, ⟨T25, Lq25, kq25, nq25⟩, -, X25, ⟨Lc25, hQ25, lq25, yq25, zq25⟩, st25⟩ := Jvm.LawKit.callS X23 hx (y := (⟨"com/example/syncline/syncline/ByteCursorUnsignedPinLaw", "at", "(IIJJ)B"⟩ : MethodName)) hown (mvT hZ (hw _ (List.mem_of_getElem? (i := 1) rfl))) (mvT hZ (hw _ (List.mem_of_getElem? (i := 2) rfl))) (mvT hZ (hw _ (List.mem_of_getElem? (i := 3) rfl))) (mvT hZ (hw _ (List.mem_of_getElem? (i := 4) rfl))) (by decide) (backOf (W := 2) (rm1 l Z a0 hw [] (7 : Int32) y8 u0 u1 h23 n0 Z24 ) hZ (hw _ (List.mem_of_getElem? (i := 4) rfl)) (hw _ (List.mem_of_getElem? (i := 3) rfl)) (by decide) (by decide)) (g := (mkF m 123 #[.val (.long u0), .second, .val (.long u1), .second, .val (.int u2), .val (.int u3), .val (.int u4), .val (.int y7), .val (.int y8), .val (.int y9), .val (.ref b1), .unset, .unset, .unset, .unset, .unset] [(.long u1), (.long u0), (.int y8), (.int (7 : Int32)), (.int (7 : Int32)), (.ref b1)])) rfl (by rw [hml]; rfl) (argsL := [(.int (7 : Int32)), (.int y8), (.long u0), (.long u1)]) (rest := [(.int (7 : Int32)), (.ref b1)]) (lenOf own_pd1 rfl) rfl (by show 2 * 0 + _ ≤ _; exact Nat.le_of_eq rfl) (hb hby at_123) (fun _ _ => ⟨rfl, e23, (by decide : 1 + 0 ≤ _), (by decide : 16 + 0 ≤ _)⟩)
  dsimp only [Pt.U, Pt.locs, Pt.cells, Pt.slots] at X25 lq25 yq25 zq25 st25 hQ25
  rw [lq25, yq25, zq25] at X25
  have X25 : Stand p l e _ s m _ below meth c T25 _ 1 16 := X25
  obtain ⟨rfl, N25q, eh25⟩ := hQ25
  have N25 := Fr.app N23 N25q
  refine own_st (B := T25.setTop (mkF m 126 #[.val (.long u0), .second, .val (.long u1), .second, .val (.int u2), .val (.int u3), .val (.int u4), .val (.int y7), .val (.int y8), .val (.int y9), .val (.ref b1), .unset, .unset, .unset, .unset, .unset] [(.int (own_at (7 : Int32) y8 u0 u1)), (.int (7 : Int32)), (.ref b1)])) st25 ?_
  obtain ⟨T26, h26, X26, e26, W26, a26, st26⟩ := own_stB X25 hx hZ eh25 a23 (i := 7) (j := (7 : Int32)) (by decide) (by decide) (pc := 126) (x := (own_at (7 : Int32) y8 u0 u1)) (Ls := #[.val (.long u0), .second, .val (.long u1), .second, .val (.int u2), .val (.int u3), .val (.int u4), .val (.int y7), .val (.int y8), .val (.int y9), .val (.ref b1), .unset, .unset, .unset, .unset, .unset]) (rest := []) (hb hby at_126)
  have N26 := Fr.snoc X26 N25 g2
  have Z27 := Nat.le_trans Z24 (Keep.of_wr W26).1
  refine own_st (B := T26.setTop (mkF m 127 #[.val (.long u0), .second, .val (.long u1), .second, .val (.int u2), .val (.int u3), .val (.int u4), .val (.int y7), .val (.int y8), .val (.int y9), .val (.ref b1), .unset, .unset, .unset, .unset, .unset] [])) st26 ?_
  refine own_st (B := T26.setTop (mkF m 129 #[.val (.long u0), .second, .val (.long u1), .second, .val (.int u2), .val (.int u3), .val (.int u4), .val (.int y7), .val (.int y8), .val (.int y9), .val (.ref b1), .unset, .unset, .unset, .unset, .unset] [(.ref b1)])) (fun t_ k_ => XS.aload X26.here hx rfl (hb hby at_127) rfl rfl k_) ?_
  refine own_st (B := T26.setTop (mkF m 131 #[.val (.long u0), .second, .val (.long u1), .second, .val (.int u2), .val (.int u3), .val (.int u4), .val (.int y7), .val (.int y8), .val (.int y9), .val (.ref b1), .unset, .unset, .unset, .unset, .unset] [(.int (8 : Int32)), (.ref b1)])) (fun t_ k_ => XS.bipush X26.here hx rfl (hb hby at_129) k_) ?_
  refine own_st (B := T26.setTop (mkF m 133 #[.val (.long u0), .second, .val (.long u1), .second, .val (.int u2), .val (.int u3), .val (.int u4), .val (.int y7), .val (.int y8), .val (.int y9), .val (.ref b1), .unset, .unset, .unset, .unset, .unset] [(.int (8 : Int32)), (.int (8 : Int32)), (.ref b1)])) (fun t_ k_ => XS.bipush X26.here hx rfl (hb hby at_131) k_) ?_
  refine own_st (B := T26.setTop (mkF m 135 #[.val (.long u0), .second, .val (.long u1), .second, .val (.int u2), .val (.int u3), .val (.int u4), .val (.int y7), .val (.int y8), .val (.int y9), .val (.ref b1), .unset, .unset, .unset, .unset, .unset] [(.int y8), (.int (8 : Int32)), (.int (8 : Int32)), (.ref b1)])) (fun t_ k_ => XS.iload X26.here hx rfl (hb hby at_133) rfl k_) ?_
  refine own_st (B := T26.setTop (mkF m 136 #[.val (.long u0), .second, .val (.long u1), .second, .val (.int u2), .val (.int u3), .val (.int u4), .val (.int y7), .val (.int y8), .val (.int y9), .val (.ref b1), .unset, .unset, .unset, .unset, .unset] [(.long u0), (.int y8), (.int (8 : Int32)), (.int (8 : Int32)), (.ref b1)])) (fun t_ k_ => XS.lloadN X26.here hx rfl (hb hby at_135) rfl k_) ?_
  refine own_st (B := T26.setTop (mkF m 137 #[.val (.long u0), .second, .val (.long u1), .second, .val (.int u2), .val (.int u3), .val (.int u4), .val (.int y7), .val (.int y8), .val (.int y9), .val (.ref b1), .unset, .unset, .unset, .unset, .unset] [(.long u1), (.long u0), (.int y8), (.int (8 : Int32)), (.int (8 : Int32)), (.ref b1)])) (fun t_ k_ => XS.lloadN X26.here hx rfl (hb hby at_136) rfl k_) ?_
  obtain ⟨_, _, ⟨T28, Lq28, kq28, nq28⟩, -, X28, ⟨Lc28, hQ28, lq28, yq28, zq28⟩, st28⟩ := Jvm.LawKit.callS X26 hx (y := (⟨"com/example/syncline/syncline/ByteCursorUnsignedPinLaw", "at", "(IIJJ)B"⟩ : MethodName)) hown (mvT hZ (hw _ (List.mem_of_getElem? (i := 1) rfl))) (mvT hZ (hw _ (List.mem_of_getElem? (i := 2) rfl))) (mvT hZ (hw _ (List.mem_of_getElem? (i := 3) rfl))) (mvT hZ (hw _ (List.mem_of_getElem? (i := 4) rfl))) (by decide) (backOf (W := 2) (rm1 l Z a0 hw [] (8 : Int32) y8 u0 u1 h26 n0 Z27 ) hZ (hw _ (List.mem_of_getElem? (i := 4) rfl)) (hw _ (List.mem_of_getElem? (i := 3) rfl)) (by decide) (by decide)) (g := (mkF m 137 #[.val (.long u0), .second, .val (.long u1), .second, .val (.int u2), .val (.int u3), .val (.int u4), .val (.int y7), .val (.int y8), .val (.int y9), .val (.ref b1), .unset, .unset, .unset, .unset, .unset] [(.long u1), (.long u0), (.int y8), (.int (8 : Int32)), (.int (8 : Int32)), (.ref b1)])) rfl (by rw [hml]; rfl) (argsL := [(.int (8 : Int32)), (.int y8), (.long u0), (.long u1)]) (rest := [(.int (8 : Int32)), (.ref b1)]) (lenOf own_pd1 rfl) rfl (by show 2 * 0 + _ ≤ _; exact Nat.le_of_eq rfl) (hb hby at_137) (fun _ _ => ⟨rfl, e26, (by decide : 1 + 0 ≤ _), (by decide : 16 + 0 ≤ _)⟩)
  dsimp only [Pt.U, Pt.locs, Pt.cells, Pt.slots] at X28 lq28 yq28 zq28 st28 hQ28
  rw [lq28, yq28, zq28] at X28
  have X28 : Stand p l e _ s m _ below meth c T28 _ 1 16 := X28
  obtain ⟨rfl, N28q, eh28⟩ := hQ28
  have N28 := Fr.app N26 N28q
  refine own_st (B := T28.setTop (mkF m 140 #[.val (.long u0), .second, .val (.long u1), .second, .val (.int u2), .val (.int u3), .val (.int u4), .val (.int y7), .val (.int y8), .val (.int y9), .val (.ref b1), .unset, .unset, .unset, .unset, .unset] [(.int (own_at (8 : Int32) y8 u0 u1)), (.int (8 : Int32)), (.ref b1)])) st28 ?_
  obtain ⟨T29, h29, X29, e29, W29, a29, st29⟩ := own_stB X28 hx hZ eh28 a26 (i := 8) (j := (8 : Int32)) (by decide) (by decide) (pc := 140) (x := (own_at (8 : Int32) y8 u0 u1)) (Ls := #[.val (.long u0), .second, .val (.long u1), .second, .val (.int u2), .val (.int u3), .val (.int u4), .val (.int y7), .val (.int y8), .val (.int y9), .val (.ref b1), .unset, .unset, .unset, .unset, .unset]) (rest := []) (hb hby at_140)
  have N29 := Fr.snoc X29 N28 g2
  have Z30 := Nat.le_trans Z27 (Keep.of_wr W29).1
  refine own_st (B := T29.setTop (mkF m 141 #[.val (.long u0), .second, .val (.long u1), .second, .val (.int u2), .val (.int u3), .val (.int u4), .val (.int y7), .val (.int y8), .val (.int y9), .val (.ref b1), .unset, .unset, .unset, .unset, .unset] [])) st29 ?_
  refine own_st (B := T29.setTop (mkF m 143 #[.val (.long u0), .second, .val (.long u1), .second, .val (.int u2), .val (.int u3), .val (.int u4), .val (.int y7), .val (.int y8), .val (.int y9), .val (.ref b1), .unset, .unset, .unset, .unset, .unset] [(.ref b1)])) (fun t_ k_ => XS.aload X29.here hx rfl (hb hby at_141) rfl rfl k_) ?_
  refine own_st (B := T29.setTop (mkF m 145 #[.val (.long u0), .second, .val (.long u1), .second, .val (.int u2), .val (.int u3), .val (.int u4), .val (.int y7), .val (.int y8), .val (.int y9), .val (.ref b1), .unset, .unset, .unset, .unset, .unset] [(.int (9 : Int32)), (.ref b1)])) (fun t_ k_ => XS.bipush X29.here hx rfl (hb hby at_143) k_) ?_
  refine own_st (B := T29.setTop (mkF m 147 #[.val (.long u0), .second, .val (.long u1), .second, .val (.int u2), .val (.int u3), .val (.int u4), .val (.int y7), .val (.int y8), .val (.int y9), .val (.ref b1), .unset, .unset, .unset, .unset, .unset] [(.int (9 : Int32)), (.int (9 : Int32)), (.ref b1)])) (fun t_ k_ => XS.bipush X29.here hx rfl (hb hby at_145) k_) ?_
  refine own_st (B := T29.setTop (mkF m 149 #[.val (.long u0), .second, .val (.long u1), .second, .val (.int u2), .val (.int u3), .val (.int u4), .val (.int y7), .val (.int y8), .val (.int y9), .val (.ref b1), .unset, .unset, .unset, .unset, .unset] [(.int y8), (.int (9 : Int32)), (.int (9 : Int32)), (.ref b1)])) (fun t_ k_ => XS.iload X29.here hx rfl (hb hby at_147) rfl k_) ?_
  refine own_st (B := T29.setTop (mkF m 150 #[.val (.long u0), .second, .val (.long u1), .second, .val (.int u2), .val (.int u3), .val (.int u4), .val (.int y7), .val (.int y8), .val (.int y9), .val (.ref b1), .unset, .unset, .unset, .unset, .unset] [(.long u0), (.int y8), (.int (9 : Int32)), (.int (9 : Int32)), (.ref b1)])) (fun t_ k_ => XS.lloadN X29.here hx rfl (hb hby at_149) rfl k_) ?_
  refine own_st (B := T29.setTop (mkF m 151 #[.val (.long u0), .second, .val (.long u1), .second, .val (.int u2), .val (.int u3), .val (.int u4), .val (.int y7), .val (.int y8), .val (.int y9), .val (.ref b1), .unset, .unset, .unset, .unset, .unset] [(.long u1), (.long u0), (.int y8), (.int (9 : Int32)), (.int (9 : Int32)), (.ref b1)])) (fun t_ k_ => XS.lloadN X29.here hx rfl (hb hby at_150) rfl k_) ?_
  obtain ⟨_, _, ⟨T31, Lq31, kq31, nq31⟩, -, X31, ⟨Lc31, hQ31, lq31, yq31, zq31⟩, st31⟩ := Jvm.LawKit.callS X29 hx (y := (⟨"com/example/syncline/syncline/ByteCursorUnsignedPinLaw", "at", "(IIJJ)B"⟩ : MethodName)) hown (mvT hZ (hw _ (List.mem_of_getElem? (i := 1) rfl))) (mvT hZ (hw _ (List.mem_of_getElem? (i := 2) rfl))) (mvT hZ (hw _ (List.mem_of_getElem? (i := 3) rfl))) (mvT hZ (hw _ (List.mem_of_getElem? (i := 4) rfl))) (by decide) (backOf (W := 2) (rm1 l Z a0 hw [] (9 : Int32) y8 u0 u1 h29 n0 Z30 ) hZ (hw _ (List.mem_of_getElem? (i := 4) rfl)) (hw _ (List.mem_of_getElem? (i := 3) rfl)) (by decide) (by decide)) (g := (mkF m 151 #[.val (.long u0), .second, .val (.long u1), .second, .val (.int u2), .val (.int u3), .val (.int u4), .val (.int y7), .val (.int y8), .val (.int y9), .val (.ref b1), .unset, .unset, .unset, .unset, .unset] [(.long u1), (.long u0), (.int y8), (.int (9 : Int32)), (.int (9 : Int32)), (.ref b1)])) rfl (by rw [hml]; rfl) (argsL := [(.int (9 : Int32)), (.int y8), (.long u0), (.long u1)]) (rest := [(.int (9 : Int32)), (.ref b1)]) (lenOf own_pd1 rfl) rfl (by show 2 * 0 + _ ≤ _; exact Nat.le_of_eq rfl) (hb hby at_151) (fun _ _ => ⟨rfl, e29, (by decide : 1 + 0 ≤ _), (by decide : 16 + 0 ≤ _)⟩)
  dsimp only [Pt.U, Pt.locs, Pt.cells, Pt.slots] at X31 lq31 yq31 zq31 st31 hQ31
  rw [lq31, yq31, zq31] at X31
  have X31 : Stand p l e _ s m _ below meth c T31 _ 1 16 := X31
  obtain ⟨rfl, N31q, eh31⟩ := hQ31
  have N31 := Fr.app N29 N31q
  refine own_st (B := T31.setTop (mkF m 154 #[.val (.long u0), .second, .val (.long u1), .second, .val (.int u2), .val (.int u3), .val (.int u4), .val (.int y7), .val (.int y8), .val (.int y9), .val (.ref b1), .unset, .unset, .unset, .unset, .unset] [(.int (own_at (9 : Int32) y8 u0 u1)), (.int (9 : Int32)), (.ref b1)])) st31 ?_
  obtain ⟨T32, h32, X32, e32, W32, a32, st32⟩ := own_stB X31 hx hZ eh31 a29 (i := 9) (j := (9 : Int32)) (by decide) (by decide) (pc := 154) (x := (own_at (9 : Int32) y8 u0 u1)) (Ls := #[.val (.long u0), .second, .val (.long u1), .second, .val (.int u2), .val (.int u3), .val (.int u4), .val (.int y7), .val (.int y8), .val (.int y9), .val (.ref b1), .unset, .unset, .unset, .unset, .unset]) (rest := []) (hb hby at_154)
  have N32 := Fr.snoc X32 N31 g2
  have Z33 := Nat.le_trans Z30 (Keep.of_wr W32).1
  refine own_st (B := T32.setTop (mkF m 155 #[.val (.long u0), .second, .val (.long u1), .second, .val (.int u2), .val (.int u3), .val (.int u4), .val (.int y7), .val (.int y8), .val (.int y9), .val (.ref b1), .unset, .unset, .unset, .unset, .unset] [])) st32 ?_
  refine own_st (B := T32.setTop (mkF m 157 #[.val (.long u0), .second, .val (.long u1), .second, .val (.int u2), .val (.int u3), .val (.int u4), .val (.int y7), .val (.int y8), .val (.int y9), .val (.ref b1), .unset, .unset, .unset, .unset, .unset] [(.ref b1)])) (fun t_ k_ => XS.aload X32.here hx rfl (hb hby at_155) rfl rfl k_) ?_
  refine own_st (B := T32.setTop (mkF m 159 #[.val (.long u0), .second, .val (.long u1), .second, .val (.int u2), .val (.int u3), .val (.int u4), .val (.int y7), .val (.int y8), .val (.int y9), .val (.ref b1), .unset, .unset, .unset, .unset, .unset] [(.int (10 : Int32)), (.ref b1)])) (fun t_ k_ => XS.bipush X32.here hx rfl (hb hby at_157) k_) ?_
  refine own_st (B := T32.setTop (mkF m 161 #[.val (.long u0), .second, .val (.long u1), .second, .val (.int u2), .val (.int u3), .val (.int u4), .val (.int y7), .val (.int y8), .val (.int y9), .val (.ref b1), .unset, .unset, .unset, .unset, .unset] [(.int (10 : Int32)), (.int (10 : Int32)), (.ref b1)])) (fun t_ k_ => XS.bipush X32.here hx rfl (hb hby at_159) k_) ?_
  refine own_st (B := T32.setTop (mkF m 163 #[.val (.long u0), .second, .val (.long u1), .second, .val (.int u2), .val (.int u3), .val (.int u4), .val (.int y7), .val (.int y8), .val (.int y9), .val (.ref b1), .unset, .unset, .unset, .unset, .unset] [(.int y8), (.int (10 : Int32)), (.int (10 : Int32)), (.ref b1)])) (fun t_ k_ => XS.iload X32.here hx rfl (hb hby at_161) rfl k_) ?_
  refine own_st (B := T32.setTop (mkF m 164 #[.val (.long u0), .second, .val (.long u1), .second, .val (.int u2), .val (.int u3), .val (.int u4), .val (.int y7), .val (.int y8), .val (.int y9), .val (.ref b1), .unset, .unset, .unset, .unset, .unset] [(.long u0), (.int y8), (.int (10 : Int32)), (.int (10 : Int32)), (.ref b1)])) (fun t_ k_ => XS.lloadN X32.here hx rfl (hb hby at_163) rfl k_) ?_
  refine own_st (B := T32.setTop (mkF m 165 #[.val (.long u0), .second, .val (.long u1), .second, .val (.int u2), .val (.int u3), .val (.int u4), .val (.int y7), .val (.int y8), .val (.int y9), .val (.ref b1), .unset, .unset, .unset, .unset, .unset] [(.long u1), (.long u0), (.int y8), (.int (10 : Int32)), (.int (10 : Int32)), (.ref b1)])) (fun t_ k_ => XS.lloadN X32.here hx rfl (hb hby at_164) rfl k_) ?_
  obtain ⟨_, _, ⟨T34, Lq34, kq34, nq34⟩, -, X34, ⟨Lc34, hQ34, lq34, yq34, zq34⟩, st34⟩ := Jvm.LawKit.callS X32 hx (y := (⟨"com/example/syncline/syncline/ByteCursorUnsignedPinLaw", "at", "(IIJJ)B"⟩ : MethodName)) hown (mvT hZ (hw _ (List.mem_of_getElem? (i := 1) rfl))) (mvT hZ (hw _ (List.mem_of_getElem? (i := 2) rfl))) (mvT hZ (hw _ (List.mem_of_getElem? (i := 3) rfl))) (mvT hZ (hw _ (List.mem_of_getElem? (i := 4) rfl))) (by decide) (backOf (W := 2) (rm1 l Z a0 hw [] (10 : Int32) y8 u0 u1 h32 n0 Z33 ) hZ (hw _ (List.mem_of_getElem? (i := 4) rfl)) (hw _ (List.mem_of_getElem? (i := 3) rfl)) (by decide) (by decide)) (g := (mkF m 165 #[.val (.long u0), .second, .val (.long u1), .second, .val (.int u2), .val (.int u3), .val (.int u4), .val (.int y7), .val (.int y8), .val (.int y9), .val (.ref b1), .unset, .unset, .unset, .unset, .unset] [(.long u1), (.long u0), (.int y8), (.int (10 : Int32)), (.int (10 : Int32)), (.ref b1)])) rfl (by rw [hml]; rfl) (argsL := [(.int (10 : Int32)), (.int y8), (.long u0), (.long u1)]) (rest := [(.int (10 : Int32)), (.ref b1)]) (lenOf own_pd1 rfl) rfl (by show 2 * 0 + _ ≤ _; exact Nat.le_of_eq rfl) (hb hby at_165) (fun _ _ => ⟨rfl, e32, (by decide : 1 + 0 ≤ _), (by decide : 16 + 0 ≤ _)⟩)
  dsimp only [Pt.U, Pt.locs, Pt.cells, Pt.slots] at X34 lq34 yq34 zq34 st34 hQ34
  rw [lq34, yq34, zq34] at X34
  have X34 : Stand p l e _ s m _ below meth c T34 _ 1 16 := X34
  obtain ⟨rfl, N34q, eh34⟩ := hQ34
  have N34 := Fr.app N32 N34q
  refine own_st (B := T34.setTop (mkF m 168 #[.val (.long u0), .second, .val (.long u1), .second, .val (.int u2), .val (.int u3), .val (.int u4), .val (.int y7), .val (.int y8), .val (.int y9), .val (.ref b1), .unset, .unset, .unset, .unset, .unset] [(.int (own_at (10 : Int32) y8 u0 u1)), (.int (10 : Int32)), (.ref b1)])) st34 ?_
  obtain ⟨T35, h35, X35, e35, W35, a35, st35⟩ := own_stB X34 hx hZ eh34 a32 (i := 10) (j := (10 : Int32)) (by decide) (by decide) (pc := 168) (x := (own_at (10 : Int32) y8 u0 u1)) (Ls := #[.val (.long u0), .second, .val (.long u1), .second, .val (.int u2), .val (.int u3), .val (.int u4), .val (.int y7), .val (.int y8), .val (.int y9), .val (.ref b1), .unset, .unset, .unset, .unset, .unset]) (rest := []) (hb hby at_168)
  have N35 := Fr.snoc X35 N34 g2
  have Z36 := Nat.le_trans Z33 (Keep.of_wr W35).1
  refine own_st (B := T35.setTop (mkF m 169 #[.val (.long u0), .second, .val (.long u1), .second, .val (.int u2), .val (.int u3), .val (.int u4), .val (.int y7), .val (.int y8), .val (.int y9), .val (.ref b1), .unset, .unset, .unset, .unset, .unset] [])) st35 ?_
  refine own_st (B := T35.setTop (mkF m 171 #[.val (.long u0), .second, .val (.long u1), .second, .val (.int u2), .val (.int u3), .val (.int u4), .val (.int y7), .val (.int y8), .val (.int y9), .val (.ref b1), .unset, .unset, .unset, .unset, .unset] [(.ref b1)])) (fun t_ k_ => XS.aload X35.here hx rfl (hb hby at_169) rfl rfl k_) ?_
  refine own_st (B := T35.setTop (mkF m 173 #[.val (.long u0), .second, .val (.long u1), .second, .val (.int u2), .val (.int u3), .val (.int u4), .val (.int y7), .val (.int y8), .val (.int y9), .val (.ref b1), .unset, .unset, .unset, .unset, .unset] [(.int (11 : Int32)), (.ref b1)])) (fun t_ k_ => XS.bipush X35.here hx rfl (hb hby at_171) k_) ?_
  refine own_st (B := T35.setTop (mkF m 175 #[.val (.long u0), .second, .val (.long u1), .second, .val (.int u2), .val (.int u3), .val (.int u4), .val (.int y7), .val (.int y8), .val (.int y9), .val (.ref b1), .unset, .unset, .unset, .unset, .unset] [(.int (11 : Int32)), (.int (11 : Int32)), (.ref b1)])) (fun t_ k_ => XS.bipush X35.here hx rfl (hb hby at_173) k_) ?_
  refine own_st (B := T35.setTop (mkF m 177 #[.val (.long u0), .second, .val (.long u1), .second, .val (.int u2), .val (.int u3), .val (.int u4), .val (.int y7), .val (.int y8), .val (.int y9), .val (.ref b1), .unset, .unset, .unset, .unset, .unset] [(.int y8), (.int (11 : Int32)), (.int (11 : Int32)), (.ref b1)])) (fun t_ k_ => XS.iload X35.here hx rfl (hb hby at_175) rfl k_) ?_
  refine own_st (B := T35.setTop (mkF m 178 #[.val (.long u0), .second, .val (.long u1), .second, .val (.int u2), .val (.int u3), .val (.int u4), .val (.int y7), .val (.int y8), .val (.int y9), .val (.ref b1), .unset, .unset, .unset, .unset, .unset] [(.long u0), (.int y8), (.int (11 : Int32)), (.int (11 : Int32)), (.ref b1)])) (fun t_ k_ => XS.lloadN X35.here hx rfl (hb hby at_177) rfl k_) ?_
  refine own_st (B := T35.setTop (mkF m 179 #[.val (.long u0), .second, .val (.long u1), .second, .val (.int u2), .val (.int u3), .val (.int u4), .val (.int y7), .val (.int y8), .val (.int y9), .val (.ref b1), .unset, .unset, .unset, .unset, .unset] [(.long u1), (.long u0), (.int y8), (.int (11 : Int32)), (.int (11 : Int32)), (.ref b1)])) (fun t_ k_ => XS.lloadN X35.here hx rfl (hb hby at_178) rfl k_) ?_
  obtain ⟨_, _, ⟨T37, Lq37, kq37, nq37⟩, -, X37, ⟨Lc37, hQ37, lq37, yq37, zq37⟩, st37⟩ := Jvm.LawKit.callS X35 hx (y := (⟨"com/example/syncline/syncline/ByteCursorUnsignedPinLaw", "at", "(IIJJ)B"⟩ : MethodName)) hown (mvT hZ (hw _ (List.mem_of_getElem? (i := 1) rfl))) (mvT hZ (hw _ (List.mem_of_getElem? (i := 2) rfl))) (mvT hZ (hw _ (List.mem_of_getElem? (i := 3) rfl))) (mvT hZ (hw _ (List.mem_of_getElem? (i := 4) rfl))) (by decide) (backOf (W := 2) (rm1 l Z a0 hw [] (11 : Int32) y8 u0 u1 h35 n0 Z36 ) hZ (hw _ (List.mem_of_getElem? (i := 4) rfl)) (hw _ (List.mem_of_getElem? (i := 3) rfl)) (by decide) (by decide)) (g := (mkF m 179 #[.val (.long u0), .second, .val (.long u1), .second, .val (.int u2), .val (.int u3), .val (.int u4), .val (.int y7), .val (.int y8), .val (.int y9), .val (.ref b1), .unset, .unset, .unset, .unset, .unset] [(.long u1), (.long u0), (.int y8), (.int (11 : Int32)), (.int (11 : Int32)), (.ref b1)])) rfl (by rw [hml]; rfl) (argsL := [(.int (11 : Int32)), (.int y8), (.long u0), (.long u1)]) (rest := [(.int (11 : Int32)), (.ref b1)]) (lenOf own_pd1 rfl) rfl (by show 2 * 0 + _ ≤ _; exact Nat.le_of_eq rfl) (hb hby at_179) (fun _ _ => ⟨rfl, e35, (by decide : 1 + 0 ≤ _), (by decide : 16 + 0 ≤ _)⟩)
  dsimp only [Pt.U, Pt.locs, Pt.cells, Pt.slots] at X37 lq37 yq37 zq37 st37 hQ37
  rw [lq37, yq37, zq37] at X37
  have X37 : Stand p l e _ s m _ below meth c T37 _ 1 16 := X37
  obtain ⟨rfl, N37q, eh37⟩ := hQ37
  have N37 := Fr.app N35 N37q
  refine own_st (B := T37.setTop (mkF m 182 #[.val (.long u0), .second, .val (.long u1), .second, .val (.int u2), .val (.int u3), .val (.int u4), .val (.int y7), .val (.int y8), .val (.int y9), .val (.ref b1), .unset, .unset, .unset, .unset, .unset] [(.int (own_at (11 : Int32) y8 u0 u1)), (.int (11 : Int32)), (.ref b1)])) st37 ?_
  obtain ⟨T38, h38, X38, e38, W38, a38, st38⟩ := own_stB X37 hx hZ eh37 a35 (i := 11) (j := (11 : Int32)) (by decide) (by decide) (pc := 182) (x := (own_at (11 : Int32) y8 u0 u1)) (Ls := #[.val (.long u0), .second, .val (.long u1), .second, .val (.int u2), .val (.int u3), .val (.int u4), .val (.int y7), .val (.int y8), .val (.int y9), .val (.ref b1), .unset, .unset, .unset, .unset, .unset]) (rest := []) (hb hby at_182)
  have N38 := Fr.snoc X38 N37 g2
  have Z39 := Nat.le_trans Z36 (Keep.of_wr W38).1
  refine own_st (B := T38.setTop (mkF m 183 #[.val (.long u0), .second, .val (.long u1), .second, .val (.int u2), .val (.int u3), .val (.int u4), .val (.int y7), .val (.int y8), .val (.int y9), .val (.ref b1), .unset, .unset, .unset, .unset, .unset] [])) st38 ?_
  refine own_st (B := T38.setTop (mkF m 185 #[.val (.long u0), .second, .val (.long u1), .second, .val (.int u2), .val (.int u3), .val (.int u4), .val (.int y7), .val (.int y8), .val (.int y9), .val (.ref b1), .unset, .unset, .unset, .unset, .unset] [(.ref b1)])) (fun t_ k_ => XS.aload X38.here hx rfl (hb hby at_183) rfl rfl k_) ?_
  refine own_st (B := T38.setTop (mkF m 187 #[.val (.long u0), .second, .val (.long u1), .second, .val (.int u2), .val (.int u3), .val (.int u4), .val (.int y7), .val (.int y8), .val (.int y9), .val (.ref b1), .unset, .unset, .unset, .unset, .unset] [(.int (12 : Int32)), (.ref b1)])) (fun t_ k_ => XS.bipush X38.here hx rfl (hb hby at_185) k_) ?_
  refine own_st (B := T38.setTop (mkF m 189 #[.val (.long u0), .second, .val (.long u1), .second, .val (.int u2), .val (.int u3), .val (.int u4), .val (.int y7), .val (.int y8), .val (.int y9), .val (.ref b1), .unset, .unset, .unset, .unset, .unset] [(.int (12 : Int32)), (.int (12 : Int32)), (.ref b1)])) (fun t_ k_ => XS.bipush X38.here hx rfl (hb hby at_187) k_) ?_
  refine own_st (B := T38.setTop (mkF m 191 #[.val (.long u0), .second, .val (.long u1), .second, .val (.int u2), .val (.int u3), .val (.int u4), .val (.int y7), .val (.int y8), .val (.int y9), .val (.ref b1), .unset, .unset, .unset, .unset, .unset] [(.int y8), (.int (12 : Int32)), (.int (12 : Int32)), (.ref b1)])) (fun t_ k_ => XS.iload X38.here hx rfl (hb hby at_189) rfl k_) ?_
  refine own_st (B := T38.setTop (mkF m 192 #[.val (.long u0), .second, .val (.long u1), .second, .val (.int u2), .val (.int u3), .val (.int u4), .val (.int y7), .val (.int y8), .val (.int y9), .val (.ref b1), .unset, .unset, .unset, .unset, .unset] [(.long u0), (.int y8), (.int (12 : Int32)), (.int (12 : Int32)), (.ref b1)])) (fun t_ k_ => XS.lloadN X38.here hx rfl (hb hby at_191) rfl k_) ?_
  refine own_st (B := T38.setTop (mkF m 193 #[.val (.long u0), .second, .val (.long u1), .second, .val (.int u2), .val (.int u3), .val (.int u4), .val (.int y7), .val (.int y8), .val (.int y9), .val (.ref b1), .unset, .unset, .unset, .unset, .unset] [(.long u1), (.long u0), (.int y8), (.int (12 : Int32)), (.int (12 : Int32)), (.ref b1)])) (fun t_ k_ => XS.lloadN X38.here hx rfl (hb hby at_192) rfl k_) ?_
  obtain ⟨_, _, ⟨T40, Lq40, kq40, nq40⟩, -, X40, ⟨Lc40, hQ40, lq40, yq40, zq40⟩, st40⟩ := Jvm.LawKit.callS X38 hx (y := (⟨"com/example/syncline/syncline/ByteCursorUnsignedPinLaw", "at", "(IIJJ)B"⟩ : MethodName)) hown (mvT hZ (hw _ (List.mem_of_getElem? (i := 1) rfl))) (mvT hZ (hw _ (List.mem_of_getElem? (i := 2) rfl))) (mvT hZ (hw _ (List.mem_of_getElem? (i := 3) rfl))) (mvT hZ (hw _ (List.mem_of_getElem? (i := 4) rfl))) (by decide) (backOf (W := 2) (rm1 l Z a0 hw [] (12 : Int32) y8 u0 u1 h38 n0 Z39 ) hZ (hw _ (List.mem_of_getElem? (i := 4) rfl)) (hw _ (List.mem_of_getElem? (i := 3) rfl)) (by decide) (by decide)) (g := (mkF m 193 #[.val (.long u0), .second, .val (.long u1), .second, .val (.int u2), .val (.int u3), .val (.int u4), .val (.int y7), .val (.int y8), .val (.int y9), .val (.ref b1), .unset, .unset, .unset, .unset, .unset] [(.long u1), (.long u0), (.int y8), (.int (12 : Int32)), (.int (12 : Int32)), (.ref b1)])) rfl (by rw [hml]; rfl) (argsL := [(.int (12 : Int32)), (.int y8), (.long u0), (.long u1)]) (rest := [(.int (12 : Int32)), (.ref b1)]) (lenOf own_pd1 rfl) rfl (by show 2 * 0 + _ ≤ _; exact Nat.le_of_eq rfl) (hb hby at_193) (fun _ _ => ⟨rfl, e38, (by decide : 1 + 0 ≤ _), (by decide : 16 + 0 ≤ _)⟩)
  dsimp only [Pt.U, Pt.locs, Pt.cells, Pt.slots] at X40 lq40 yq40 zq40 st40 hQ40
  rw [lq40, yq40, zq40] at X40
  have X40 : Stand p l e _ s m _ below meth c T40 _ 1 16 := X40
  obtain ⟨rfl, N40q, eh40⟩ := hQ40
  have N40 := Fr.app N38 N40q
  refine own_st (B := T40.setTop (mkF m 196 #[.val (.long u0), .second, .val (.long u1), .second, .val (.int u2), .val (.int u3), .val (.int u4), .val (.int y7), .val (.int y8), .val (.int y9), .val (.ref b1), .unset, .unset, .unset, .unset, .unset] [(.int (own_at (12 : Int32) y8 u0 u1)), (.int (12 : Int32)), (.ref b1)])) st40 ?_
  obtain ⟨T41, h41, X41, e41, W41, a41, st41⟩ := own_stB X40 hx hZ eh40 a38 (i := 12) (j := (12 : Int32)) (by decide) (by decide) (pc := 196) (x := (own_at (12 : Int32) y8 u0 u1)) (Ls := #[.val (.long u0), .second, .val (.long u1), .second, .val (.int u2), .val (.int u3), .val (.int u4), .val (.int y7), .val (.int y8), .val (.int y9), .val (.ref b1), .unset, .unset, .unset, .unset, .unset]) (rest := []) (hb hby at_196)
  have N41 := Fr.snoc X41 N40 g2
  have Z42 := Nat.le_trans Z39 (Keep.of_wr W41).1
  refine own_st (B := T41.setTop (mkF m 197 #[.val (.long u0), .second, .val (.long u1), .second, .val (.int u2), .val (.int u3), .val (.int u4), .val (.int y7), .val (.int y8), .val (.int y9), .val (.ref b1), .unset, .unset, .unset, .unset, .unset] [])) st41 ?_
  refine own_st (B := T41.setTop (mkF m 199 #[.val (.long u0), .second, .val (.long u1), .second, .val (.int u2), .val (.int u3), .val (.int u4), .val (.int y7), .val (.int y8), .val (.int y9), .val (.ref b1), .unset, .unset, .unset, .unset, .unset] [(.ref b1)])) (fun t_ k_ => XS.aload X41.here hx rfl (hb hby at_197) rfl rfl k_) ?_
  refine own_st (B := T41.setTop (mkF m 201 #[.val (.long u0), .second, .val (.long u1), .second, .val (.int u2), .val (.int u3), .val (.int u4), .val (.int y7), .val (.int y8), .val (.int y9), .val (.ref b1), .unset, .unset, .unset, .unset, .unset] [(.int (13 : Int32)), (.ref b1)])) (fun t_ k_ => XS.bipush X41.here hx rfl (hb hby at_199) k_) ?_
  refine own_st (B := T41.setTop (mkF m 203 #[.val (.long u0), .second, .val (.long u1), .second, .val (.int u2), .val (.int u3), .val (.int u4), .val (.int y7), .val (.int y8), .val (.int y9), .val (.ref b1), .unset, .unset, .unset, .unset, .unset] [(.int (13 : Int32)), (.int (13 : Int32)), (.ref b1)])) (fun t_ k_ => XS.bipush X41.here hx rfl (hb hby at_201) k_) ?_
  refine own_st (B := T41.setTop (mkF m 205 #[.val (.long u0), .second, .val (.long u1), .second, .val (.int u2), .val (.int u3), .val (.int u4), .val (.int y7), .val (.int y8), .val (.int y9), .val (.ref b1), .unset, .unset, .unset, .unset, .unset] [(.int y8), (.int (13 : Int32)), (.int (13 : Int32)), (.ref b1)])) (fun t_ k_ => XS.iload X41.here hx rfl (hb hby at_203) rfl k_) ?_
  refine own_st (B := T41.setTop (mkF m 206 #[.val (.long u0), .second, .val (.long u1), .second, .val (.int u2), .val (.int u3), .val (.int u4), .val (.int y7), .val (.int y8), .val (.int y9), .val (.ref b1), .unset, .unset, .unset, .unset, .unset] [(.long u0), (.int y8), (.int (13 : Int32)), (.int (13 : Int32)), (.ref b1)])) (fun t_ k_ => XS.lloadN X41.here hx rfl (hb hby at_205) rfl k_) ?_
  refine own_st (B := T41.setTop (mkF m 207 #[.val (.long u0), .second, .val (.long u1), .second, .val (.int u2), .val (.int u3), .val (.int u4), .val (.int y7), .val (.int y8), .val (.int y9), .val (.ref b1), .unset, .unset, .unset, .unset, .unset] [(.long u1), (.long u0), (.int y8), (.int (13 : Int32)), (.int (13 : Int32)), (.ref b1)])) (fun t_ k_ => XS.lloadN X41.here hx rfl (hb hby at_206) rfl k_) ?_
  obtain ⟨_, _, ⟨T43, Lq43, kq43, nq43⟩, -, X43, ⟨Lc43, hQ43, lq43, yq43, zq43⟩, st43⟩ := Jvm.LawKit.callS X41 hx (y := (⟨"com/example/syncline/syncline/ByteCursorUnsignedPinLaw", "at", "(IIJJ)B"⟩ : MethodName)) hown (mvT hZ (hw _ (List.mem_of_getElem? (i := 1) rfl))) (mvT hZ (hw _ (List.mem_of_getElem? (i := 2) rfl))) (mvT hZ (hw _ (List.mem_of_getElem? (i := 3) rfl))) (mvT hZ (hw _ (List.mem_of_getElem? (i := 4) rfl))) (by decide) (backOf (W := 2) (rm1 l Z a0 hw [] (13 : Int32) y8 u0 u1 h41 n0 Z42 ) hZ (hw _ (List.mem_of_getElem? (i := 4) rfl)) (hw _ (List.mem_of_getElem? (i := 3) rfl)) (by decide) (by decide)) (g := (mkF m 207 #[.val (.long u0), .second, .val (.long u1), .second, .val (.int u2), .val (.int u3), .val (.int u4), .val (.int y7), .val (.int y8), .val (.int y9), .val (.ref b1), .unset, .unset, .unset, .unset, .unset] [(.long u1), (.long u0), (.int y8), (.int (13 : Int32)), (.int (13 : Int32)), (.ref b1)])) rfl (by rw [hml]; rfl) (argsL := [(.int (13 : Int32)), (.int y8), (.long u0), (.long u1)]) (rest := [(.int (13 : Int32)), (.ref b1)]) (lenOf own_pd1 rfl) rfl (by show 2 * 0 + _ ≤ _; exact Nat.le_of_eq rfl) (hb hby at_207) (fun _ _ => ⟨rfl, e41, (by decide : 1 + 0 ≤ _), (by decide : 16 + 0 ≤ _)⟩)
  dsimp only [Pt.U, Pt.locs, Pt.cells, Pt.slots] at X43 lq43 yq43 zq43 st43 hQ43
  rw [lq43, yq43, zq43] at X43
  have X43 : Stand p l e _ s m _ below meth c T43 _ 1 16 := X43
  obtain ⟨rfl, N43q, eh43⟩ := hQ43
  have N43 := Fr.app N41 N43q
  refine own_st (B := T43.setTop (mkF m 210 #[.val (.long u0), .second, .val (.long u1), .second, .val (.int u2), .val (.int u3), .val (.int u4), .val (.int y7), .val (.int y8), .val (.int y9), .val (.ref b1), .unset, .unset, .unset, .unset, .unset] [(.int (own_at (13 : Int32) y8 u0 u1)), (.int (13 : Int32)), (.ref b1)])) st43 ?_
  obtain ⟨T44, h44, X44, e44, W44, a44, st44⟩ := own_stB X43 hx hZ eh43 a41 (i := 13) (j := (13 : Int32)) (by decide) (by decide) (pc := 210) (x := (own_at (13 : Int32) y8 u0 u1)) (Ls := #[.val (.long u0), .second, .val (.long u1), .second, .val (.int u2), .val (.int u3), .val (.int u4), .val (.int y7), .val (.int y8), .val (.int y9), .val (.ref b1), .unset, .unset, .unset, .unset, .unset]) (rest := []) (hb hby at_210)
  have N44 := Fr.snoc X44 N43 g2
  have Z45 := Nat.le_trans Z42 (Keep.of_wr W44).1
  refine own_st (B := T44.setTop (mkF m 211 #[.val (.long u0), .second, .val (.long u1), .second, .val (.int u2), .val (.int u3), .val (.int u4), .val (.int y7), .val (.int y8), .val (.int y9), .val (.ref b1), .unset, .unset, .unset, .unset, .unset] [])) st44 ?_
  refine own_st (B := T44.setTop (mkF m 213 #[.val (.long u0), .second, .val (.long u1), .second, .val (.int u2), .val (.int u3), .val (.int u4), .val (.int y7), .val (.int y8), .val (.int y9), .val (.ref b1), .unset, .unset, .unset, .unset, .unset] [(.ref b1)])) (fun t_ k_ => XS.aload X44.here hx rfl (hb hby at_211) rfl rfl k_) ?_
  refine own_st (B := T44.setTop (mkF m 215 #[.val (.long u0), .second, .val (.long u1), .second, .val (.int u2), .val (.int u3), .val (.int u4), .val (.int y7), .val (.int y8), .val (.int y9), .val (.ref b1), .unset, .unset, .unset, .unset, .unset] [(.int (14 : Int32)), (.ref b1)])) (fun t_ k_ => XS.bipush X44.here hx rfl (hb hby at_213) k_) ?_
  refine own_st (B := T44.setTop (mkF m 217 #[.val (.long u0), .second, .val (.long u1), .second, .val (.int u2), .val (.int u3), .val (.int u4), .val (.int y7), .val (.int y8), .val (.int y9), .val (.ref b1), .unset, .unset, .unset, .unset, .unset] [(.int (14 : Int32)), (.int (14 : Int32)), (.ref b1)])) (fun t_ k_ => XS.bipush X44.here hx rfl (hb hby at_215) k_) ?_
  refine own_st (B := T44.setTop (mkF m 219 #[.val (.long u0), .second, .val (.long u1), .second, .val (.int u2), .val (.int u3), .val (.int u4), .val (.int y7), .val (.int y8), .val (.int y9), .val (.ref b1), .unset, .unset, .unset, .unset, .unset] [(.int y8), (.int (14 : Int32)), (.int (14 : Int32)), (.ref b1)])) (fun t_ k_ => XS.iload X44.here hx rfl (hb hby at_217) rfl k_) ?_
  refine own_st (B := T44.setTop (mkF m 220 #[.val (.long u0), .second, .val (.long u1), .second, .val (.int u2), .val (.int u3), .val (.int u4), .val (.int y7), .val (.int y8), .val (.int y9), .val (.ref b1), .unset, .unset, .unset, .unset, .unset] [(.long u0), (.int y8), (.int (14 : Int32)), (.int (14 : Int32)), (.ref b1)])) (fun t_ k_ => XS.lloadN X44.here hx rfl (hb hby at_219) rfl k_) ?_
  refine own_st (B := T44.setTop (mkF m 221 #[.val (.long u0), .second, .val (.long u1), .second, .val (.int u2), .val (.int u3), .val (.int u4), .val (.int y7), .val (.int y8), .val (.int y9), .val (.ref b1), .unset, .unset, .unset, .unset, .unset] [(.long u1), (.long u0), (.int y8), (.int (14 : Int32)), (.int (14 : Int32)), (.ref b1)])) (fun t_ k_ => XS.lloadN X44.here hx rfl (hb hby at_220) rfl k_) ?_
  obtain ⟨_, _, ⟨T46, Lq46, kq46, nq46⟩, -, X46, ⟨Lc46, hQ46, lq46, yq46, zq46⟩, st46⟩ := Jvm.LawKit.callS X44 hx (y := (⟨"com/example/syncline/syncline/ByteCursorUnsignedPinLaw", "at", "(IIJJ)B"⟩ : MethodName)) hown (mvT hZ (hw _ (List.mem_of_getElem? (i := 1) rfl))) (mvT hZ (hw _ (List.mem_of_getElem? (i := 2) rfl))) (mvT hZ (hw _ (List.mem_of_getElem? (i := 3) rfl))) (mvT hZ (hw _ (List.mem_of_getElem? (i := 4) rfl))) (by decide) (backOf (W := 2) (rm1 l Z a0 hw [] (14 : Int32) y8 u0 u1 h44 n0 Z45 ) hZ (hw _ (List.mem_of_getElem? (i := 4) rfl)) (hw _ (List.mem_of_getElem? (i := 3) rfl)) (by decide) (by decide)) (g := (mkF m 221 #[.val (.long u0), .second, .val (.long u1), .second, .val (.int u2), .val (.int u3), .val (.int u4), .val (.int y7), .val (.int y8), .val (.int y9), .val (.ref b1), .unset, .unset, .unset, .unset, .unset] [(.long u1), (.long u0), (.int y8), (.int (14 : Int32)), (.int (14 : Int32)), (.ref b1)])) rfl (by rw [hml]; rfl) (argsL := [(.int (14 : Int32)), (.int y8), (.long u0), (.long u1)]) (rest := [(.int (14 : Int32)), (.ref b1)]) (lenOf own_pd1 rfl) rfl (by show 2 * 0 + _ ≤ _; exact Nat.le_of_eq rfl) (hb hby at_221) (fun _ _ => ⟨rfl, e44, (by decide : 1 + 0 ≤ _), (by decide : 16 + 0 ≤ _)⟩)
  dsimp only [Pt.U, Pt.locs, Pt.cells, Pt.slots] at X46 lq46 yq46 zq46 st46 hQ46
  rw [lq46, yq46, zq46] at X46
  have X46 : Stand p l e _ s m _ below meth c T46 _ 1 16 := X46
  obtain ⟨rfl, N46q, eh46⟩ := hQ46
  have N46 := Fr.app N44 N46q
  refine own_st (B := T46.setTop (mkF m 224 #[.val (.long u0), .second, .val (.long u1), .second, .val (.int u2), .val (.int u3), .val (.int u4), .val (.int y7), .val (.int y8), .val (.int y9), .val (.ref b1), .unset, .unset, .unset, .unset, .unset] [(.int (own_at (14 : Int32) y8 u0 u1)), (.int (14 : Int32)), (.ref b1)])) st46 ?_
  obtain ⟨T47, h47, X47, e47, W47, a47, st47⟩ := own_stB X46 hx hZ eh46 a44 (i := 14) (j := (14 : Int32)) (by decide) (by decide) (pc := 224) (x := (own_at (14 : Int32) y8 u0 u1)) (Ls := #[.val (.long u0), .second, .val (.long u1), .second, .val (.int u2), .val (.int u3), .val (.int u4), .val (.int y7), .val (.int y8), .val (.int y9), .val (.ref b1), .unset, .unset, .unset, .unset, .unset]) (rest := []) (hb hby at_224)
  have N47 := Fr.snoc X47 N46 g2
  have Z48 := Nat.le_trans Z45 (Keep.of_wr W47).1
  refine own_st (B := T47.setTop (mkF m 225 #[.val (.long u0), .second, .val (.long u1), .second, .val (.int u2), .val (.int u3), .val (.int u4), .val (.int y7), .val (.int y8), .val (.int y9), .val (.ref b1), .unset, .unset, .unset, .unset, .unset] [])) st47 ?_
  refine own_st (B := T47.setTop (mkF m 227 #[.val (.long u0), .second, .val (.long u1), .second, .val (.int u2), .val (.int u3), .val (.int u4), .val (.int y7), .val (.int y8), .val (.int y9), .val (.ref b1), .unset, .unset, .unset, .unset, .unset] [(.ref b1)])) (fun t_ k_ => XS.aload X47.here hx rfl (hb hby at_225) rfl rfl k_) ?_
  refine own_st (B := T47.setTop (mkF m 229 #[.val (.long u0), .second, .val (.long u1), .second, .val (.int u2), .val (.int u3), .val (.int u4), .val (.int y7), .val (.int y8), .val (.int y9), .val (.ref b1), .unset, .unset, .unset, .unset, .unset] [(.int (15 : Int32)), (.ref b1)])) (fun t_ k_ => XS.bipush X47.here hx rfl (hb hby at_227) k_) ?_
  refine own_st (B := T47.setTop (mkF m 231 #[.val (.long u0), .second, .val (.long u1), .second, .val (.int u2), .val (.int u3), .val (.int u4), .val (.int y7), .val (.int y8), .val (.int y9), .val (.ref b1), .unset, .unset, .unset, .unset, .unset] [(.int (15 : Int32)), (.int (15 : Int32)), (.ref b1)])) (fun t_ k_ => XS.bipush X47.here hx rfl (hb hby at_229) k_) ?_
  refine own_st (B := T47.setTop (mkF m 233 #[.val (.long u0), .second, .val (.long u1), .second, .val (.int u2), .val (.int u3), .val (.int u4), .val (.int y7), .val (.int y8), .val (.int y9), .val (.ref b1), .unset, .unset, .unset, .unset, .unset] [(.int y8), (.int (15 : Int32)), (.int (15 : Int32)), (.ref b1)])) (fun t_ k_ => XS.iload X47.here hx rfl (hb hby at_231) rfl k_) ?_
  refine own_st (B := T47.setTop (mkF m 234 #[.val (.long u0), .second, .val (.long u1), .second, .val (.int u2), .val (.int u3), .val (.int u4), .val (.int y7), .val (.int y8), .val (.int y9), .val (.ref b1), .unset, .unset, .unset, .unset, .unset] [(.long u0), (.int y8), (.int (15 : Int32)), (.int (15 : Int32)), (.ref b1)])) (fun t_ k_ => XS.lloadN X47.here hx rfl (hb hby at_233) rfl k_) ?_
  refine own_st (B := T47.setTop (mkF m 235 #[.val (.long u0), .second, .val (.long u1), .second, .val (.int u2), .val (.int u3), .val (.int u4), .val (.int y7), .val (.int y8), .val (.int y9), .val (.ref b1), .unset, .unset, .unset, .unset, .unset] [(.long u1), (.long u0), (.int y8), (.int (15 : Int32)), (.int (15 : Int32)), (.ref b1)])) (fun t_ k_ => XS.lloadN X47.here hx rfl (hb hby at_234) rfl k_) ?_
  obtain ⟨_, _, ⟨T49, Lq49, kq49, nq49⟩, -, X49, ⟨Lc49, hQ49, lq49, yq49, zq49⟩, st49⟩ := Jvm.LawKit.callS X47 hx (y := (⟨"com/example/syncline/syncline/ByteCursorUnsignedPinLaw", "at", "(IIJJ)B"⟩ : MethodName)) hown (mvT hZ (hw _ (List.mem_of_getElem? (i := 1) rfl))) (mvT hZ (hw _ (List.mem_of_getElem? (i := 2) rfl))) (mvT hZ (hw _ (List.mem_of_getElem? (i := 3) rfl))) (mvT hZ (hw _ (List.mem_of_getElem? (i := 4) rfl))) (by decide) (backOf (W := 2) (rm1 l Z a0 hw [] (15 : Int32) y8 u0 u1 h47 n0 Z48 ) hZ (hw _ (List.mem_of_getElem? (i := 4) rfl)) (hw _ (List.mem_of_getElem? (i := 3) rfl)) (by decide) (by decide)) (g := (mkF m 235 #[.val (.long u0), .second, .val (.long u1), .second, .val (.int u2), .val (.int u3), .val (.int u4), .val (.int y7), .val (.int y8), .val (.int y9), .val (.ref b1), .unset, .unset, .unset, .unset, .unset] [(.long u1), (.long u0), (.int y8), (.int (15 : Int32)), (.int (15 : Int32)), (.ref b1)])) rfl (by rw [hml]; rfl) (argsL := [(.int (15 : Int32)), (.int y8), (.long u0), (.long u1)]) (rest := [(.int (15 : Int32)), (.ref b1)]) (lenOf own_pd1 rfl) rfl (by show 2 * 0 + _ ≤ _; exact Nat.le_of_eq rfl) (hb hby at_235) (fun _ _ => ⟨rfl, e47, (by decide : 1 + 0 ≤ _), (by decide : 16 + 0 ≤ _)⟩)
  dsimp only [Pt.U, Pt.locs, Pt.cells, Pt.slots] at X49 lq49 yq49 zq49 st49 hQ49
  rw [lq49, yq49, zq49] at X49
  have X49 : Stand p l e _ s m _ below meth c T49 _ 1 16 := X49
  obtain ⟨rfl, N49q, eh49⟩ := hQ49
  have N49 := Fr.app N47 N49q
  refine own_st (B := T49.setTop (mkF m 238 #[.val (.long u0), .second, .val (.long u1), .second, .val (.int u2), .val (.int u3), .val (.int u4), .val (.int y7), .val (.int y8), .val (.int y9), .val (.ref b1), .unset, .unset, .unset, .unset, .unset] [(.int (own_at (15 : Int32) y8 u0 u1)), (.int (15 : Int32)), (.ref b1)])) st49 ?_
  obtain ⟨T50, h50, X50, e50, W50, a50, st50⟩ := own_stB X49 hx hZ eh49 a47 (i := 15) (j := (15 : Int32)) (by decide) (by decide) (pc := 238) (x := (own_at (15 : Int32) y8 u0 u1)) (Ls := #[.val (.long u0), .second, .val (.long u1), .second, .val (.int u2), .val (.int u3), .val (.int u4), .val (.int y7), .val (.int y8), .val (.int y9), .val (.ref b1), .unset, .unset, .unset, .unset, .unset]) (rest := []) (hb hby at_238)
  have N50 := Fr.snoc X50 N49 g2
  have Z51 := Nat.le_trans Z48 (Keep.of_wr W50).1
  refine own_st (B := T50.setTop (mkF m 239 #[.val (.long u0), .second, .val (.long u1), .second, .val (.int u2), .val (.int u3), .val (.int u4), .val (.int y7), .val (.int y8), .val (.int y9), .val (.ref b1), .unset, .unset, .unset, .unset, .unset] [])) st50 ?_
  obtain ⟨ff, aff, hff⟩ : ∃ ff, own_A Z h50 b1 .byte 16 ff ∧ ∀ j, j < 16 → ff j = own_at (Int32.ofNat j) y8 u0 u1 := ⟨_, a50, own_b16 _ _ (fun j => by
      match j with
      | ⟨0, _⟩ => simp [own_up]; exact own_natb _ _ _ _
      | ⟨1, _⟩ => simp [own_up]; exact own_natb _ _ _ _
      | ⟨2, _⟩ => simp [own_up]; exact own_natb _ _ _ _
      | ⟨3, _⟩ => simp [own_up]; exact own_natb _ _ _ _
      | ⟨4, _⟩ => simp [own_up]; exact own_natb _ _ _ _
      | ⟨5, _⟩ => simp [own_up]; exact own_natb _ _ _ _
      | ⟨6, _⟩ => simp [own_up]; exact own_natb _ _ _ _
      | ⟨7, _⟩ => simp [own_up]; exact own_natb _ _ _ _
      | ⟨8, _⟩ => simp [own_up]; exact own_natb _ _ _ _
      | ⟨9, _⟩ => simp [own_up]; exact own_natb _ _ _ _
      | ⟨10, _⟩ => simp [own_up]; exact own_natb _ _ _ _
      | ⟨11, _⟩ => simp [own_up]; exact own_natb _ _ _ _
      | ⟨12, _⟩ => simp [own_up]; exact own_natb _ _ _ _
      | ⟨13, _⟩ => simp [own_up]; exact own_natb _ _ _ _
      | ⟨14, _⟩ => simp [own_up]; exact own_natb _ _ _ _
      | ⟨15, _⟩ => simp [own_up]; exact own_natb _ _ _ _
      | ⟨n' + 16, hn'⟩ => omega)⟩
  obtain ⟨T52, h52, X52, e52, E52, A52, D52, -, st52⟩ := newO X50 hx hZ hown (hw _ (List.mem_of_getElem? (i := 5) rfl)) (hw _ (List.mem_of_getElem? (i := 6) rfl)) (hw _ (List.mem_of_getElem? (i := 7) rfl)) e50 (g := (mkF m 239 #[.val (.long u0), .second, .val (.long u1), .second, .val (.int u2), .val (.int u3), .val (.int u4), .val (.int y7), .val (.int y8), .val (.int y9), .val (.ref b1), .unset, .unset, .unset, .unset, .unset] [])) rfl (hb hby at_239) (by decide) (by decide)
  obtain ⟨b52, g52⟩ : ∃ z, z = h50.size := ⟨_, rfl⟩
  rw [← g52] at A52 D52 st52
  have ne53 : b1 ≠ b52 := Nat.ne_of_lt (Nat.lt_of_lt_of_le aff.lt (Nat.le_of_eq g52.symm))
  have g54 : n0 ≤ b52 := Nat.le_trans Z51 (Nat.le_of_eq g52.symm)
  have Z55 := Nat.le_trans Z51 E52.1
  have X52 : Stand p l e _ s m _ below meth c T52 _ 2 19 := X52
  have F52_bytes : Fld Z h52 b52 "com/example/syncline/syncline/ByteCursor" "bytes" "[B" .null := D52 (Or.inr (hw _ (List.mem_of_getElem? (i := 15) rfl))) (ty := (.array .byte)) (by decide)
  have F52_position : Fld Z h52 b52 "com/example/syncline/syncline/ByteCursor" "position" "I" (.int (0 : Int32)) := D52 (Or.inl (hw _ (List.mem_of_getElem? (i := 17) rfl))) (ty := .int) (by decide)
  have F52_end : Fld Z h52 b52 "com/example/syncline/syncline/ByteCursor" "end" "I" (.int (0 : Int32)) := D52 (Or.inr (hw _ (List.mem_of_getElem? (i := 19) rfl))) (ty := .int) (by decide)
  refine own_st (B := T52.setTop (mkF m 242 #[.val (.long u0), .second, .val (.long u1), .second, .val (.int u2), .val (.int u3), .val (.int u4), .val (.int y7), .val (.int y8), .val (.int y9), .val (.ref b1), .unset, .unset, .unset, .unset, .unset] [(.ref b52)])) st52 ?_
  refine own_st (B := T52.setTop (mkF m 243 #[.val (.long u0), .second, .val (.long u1), .second, .val (.int u2), .val (.int u3), .val (.int u4), .val (.int y7), .val (.int y8), .val (.int y9), .val (.ref b1), .unset, .unset, .unset, .unset, .unset] [(.ref b52), (.ref b52)])) (fun t_ k_ => XS.dup X52.here hx rfl (hb hby at_242) rfl rfl k_) ?_
  refine own_st (B := T52.setTop (mkF m 245 #[.val (.long u0), .second, .val (.long u1), .second, .val (.int u2), .val (.int u3), .val (.int u4), .val (.int y7), .val (.int y8), .val (.int y9), .val (.ref b1), .unset, .unset, .unset, .unset, .unset] [(.ref b1), (.ref b52), (.ref b52)])) (fun t_ k_ => XS.aload X52.here hx rfl (hb hby at_243) rfl rfl k_) ?_
  refine own_st (B := T52.setTop (mkF m 247 #[.val (.long u0), .second, .val (.long u1), .second, .val (.int u2), .val (.int u3), .val (.int u4), .val (.int y7), .val (.int y8), .val (.int y9), .val (.ref b1), .unset, .unset, .unset, .unset, .unset] [(.int y8), (.ref b1), (.ref b52), (.ref b52)])) (fun t_ k_ => XS.iload X52.here hx rfl (hb hby at_245) rfl k_) ?_
  refine own_st (B := T52.setTop (mkF m 249 #[.val (.long u0), .second, .val (.long u1), .second, .val (.int u2), .val (.int u3), .val (.int u4), .val (.int y7), .val (.int y8), .val (.int y9), .val (.ref b1), .unset, .unset, .unset, .unset, .unset] [(.int y8), (.int y8), (.ref b1), (.ref b52), (.ref b52)])) (fun t_ k_ => XS.iload X52.here hx rfl (hb hby at_247) rfl k_) ?_
  refine own_st (B := T52.setTop (mkF m 251 #[.val (.long u0), .second, .val (.long u1), .second, .val (.int u2), .val (.int u3), .val (.int u4), .val (.int y7), .val (.int y8), .val (.int y9), .val (.ref b1), .unset, .unset, .unset, .unset, .unset] [(.int y7), (.int y8), (.int y8), (.ref b1), (.ref b52), (.ref b52)])) (fun t_ k_ => XS.iload X52.here hx rfl (hb hby at_249) rfl k_) ?_
  refine own_st (B := T52.setTop (mkF m 252 #[.val (.long u0), .second, .val (.long u1), .second, .val (.int u2), .val (.int u3), .val (.int u4), .val (.int y7), .val (.int y8), .val (.int y9), .val (.ref b1), .unset, .unset, .unset, .unset, .unset] [(.int (y8 + y7)), (.int y8), (.ref b1), (.ref b52), (.ref b52)])) (fun t_ k_ => XS.iadd X52.here hx rfl (hb hby at_251) rfl k_) ?_
  refine own_st (B := T52.setTop (mkF m 254 #[.val (.long u0), .second, .val (.long u1), .second, .val (.int u2), .val (.int u3), .val (.int u4), .val (.int y7), .val (.int y8), .val (.int y9), .val (.ref b1), .unset, .unset, .unset, .unset, .unset] [(.int y9), (.int (y8 + y7)), (.int y8), (.ref b1), (.ref b52), (.ref b52)])) (fun t_ k_ => XS.iload X52.here hx rfl (hb hby at_252) rfl k_) ?_
  refine own_st (B := T52.setTop (mkF m 255 #[.val (.long u0), .second, .val (.long u1), .second, .val (.int u2), .val (.int u3), .val (.int u4), .val (.int y7), .val (.int y8), .val (.int y9), .val (.ref b1), .unset, .unset, .unset, .unset, .unset] [(.int ((y8 + y7) + y9)), (.int y8), (.ref b1), (.ref b52), (.ref b52)])) (fun t_ k_ => XS.iadd X52.here hx rfl (hb hby at_254) rfl k_) ?_
  obtain ⟨_, _, ⟨T56, Lq56, kq56, nq56⟩, -, X56, ⟨Lc56, hQ56, lq56, yq56, zq56⟩, st56⟩ := X52.specialBack hx (y := (⟨"com/example/syncline/syncline/ByteCursor", "<init>", "([BII)V"⟩ : MethodName)) rfl hown (mvT hZ (hw _ (List.mem_of_getElem? (i := 8) rfl))) (mvT hZ (hw _ (List.mem_of_getElem? (i := 9) rfl))) (mvT hZ (hw _ (List.mem_of_getElem? (i := 10) rfl))) (by decide) (backOf (W := 1) (rm2 l Z a0 hw [] b52 b1 y8 ((y8 + y7) + y9) h52 n0 Z55 A52 F52_bytes F52_position F52_end g54) hZ (hw _ (List.mem_of_getElem? (i := 10) rfl)) (hw _ (List.mem_of_getElem? (i := 7) rfl)) (by decide) (by decide)) (g := (mkF m 255 #[.val (.long u0), .second, .val (.long u1), .second, .val (.int u2), .val (.int u3), .val (.int u4), .val (.int y7), .val (.int y8), .val (.int y9), .val (.ref b1), .unset, .unset, .unset, .unset, .unset] [(.int ((y8 + y7) + y9)), (.int y8), (.ref b1), (.ref b52), (.ref b52)])) rfl (by rw [hml]; rfl) (Steps.refl _) (a := b52) (argsL := [(.ref b1), (.int y8), (.int ((y8 + y7) + y9))]) (rest := [(.ref b52)]) (lenOf own_pd2 rfl) rfl (by show 2 * 0 + _ ≤ _; exact Nat.le_of_eq rfl) (hb hby at_255) (fun _ _ => ⟨rfl, e52, (by decide : 2 + 0 ≤ _), (by decide : 19 + 0 ≤ _)⟩)
  dsimp only [Pt.U, Pt.locs, Pt.cells, Pt.slots] at X56 lq56 yq56 zq56 st56 hQ56
  rw [lq56, yq56, zq56] at X56
  have X56 : Stand p l e _ s m _ below meth c T56 _ 2 19 := X56
  obtain ⟨rfl, N56q, K56, Fc56_0, Fc56_1, Fc56_2⟩ := hQ56
  have N56 := Fr.app N50 N56q
  have Z57 := Nat.le_trans Z55 K56.1
  refine own_st (B := T56.setTop (mkF m 258 #[.val (.long u0), .second, .val (.long u1), .second, .val (.int u2), .val (.int u3), .val (.int u4), .val (.int y7), .val (.int y8), .val (.int y9), .val (.ref b1), .unset, .unset, .unset, .unset, .unset] [(.ref b52)])) (fun t_ k_ => st56.trans k_) ?_
  refine own_st (B := T56.setTop (mkF m 260 #[.val (.long u0), .second, .val (.long u1), .second, .val (.int u2), .val (.int u3), .val (.int u4), .val (.int y7), .val (.int y8), .val (.int y9), .val (.ref b1), .val (.ref b52), .unset, .unset, .unset, .unset] [])) (fun t_ k_ => XS.astore X56.here hx rfl (hb hby at_258) rfl rfl (l' := #[.val (.long u0), .second, .val (.long u1), .second, .val (.int u2), .val (.int u3), .val (.int u4), .val (.int y7), .val (.int y8), .val (.int y9), .val (.ref b1), .val (.ref b52), .unset, .unset, .unset, .unset]) rfl k_) ?_
  have s1 := c_iadd y8 y7; have s2 := rng32 (y8 + y7); have s3 := c_iadd (y8 + y7) y9; have s4 := rng32 (y8 + y7 + y9); have s5 := c_isub (y8 + y7 + y9) y8; have s6 := rng32 (y8 + y7 + y9 - y8)
  have hl : ¬ (y7 < (0 : Int32)) := by rw [Int32.lt_iff_toInt_lt, show (0 : Int32).toInt = 0 from rfl]; omega
  have hn : ¬ ((((y8 + y7) + y9) - y8) < y7) := by rw [Int32.lt_iff_toInt_lt]; omega
  refine own_st (B := T56.setTop (mkF m 262 #[.val (.long u0), .second, .val (.long u1), .second, .val (.int u2), .val (.int u3), .val (.int u4), .val (.int y7), .val (.int y8), .val (.int y9), .val (.ref b1), .val (.ref b52), .unset, .unset, .unset, .unset] [(.ref b52)])) (fun t_ k_ => XS.aload X56.here hx rfl (hb hby at_260) rfl rfl k_) ?_
  refine own_st (B := T56.setTop (mkF m 264 #[.val (.long u0), .second, .val (.long u1), .second, .val (.int u2), .val (.int u3), .val (.int u4), .val (.int y7), .val (.int y8), .val (.int y9), .val (.ref b1), .val (.ref b52), .unset, .unset, .unset, .unset] [(.int y7), (.ref b52)])) (fun t_ k_ => XS.iload X56.here hx rfl (hb hby at_262) rfl k_) ?_
  have u59 := A52.keep K56
  have u60 := aff.ext E52
  have u61 := u60.keep K56 (ninS ne53 nin0)
  obtain ⟨cq58, kr58, q58a, q58b, q58c⟩ := isOf hZ rfl u59
  obtain ⟨_, _, ⟨T58, Lq58, kq58, nq58⟩, -, X58, ⟨Lc58, hQ58, lq58, yq58, zq58⟩, st58⟩ := X56.virtualBack hx (y := (⟨"com/example/syncline/syncline/ByteCursor", "unsigned", "(I)J"⟩ : MethodName)) (z := (⟨"com/example/syncline/syncline/ByteCursor", "unsigned", "(I)J"⟩ : MethodName)) hown (mvT hZ (hw _ (List.mem_of_getElem? (i := 20) rfl))) (mvT hZ (hw _ (List.mem_of_getElem? (i := 21) rfl))) (notFace_of_selects (args := #[]) (mvT hZ (hw _ (List.mem_of_getElem? (i := 23) rfl)))) (mvT hZ (hw _ (List.mem_of_getElem? (i := 23) rfl))) (mvT hZ (hw _ (List.mem_of_getElem? (i := 22) rfl))) (by decide) (backOf (W := 0) (rm4 l Z a0 hw [] b52 b1 y7 y8 ((y8 + y7) + y9) kp kl ff T56.heap n0 Z57 u59 Fc56_0 Fc56_1 Fc56_2 u61 g54 hl hn hkp hkl hk8 (by omega)) hZ (hw _ (List.mem_of_getElem? (i := 24) rfl)) (hw _ (List.mem_of_getElem? (i := 7) rfl)) (by decide) (by decide)) q58a q58c (g := (mkF m 264 #[.val (.long u0), .second, .val (.long u1), .second, .val (.int u2), .val (.int u3), .val (.int u4), .val (.int y7), .val (.int y8), .val (.int y9), .val (.ref b1), .val (.ref b52), .unset, .unset, .unset, .unset] [(.int y7), (.ref b52)])) rfl (by rw [hml]; rfl) (Steps.refl _) (argsL := [(.int y7)]) (rest := []) (lenOf own_pd3 rfl) rfl (by show 2 * 0 + _ ≤ _; exact Nat.le_of_eq rfl) (hb hby at_264) (fun _ _ => ⟨rfl, rfl, (by decide : 2 + 0 ≤ _), (by decide : 19 + 0 ≤ _)⟩)
  dsimp only [Pt.U, Pt.locs, Pt.cells, Pt.slots] at X58 lq58 yq58 zq58 st58 hQ58
  rw [lq58, yq58, zq58] at X58
  have X58 : Stand p l e _ s m _ below meth c T58 _ 2 19 := X58
  obtain ⟨rfl, N58q, K58, Fp58, Fe58⟩ := hQ58
  have N58 := Fr.app N56 N58q
  have Z62 := Nat.le_trans Z57 K58.1
  refine own_st (B := T58.setTop (mkF m 267 #[.val (.long u0), .second, .val (.long u1), .second, .val (.int u2), .val (.int u3), .val (.int u4), .val (.int y7), .val (.int y8), .val (.int y9), .val (.ref b1), .val (.ref b52), .unset, .unset, .unset, .unset] [(.long (own_g ff kp kl kl))])) (fun t_ k_ => st58.trans k_) ?_
  refine own_st (B := T58.setTop (mkF m 269 #[.val (.long u0), .second, .val (.long u1), .second, .val (.int u2), .val (.int u3), .val (.int u4), .val (.int y7), .val (.int y8), .val (.int y9), .val (.ref b1), .val (.ref b52), .val (.long (own_g ff kp kl kl)), .second, .unset, .unset] [])) (fun t_ k_ => XS.lstore X58.here hx rfl (hb hby at_267) rfl (l' := #[.val (.long u0), .second, .val (.long u1), .second, .val (.int u2), .val (.int u3), .val (.int u4), .val (.int y7), .val (.int y8), .val (.int y9), .val (.ref b1), .val (.ref b52), .val (.long (own_g ff kp kl kl)), .second, .unset, .unset]) rfl k_) ?_
  refine own_st (B := T58.setTop (mkF m 271 #[.val (.long u0), .second, .val (.long u1), .second, .val (.int u2), .val (.int u3), .val (.int u4), .val (.int y7), .val (.int y8), .val (.int y9), .val (.ref b1), .val (.ref b52), .val (.long (own_g ff kp kl kl)), .second, .unset, .unset] [(.int y7)])) (fun t_ k_ => XS.iload X58.here hx rfl (hb hby at_269) rfl k_) ?_
  refine own_st (B := T58.setTop (mkF m 273 #[.val (.long u0), .second, .val (.long u1), .second, .val (.int u2), .val (.int u3), .val (.int u4), .val (.int y7), .val (.int y8), .val (.int y9), .val (.ref b1), .val (.ref b52), .val (.long (own_g ff kp kl kl)), .second, .unset, .unset] [(.int (8 : Int32)), (.int y7)])) (fun t_ k_ => XS.bipush X58.here hx rfl (hb hby at_271) k_) ?_
  by_cases hc63 : y7 = (8 : Int32)
  · have hd63 := own_eq32 hc63
    rw [show (8 : Int32).toInt = 8 from rfl] at hd63
    refine own_st (B := T58.setTop (mkF m 276 #[.val (.long u0), .second, .val (.long u1), .second, .val (.int u2), .val (.int u3), .val (.int u4), .val (.int y7), .val (.int y8), .val (.int y9), .val (.ref b1), .val (.ref b52), .val (.long (own_g ff kp kl kl)), .second, .unset, .unset] [])) (fun t_ k_ => XS.icmpNo X58.here hx rfl (hb hby at_273) rfl (teq hc63).2 k_) ?_
    refine own_st (B := T58.setTop (mkF m 277 #[.val (.long u0), .second, .val (.long u1), .second, .val (.int u2), .val (.int u3), .val (.int u4), .val (.int y7), .val (.int y8), .val (.int y9), .val (.ref b1), .val (.ref b52), .val (.long (own_g ff kp kl kl)), .second, .unset, .unset] [(.long u0)])) (fun t_ k_ => XS.lloadN X58.here hx rfl (hb hby at_276) rfl k_) ?_
    refine own_st (B := T58.setTop (mkF m 291 #[.val (.long u0), .second, .val (.long u1), .second, .val (.int u2), .val (.int u3), .val (.int u4), .val (.int y7), .val (.int y8), .val (.int y9), .val (.ref b1), .val (.ref b52), .val (.long (own_g ff kp kl kl)), .second, .unset, .unset] [(.long u0)])) (fun t_ k_ => XS.goto X58.here hx rfl (pc0 := 277) (pc' := 291) rfl (hb hby at_277) (by decide) (by decide) k_) ?_
    refine own_st (B := T58.setTop (mkF m 293 #[.val (.long u0), .second, .val (.long u1), .second, .val (.int u2), .val (.int u3), .val (.int u4), .val (.int y7), .val (.int y8), .val (.int y9), .val (.ref b1), .val (.ref b52), .val (.long (own_g ff kp kl kl)), .second, .val (.long u0), .second] [])) (fun t_ k_ => XS.lstore X58.here hx rfl (hb hby at_291) rfl (l' := #[.val (.long u0), .second, .val (.long u1), .second, .val (.int u2), .val (.int u3), .val (.int u4), .val (.int y7), .val (.int y8), .val (.int y9), .val (.ref b1), .val (.ref b52), .val (.long (own_g ff kp kl kl)), .second, .val (.long u0), .second]) rfl k_) ?_
    refine own_st (B := T58.setTop (mkF m 295 #[.val (.long u0), .second, .val (.long u1), .second, .val (.int u2), .val (.int u3), .val (.int u4), .val (.int y7), .val (.int y8), .val (.int y9), .val (.ref b1), .val (.ref b52), .val (.long (own_g ff kp kl kl)), .second, .val (.long u0), .second] [(.long (own_g ff kp kl kl))])) (fun t_ k_ => XS.lload X58.here hx rfl (hb hby at_293) rfl k_) ?_
    refine own_st (B := T58.setTop (mkF m 297 #[.val (.long u0), .second, .val (.long u1), .second, .val (.int u2), .val (.int u3), .val (.int u4), .val (.int y7), .val (.int y8), .val (.int y9), .val (.ref b1), .val (.ref b52), .val (.long (own_g ff kp kl kl)), .second, .val (.long u0), .second] [(.long u0), (.long (own_g ff kp kl kl))])) (fun t_ k_ => XS.lload X58.here hx rfl (hb hby at_295) rfl k_) ?_
    refine own_st (B := T58.setTop (mkF m 298 #[.val (.long u0), .second, .val (.long u1), .second, .val (.int u2), .val (.int u3), .val (.int u4), .val (.int y7), .val (.int y8), .val (.int y9), .val (.ref b1), .val (.ref b52), .val (.long (own_g ff kp kl kl)), .second, .val (.long u0), .second] [(.int (lcmpW (own_g ff kp kl kl) u0))])) (fun t_ k_ => XS.lcmp X58.here hx rfl (hb hby at_297) rfl k_) ?_
    have hc64 : (own_g ff kp kl kl) = u0 := (own_key hff hkp hkp4 hkl hk1 hk8).trans (by unfold own_exp; first | exact if_pos hc63 | exact if_neg hc63)
    have hd64 := own_eq64 hc64
    refine own_st (B := T58.setTop (mkF m 301 #[.val (.long u0), .second, .val (.long u1), .second, .val (.int u2), .val (.int u3), .val (.int u4), .val (.int y7), .val (.int y8), .val (.int y9), .val (.ref b1), .val (.ref b52), .val (.long (own_g ff kp kl kl)), .second, .val (.long u0), .second] [])) (fun t_ k_ => XS.ifNo X58.here hx rfl (hb hby at_298) rfl ((if0 _ _).trans (teq ((lw_eq _ _).mpr hc64)).2) k_) ?_
    refine own_st (B := T58.setTop (mkF m 303 #[.val (.long u0), .second, .val (.long u1), .second, .val (.int u2), .val (.int u3), .val (.int u4), .val (.int y7), .val (.int y8), .val (.int y9), .val (.ref b1), .val (.ref b52), .val (.long (own_g ff kp kl kl)), .second, .val (.long u0), .second] [(.ref b52)])) (fun t_ k_ => XS.aload X58.here hx rfl (hb hby at_301) rfl rfl k_) ?_
    have u66 := u59.keep K58
    obtain ⟨cq65, kr65, q65a, q65b, q65c⟩ := isOf hZ rfl u66
    obtain ⟨_, _, ⟨T65, Lq65, kq65, nq65⟩, -, X65, ⟨Lc65, hQ65, lq65, yq65, zq65⟩, st65⟩ := X58.virtualBack hx (y := (⟨"com/example/syncline/syncline/ByteCursor", "position", "()I"⟩ : MethodName)) (z := (⟨"com/example/syncline/syncline/ByteCursor", "position", "()I"⟩ : MethodName)) hown (mvT hZ (hw _ (List.mem_of_getElem? (i := 29) rfl))) (mvT hZ (hw _ (List.mem_of_getElem? (i := 30) rfl))) (notFace_of_selects (args := #[]) (mvT hZ (hw _ (List.mem_of_getElem? (i := 32) rfl)))) (mvT hZ (hw _ (List.mem_of_getElem? (i := 32) rfl))) (mvT hZ (hw _ (List.mem_of_getElem? (i := 31) rfl))) (by decide) (backOf (W := 0) (rm6 l Z a0 hw [] b52 (y8 + y7) T58.heap n0 Z62 Fp58) hZ (hw _ (List.mem_of_getElem? (i := 33) rfl)) (hw _ (List.mem_of_getElem? (i := 7) rfl)) (by decide) (by decide)) q65a q65c (g := (mkF m 303 #[.val (.long u0), .second, .val (.long u1), .second, .val (.int u2), .val (.int u3), .val (.int u4), .val (.int y7), .val (.int y8), .val (.int y9), .val (.ref b1), .val (.ref b52), .val (.long (own_g ff kp kl kl)), .second, .val (.long u0), .second] [(.ref b52)])) rfl (by rw [hml]; rfl) (Steps.refl _) (argsL := []) (rest := []) (lenOf own_pd4 rfl) rfl (by show 2 * 0 + _ ≤ _; exact Nat.le_of_eq rfl) (hb hby at_303) (fun _ _ => ⟨rfl, rfl, (by decide : 2 + 0 ≤ _), (by decide : 19 + 0 ≤ _)⟩)
    dsimp only [Pt.U, Pt.locs, Pt.cells, Pt.slots] at X65 lq65 yq65 zq65 st65 hQ65
    rw [lq65, yq65, zq65] at X65
    have X65 : Stand p l e _ s m _ below meth c T65 _ 2 19 := X65
    obtain ⟨rfl, N65q, eh65⟩ := hQ65
    have N65 := Fr.app N58 N65q
    refine own_st (B := T65.setTop (mkF m 306 #[.val (.long u0), .second, .val (.long u1), .second, .val (.int u2), .val (.int u3), .val (.int u4), .val (.int y7), .val (.int y8), .val (.int y9), .val (.ref b1), .val (.ref b52), .val (.long (own_g ff kp kl kl)), .second, .val (.long u0), .second] [(.int (y8 + y7))])) (fun t_ k_ => st65.trans k_) ?_
    refine own_st (B := T65.setTop (mkF m 308 #[.val (.long u0), .second, .val (.long u1), .second, .val (.int u2), .val (.int u3), .val (.int u4), .val (.int y7), .val (.int y8), .val (.int y9), .val (.ref b1), .val (.ref b52), .val (.long (own_g ff kp kl kl)), .second, .val (.long u0), .second] [(.int y8), (.int (y8 + y7))])) (fun t_ k_ => XS.iload X65.here hx rfl (hb hby at_306) rfl k_) ?_
    refine own_st (B := T65.setTop (mkF m 310 #[.val (.long u0), .second, .val (.long u1), .second, .val (.int u2), .val (.int u3), .val (.int u4), .val (.int y7), .val (.int y8), .val (.int y9), .val (.ref b1), .val (.ref b52), .val (.long (own_g ff kp kl kl)), .second, .val (.long u0), .second] [(.int y7), (.int y8), (.int (y8 + y7))])) (fun t_ k_ => XS.iload X65.here hx rfl (hb hby at_308) rfl k_) ?_
    refine own_st (B := T65.setTop (mkF m 311 #[.val (.long u0), .second, .val (.long u1), .second, .val (.int u2), .val (.int u3), .val (.int u4), .val (.int y7), .val (.int y8), .val (.int y9), .val (.ref b1), .val (.ref b52), .val (.long (own_g ff kp kl kl)), .second, .val (.long u0), .second] [(.int (y8 + y7)), (.int (y8 + y7))])) (fun t_ k_ => XS.iadd X65.here hx rfl (hb hby at_310) rfl k_) ?_
    have hc67 : (y8 + y7) = (y8 + y7) := rfl
    have hd67 := own_eq32 hc67
    refine own_st (B := T65.setTop (mkF m 314 #[.val (.long u0), .second, .val (.long u1), .second, .val (.int u2), .val (.int u3), .val (.int u4), .val (.int y7), .val (.int y8), .val (.int y9), .val (.ref b1), .val (.ref b52), .val (.long (own_g ff kp kl kl)), .second, .val (.long u0), .second] [])) (fun t_ k_ => XS.icmpNo X65.here hx rfl (hb hby at_311) rfl (teq hc67).2 k_) ?_
    refine own_st (B := T65.setTop (mkF m 316 #[.val (.long u0), .second, .val (.long u1), .second, .val (.int u2), .val (.int u3), .val (.int u4), .val (.int y7), .val (.int y8), .val (.int y9), .val (.ref b1), .val (.ref b52), .val (.long (own_g ff kp kl kl)), .second, .val (.long u0), .second] [(.ref b52)])) (fun t_ k_ => XS.aload X65.here hx rfl (hb hby at_314) rfl rfl k_) ?_
    obtain ⟨cq68, kr68, q68a, q68b, q68c⟩ := isOf hZ eh65 u66
    obtain ⟨_, _, ⟨T68, Lq68, kq68, nq68⟩, -, X68, ⟨Lc68, hQ68, lq68, yq68, zq68⟩, st68⟩ := X65.virtualBack hx (y := (⟨"com/example/syncline/syncline/ByteCursor", "remaining", "()I"⟩ : MethodName)) (z := (⟨"com/example/syncline/syncline/ByteCursor", "remaining", "()I"⟩ : MethodName)) hown (mvT hZ (hw _ (List.mem_of_getElem? (i := 34) rfl))) (mvT hZ (hw _ (List.mem_of_getElem? (i := 35) rfl))) (notFace_of_selects (args := #[]) (mvT hZ (hw _ (List.mem_of_getElem? (i := 37) rfl)))) (mvT hZ (hw _ (List.mem_of_getElem? (i := 37) rfl))) (mvT hZ (hw _ (List.mem_of_getElem? (i := 36) rfl))) (by decide) (backOf (W := 0) (rm7 l Z a0 hw [] b52 (y8 + y7) ((y8 + y7) + y9) T58.heap n0 Z62 Fp58 Fe58) hZ (hw _ (List.mem_of_getElem? (i := 38) rfl)) (hw _ (List.mem_of_getElem? (i := 7) rfl)) (by decide) (by decide)) q68a q68c (g := (mkF m 316 #[.val (.long u0), .second, .val (.long u1), .second, .val (.int u2), .val (.int u3), .val (.int u4), .val (.int y7), .val (.int y8), .val (.int y9), .val (.ref b1), .val (.ref b52), .val (.long (own_g ff kp kl kl)), .second, .val (.long u0), .second] [(.ref b52)])) rfl (by rw [hml]; rfl) (Steps.refl _) (argsL := []) (rest := []) (lenOf own_pd4 rfl) rfl (by show 2 * 0 + _ ≤ _; exact Nat.le_of_eq rfl) (hb hby at_316) (fun _ _ => ⟨rfl, eh65, (by decide : 2 + 0 ≤ _), (by decide : 19 + 0 ≤ _)⟩)
    dsimp only [Pt.U, Pt.locs, Pt.cells, Pt.slots] at X68 lq68 yq68 zq68 st68 hQ68
    rw [lq68, yq68, zq68] at X68
    have X68 : Stand p l e _ s m _ below meth c T68 _ 2 19 := X68
    obtain ⟨rfl, N68q, eh68⟩ := hQ68
    have N68 := Fr.app N65 N68q
    refine own_st (B := T68.setTop (mkF m 319 #[.val (.long u0), .second, .val (.long u1), .second, .val (.int u2), .val (.int u3), .val (.int u4), .val (.int y7), .val (.int y8), .val (.int y9), .val (.ref b1), .val (.ref b52), .val (.long (own_g ff kp kl kl)), .second, .val (.long u0), .second] [(.int (((y8 + y7) + y9) - (y8 + y7)))])) (fun t_ k_ => st68.trans k_) ?_
    refine own_st (B := T68.setTop (mkF m 321 #[.val (.long u0), .second, .val (.long u1), .second, .val (.int u2), .val (.int u3), .val (.int u4), .val (.int y7), .val (.int y8), .val (.int y9), .val (.ref b1), .val (.ref b52), .val (.long (own_g ff kp kl kl)), .second, .val (.long u0), .second] [(.int y9), (.int (((y8 + y7) + y9) - (y8 + y7)))])) (fun t_ k_ => XS.iload X68.here hx rfl (hb hby at_319) rfl k_) ?_
    have hc69 : (((y8 + y7) + y9) - (y8 + y7)) = y9 := own_sub2 _ _
    have hd69 := own_eq32 hc69
    refine own_st (B := T68.setTop (mkF m 324 #[.val (.long u0), .second, .val (.long u1), .second, .val (.int u2), .val (.int u3), .val (.int u4), .val (.int y7), .val (.int y8), .val (.int y9), .val (.ref b1), .val (.ref b52), .val (.long (own_g ff kp kl kl)), .second, .val (.long u0), .second] [])) (fun t_ k_ => XS.icmpNo X68.here hx rfl (hb hby at_321) rfl (teq hc69).2 k_) ?_
    refine own_st (B := T68.setTop (mkF m 325 #[.val (.long u0), .second, .val (.long u1), .second, .val (.int u2), .val (.int u3), .val (.int u4), .val (.int y7), .val (.int y8), .val (.int y9), .val (.ref b1), .val (.ref b52), .val (.long (own_g ff kp kl kl)), .second, .val (.long u0), .second] [(.int (1 : Int32))])) (fun t_ k_ => XS.iconst X68.here hx rfl (hb hby at_324) k_) ?_
    refine own_st (B := T68.setTop (mkF m 329 #[.val (.long u0), .second, .val (.long u1), .second, .val (.int u2), .val (.int u3), .val (.int u4), .val (.int y7), .val (.int y8), .val (.int y9), .val (.ref b1), .val (.ref b52), .val (.long (own_g ff kp kl kl)), .second, .val (.long u0), .second] [(.int (1 : Int32))])) (fun t_ k_ => XS.goto X68.here hx rfl (pc0 := 325) (pc' := 329) rfl (hb hby at_325) (by decide) (by decide) k_) ?_
    refine own_retN X68 hx (t := .boolean) Bd.returns (by simp) hlk (hb hby at_329) (z' := (1 : Int32)) (by first | rfl | exact own_nb _) (by decide) (by decide) ?_
    show Q0 Z u0 u1 u2 u3 u4 h0 n0 _ T68.heap _
    rw [eh68]
    exact ⟨rfl, N68⟩
  · have hd63 := own_neq32 hc63
    rw [show (8 : Int32).toInt = 8 from rfl] at hd63
    refine own_st (B := T58.setTop (mkF m 280 #[.val (.long u0), .second, .val (.long u1), .second, .val (.int u2), .val (.int u3), .val (.int u4), .val (.int y7), .val (.int y8), .val (.int y9), .val (.ref b1), .val (.ref b52), .val (.long (own_g ff kp kl kl)), .second, .unset, .unset] [])) (fun t_ k_ => XS.icmpYes X58.here hx rfl (pc0 := 273) (pc' := 280) rfl (hb hby at_273) rfl (feq hc63).2 (by decide) (by decide) k_) ?_
    refine own_st (B := T58.setTop (mkF m 281 #[.val (.long u0), .second, .val (.long u1), .second, .val (.int u2), .val (.int u3), .val (.int u4), .val (.int y7), .val (.int y8), .val (.int y9), .val (.ref b1), .val (.ref b52), .val (.long (own_g ff kp kl kl)), .second, .unset, .unset] [(.long u0)])) (fun t_ k_ => XS.lloadN X58.here hx rfl (hb hby at_280) rfl k_) ?_
    refine own_st (B := T58.setTop (mkF m 282 #[.val (.long u0), .second, .val (.long u1), .second, .val (.int u2), .val (.int u3), .val (.int u4), .val (.int y7), .val (.int y8), .val (.int y9), .val (.ref b1), .val (.ref b52), .val (.long (own_g ff kp kl kl)), .second, .unset, .unset] [(.long (1 : Int64)), (.long u0)])) (fun t_ k_ => XS.lconst X58.here hx rfl (hb hby at_281) k_) ?_
    refine own_st (B := T58.setTop (mkF m 284 #[.val (.long u0), .second, .val (.long u1), .second, .val (.int u2), .val (.int u3), .val (.int u4), .val (.int y7), .val (.int y8), .val (.int y9), .val (.ref b1), .val (.ref b52), .val (.long (own_g ff kp kl kl)), .second, .unset, .unset] [(.int (8 : Int32)), (.long (1 : Int64)), (.long u0)])) (fun t_ k_ => XS.bipush X58.here hx rfl (hb hby at_282) k_) ?_
    refine own_st (B := T58.setTop (mkF m 286 #[.val (.long u0), .second, .val (.long u1), .second, .val (.int u2), .val (.int u3), .val (.int u4), .val (.int y7), .val (.int y8), .val (.int y9), .val (.ref b1), .val (.ref b52), .val (.long (own_g ff kp kl kl)), .second, .unset, .unset] [(.int y7), (.int (8 : Int32)), (.long (1 : Int64)), (.long u0)])) (fun t_ k_ => XS.iload X58.here hx rfl (hb hby at_284) rfl k_) ?_
    refine own_st (B := T58.setTop (mkF m 287 #[.val (.long u0), .second, .val (.long u1), .second, .val (.int u2), .val (.int u3), .val (.int u4), .val (.int y7), .val (.int y8), .val (.int y9), .val (.ref b1), .val (.ref b52), .val (.long (own_g ff kp kl kl)), .second, .unset, .unset] [(.int ((8 : Int32) * y7)), (.long (1 : Int64)), (.long u0)])) (fun t_ k_ => XS.imul X58.here hx rfl (hb hby at_286) rfl k_) ?_
    refine own_st (B := T58.setTop (mkF m 288 #[.val (.long u0), .second, .val (.long u1), .second, .val (.int u2), .val (.int u3), .val (.int u4), .val (.int y7), .val (.int y8), .val (.int y9), .val (.ref b1), .val (.ref b52), .val (.long (own_g ff kp kl kl)), .second, .unset, .unset] [(.long ((1 : Int64) <<< (((8 : Int32) * y7) &&& 0x3f).toInt64)), (.long u0)])) (fun t_ k_ => XS.lshl X58.here hx rfl (hb hby at_287) rfl k_) ?_
    refine own_st (B := T58.setTop (mkF m 289 #[.val (.long u0), .second, .val (.long u1), .second, .val (.int u2), .val (.int u3), .val (.int u4), .val (.int y7), .val (.int y8), .val (.int y9), .val (.ref b1), .val (.ref b52), .val (.long (own_g ff kp kl kl)), .second, .unset, .unset] [(.long (1 : Int64)), (.long ((1 : Int64) <<< (((8 : Int32) * y7) &&& 0x3f).toInt64)), (.long u0)])) (fun t_ k_ => XS.lconst X58.here hx rfl (hb hby at_288) k_) ?_
    refine own_st (B := T58.setTop (mkF m 290 #[.val (.long u0), .second, .val (.long u1), .second, .val (.int u2), .val (.int u3), .val (.int u4), .val (.int y7), .val (.int y8), .val (.int y9), .val (.ref b1), .val (.ref b52), .val (.long (own_g ff kp kl kl)), .second, .unset, .unset] [(.long (((1 : Int64) <<< (((8 : Int32) * y7) &&& 0x3f).toInt64) - (1 : Int64))), (.long u0)])) (fun t_ k_ => XS.lsub X58.here hx rfl (hb hby at_289) rfl k_) ?_
    refine own_st (B := T58.setTop (mkF m 291 #[.val (.long u0), .second, .val (.long u1), .second, .val (.int u2), .val (.int u3), .val (.int u4), .val (.int y7), .val (.int y8), .val (.int y9), .val (.ref b1), .val (.ref b52), .val (.long (own_g ff kp kl kl)), .second, .unset, .unset] [(.long (u0 &&& (((1 : Int64) <<< (((8 : Int32) * y7) &&& 0x3f).toInt64) - (1 : Int64))))])) (fun t_ k_ => XS.land X58.here hx rfl (hb hby at_290) rfl k_) ?_
    refine own_st (B := T58.setTop (mkF m 293 #[.val (.long u0), .second, .val (.long u1), .second, .val (.int u2), .val (.int u3), .val (.int u4), .val (.int y7), .val (.int y8), .val (.int y9), .val (.ref b1), .val (.ref b52), .val (.long (own_g ff kp kl kl)), .second, .val (.long (u0 &&& (((1 : Int64) <<< (((8 : Int32) * y7) &&& 0x3f).toInt64) - (1 : Int64)))), .second] [])) (fun t_ k_ => XS.lstore X58.here hx rfl (hb hby at_291) rfl (l' := #[.val (.long u0), .second, .val (.long u1), .second, .val (.int u2), .val (.int u3), .val (.int u4), .val (.int y7), .val (.int y8), .val (.int y9), .val (.ref b1), .val (.ref b52), .val (.long (own_g ff kp kl kl)), .second, .val (.long (u0 &&& (((1 : Int64) <<< (((8 : Int32) * y7) &&& 0x3f).toInt64) - (1 : Int64)))), .second]) rfl k_) ?_
    refine own_st (B := T58.setTop (mkF m 295 #[.val (.long u0), .second, .val (.long u1), .second, .val (.int u2), .val (.int u3), .val (.int u4), .val (.int y7), .val (.int y8), .val (.int y9), .val (.ref b1), .val (.ref b52), .val (.long (own_g ff kp kl kl)), .second, .val (.long (u0 &&& (((1 : Int64) <<< (((8 : Int32) * y7) &&& 0x3f).toInt64) - (1 : Int64)))), .second] [(.long (own_g ff kp kl kl))])) (fun t_ k_ => XS.lload X58.here hx rfl (hb hby at_293) rfl k_) ?_
    refine own_st (B := T58.setTop (mkF m 297 #[.val (.long u0), .second, .val (.long u1), .second, .val (.int u2), .val (.int u3), .val (.int u4), .val (.int y7), .val (.int y8), .val (.int y9), .val (.ref b1), .val (.ref b52), .val (.long (own_g ff kp kl kl)), .second, .val (.long (u0 &&& (((1 : Int64) <<< (((8 : Int32) * y7) &&& 0x3f).toInt64) - (1 : Int64)))), .second] [(.long (u0 &&& (((1 : Int64) <<< (((8 : Int32) * y7) &&& 0x3f).toInt64) - (1 : Int64)))), (.long (own_g ff kp kl kl))])) (fun t_ k_ => XS.lload X58.here hx rfl (hb hby at_295) rfl k_) ?_
    refine own_st (B := T58.setTop (mkF m 298 #[.val (.long u0), .second, .val (.long u1), .second, .val (.int u2), .val (.int u3), .val (.int u4), .val (.int y7), .val (.int y8), .val (.int y9), .val (.ref b1), .val (.ref b52), .val (.long (own_g ff kp kl kl)), .second, .val (.long (u0 &&& (((1 : Int64) <<< (((8 : Int32) * y7) &&& 0x3f).toInt64) - (1 : Int64)))), .second] [(.int (lcmpW (own_g ff kp kl kl) (u0 &&& (((1 : Int64) <<< (((8 : Int32) * y7) &&& 0x3f).toInt64) - (1 : Int64)))))])) (fun t_ k_ => XS.lcmp X58.here hx rfl (hb hby at_297) rfl k_) ?_
    have hc70 : (own_g ff kp kl kl) = (u0 &&& (((1 : Int64) <<< (((8 : Int32) * y7) &&& 0x3f).toInt64) - (1 : Int64))) := (own_key hff hkp hkp4 hkl hk1 hk8).trans (by unfold own_exp; first | exact if_pos hc63 | exact if_neg hc63)
    have hd70 := own_eq64 hc70
    refine own_st (B := T58.setTop (mkF m 301 #[.val (.long u0), .second, .val (.long u1), .second, .val (.int u2), .val (.int u3), .val (.int u4), .val (.int y7), .val (.int y8), .val (.int y9), .val (.ref b1), .val (.ref b52), .val (.long (own_g ff kp kl kl)), .second, .val (.long (u0 &&& (((1 : Int64) <<< (((8 : Int32) * y7) &&& 0x3f).toInt64) - (1 : Int64)))), .second] [])) (fun t_ k_ => XS.ifNo X58.here hx rfl (hb hby at_298) rfl ((if0 _ _).trans (teq ((lw_eq _ _).mpr hc70)).2) k_) ?_
    refine own_st (B := T58.setTop (mkF m 303 #[.val (.long u0), .second, .val (.long u1), .second, .val (.int u2), .val (.int u3), .val (.int u4), .val (.int y7), .val (.int y8), .val (.int y9), .val (.ref b1), .val (.ref b52), .val (.long (own_g ff kp kl kl)), .second, .val (.long (u0 &&& (((1 : Int64) <<< (((8 : Int32) * y7) &&& 0x3f).toInt64) - (1 : Int64)))), .second] [(.ref b52)])) (fun t_ k_ => XS.aload X58.here hx rfl (hb hby at_301) rfl rfl k_) ?_
    have u72 := u59.keep K58
    obtain ⟨cq71, kr71, q71a, q71b, q71c⟩ := isOf hZ rfl u72
    obtain ⟨_, _, ⟨T71, Lq71, kq71, nq71⟩, -, X71, ⟨Lc71, hQ71, lq71, yq71, zq71⟩, st71⟩ := X58.virtualBack hx (y := (⟨"com/example/syncline/syncline/ByteCursor", "position", "()I"⟩ : MethodName)) (z := (⟨"com/example/syncline/syncline/ByteCursor", "position", "()I"⟩ : MethodName)) hown (mvT hZ (hw _ (List.mem_of_getElem? (i := 29) rfl))) (mvT hZ (hw _ (List.mem_of_getElem? (i := 30) rfl))) (notFace_of_selects (args := #[]) (mvT hZ (hw _ (List.mem_of_getElem? (i := 32) rfl)))) (mvT hZ (hw _ (List.mem_of_getElem? (i := 32) rfl))) (mvT hZ (hw _ (List.mem_of_getElem? (i := 31) rfl))) (by decide) (backOf (W := 0) (rm6 l Z a0 hw [] b52 (y8 + y7) T58.heap n0 Z62 Fp58) hZ (hw _ (List.mem_of_getElem? (i := 33) rfl)) (hw _ (List.mem_of_getElem? (i := 7) rfl)) (by decide) (by decide)) q71a q71c (g := (mkF m 303 #[.val (.long u0), .second, .val (.long u1), .second, .val (.int u2), .val (.int u3), .val (.int u4), .val (.int y7), .val (.int y8), .val (.int y9), .val (.ref b1), .val (.ref b52), .val (.long (own_g ff kp kl kl)), .second, .val (.long (u0 &&& (((1 : Int64) <<< (((8 : Int32) * y7) &&& 0x3f).toInt64) - (1 : Int64)))), .second] [(.ref b52)])) rfl (by rw [hml]; rfl) (Steps.refl _) (argsL := []) (rest := []) (lenOf own_pd4 rfl) rfl (by show 2 * 0 + _ ≤ _; exact Nat.le_of_eq rfl) (hb hby at_303) (fun _ _ => ⟨rfl, rfl, (by decide : 2 + 0 ≤ _), (by decide : 19 + 0 ≤ _)⟩)
    dsimp only [Pt.U, Pt.locs, Pt.cells, Pt.slots] at X71 lq71 yq71 zq71 st71 hQ71
    rw [lq71, yq71, zq71] at X71
    have X71 : Stand p l e _ s m _ below meth c T71 _ 2 19 := X71
    obtain ⟨rfl, N71q, eh71⟩ := hQ71
    have N71 := Fr.app N58 N71q
    refine own_st (B := T71.setTop (mkF m 306 #[.val (.long u0), .second, .val (.long u1), .second, .val (.int u2), .val (.int u3), .val (.int u4), .val (.int y7), .val (.int y8), .val (.int y9), .val (.ref b1), .val (.ref b52), .val (.long (own_g ff kp kl kl)), .second, .val (.long (u0 &&& (((1 : Int64) <<< (((8 : Int32) * y7) &&& 0x3f).toInt64) - (1 : Int64)))), .second] [(.int (y8 + y7))])) (fun t_ k_ => st71.trans k_) ?_
    refine own_st (B := T71.setTop (mkF m 308 #[.val (.long u0), .second, .val (.long u1), .second, .val (.int u2), .val (.int u3), .val (.int u4), .val (.int y7), .val (.int y8), .val (.int y9), .val (.ref b1), .val (.ref b52), .val (.long (own_g ff kp kl kl)), .second, .val (.long (u0 &&& (((1 : Int64) <<< (((8 : Int32) * y7) &&& 0x3f).toInt64) - (1 : Int64)))), .second] [(.int y8), (.int (y8 + y7))])) (fun t_ k_ => XS.iload X71.here hx rfl (hb hby at_306) rfl k_) ?_
    refine own_st (B := T71.setTop (mkF m 310 #[.val (.long u0), .second, .val (.long u1), .second, .val (.int u2), .val (.int u3), .val (.int u4), .val (.int y7), .val (.int y8), .val (.int y9), .val (.ref b1), .val (.ref b52), .val (.long (own_g ff kp kl kl)), .second, .val (.long (u0 &&& (((1 : Int64) <<< (((8 : Int32) * y7) &&& 0x3f).toInt64) - (1 : Int64)))), .second] [(.int y7), (.int y8), (.int (y8 + y7))])) (fun t_ k_ => XS.iload X71.here hx rfl (hb hby at_308) rfl k_) ?_
    refine own_st (B := T71.setTop (mkF m 311 #[.val (.long u0), .second, .val (.long u1), .second, .val (.int u2), .val (.int u3), .val (.int u4), .val (.int y7), .val (.int y8), .val (.int y9), .val (.ref b1), .val (.ref b52), .val (.long (own_g ff kp kl kl)), .second, .val (.long (u0 &&& (((1 : Int64) <<< (((8 : Int32) * y7) &&& 0x3f).toInt64) - (1 : Int64)))), .second] [(.int (y8 + y7)), (.int (y8 + y7))])) (fun t_ k_ => XS.iadd X71.here hx rfl (hb hby at_310) rfl k_) ?_
    have hc73 : (y8 + y7) = (y8 + y7) := rfl
    have hd73 := own_eq32 hc73
    refine own_st (B := T71.setTop (mkF m 314 #[.val (.long u0), .second, .val (.long u1), .second, .val (.int u2), .val (.int u3), .val (.int u4), .val (.int y7), .val (.int y8), .val (.int y9), .val (.ref b1), .val (.ref b52), .val (.long (own_g ff kp kl kl)), .second, .val (.long (u0 &&& (((1 : Int64) <<< (((8 : Int32) * y7) &&& 0x3f).toInt64) - (1 : Int64)))), .second] [])) (fun t_ k_ => XS.icmpNo X71.here hx rfl (hb hby at_311) rfl (teq hc73).2 k_) ?_
    refine own_st (B := T71.setTop (mkF m 316 #[.val (.long u0), .second, .val (.long u1), .second, .val (.int u2), .val (.int u3), .val (.int u4), .val (.int y7), .val (.int y8), .val (.int y9), .val (.ref b1), .val (.ref b52), .val (.long (own_g ff kp kl kl)), .second, .val (.long (u0 &&& (((1 : Int64) <<< (((8 : Int32) * y7) &&& 0x3f).toInt64) - (1 : Int64)))), .second] [(.ref b52)])) (fun t_ k_ => XS.aload X71.here hx rfl (hb hby at_314) rfl rfl k_) ?_
    obtain ⟨cq74, kr74, q74a, q74b, q74c⟩ := isOf hZ eh71 u72
    obtain ⟨_, _, ⟨T74, Lq74, kq74, nq74⟩, -, X74, ⟨Lc74, hQ74, lq74, yq74, zq74⟩, st74⟩ := X71.virtualBack hx (y := (⟨"com/example/syncline/syncline/ByteCursor", "remaining", "()I"⟩ : MethodName)) (z := (⟨"com/example/syncline/syncline/ByteCursor", "remaining", "()I"⟩ : MethodName)) hown (mvT hZ (hw _ (List.mem_of_getElem? (i := 34) rfl))) (mvT hZ (hw _ (List.mem_of_getElem? (i := 35) rfl))) (notFace_of_selects (args := #[]) (mvT hZ (hw _ (List.mem_of_getElem? (i := 37) rfl)))) (mvT hZ (hw _ (List.mem_of_getElem? (i := 37) rfl))) (mvT hZ (hw _ (List.mem_of_getElem? (i := 36) rfl))) (by decide) (backOf (W := 0) (rm7 l Z a0 hw [] b52 (y8 + y7) ((y8 + y7) + y9) T58.heap n0 Z62 Fp58 Fe58) hZ (hw _ (List.mem_of_getElem? (i := 38) rfl)) (hw _ (List.mem_of_getElem? (i := 7) rfl)) (by decide) (by decide)) q74a q74c (g := (mkF m 316 #[.val (.long u0), .second, .val (.long u1), .second, .val (.int u2), .val (.int u3), .val (.int u4), .val (.int y7), .val (.int y8), .val (.int y9), .val (.ref b1), .val (.ref b52), .val (.long (own_g ff kp kl kl)), .second, .val (.long (u0 &&& (((1 : Int64) <<< (((8 : Int32) * y7) &&& 0x3f).toInt64) - (1 : Int64)))), .second] [(.ref b52)])) rfl (by rw [hml]; rfl) (Steps.refl _) (argsL := []) (rest := []) (lenOf own_pd4 rfl) rfl (by show 2 * 0 + _ ≤ _; exact Nat.le_of_eq rfl) (hb hby at_316) (fun _ _ => ⟨rfl, eh71, (by decide : 2 + 0 ≤ _), (by decide : 19 + 0 ≤ _)⟩)
    dsimp only [Pt.U, Pt.locs, Pt.cells, Pt.slots] at X74 lq74 yq74 zq74 st74 hQ74
    rw [lq74, yq74, zq74] at X74
    have X74 : Stand p l e _ s m _ below meth c T74 _ 2 19 := X74
    obtain ⟨rfl, N74q, eh74⟩ := hQ74
    have N74 := Fr.app N71 N74q
    refine own_st (B := T74.setTop (mkF m 319 #[.val (.long u0), .second, .val (.long u1), .second, .val (.int u2), .val (.int u3), .val (.int u4), .val (.int y7), .val (.int y8), .val (.int y9), .val (.ref b1), .val (.ref b52), .val (.long (own_g ff kp kl kl)), .second, .val (.long (u0 &&& (((1 : Int64) <<< (((8 : Int32) * y7) &&& 0x3f).toInt64) - (1 : Int64)))), .second] [(.int (((y8 + y7) + y9) - (y8 + y7)))])) (fun t_ k_ => st74.trans k_) ?_
    refine own_st (B := T74.setTop (mkF m 321 #[.val (.long u0), .second, .val (.long u1), .second, .val (.int u2), .val (.int u3), .val (.int u4), .val (.int y7), .val (.int y8), .val (.int y9), .val (.ref b1), .val (.ref b52), .val (.long (own_g ff kp kl kl)), .second, .val (.long (u0 &&& (((1 : Int64) <<< (((8 : Int32) * y7) &&& 0x3f).toInt64) - (1 : Int64)))), .second] [(.int y9), (.int (((y8 + y7) + y9) - (y8 + y7)))])) (fun t_ k_ => XS.iload X74.here hx rfl (hb hby at_319) rfl k_) ?_
    have hc75 : (((y8 + y7) + y9) - (y8 + y7)) = y9 := own_sub2 _ _
    have hd75 := own_eq32 hc75
    refine own_st (B := T74.setTop (mkF m 324 #[.val (.long u0), .second, .val (.long u1), .second, .val (.int u2), .val (.int u3), .val (.int u4), .val (.int y7), .val (.int y8), .val (.int y9), .val (.ref b1), .val (.ref b52), .val (.long (own_g ff kp kl kl)), .second, .val (.long (u0 &&& (((1 : Int64) <<< (((8 : Int32) * y7) &&& 0x3f).toInt64) - (1 : Int64)))), .second] [])) (fun t_ k_ => XS.icmpNo X74.here hx rfl (hb hby at_321) rfl (teq hc75).2 k_) ?_
    refine own_st (B := T74.setTop (mkF m 325 #[.val (.long u0), .second, .val (.long u1), .second, .val (.int u2), .val (.int u3), .val (.int u4), .val (.int y7), .val (.int y8), .val (.int y9), .val (.ref b1), .val (.ref b52), .val (.long (own_g ff kp kl kl)), .second, .val (.long (u0 &&& (((1 : Int64) <<< (((8 : Int32) * y7) &&& 0x3f).toInt64) - (1 : Int64)))), .second] [(.int (1 : Int32))])) (fun t_ k_ => XS.iconst X74.here hx rfl (hb hby at_324) k_) ?_
    refine own_st (B := T74.setTop (mkF m 329 #[.val (.long u0), .second, .val (.long u1), .second, .val (.int u2), .val (.int u3), .val (.int u4), .val (.int y7), .val (.int y8), .val (.int y9), .val (.ref b1), .val (.ref b52), .val (.long (own_g ff kp kl kl)), .second, .val (.long (u0 &&& (((1 : Int64) <<< (((8 : Int32) * y7) &&& 0x3f).toInt64) - (1 : Int64)))), .second] [(.int (1 : Int32))])) (fun t_ k_ => XS.goto X74.here hx rfl (pc0 := 325) (pc' := 329) rfl (hb hby at_325) (by decide) (by decide) k_) ?_
    refine own_retN X74 hx (t := .boolean) Bd.returns (by simp) hlk (hb hby at_329) (z' := (1 : Int32)) (by first | rfl | exact own_nb _) (by decide) (by decide) ?_
    show Q0 Z u0 u1 u2 u3 u4 h0 n0 _ T74.heap _
    rw [eh74]
    exact ⟨rfl, N74⟩
set_option maxRecDepth 65536 in
set_option maxHeartbeats 40000000 in
theorem comes_1 {Post : Tables → Env → Array Value → State → Outcome → State → Prop} (hpost : ∀ tb e args s v u, (limb_1_1.after args s (.returned v) u = true ∧ limb_1_2.after args s (.returned v) u = true ∧ True) → FrameEnd s (.returned v) u (Jvm.fieldLocs frame_1_writes args s ++ Jvm.arrayLocs frame_1_arrays args s ++ Jvm.staticLocs frame_1_statics s) 16 128 → Post tb e args s (.returned v) u) :
    ArmFor flags0 classFile x code maxLocals ret World_1 tables_1 room_1 Calls_1 rest_1 Pre_1 Post := by
  intro l hfl _ _ p e ha hc hk s m args below hf hA hF happ hP
  obtain ⟨hcalls, hrest, hpre⟩ := hP
  obtain ⟨-, -, -, hnamed, -, -, -, hat⟩ := (Spec.applies_iff hf).mp happ
  obtain ⟨hg, hn⟩ := and_e (Cond.before_iff.mp (show (Jvm.Cond.and given_1 narrow_1).before args s = true from hpre))
  obtain ⟨gg1, gg2⟩ := and_e hg
  obtain ⟨gg3, gg4⟩ := and_e gg2
  obtain ⟨gg5, gg6⟩ := and_e gg4
  obtain ⟨gg7, gg8⟩ := and_e gg6
  obtain ⟨gg9, gg10⟩ := and_e gg8
  obtain ⟨w0, w1, w2, w3, w4, rfl⟩ : ∃ w0 w1 w2 w3 w4 : Value, args = #[w0, w1, w2, w3, w4] := by
    have hs : args.size = 5 := by simpa [Cond.value, given_1] using gg1
    obtain ⟨L⟩ := args
    match L, hs with
    | [w0, w1, w2, w3, w4], _ => exact ⟨w0, w1, w2, w3, w4, rfl⟩
  have hw := fun d (hd : d ∈ tables_1) => atoms_spec (ws := Jvm.Cond.code x code maxLocals ret :: tables_1) hat d (List.mem_cons_of_mem _ hd)
  have hfit : Fit s := fun {y c} hc i hi => by
    obtain ⟨ha, rfl⟩ := Array.getElem?_eq_some_iff.mp hc
    have q := List.all_eq_true.mp ((Array.all_eq_true_iff_forall_mem.mp hF) _ (Array.getElem_mem ha)) i (List.mem_range.mpr hi)
    simpa [Array.getElem?_eq_getElem hi] using q
  obtain ⟨i0, ei0⟩ := isL_v gg3
  obtain rfl : w0 = (.long i0) := Option.some.inj ei0
  obtain ⟨i1, ei1⟩ := isL_v gg5
  obtain rfl : w1 = (.long i1) := Option.some.inj ei1
  obtain ⟨i2, ei2⟩ := is_v gg7
  obtain rfl : w2 = (.int i2) := Option.some.inj ei2
  obtain ⟨i3, ei3⟩ := is_v gg9
  obtain rfl : w3 = (.int i3) := Option.some.inj ei3
  obtain ⟨i4, ei4⟩ := is_v gg10
  obtain rfl : w4 = (.int i4) := Option.some.inj ei4
  obtain ⟨n, o, h1, h2, h3, _, L, rfl, ⟨rfl, N⟩, hq⟩ := rm0 l s _ hw tables_1 i0 i1 i2 i3 i4 s.heap s.heap.size (Nat.le_refl _)  p e ha hc hk s m _ below hf ((Spec.applies_iff_loose hf).mp happ).1 ⟨rfl, State.Warmed39.refl s, rfl⟩ trivial
  refine ⟨n, _, h1, h2, h3, hpost _ _ _ _ _ _ ⟨Cond.after_iff.mpr rfl, Cond.after_iff.mpr (eq_i res_at (Term.int_eval (1)) rfl), trivial⟩ ⟨hq.1, hq.2.1, (hq.2.2.sift fun y hy => Or.inr (N y hy)).mono (by decide) (by decide)⟩⟩
theorem main_1_1 : Claimed_1_1 := comes_1 fun _ _ _ _ _ _ h hF => ⟨h.1, hF⟩
theorem main_1_2 : Claimed_1_2 := comes_1 fun _ _ _ _ _ _ h hF => ⟨h.2.1, hF⟩
end Jvm.Pilot.@@N@@
namespace Jvm.Pilot.@@N@@
open Jvm Jvm.ClassFile Sem Op Lib Jvm.Free Jvm.Stand Jvm.Pilot.@@N@@.Jvm.D
/-! MADE BY PROGRAM (witnessworld.py) out of the Statement's table words and the real class files: 9 classes; the members and pool entries that the words name. The judged class is class 1, her method 1. -/
namespace start1
open Jvm.ClassFile
def u (s : String) : CpInfo := .utf8 (stringToUtf16 s)
/-- a pool by its gaps: so many unusable entries, then the entry; so many at the end -/
def gap : Nat → List CpInfo → List CpInfo
  | 0, r => r
  | n + 1, r => .unusable :: gap n r
def poolList (es : List (Nat × CpInfo)) (last : Nat) : List CpInfo := es.foldr (fun e r => gap e.1 (e.2 :: r)) (gap last [])
def pool (es : List (Nat × CpInfo)) (last : Nat) : Array CpInfo := ⟨poolList es last⟩
def fileOf (pool : Array CpInfo) (this : Nat) (attrs : Array Attribute := #[]) (ms : Array MethodInfo := #[]) (fl : Nat := 33) (sup : Nat := 0) (ifs : Array Nat := #[]) (fds : Array FieldInfo := #[]) : ClassFile where
  minorVersion := 0
  majorVersion := 65
  constantPool := pool
  accessFlags := fl
  thisClass := this
  superClass := sup
  interfaces := ifs
  fields := fds
  methods := ms
  attributes := attrs
def plain (name : String) (sup : Option ClassId) : Class where
  name := name
  kind := .ordinary
  loader := none
  accessFlags := 33
  super := sup
  interfaces := #[]
  cf := none
  fields := #[]
  methods := #[]
  instanceTypes := #[]
  staticTypes := #[]
  resolved := #[]
  callSites := []
  init := .initialized
  statics := none
  mirror := none

def pool0 : Array CpInfo := pool [(5, u "<init>"), (0, u "()V"), (1, .class_ 10), (1, u "java/lang/Object")] 113

def k0c0 : Code := { maxStack := 0, maxLocals := 1, code := object_method_1_code, exceptionTable := #[], attributes := #[] }
def k0m0 : Method := { name := "<init>", desc := "()V", sig := { parameters := [], returnType := none }, accessFlags := 1, code := some k0c0 }
/-- java/lang/Object -/
def k0 : Class := { plain "java/lang/Object" none with
  accessFlags := 33
  interfaces := #[]
  cf := some (fileOf pool0 8 #[] #[{ accessFlags := 1, nameIndex := 5, descriptorIndex := 6, attributes := #[] }] 33 0 #[] #[])
  fields := #[]
  methods := #[k0m0]
  instanceTypes := #[]
  staticTypes := #[]
  resolved := Array.replicate 124 none
  statics := none }

def pool1 : Array CpInfo := pool [(2, .class_ 4), (1, u "java/lang/Object"), (0, u "<init>"), (0, u "()V"), (0, .methodref 8 9), (0, .class_ 10), (0, .nameAndType 11 12), (0, u "com/example/syncline/syncline/ByteCursorUnsignedPinLaw"), (0, u "at"), (0, u "(IIJJ)B"), (0, .class_ 14), (0, u "com/example/syncline/syncline/ByteCursor"), (0, .methodref 13 16), (0, .nameAndType 5 17), (0, u "([BII)V"), (0, .methodref 13 19), (0, .nameAndType 20 21), (0, u "unsigned"), (0, u "(I)J"), (0, .methodref 13 23), (0, .nameAndType 24 25), (0, u "position"), (0, u "()I"), (0, .methodref 13 27), (0, .nameAndType 28 25), (0, u "remaining"), (2, u "law"), (0, u "(JJIII)Z")] 8

def k1m0 : Method := { name := "<init>", desc := "()V", sig := { parameters := [], returnType := none }, accessFlags := 1, code := none }
def k1c1 : Code := { maxStack := 8, maxLocals := 16, code := code, exceptionTable := #[], attributes := #[] }
def k1m1 : Method := { name := "law", desc := "(JJIII)Z", sig := { parameters := [.long, .long, .int, .int, .int], returnType := some .boolean }, accessFlags := 9, code := some k1c1 }
def k1c2 : Code := { maxStack := 5, maxLocals := 7, code := method_3_code, exceptionTable := #[], attributes := #[] }
def k1m2 : Method := { name := "at", desc := "(IIJJ)B", sig := { parameters := [.int, .int, .long, .long], returnType := some .byte }, accessFlags := 10, code := some k1c2 }
/-- com/example/syncline/syncline/ByteCursorUnsignedPinLaw -/
def k1 : Class := { plain "com/example/syncline/syncline/ByteCursorUnsignedPinLaw" (some 0) with
  accessFlags := 49
  interfaces := #[]
  cf := some (fileOf pool1 8 #[] #[{ accessFlags := 1, nameIndex := 5, descriptorIndex := 6, attributes := #[] }, { accessFlags := 9, nameIndex := 31, descriptorIndex := 32, attributes := #[] }, { accessFlags := 10, nameIndex := 11, descriptorIndex := 12, attributes := #[] }] 49 2 #[] #[])
  fields := #[]
  methods := #[k1m0, k1m1, k1m2]
  instanceTypes := #[]
  staticTypes := #[]
  resolved := Array.replicate 41 none
  statics := none }

def pool2 : Array CpInfo := pool [(1, .methodref 2 3), (0, .class_ 4), (0, .nameAndType 5 6), (0, u "java/lang/Object"), (0, u "<init>"), (0, u "()V"), (0, .fieldref 8 9), (0, .class_ 10), (0, .nameAndType 11 12), (0, u "com/example/syncline/syncline/ByteCursor"), (0, u "bytes"), (0, u "[B"), (0, .fieldref 8 14), (0, .nameAndType 15 16), (0, u "position"), (0, u "I"), (0, .fieldref 8 18), (0, .nameAndType 19 16), (0, u "end"), (0, .methodref 8 21), (0, .nameAndType 22 23), (0, u "need"), (0, u "(I)V"), (2, u "unsigned"), (0, u "(I)J"), (3, u "()I"), (44, u "remaining"), (9, u "([BII)V")] 37

def k2c0 : Code := { maxStack := 2, maxLocals := 4, code := prog_5_method_1_code, exceptionTable := #[], attributes := #[] }
def k2m0 : Method := { name := "<init>", desc := "([BII)V", sig := { parameters := [(.array .byte), .int, .int], returnType := none }, accessFlags := 0, code := some k2c0 }
def k2c1 : Code := { maxStack := 1, maxLocals := 1, code := prog_5_method_2_code, exceptionTable := #[], attributes := #[] }
def k2m1 : Method := { name := "position", desc := "()I", sig := { parameters := [], returnType := some .int }, accessFlags := 0, code := some k2c1 }
def k2c2 : Code := { maxStack := 2, maxLocals := 1, code := prog_5_method_3_code, exceptionTable := #[], attributes := #[] }
def k2m2 : Method := { name := "remaining", desc := "()I", sig := { parameters := [], returnType := some .int }, accessFlags := 0, code := some k2c2 }
def k2c3 : Code := { maxStack := 5, maxLocals := 5, code := prog_5_method_8_code, exceptionTable := #[], attributes := #[] }
def k2m3 : Method := { name := "unsigned", desc := "(I)J", sig := { parameters := [.int], returnType := some .long }, accessFlags := 0, code := some k2c3 }
def k2c4 : Code := { maxStack := 3, maxLocals := 2, code := prog_5_method_19_code, exceptionTable := #[], attributes := #[] }
def k2m4 : Method := { name := "need", desc := "(I)V", sig := { parameters := [.int], returnType := none }, accessFlags := 2, code := some k2c4 }
/-- com/example/syncline/syncline/ByteCursor -/
def k2 : Class := { plain "com/example/syncline/syncline/ByteCursor" (some 0) with
  accessFlags := 48
  interfaces := #[]
  cf := some (fileOf pool2 8 #[] #[{ accessFlags := 0, nameIndex := 5, descriptorIndex := 86, attributes := #[] }, { accessFlags := 0, nameIndex := 15, descriptorIndex := 31, attributes := #[] }, { accessFlags := 0, nameIndex := 76, descriptorIndex := 31, attributes := #[] }, { accessFlags := 0, nameIndex := 26, descriptorIndex := 27, attributes := #[] }, { accessFlags := 2, nameIndex := 22, descriptorIndex := 23, attributes := #[] }] 48 2 #[] #[{ accessFlags := 18, nameIndex := 11, descriptorIndex := 12, attributes := #[] }, { accessFlags := 18, nameIndex := 19, descriptorIndex := 16, attributes := #[] }, { accessFlags := 2, nameIndex := 15, descriptorIndex := 16, attributes := #[] }])
  fields := #[{ name := "bytes", type := (.array .byte), accessFlags := 18, slot := 0, constantValue := 0 }, { name := "end", type := .int, accessFlags := 18, slot := 1, constantValue := 0 }, { name := "position", type := .int, accessFlags := 2, slot := 2, constantValue := 0 }]
  methods := #[k2m0, k2m1, k2m2, k2m3, k2m4]
  instanceTypes := #[(.array .byte), .int, .int]
  staticTypes := #[]
  resolved := Array.replicate 124 none
  statics := none }

def pool3 : Array CpInfo := pool [(1, u "java/lang/Cloneable"), (0, .class_ 1), (0, u "java/lang/Object"), (0, .class_ 3)] 3

/-- java/lang/Cloneable -/
def k3 : Class := { plain "java/lang/Cloneable" (some 0) with
  accessFlags := 1537
  interfaces := #[]
  cf := some (fileOf pool3 2 #[] #[] 1537 4 #[] #[])
  fields := #[]
  methods := #[]
  instanceTypes := #[]
  staticTypes := #[]
  resolved := Array.replicate 8 none
  statics := none }

def pool4 : Array CpInfo := pool [(1, u "java/io/Serializable"), (0, .class_ 1), (0, u "java/lang/Object"), (0, .class_ 3)] 3

/-- java/io/Serializable -/
def k4 : Class := { plain "java/io/Serializable" (some 0) with
  accessFlags := 1537
  interfaces := #[]
  cf := some (fileOf pool4 2 #[] #[] 1537 4 #[] #[])
  fields := #[]
  methods := #[]
  instanceTypes := #[]
  staticTypes := #[]
  resolved := Array.replicate 8 none
  statics := none }

/-- the primitive byte -/
def k5 : Class := { plain "byte" none with kind := .primitive 'B', accessFlags := 0x411 }
/-- [B -/
def k6 : Class := { plain "[B" (some 0) with kind := .array 5 .byte, interfaces := #[3, 4], accessFlags := 1041 }

/-- the primitive int -/
def k7 : Class := { plain "int" none with kind := .primitive 'I', accessFlags := 0x411 }
/-- [I -/
def k8 : Class := { plain "[I" (some 0) with kind := .array 7 .int, interfaces := #[3, 4], accessFlags := 1041 }

def heap : Heap := #[]
def classes : Array Class := #[k0, k1, k2, k3, k4, k5, k6, k7, k8]
def interned : List (Array UInt16 × Addr) := []
def slotsUsed : Nat := 0
def theMethod : MethodId := ⟨1, 1⟩
def args0 : Array Value := #[.long 5, .long 6, .int 7, .int 8, .int 1]
def aboutOver (below : List Frame) : State where
  vm := { classes := classes, interned := interned.toArray }
  heap := heap
  slotsUsed := slotsUsed
  threads := #[{ frames := .invoking theMethod args0 :: below }]
def below0 : List Frame := [.native { method := ⟨0, 0⟩, args := #[] }]
def about1 : State := aboutOver below0
def p0 : Program := .bare "" "" ""
def e0 : Env := launch0.env 0 0 0
theorem w_frames : about1.frames = Frame.invoking theMethod args0 :: below0 := rfl
set_option maxRecDepth 65536 in
theorem w_args : argsFit about1.vm theMethod args0 = true := by decide +kernel
set_option maxRecDepth 65536 in
theorem w_heap : heapFits about1 = true := by decide +kernel
set_option maxRecDepth 65536 in
theorem w_runnable : about1.curStatus? = some .runnable := by decide +kernel
set_option maxRecDepth 65536 in
theorem w_alone : about1.alone = true := by decide +kernel
set_option maxRecDepth 65536 in
theorem w_named : about1.methodNamed? x = some theMethod := by decide +kernel
set_option maxRecDepth 65536 in
theorem w_hears : about1.hears theMethod below0 = true := by decide +kernel
set_option maxRecDepth 65536 in
theorem w_ripe : about1.ripe theMethod args0 below0 = true := by decide +kernel
theorem w_running : about1.status = .running := rfl
set_option maxRecDepth 65536 in
theorem w_room : about1.hasRoom e0.platform room_1 = true :=
  launch0.hasRoom_least _ room_1 (by decide +kernel) (by decide +kernel) (by decide +kernel) (by decide +kernel) (by decide +kernel) (by decide +kernel)
theorem allAtoms_all (ts : List Jvm.Cond) (a : Array Jvm.Value) (st : Jvm.State) : (allAtoms ts).before a st = ts.all (fun c => c.before a st) := by
  induction ts with
  | nil => rfl
  | cons c t ih =>
    show (Jvm.Cond.and c (allAtoms t)).before a st = _
    rw [Jvm.Cond.before_and, ih, List.all_cons]
def words1 : List Jvm.Cond := Jvm.Cond.code x code maxLocals ret :: tables_1
/-- a 'code' word, met by the world's own term for the bytes: nothing is compared byte by byte -/
theorem code_word {y : MethodName} {bytes : ByteArray} {mx : Nat} {rt : Option FieldType} {a : Array Value} {s : State} {m : MethodId} {meth : Method} {c : Code} (h1 : s.methodNamed? y = some m) (h2 : s.vm.method? m = some meth) (h3 : meth.code = some c) (h4 : c.code = bytes)
    (h5 : (c.maxLocals == mx && c.exceptionTable.isEmpty && decide (c.maxStack ≤ mostOperands) && decide (meth.sig.returnType = rt) && !meth.locks && decide (parseMethodDescriptor y.desc = some meth.sig)) = true) : (Jvm.Cond.code y bytes mx rt).before a s = true := by
  simp only [Bool.and_eq_true, beq_iff_eq, Bool.not_eq_true', decide_eq_true_eq] at h5
  obtain ⟨⟨⟨⟨⟨g1, g2⟩, g3⟩, g4⟩, g5⟩, g6⟩ := h5
  simp [Cond.before, Cond.holds, Cond.value, h1, h2, h3, h4, g1, g2, g3, g4, g5, g6]
def isCode : Jvm.Cond → Bool
  | .code _ _ _ _ => true
  | _ => false
theorem all_split {L : List Jvm.Cond} {P : Jvm.Cond → Bool} (h1 : L.all (fun c => isCode c || P c) = true) (h2 : ∀ c ∈ L.filter isCode, P c = true) : L.all P = true := by
  refine List.all_eq_true.mpr fun c hc => ?_
  have h := List.all_eq_true.mp h1 c hc
  rcases Bool.eq_false_or_eq_true (isCode c) with hi | hi
  · exact h2 c (List.mem_filter.mpr ⟨hc, hi⟩)
  · simpa [hi] using h
set_option maxRecDepth 65536 in
theorem w_c0 : (Jvm.Cond.code x code maxLocals ret).before args0 about1 = true := code_word (m := ⟨1, 1⟩) (meth := k1m1) (c := k1c1) (by decide +kernel) rfl rfl rfl (by decide +kernel)
set_option maxRecDepth 65536 in
theorem w_c1 : (Jvm.Cond.code ({ cls := "com/example/syncline/syncline/ByteCursorUnsignedPinLaw", name := "at", desc := "(IIJJ)B" } : Jvm.MethodName) method_3_code (7 : Nat) (Option.some Jvm.ClassFile.FieldType.byte)).before args0 about1 = true := code_word (m := ⟨1, 2⟩) (meth := k1m2) (c := k1c2) (by decide +kernel) rfl rfl rfl (by decide +kernel)
set_option maxRecDepth 65536 in
theorem w_c2 : (Jvm.Cond.code ({ cls := "com/example/syncline/syncline/ByteCursor", name := "<init>", desc := "([BII)V" } : Jvm.MethodName) prog_5_method_1_code (4 : Nat) (Option.none : Option Jvm.ClassFile.FieldType)).before args0 about1 = true := code_word (m := ⟨2, 0⟩) (meth := k2m0) (c := k2c0) (by decide +kernel) rfl rfl rfl (by decide +kernel)
set_option maxRecDepth 65536 in
theorem w_c3 : (Jvm.Cond.code ({ cls := "java/lang/Object", name := "<init>", desc := "()V" } : Jvm.MethodName) object_method_1_code (1 : Nat) (Option.none : Option Jvm.ClassFile.FieldType)).before args0 about1 = true := code_word (m := ⟨0, 0⟩) (meth := k0m0) (c := k0c0) (by decide +kernel) rfl rfl rfl (by decide +kernel)
set_option maxRecDepth 65536 in
theorem w_c4 : (Jvm.Cond.code ({ cls := "com/example/syncline/syncline/ByteCursor", name := "unsigned", desc := "(I)J" } : Jvm.MethodName) prog_5_method_8_code (5 : Nat) (Option.some Jvm.ClassFile.FieldType.long)).before args0 about1 = true := code_word (m := ⟨2, 3⟩) (meth := k2m3) (c := k2c3) (by decide +kernel) rfl rfl rfl (by decide +kernel)
set_option maxRecDepth 65536 in
theorem w_c5 : (Jvm.Cond.code ({ cls := "com/example/syncline/syncline/ByteCursor", name := "need", desc := "(I)V" } : Jvm.MethodName) prog_5_method_19_code (2 : Nat) (Option.none : Option Jvm.ClassFile.FieldType)).before args0 about1 = true := code_word (m := ⟨2, 4⟩) (meth := k2m4) (c := k2c4) (by decide +kernel) rfl rfl rfl (by decide +kernel)
set_option maxRecDepth 65536 in
theorem w_c6 : (Jvm.Cond.code ({ cls := "com/example/syncline/syncline/ByteCursor", name := "position", desc := "()I" } : Jvm.MethodName) prog_5_method_2_code (1 : Nat) (Option.some Jvm.ClassFile.FieldType.int)).before args0 about1 = true := code_word (m := ⟨2, 1⟩) (meth := k2m1) (c := k2c1) (by decide +kernel) rfl rfl rfl (by decide +kernel)
set_option maxRecDepth 65536 in
theorem w_c7 : (Jvm.Cond.code ({ cls := "com/example/syncline/syncline/ByteCursor", name := "remaining", desc := "()I" } : Jvm.MethodName) prog_5_method_3_code (1 : Nat) (Option.some Jvm.ClassFile.FieldType.int)).before args0 about1 = true := code_word (m := ⟨2, 2⟩) (meth := k2m2) (c := k2c2) (by decide +kernel) rfl rfl rfl (by decide +kernel)
def codes1 : List Jvm.Cond := [Jvm.Cond.code x code maxLocals ret, Jvm.Cond.code ({ cls := "com/example/syncline/syncline/ByteCursorUnsignedPinLaw", name := "at", desc := "(IIJJ)B" } : Jvm.MethodName) method_3_code (7 : Nat) (Option.some Jvm.ClassFile.FieldType.byte), Jvm.Cond.code ({ cls := "com/example/syncline/syncline/ByteCursor", name := "<init>", desc := "([BII)V" } : Jvm.MethodName) prog_5_method_1_code (4 : Nat) (Option.none : Option Jvm.ClassFile.FieldType), Jvm.Cond.code ({ cls := "java/lang/Object", name := "<init>", desc := "()V" } : Jvm.MethodName) object_method_1_code (1 : Nat) (Option.none : Option Jvm.ClassFile.FieldType), Jvm.Cond.code ({ cls := "com/example/syncline/syncline/ByteCursor", name := "unsigned", desc := "(I)J" } : Jvm.MethodName) prog_5_method_8_code (5 : Nat) (Option.some Jvm.ClassFile.FieldType.long), Jvm.Cond.code ({ cls := "com/example/syncline/syncline/ByteCursor", name := "need", desc := "(I)V" } : Jvm.MethodName) prog_5_method_19_code (2 : Nat) (Option.none : Option Jvm.ClassFile.FieldType), Jvm.Cond.code ({ cls := "com/example/syncline/syncline/ByteCursor", name := "position", desc := "()I" } : Jvm.MethodName) prog_5_method_2_code (1 : Nat) (Option.some Jvm.ClassFile.FieldType.int), Jvm.Cond.code ({ cls := "com/example/syncline/syncline/ByteCursor", name := "remaining", desc := "()I" } : Jvm.MethodName) prog_5_method_3_code (1 : Nat) (Option.some Jvm.ClassFile.FieldType.int)]
set_option maxRecDepth 65536 in
theorem codes_eq : words1.filter isCode = codes1 := rfl
theorem w_codes : ∀ c ∈ words1.filter isCode, c.before args0 about1 = true := by
  rw [codes_eq]
  intro c hc
  simp only [codes1, List.mem_cons, List.not_mem_nil, or_false] at hc
  rcases hc with rfl | rfl | rfl | rfl | rfl | rfl | rfl | rfl
  · exact w_c0
  · exact w_c1
  · exact w_c2
  · exact w_c3
  · exact w_c4
  · exact w_c5
  · exact w_c6
  · exact w_c7
set_option maxRecDepth 65536 in
theorem w_t1 : (words1.take 24).all (fun c => isCode c || c.before args0 about1) = true := by decide +kernel
set_option maxRecDepth 65536 in
theorem w_t2 : (words1.drop 24).all (fun c => isCode c || c.before args0 about1) = true := by decide +kernel
theorem w_tables : (allAtoms (Jvm.Cond.code x code maxLocals ret :: tables_1)).before args0 about1 = true := by
  rw [allAtoms_all]
  show words1.all (fun c => c.before args0 about1) = true
  refine all_split ?_ w_codes
  rw [← List.take_append_drop 24 words1, List.all_append, w_t1, w_t2]
  rfl
set_option maxRecDepth 65536 in
theorem w_case : (Jvm.Cond.and given_1 narrow_1).before args0 about1 = true := by decide +kernel
theorem w_applies : (headSpec (Jvm.Cond.code x code maxLocals ret :: tables_1) room_1).applies x e0.platform about1 = true :=
  (Spec.applies_iff w_frames).mpr ⟨w_running, w_runnable, w_alone, w_named, w_hears, w_ripe, w_room, w_tables⟩
theorem atStart : AtStart classFile x code maxLocals ret World_1 tables_1 room_1 Calls_1 rest_1 Pre_1 launch0 p0 e0 about1 theMethod args0 below0 :=
  ⟨lists_1, trivial, launch0.admits_env _ _ _, launch0.least_env, fairChoices_fair.cas, fairChoices_fair.clock, w_frames, w_args, w_heap, w_applies, trivial, trivial, w_case⟩
end start1
theorem witness_1 : WitnessClaimed_1 := ⟨start1.p0, start1.e0, start1.about1, start1.theMethod, start1.args0, start1.below0, start1.atStart⟩
end Jvm.Pilot.@@N@@
