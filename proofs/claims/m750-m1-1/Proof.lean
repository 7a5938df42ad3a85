import JvmDerived
import JvmDerived.Pilot.@@N@@Statement
import JvmDerived.Pilot.@@N@@Code
set_option linter.unusedVariables false
set_option linter.unusedSimpArgs false

namespace Jvm.Pilot.@@N@@
open Jvm Jvm.ClassFile Sem Op Lib Jvm.Free Jvm.Stand Jvm.LawKit Jvm.RoadKit Bundle Jvm.Pilot.@@N@@.Jvm.D
section Own
variable {p : Program} {l : Launch} {e : Env} {R : Room} {s : State} {m : MethodId} {args : Array Value} {below : List Frame} {meth : Method} {c : Code} {T : State} {locs : List Loc} {cells slots : Nat} {Z : State} {h h' : Heap}
/-- the run from A comes to the method's end as Q says, with at most kc new cells and ks new slots -/
def own_E (p : Program) (e : Env) (below : List Frame) (s : State) (Q : Option Value → Heap → List Loc → Prop) (kc ks : Nat) (A : State) : Prop :=
  ∃ s₂ o, Steps p.tables e below A s₂ ∧ s₂.status = .running ∧ Ended s₂ below o ∧ ∃ v L, o = .returned v ∧ Q v s₂.heap L ∧ FrameEnd s o s₂ L kc ks
variable {Q : Option Value → Heap → List Loc → Prop} {kc ks : Nat} {A B : State}
theorem own_st (k : ∀ t, Steps p.tables e below B t → Steps p.tables e below A t) (h : own_E p e below s Q kc ks B) : own_E p e below s Q kc ks A := by
  obtain ⟨t, o, h1, h2⟩ := h
  exact ⟨t, o, k t h1, h2⟩
theorem own_end (X : Stand p l e R s m args below meth c T locs cells slots) {v : Option Value} (hv : meth.sig.returnType = none → v = none) (hlk : meth.locks = false)
    (hk : ∀ fs, (∀ (f : JFrame) (acts : List Action), f.method = m → f.locked = none → f.entered = [] → (doReturn e (T.setTop f) acts v).1 = T.setFrames fs) → Steps p.tables e below A (T.setFrames fs)) (hc : cells ≤ kc) (hs : slots ≤ ks) (hQ : Q v T.heap locs) : own_E p e below s Q kc ks A := by
  obtain ⟨fs, hr, hrun, hended, hW, hsame⟩ := X.leave (v := v) hv hlk
  exact ⟨_, _, hk fs hr, hrun, hended, _, _, rfl, hQ, ⟨_, rfl⟩, hW, hsame.mono hc hs⟩
theorem own_retN (X : Stand p l e R s m args below meth c T locs cells slots) (hx : p.tables.exec = Jvm.exec) {pc : Nat} {Ls : Array Slot} {z z' : Int32} {t : FieldType} {rest : List Value} (hret : meth.sig.returnType = some t) (ht : t = .boolean ∨ t = .byte ∨ t = .char ∨ t = .short) (hlk : meth.locks = false)
    (hd : decode c.code pc = .ok (.ireturn, 1)) (hz : nar t z = z') (hc : cells ≤ kc) (hs : slots ≤ ks) (hQ : Q (some (.int z')) T.heap locs) : own_E p e below s Q kc ks (T.setTop (mkF m pc Ls (.int z :: rest))) := by
  subst hz
  exact own_end X (fun q => by rw [hret] at q; cases q) hlk (fun fs hr => retN X hx hret ht hd hr) hc hs hQ
theorem own_retI (X : Stand p l e R s m args below meth c T locs cells slots) (hx : p.tables.exec = Jvm.exec) {pc : Nat} {Ls : Array Slot} {z : Int32} {rest : List Value} (hret : meth.sig.returnType = some .int) (hlk : meth.locks = false)
    (hd : decode c.code pc = .ok (.ireturn, 1)) (hc : cells ≤ kc) (hs : slots ≤ ks) (hQ : Q (some (.int z)) T.heap locs) : own_E p e below s Q kc ks (T.setTop (mkF m pc Ls (.int z :: rest))) := by
  refine own_end X (fun q => by rw [hret] at q; cases q) hlk (fun fs hr => ?_) hc hs hQ
  have hm' : T.vm.method? m = some meth := X.method'
  have hn : narrow .int (.int z) = .int z := rfl
  show Steps p.tables e below (T.setTop { method := m, pc := pc, locals := Ls, stack := _ :: rest, locked := none }) _
  jvm_step X.here [X.here.top, hx, hd, hm', hret, hn]
  first | (intro acts; rw [hr _ acts rfl rfl rfl]) | rw [hr _ _ rfl rfl rfl]
  exact Steps.refl _
theorem own_retJ (X : Stand p l e R s m args below meth c T locs cells slots) (hx : p.tables.exec = Jvm.exec) {pc : Nat} {Ls : Array Slot} {z : Int64} (hret : meth.sig.returnType = some .long) (hlk : meth.locks = false)
    (hd : decode c.code pc = .ok (.lreturn, 1)) (hc : cells ≤ kc) (hs : slots ≤ ks) (hQ : Q (some (.long z)) T.heap locs) : own_E p e below s Q kc ks (T.setTop (mkF m pc Ls [.long z])) :=
  own_end X (fun q => by rw [hret] at q; cases q) hlk (fun fs hr => X.lreturnOut hx hret hd hr) hc hs hQ
theorem own_retR (X : Stand p l e R s m args below meth c T locs cells slots) (hx : p.tables.exec = Jvm.exec) {pc : Nat} {Ls : Array Slot} {w : Value} {t : FieldType} (hw : w.isRef = true) (hret : meth.sig.returnType = some t) (ht : t.isReference = true) (hlk : meth.locks = false)
    (hd : decode c.code pc = .ok (.areturn, 1)) (hc : cells ≤ kc) (hs : slots ≤ ks) (hQ : Q (some w) T.heap locs) : own_E p e below s Q kc ks (T.setTop (mkF m pc Ls [w])) :=
  own_end X (fun q => by rw [hret] at q; cases q) hlk (fun fs hr => X.areturnOut hx hw hret ht hd hr) hc hs hQ
theorem own_retV (X : Stand p l e R s m args below meth c T locs cells slots) (hx : p.tables.exec = Jvm.exec) {pc : Nat} {Ls : Array Slot} (hret : meth.sig.returnType = none) (hlk : meth.locks = false)
    (hd : decode c.code pc = .ok (.return_, 1)) (hc : cells ≤ kc) (hs : slots ≤ ks) (hQ : Q none T.heap locs) : own_E p e below s Q kc ks (T.setTop (mkF m pc Ls [])) :=
  own_end X (fun _ => rfl) hlk (fun fs hr => X.returnOut hx hret hd hr) hc hs hQ
/-- a boolean as the machine holds it -/
def own_b (b : Bool) : Int32 := if b then 1 else 0
theorem own_b1 {P : Prop} [Decidable P] (h : P) : own_b (decide P) = 1 := by simp [own_b, h]
theorem own_bz {P : Prop} [Decidable P] (h : ¬ P) : own_b (decide P) = 0 := by simp [own_b, h]
theorem own_lt32 {x y : Int32} (h : x < y) : x.toInt < y.toInt := Int32.lt_iff_toInt_lt.mp h
theorem own_nlt32 {x y : Int32} (h : ¬ x < y) : ¬ x.toInt < y.toInt := fun q => h (Int32.lt_iff_toInt_lt.mpr q)
theorem own_eq32 {x y : Int32} (h : x = y) : x.toInt = y.toInt := congrArg _ h
theorem own_neq32 {x y : Int32} (h : ¬ x = y) : ¬ x.toInt = y.toInt := fun q => h (Int32.toInt_inj.mp q)
theorem own_lt64 {x y : Int64} (h : x < y) : x.toInt < y.toInt := Int64.lt_iff_toInt_lt.mp h
theorem own_nlt64 {x y : Int64} (h : ¬ x < y) : ¬ x.toInt < y.toInt := fun q => h (Int64.lt_iff_toInt_lt.mpr q)
theorem own_eq64 {x y : Int64} (h : x = y) : x.toInt = y.toInt := congrArg _ h
theorem own_neq64 {x y : Int64} (h : ¬ x = y) : ¬ x.toInt = y.toInt := fun q => h (Int64.toInt_inj.mp q)
theorem own_b0 {b : Bool} : own_b b = 0 ↔ b = false := by cases b <;> decide
theorem own_nb (b : Bool) : nar .boolean (own_b b) = own_b b := by cases b <;> rfl
theorem own_nbb (x : Int32) : nar .byte (x.toInt8.toInt32) = x.toInt8.toInt32 := by
  show x.toInt8.toInt32.toInt8.toInt32 = x.toInt8.toInt32
  rw [Int8.toInt8_toInt32]
theorem own_stV {l : Array Slot} {i : Nat} {v : Value} {o : Slot} (hold : l[i]? = some o) (ho : o = .unset ∨ ∃ w, o = .val w ∧ w.category = 1) (hv : v.category = 1) : storeLocals l i v = some (l.setIfInBounds i (.val v)) := XS.store1 hold ho hv
theorem own_narV {ty : FieldType} {v : Value} (hv : v.isRef = true) : narrow ty v = v := by
  rcases ref_cases hv with rfl | ⟨a, rfl⟩ <;> cases ty <;> rfl
theorem own_fitV {ty : FieldType} {v : Value} (ht : ty.isReference = true) (hv : v.isRef = true) : fits ty v = true := by
  rcases ref_cases hv with rfl | ⟨a, rfl⟩ <;> cases ty <;> first | rfl | (cases ht; done)
/-- an array of n places, whose place j holds f j -/
def own_A (Z : State) (h : Heap) (a : Addr) (ty : FieldType) (n : Nat) (f : Nat → Int32) : Prop := ∃ c : Cell, Arr Z h a c ty ∧ c.slots.size = n ∧ n < 2 ^ 31 ∧ (∀ j, j < n → c.slots[j]? = some (.int (f j))) ∧ ∀ j, j < n → fits ty (.int (f j)) = true
def own_up (f : Nat → Int32) (i : Nat) (v : Int32) (k : Nat) : Int32 := if k = i then v else f k
theorem own_up_same (f : Nat → Int32) (i : Nat) (v : Int32) : own_up f i v i = v := if_pos rfl
theorem own_up_ne (f : Nat → Int32) {i k : Nat} (v : Int32) (h : ¬ k = i) : own_up f i v k = f k := if_neg h
theorem own_catV {v : Value} (h : v.isRef = true) : v.category = 1 := by rcases ref_cases h with rfl | ⟨a, rfl⟩ <;> rfl
abbrev own_ix (j : Int32) (i : Nat) : Prop := ¬ j < 0 ∧ j.toNatClampNeg = i
variable {a b : Addr} {ty : FieldType} {n i : Nat} {f : Nat → Int32} {j x : Int32} {pc : Nat} {Ls : Array Slot} {rest : List Value} {sl : Nat} {v : Value} {ws : List Addr}
theorem own_A.lt (F : own_A Z h a ty n f) : a < h.size := by obtain ⟨c, A, -⟩ := F; exact A.lt
theorem own_A.ext (F : own_A Z h a ty n f) (E : Ext h h') : own_A Z h' a ty n f := by obtain ⟨c, A, r⟩ := F; exact ⟨c, A.ext E, r⟩
theorem own_A.other (F : own_A Z h b ty n f) (W : Wr h h' a sl v) (q : b ≠ a) : own_A Z h' b ty n f := by obtain ⟨c, A, r⟩ := F; exact ⟨c, A.other W q, r⟩
theorem own_A.keep (F : own_A Z h a ty n f) (K : Keep h h' ws) (q : a ∉ ws) : own_A Z h' a ty n f := by obtain ⟨c, A, r⟩ := F; exact ⟨c, ⟨K.2.1 a c A.1 q, A.2⟩, r⟩
theorem own_A.congr {g : Nat → Int32} (F : own_A Z h a ty n f) (q : ∀ j, j < n → f j = g j) : own_A Z h a ty n g := by obtain ⟨c, A, r1, r2, r3, r4⟩ := F; exact ⟨c, A, r1, r2, fun j hj => by rw [← q j hj]; exact r3 j hj, fun j hj => by rw [← q j hj]; exact r4 j hj⟩
theorem own_A.new {k : ClassId} {z : Int32} (A : Arr Z h a (newA k ty z) ty) (q : ¬ z < 0) (hz : z.toNatClampNeg = n) (hd : defaultValue ty = .int 0 := by rfl) : own_A Z h a ty n (fun _ => 0) := by
  subst hz
  exact ⟨_, A, sz_new _ _ _, (back32 q).2, fun j hj => by simp [newA, hj, hd], fun j hj => by rw [← hd]; cases ty <;> rfl⟩
theorem own_A.set (F : own_A Z h a ty n f) (hj : own_ix j i) (W : Wr h h' a j.toNatClampNeg (.int x)) (hf : fits ty (.int x) = true) : own_A Z h' a ty n (own_up f i x) := by
  obtain ⟨c, A, r1, r2, r3, r4⟩ := F
  obtain ⟨hj1, rfl⟩ := hj
  refine ⟨_, A.same W, by rw [sz_set]; exact r1, r2, fun k hk => ?_, fun k hk => ?_⟩ <;> by_cases q : k = j.toNatClampNeg
  · subst q; simp [Cell.setSlot, own_up, r1, hk]
  · simp only [Cell.setSlot, own_up, if_neg q]; rw [Array.getElem?_setIfInBounds_ne (Ne.symm q)]; exact r3 k hk
  · simp only [own_up, if_pos q]; exact hf
  · simp only [own_up, if_neg q]; exact r4 k hk
theorem own_in (hj : own_ix j i) (hi : i < n) {c : Cell} (hc : c.slots.size = n) : ¬ (j < 0 ∨ c.slots.size ≤ j.toNatClampNeg) := by
  rintro (q | q)
  · exact hj.1 q
  · rw [hj.2, hc] at q; omega
theorem own_stB (X : Stand p l e R s m args below meth c T locs cells slots) (hx : p.tables.exec = Jvm.exec) (hZ : Z.Warmed39 s.vm) (eT : T.heap = h) (A : own_A Z h a .byte n f) (hj : own_ix j i) (hi : i < n) (hd : decode c.code pc = .ok (.bastore, 1)) :
    ∃ T' h', Stand p l e R s m args below meth c T' (locs ++ [⟨a, j.toNatClampNeg⟩]) cells slots ∧ T'.heap = h' ∧ Wr h h' a j.toNatClampNeg (.int (nar .byte x)) ∧ own_A Z h' a .byte n (own_up f i (nar .byte x)) ∧ ∀ t, Steps p.tables e below (T'.setTop (mkF m (pc + 1) Ls rest)) t → Steps p.tables e below (T.setTop (mkF m pc Ls (.int x :: .int j :: .ref a :: rest))) t := by
  have A0 := A
  obtain ⟨cl, A1, r1, r2, r3, r4⟩ := A
  obtain ⟨T', h', X', e', W, st⟩ := stB X hx hZ eT A1 (j := j) (x := x) (own_in hj hi r1) (g := mkF m pc Ls (.int x :: .int j :: .ref a :: rest)) rfl rfl hd
  exact ⟨T', h', X', e', W, A0.set hj W (fits_nar_byte x), st⟩
theorem own_stI (X : Stand p l e R s m args below meth c T locs cells slots) (hx : p.tables.exec = Jvm.exec) (hZ : Z.Warmed39 s.vm) (eT : T.heap = h) (A : own_A Z h a .int n f) (hj : own_ix j i) (hi : i < n) (hd : decode c.code pc = .ok (.iastore, 1)) :
    ∃ T' h', Stand p l e R s m args below meth c T' (locs ++ [⟨a, j.toNatClampNeg⟩]) cells slots ∧ T'.heap = h' ∧ Wr h h' a j.toNatClampNeg (.int x) ∧ own_A Z h' a .int n (own_up f i x) ∧ ∀ t, Steps p.tables e below (T'.setTop (mkF m (pc + 1) Ls rest)) t → Steps p.tables e below (T.setTop (mkF m pc Ls (.int x :: .int j :: .ref a :: rest))) t := by
  have A0 := A
  obtain ⟨cl, A1, r1, r2, r3, r4⟩ := A
  obtain ⟨T', h', X', e', W, st⟩ := stI X hx hZ eT A1 (j := j) (x := x) (own_in hj hi r1) (g := mkF m pc Ls (.int x :: .int j :: .ref a :: rest)) rfl rfl hd
  exact ⟨T', h', X', e', W, A0.set hj W rfl, st⟩
theorem own_ldB (X : Stand p l e R s m args below meth c T locs cells slots) (hx : p.tables.exec = Jvm.exec) (hZ : Z.Warmed39 s.vm) (eT : T.heap = h) (A : own_A Z h a .byte n f) (hj : own_ix j i) (hi : i < n) (hd : decode c.code pc = .ok (.baload, 1)) (t : State)
    (k : Steps p.tables e below (T.setTop (mkF m (pc + 1) Ls (.int (f i) :: rest))) t) : Steps p.tables e below (T.setTop (mkF m pc Ls (.int j :: .ref a :: rest))) t := by
  obtain ⟨cl, A1, r1, r2, r3, r4⟩ := A
  exact X.baloadBytes hx (j := j) (v := .int (f i)) (by rw [eT]; exact A1.1) (State.isArrayOf_alike hZ.alike A1.2.1) A1.2.2 (own_in hj hi r1) (by rw [hj.2]; exact r3 i hi) (g := mkF m pc Ls (.int j :: .ref a :: rest)) rfl rfl hd t k
theorem own_ldI (X : Stand p l e R s m args below meth c T locs cells slots) (hx : p.tables.exec = Jvm.exec) (hZ : Z.Warmed39 s.vm) (eT : T.heap = h) (A : own_A Z h a .int n f) (hj : own_ix j i) (hi : i < n) (hd : decode c.code pc = .ok (.iaload, 1)) (t : State)
    (k : Steps p.tables e below (T.setTop (mkF m (pc + 1) Ls (.int (f i) :: rest))) t) : Steps p.tables e below (T.setTop (mkF m pc Ls (.int j :: .ref a :: rest))) t := by
  obtain ⟨cl, A1, r1, r2, r3, r4⟩ := A
  exact X.iaload hx (j := j) (v := .int (f i)) (by rw [eT]; exact A1.1) (State.isArrayOf_alike hZ.alike A1.2.1) A1.2.2 (own_in hj hi r1) (by rw [hj.2]; exact r3 i hi) (g := mkF m pc Ls (.int j :: .ref a :: rest)) rfl rfl hd t k
theorem own_len {z : Int32} (X : Stand p l e R s m args below meth c T locs cells slots) (hx : p.tables.exec = Jvm.exec) (hZ : Z.Warmed39 s.vm) (eT : T.heap = h) (A : own_A Z h a ty n f) (hz : n.toInt32 = z) (hd : decode c.code pc = .ok (.arraylength, 1)) (t : State)
    (k : Steps p.tables e below (T.setTop (mkF m (pc + 1) Ls (.int z :: rest))) t) : Steps p.tables e below (T.setTop (mkF m pc Ls (.ref a :: rest))) t := by
  obtain ⟨cl, A1, r1, r2, r3, r4⟩ := A
  subst hz
  refine X.arraylength hx (by rw [eT]; exact A1.1) (State.isArrayOf_alike hZ.alike A1.2.1) (g := mkF m pc Ls (.ref a :: rest)) rfl rfl hd t ?_
  rw [r1]; exact k
theorem own_clone (X : Stand p l e R s m args below meth c T locs cells slots) (hx : p.tables.exec = Jvm.exec) (hZ : Z.Warmed39 s.vm) {a0 : Array Value} {own ad : String} {index : Nat} (hown : s.vm.findClass own = some m.cls)
    (w1 : (Cond.methodLink own index ⟨ad, "clone", "()Ljava/lang/Object;"⟩).before a0 Z = true) (w2 : (Cond.sameMethod ad "java/lang/Object" "clone" "()Ljava/lang/Object;").before a0 Z = true) (w3 : (Cond.native ⟨"java/lang/Object", "clone", "()Ljava/lang/Object;"⟩).before a0 Z = true)
    (w4 : (Cond.instanceMethod ⟨"java/lang/Object", "clone", "()Ljava/lang/Object;"⟩).before a0 Z = true) (w5 : (Cond.selects ad ⟨ad, "clone", "()Ljava/lang/Object;"⟩ ⟨"java/lang/Object", "clone", "()Ljava/lang/Object;"⟩).before a0 Z = true) (w6 : (Cond.castable ad "java/lang/Cloneable").before a0 Z = true)
    (eT : T.heap = h) (A : own_A Z h a ty n f) (E : Exa Z h a ad) (hsize : Ls.size = c.maxLocals) (hd : decode c.code pc = .ok (.invokevirtual index, 3))
    (hf : 1 ≤ R.frames) {W cap : Nat} (hW : 2 * 0 + (rest.map fun v => v.category).sum ≤ W) (hl : W + 14 ≤ R.locals) (hcap : n ≤ cap) (hc : cells + 1 ≤ R.cells) (hsl : slots + cap ≤ R.slots) :
    ∃ T' h', Stand p l e R s m args below meth c T' locs (cells + 1) (slots + cap) ∧ T'.heap = h' ∧ Ext h h' ∧ own_A Z h' h.size ty n f ∧ Exa Z h' h.size ad ∧
      ∀ t, Steps p.tables e below (T'.setTop (mkF m (pc + 3) Ls (.ref h.size :: rest))) t → Steps p.tables e below (T.setTop (mkF m pc Ls (.ref a :: rest))) t := by
  obtain ⟨cl, A1, r1, r2, r3, r4⟩ := A
  have FC : FitC Z cl := fitC_of A1 fun i hi v hv => by rw [r1] at hi; rw [r3 i hi] at hv; cases hv; exact r4 i hi
  obtain ⟨T', h', X', e', ex, A', E', st⟩ := cloneA X hx hZ hown w1 w2 w3 w4 w5 w6 eT A1 E FC (g := mkF m pc Ls (.ref a :: rest)) rfl hsize rfl hd hf hW hl (by rw [r1]; exact hcap) hc hsl
  exact ⟨T', h', X', e', ex, ⟨cloneOf cl, A', r1, r2, r3, r4⟩, E', st⟩
theorem own_selP {s : State} {args : Array Value} {y : MethodName} {n : Nat} (hin : (Cond.instantiable y.cls n).before args s = true) (hpriv : s.PrivateAt y) (hinst : (Cond.instanceMethod y).before args s = true) (hy : y.cls ≠ "java/lang/invoke/MethodHandle" ∧ y.cls ≠ "java/lang/invoke/VarHandle") : (Cond.selects y.cls y y).before args s = true := by
  obtain ⟨c, k, h1, h2, -, h4, -⟩ := Cond.instantiable_spec hin
  exact selects_self_of_private h1 h2 (Bool.or_eq_false_iff.mp h4).1 hpriv hinst hy
theorem own_ixa (h : own_ix j i) (k : Nat) (hi : i + k < 2 ^ 31) : own_ix (j + Int32.ofNat k) (i + k) := by
  obtain ⟨h1, h2⟩ := h
  have e0 : (0 : Int32).toInt = 0 := rfl
  have e1 : (Int32.ofNat k).toInt = k := Int32.toInt_ofNat_of_lt (by omega)
  rw [Int32.lt_iff_toInt_lt, e0] at h1
  simp only [Int32.toNatClampNeg] at h2
  have h3 := c_iadd j (Int32.ofNat k); have h4 := rng32 (j + Int32.ofNat k)
  rw [e1] at h3
  refine ⟨by rw [Int32.lt_iff_toInt_lt, e0]; omega, ?_⟩
  simp only [Int32.toNatClampNeg]; omega
theorem own_ixI (h : own_ix j i) : j.toInt = i := by
  obtain ⟨h1, h2⟩ := h
  have e0 : (0 : Int32).toInt = 0 := rfl
  rw [Int32.lt_iff_toInt_lt, e0] at h1
  simp only [Int32.toNatClampNeg] at h2; omega
theorem own_ixof (h : j.toInt = i) : own_ix j i := by
  have e0 : (0 : Int32).toInt = 0 := rfl
  refine ⟨by rw [Int32.lt_iff_toInt_lt, e0]; omega, ?_⟩
  simp only [Int32.toNatClampNeg]; omega
theorem own_ixs (h : ¬ j < 0) : own_ix j j.toNatClampNeg := ⟨h, rfl⟩
theorem own_and3 (x : Int32) (k : Nat) (hk : k < 2 ^ 31) : ¬ (x &&& Int32.ofNat k) < 0 ∧ (x &&& Int32.ofNat k).toNatClampNeg ≤ k := by
  have h0 : 0 ≤ (Int32.ofNat k).toInt := by rw [Int32.toInt_ofNat_of_lt hk]; omega
  have h1 := (c_andS x (Int32.ofNat k)).2.2 h0
  have e0 : (0 : Int32).toInt = 0 := rfl
  refine ⟨by rw [Int32.lt_iff_toInt_lt, e0]; omega, ?_⟩
  have hb : (x &&& Int32.ofNat k).toBitVec.toNat ≤ k := by
    have : (x &&& Int32.ofNat k).toBitVec.toNat = x.toBitVec.toNat &&& (Int32.ofNat k).toBitVec.toNat := by rw [Int32.toBitVec_and, BitVec.toNat_and]
    rw [this]
    refine Nat.le_trans Nat.and_le_right ?_
    show (BitVec.ofNat 32 k).toNat ≤ k
    rw [BitVec.toNat_ofNat]; exact Nat.mod_le _ _
  have e : (x &&& Int32.ofNat k).toInt = ((x &&& Int32.ofNat k).toBitVec.toNat : Int) := by
    show (x &&& Int32.ofNat k).toBitVec.toInt = _
    rw [BitVec.toInt_eq_toNat_cond]; split
    · rfl
    · omega
  simp only [Int32.toNatClampNeg, e]; omega
end Own

theorem own_b2_d0 : decode jdk_30_method_1_code 0 = .ok (.aload_n 0, 1) := by decide +kernel
theorem own_b2_d1 : decode jdk_30_method_1_code 1 = .ok (.invokespecial 1, 3) := by decide +kernel
theorem own_b2_d4 : decode jdk_30_method_1_code 4 = .ok (.return_, 1) := by decide +kernel
theorem own_pn0 : plainName "java/lang/Record" = true := by first | (simp [plainName, overriddenIn]; done) | decide +kernel
theorem own_ef_rm2 (m : MethodId) (x0 : Addr) : entryFrame m #[(.ref x0)] 1 = mkF m 0 #[.val (.ref x0)] [] := by first | (simp [entryFrame, mkF, argsToLocals, Value.category]; done) | rfl
def Q2 (Z : State) (a : Addr) (h0 : Heap) (n0 : Nat) (v : Option Value) (h : Heap) (L : List Loc) : Prop := v = none ∧ Fr n0 L ∧ h = h0
set_option maxRecDepth 65536 in
set_option maxHeartbeats 40000000 in
theorem rm2 (l : Launch) (Z : State) (a0 : Array Value) (hw : ∀ d ∈ tables_1, d.before a0 Z = true) (ws : List Jvm.Cond) (a : Addr) (h0 : Heap) (n0 : Nat) (Z0 : n0 ≤ h0.size) :
    MetFree l (⟨"java/lang/Record", "<init>", "()V"⟩ : MethodName) (head1 (Jvm.Cond.code (⟨"java/lang/Record", "<init>", "()V"⟩ : MethodName) jdk_30_method_1_code 1 none :: ws) ({ frames := 1, cells := 0, slots := 0, locals := 12 } : Room)) (fun aa_ U_ => aa_ = #[(.ref a)] ∧ Z.Warmed39 U_.vm ∧ U_.heap = h0) (fun _ _ _ _ _ => True) (fun _ U_ o_ U1_ => ∃ v_ L_, o_ = .returned v_ ∧ Q2 Z a h0 n0 v_ U1_.heap L_ ∧ FrameEnd U_ o_ U1_ L_ ({ frames := 1, cells := 0, slots := 0, locals := 12 } : Room).cells ({ frames := 1, cells := 0, slots := 0, locals := 12 } : Room).slots) := by
  refine MetFree.of_bodySF (plainFor_of_name own_pn0) hisR ?_
  intro p e s m args below meth c s₁ Bd hml0 hP hK
  obtain ⟨rfl, hZ, hh⟩ := hP
  have hx := Bd.exec
  have hby := Bd.bytes
  have hlk := Bd.notSynchronized
  have hml : c.maxLocals = 1 := hml0
  have hown : s.vm.findClass "java/lang/Record" = some m.cls := findClass_of_methodNamed Bd.named
  have hnm := (name_of_methodNamed Bd.named Bd.method).1
  have X0 : Stand p l e ({ frames := 1, cells := 0, slots := 0, locals := 12 } : Room) s m #[(.ref a)] below meth c s₁ [] 0 0 := Stand.of_body Bd
  have e0 : s₁.heap = h0 := by rw [← hh, Bd.state]; rfl
  have N0 := Fr.nil n0
  show own_E p e below s (Q2 Z a h0 n0) ({ frames := 1, cells := 0, slots := 0, locals := 12 } : Room).cells ({ frames := 1, cells := 0, slots := 0, locals := 12 } : Room).slots (s₁.setTop (entryFrame m #[(.ref a)] 1))
  refine own_st (B := s₁.setTop (mkF m 0 #[.val (.ref a)] [])) (fun t k => castTop (own_ef_rm2 m a) k) ?_
  refine own_st (B := s₁.setTop (mkF m 1 #[.val (.ref a)] [(.ref a)])) (fun t k => XS.aloadN X0.here hx rfl (hb hby own_b2_d0) rfl rfl k) ?_
  obtain ⟨T1, X1, e1, st1⟩ := initO X0 hx hZ hown (hw _ (List.mem_of_getElem? (i := 11) rfl)) (hw _ (List.mem_of_getElem? (i := 12) rfl)) (hw _ (List.mem_of_getElem? (i := 13) rfl)) e0 (g := (mkF m 1 #[.val (.ref a)] [(.ref a)])) rfl (by rw [hml]; rfl) rfl (hb hby own_b2_d1) (by decide) (W := 0) (by show 2 * 0 + _ ≤ _; exact Nat.le_of_eq rfl) (by decide)
  refine own_st (B := T1.setTop (mkF m 4 #[.val (.ref a)] [])) st1 ?_
  refine own_retV X1 hx Bd.returns hlk (hb hby own_b2_d4) (by decide) (by decide) ?_
  show Q2 Z a h0 n0 _ T1.heap _
  rw [e1]
  exact ⟨rfl, N0, rfl⟩
theorem own_pd0 : parseMethodDescriptor "()V" = some ⟨[], none⟩ := by decide +kernel
theorem own_b1_d0 : decode prog_57_method_1_code 0 = .ok (.aload_n 0, 1) := by decide +kernel
theorem own_b1_d1 : decode prog_57_method_1_code 1 = .ok (.invokespecial 1, 3) := by decide +kernel
theorem own_b1_d4 : decode prog_57_method_1_code 4 = .ok (.aload_n 0, 1) := by decide +kernel
theorem own_b1_d5 : decode prog_57_method_1_code 5 = .ok (.iload_n 1, 1) := by decide +kernel
theorem own_b1_d6 : decode prog_57_method_1_code 6 = .ok (.putfield 7, 3) := by decide +kernel
theorem own_b1_d9 : decode prog_57_method_1_code 9 = .ok (.aload_n 0, 1) := by decide +kernel
theorem own_b1_d10 : decode prog_57_method_1_code 10 = .ok (.iload_n 2, 1) := by decide +kernel
theorem own_b1_d11 : decode prog_57_method_1_code 11 = .ok (.putfield 13, 3) := by decide +kernel
theorem own_b1_d14 : decode prog_57_method_1_code 14 = .ok (.aload_n 0, 1) := by decide +kernel
theorem own_b1_d15 : decode prog_57_method_1_code 15 = .ok (.iload_n 3, 1) := by decide +kernel
theorem own_b1_d16 : decode prog_57_method_1_code 16 = .ok (.putfield 16, 3) := by decide +kernel
theorem own_b1_d19 : decode prog_57_method_1_code 19 = .ok (.return_, 1) := by decide +kernel
theorem own_pn1 : plainName "com/example/serialine/serialine/stress/Tally" = true := by first | (simp [plainName, overriddenIn]; done) | decide +kernel
theorem own_ef_rm1 (m : MethodId) (x0 : Addr) (x1 : Int32) (x2 : Int32) (x3 : Int32) : entryFrame m #[(.ref x0), (.int x1), (.int x2), (.int x3)] 4 = mkF m 0 #[.val (.ref x0), .val (.int x1), .val (.int x2), .val (.int x3)] [] := by first | (simp [entryFrame, mkF, argsToLocals, Value.category]; done) | rfl
def Q1 (Z : State) (a : Addr) (x0 : Int32) (x1 : Int32) (x2 : Int32) (h0 : Heap) (n0 : Nat) (v : Option Value) (h : Heap) (L : List Loc) : Prop := v = none ∧ Fr n0 L ∧ Keep h0 h [a] ∧ Fld Z h a "com/example/serialine/serialine/stress/Tally" "committed" "I" (.int x0) ∧ Fld Z h a "com/example/serialine/serialine/stress/Tally" "aborted" "I" (.int x1) ∧ Fld Z h a "com/example/serialine/serialine/stress/Tally" "longReads" "I" (.int x2)
set_option maxRecDepth 65536 in
set_option maxHeartbeats 40000000 in
theorem rm1 (l : Launch) (Z : State) (a0 : Array Value) (hw : ∀ d ∈ tables_1, d.before a0 Z = true) (ws : List Jvm.Cond) (a : Addr) (x0 : Int32) (x1 : Int32) (x2 : Int32) (h0 : Heap) (n0 : Nat) (Z0 : n0 ≤ h0.size) (E : Exa Z h0 a "com/example/serialine/serialine/stress/Tally") (F0 : Fld Z h0 a "com/example/serialine/serialine/stress/Tally" "committed" "I" (.int (0 : Int32))) (F1 : Fld Z h0 a "com/example/serialine/serialine/stress/Tally" "aborted" "I" (.int (0 : Int32))) (F2 : Fld Z h0 a "com/example/serialine/serialine/stress/Tally" "longReads" "I" (.int (0 : Int32))) (ga : n0 ≤ a) :
    MetFree l (⟨"com/example/serialine/serialine/stress/Tally", "<init>", "(III)V"⟩ : MethodName) (head1 (Jvm.Cond.code (⟨"com/example/serialine/serialine/stress/Tally", "<init>", "(III)V"⟩ : MethodName) prog_57_method_1_code 4 none :: ws) ({ frames := 2, cells := 0, slots := 0, locals := 24 } : Room)) (fun aa_ U_ => aa_ = #[(.ref a), (.int x0), (.int x1), (.int x2)] ∧ Z.Warmed39 U_.vm ∧ U_.heap = h0) (fun _ _ _ _ _ => True) (fun _ U_ o_ U1_ => ∃ v_ L_, o_ = .returned v_ ∧ Q1 Z a x0 x1 x2 h0 n0 v_ U1_.heap L_ ∧ FrameEnd U_ o_ U1_ L_ ({ frames := 2, cells := 0, slots := 0, locals := 24 } : Room).cells ({ frames := 2, cells := 0, slots := 0, locals := 24 } : Room).slots) := by
  refine MetFree.of_bodySF (plainFor_of_name own_pn1) hisR ?_
  intro p e s m args below meth c s₁ Bd hml0 hP hK
  obtain ⟨rfl, hZ, hh⟩ := hP
  have hx := Bd.exec
  have hby := Bd.bytes
  have hlk := Bd.notSynchronized
  have hml : c.maxLocals = 4 := hml0
  have hown : s.vm.findClass "com/example/serialine/serialine/stress/Tally" = some m.cls := findClass_of_methodNamed Bd.named
  have hnm := (name_of_methodNamed Bd.named Bd.method).1
  have X0 : Stand p l e ({ frames := 2, cells := 0, slots := 0, locals := 24 } : Room) s m #[(.ref a), (.int x0), (.int x1), (.int x2)] below meth c s₁ [] 0 0 := Stand.of_body Bd
  have e0 : s₁.heap = h0 := by rw [← hh, Bd.state]; rfl
  have N0 := Fr.nil n0
  show own_E p e below s (Q1 Z a x0 x1 x2 h0 n0) ({ frames := 2, cells := 0, slots := 0, locals := 24 } : Room).cells ({ frames := 2, cells := 0, slots := 0, locals := 24 } : Room).slots (s₁.setTop (entryFrame m #[(.ref a), (.int x0), (.int x1), (.int x2)] 4))
  refine own_st (B := s₁.setTop (mkF m 0 #[.val (.ref a), .val (.int x0), .val (.int x1), .val (.int x2)] [])) (fun t k => castTop (own_ef_rm1 m a x0 x1 x2) k) ?_
  have K0 : Keep h0 h0 [a] := Keep.refl _ _
  refine own_st (B := s₁.setTop (mkF m 1 #[.val (.ref a), .val (.int x0), .val (.int x1), .val (.int x2)] [(.ref a)])) (fun t k => XS.aloadN X0.here hx rfl (hb hby own_b1_d0) rfl rfl k) ?_
  obtain ⟨_, _, ⟨T1, L1, k1, n1⟩, -, X1, ⟨Lc1, hQ1, l1, y1, z1⟩, st1⟩ := X0.specialBack hx (y := (⟨"java/lang/Record", "<init>", "()V"⟩ : MethodName)) rfl hown (mvT hZ (hw _ (List.mem_of_getElem? (i := 6) rfl))) (mvT hZ (hw _ (List.mem_of_getElem? (i := 7) rfl))) (mvT hZ (hw _ (List.mem_of_getElem? (i := 10) rfl))) (by decide) (backOf (W := 0) (rm2 l Z a0 hw [] a h0 n0 Z0 ) hZ (hw _ (List.mem_of_getElem? (i := 10) rfl)) (hw _ (List.mem_of_getElem? (i := 9) rfl)) (by decide) (by decide)) (g := (mkF m 1 #[.val (.ref a), .val (.int x0), .val (.int x1), .val (.int x2)] [(.ref a)])) rfl (by rw [hml]; rfl) (Steps.refl _) (a := a) (argsL := []) (rest := []) (lenOf own_pd0 rfl) rfl (by show 2 * 0 + _ ≤ _; exact Nat.le_of_eq rfl) (hb hby own_b1_d1) (fun _ _ => ⟨rfl, e0, (by decide : 0 + 0 ≤ _), (by decide : 0 + 0 ≤ _)⟩)
  dsimp only [Pt.U, Pt.locs, Pt.cells, Pt.slots] at X1 l1 y1 z1 st1 hQ1
  subst l1 y1 z1
  obtain ⟨rfl, N1q, eh1⟩ := hQ1
  have N1 := Fr.app N0 N1q
  refine own_st (B := T1.setTop (mkF m 4 #[.val (.ref a), .val (.int x0), .val (.int x1), .val (.int x2)] [])) (fun t k => st1.trans k) ?_
  refine own_st (B := T1.setTop (mkF m 5 #[.val (.ref a), .val (.int x0), .val (.int x1), .val (.int x2)] [(.ref a)])) (fun t k => XS.aloadN X1.here hx rfl (hb hby own_b1_d4) rfl rfl k) ?_
  refine own_st (B := T1.setTop (mkF m 6 #[.val (.ref a), .val (.int x0), .val (.int x1), .val (.int x2)] [(.int x0), (.ref a)])) (fun t k => XS.iloadN X1.here hx rfl (hb hby own_b1_d5) rfl k) ?_
  obtain ⟨T2, h2, X2, e2, W2, st2⟩ := putF X1 hx hZ hown (host := "") (Or.inl (hw _ (List.mem_of_getElem? (i := 14) rfl))) Via.refl eh1 F0 E (Or.inr ⟨(hw _ (List.mem_of_getElem? (i := 15) rfl)), rfl, hnm⟩) (hw _ (List.mem_of_getElem? (i := 1) rfl)) (ty := .int) (by decide) rfl rfl (g := (mkF m 6 #[.val (.ref a), .val (.int x0), .val (.int x1), .val (.int x2)] [(.int x0), (.ref a)])) rfl rfl (hb hby own_b1_d6)
  have Fw2 := F0.same W2
  have N2 := Fr.snoc X2 N1 ga
  have Z3 := Nat.le_trans Z0 (Keep.of_wr W2).1
  have K4 := K0.wr W2 (Or.inl (List.mem_of_getElem? (i := 0) rfl))
  refine own_st (B := T2.setTop (mkF m 9 #[.val (.ref a), .val (.int x0), .val (.int x1), .val (.int x2)] [])) st2 ?_
  refine own_st (B := T2.setTop (mkF m 10 #[.val (.ref a), .val (.int x0), .val (.int x1), .val (.int x2)] [(.ref a)])) (fun t k => XS.aloadN X2.here hx rfl (hb hby own_b1_d9) rfl rfl k) ?_
  refine own_st (B := T2.setTop (mkF m 11 #[.val (.ref a), .val (.int x0), .val (.int x1), .val (.int x2)] [(.int x1), (.ref a)])) (fun t k => XS.iloadN X2.here hx rfl (hb hby own_b1_d10) rfl k) ?_
  have u5 := E.wr W2
  have u6 := F1.other W2 (Or.inr (slot_ne (Or.inr (hw _ (List.mem_of_getElem? (i := 17) rfl))) (Or.inr (hw _ (List.mem_of_getElem? (i := 15) rfl))) (by decide) (t := .int) (t' := .int) (by decide) (by decide)))
  obtain ⟨T7, h7, X7, e7, W7, st7⟩ := putF X2 hx hZ hown (host := "") (Or.inl (hw _ (List.mem_of_getElem? (i := 16) rfl))) Via.refl e2 u6 u5 (Or.inr ⟨(hw _ (List.mem_of_getElem? (i := 17) rfl)), rfl, hnm⟩) (hw _ (List.mem_of_getElem? (i := 1) rfl)) (ty := .int) (by decide) rfl rfl (g := (mkF m 11 #[.val (.ref a), .val (.int x0), .val (.int x1), .val (.int x2)] [(.int x1), (.ref a)])) rfl rfl (hb hby own_b1_d11)
  have Fw7 := u6.same W7
  have N7 := Fr.snoc X7 N2 ga
  have Z8 := Nat.le_trans Z3 (Keep.of_wr W7).1
  have K9 := K4.wr W7 (Or.inl (List.mem_of_getElem? (i := 0) rfl))
  refine own_st (B := T7.setTop (mkF m 14 #[.val (.ref a), .val (.int x0), .val (.int x1), .val (.int x2)] [])) st7 ?_
  refine own_st (B := T7.setTop (mkF m 15 #[.val (.ref a), .val (.int x0), .val (.int x1), .val (.int x2)] [(.ref a)])) (fun t k => XS.aloadN X7.here hx rfl (hb hby own_b1_d14) rfl rfl k) ?_
  refine own_st (B := T7.setTop (mkF m 16 #[.val (.ref a), .val (.int x0), .val (.int x1), .val (.int x2)] [(.int x2), (.ref a)])) (fun t k => XS.iloadN X7.here hx rfl (hb hby own_b1_d15) rfl k) ?_
  have u10 := u5.wr W7
  have u11 := F2.other W2 (Or.inr (slot_ne (Or.inr (hw _ (List.mem_of_getElem? (i := 19) rfl))) (Or.inr (hw _ (List.mem_of_getElem? (i := 15) rfl))) (by decide) (t := .int) (t' := .int) (by decide) (by decide)))
  have u12 := u11.other W7 (Or.inr (slot_ne (Or.inr (hw _ (List.mem_of_getElem? (i := 19) rfl))) (Or.inr (hw _ (List.mem_of_getElem? (i := 17) rfl))) (by decide) (t := .int) (t' := .int) (by decide) (by decide)))
  obtain ⟨T13, h13, X13, e13, W13, st13⟩ := putF X7 hx hZ hown (host := "") (Or.inl (hw _ (List.mem_of_getElem? (i := 18) rfl))) Via.refl e7 u12 u10 (Or.inr ⟨(hw _ (List.mem_of_getElem? (i := 19) rfl)), rfl, hnm⟩) (hw _ (List.mem_of_getElem? (i := 1) rfl)) (ty := .int) (by decide) rfl rfl (g := (mkF m 16 #[.val (.ref a), .val (.int x0), .val (.int x1), .val (.int x2)] [(.int x2), (.ref a)])) rfl rfl (hb hby own_b1_d16)
  have Fw13 := u12.same W13
  have N13 := Fr.snoc X13 N7 ga
  have Z14 := Nat.le_trans Z8 (Keep.of_wr W13).1
  have K15 := K9.wr W13 (Or.inl (List.mem_of_getElem? (i := 0) rfl))
  refine own_st (B := T13.setTop (mkF m 19 #[.val (.ref a), .val (.int x0), .val (.int x1), .val (.int x2)] [])) st13 ?_
  refine own_retV X13 hx Bd.returns hlk (hb hby own_b1_d19) (by decide) (by decide) ?_
  show Q1 Z a x0 x1 x2 h0 n0 _ T13.heap _
  rw [e13]
  have u16 := Fw2.other W7 (Or.inr (slot_ne (Or.inr (hw _ (List.mem_of_getElem? (i := 15) rfl))) (Or.inr (hw _ (List.mem_of_getElem? (i := 17) rfl))) (by decide) (t := .int) (t' := .int) (by decide) (by decide)))
  have u17 := u16.other W13 (Or.inr (slot_ne (Or.inr (hw _ (List.mem_of_getElem? (i := 15) rfl))) (Or.inr (hw _ (List.mem_of_getElem? (i := 19) rfl))) (by decide) (t := .int) (t' := .int) (by decide) (by decide)))
  have u18 := Fw7.other W13 (Or.inr (slot_ne (Or.inr (hw _ (List.mem_of_getElem? (i := 17) rfl))) (Or.inr (hw _ (List.mem_of_getElem? (i := 19) rfl))) (by decide) (t := .int) (t' := .int) (by decide) (by decide)))
  exact ⟨rfl, N13, K15, u17, u18, Fw13⟩
theorem own_pd1 : parseMethodDescriptor "(III)V" = some ⟨[.int, .int, .int], none⟩ := by decide +kernel
theorem own_b4_d0 : decode prog_57_method_2_code 0 = .ok (.new 8, 3) := by decide +kernel
theorem own_b4_d3 : decode prog_57_method_2_code 3 = .ok (.dup, 1) := by decide +kernel
theorem own_b4_d4 : decode prog_57_method_2_code 4 = .ok (.aload_n 0, 1) := by decide +kernel
theorem own_b4_d5 : decode prog_57_method_2_code 5 = .ok (.getfield 7, 3) := by decide +kernel
theorem own_b4_d8 : decode prog_57_method_2_code 8 = .ok (.aload_n 1, 1) := by decide +kernel
theorem own_b4_d9 : decode prog_57_method_2_code 9 = .ok (.getfield 7, 3) := by decide +kernel
theorem own_b4_d12 : decode prog_57_method_2_code 12 = .ok (.iadd, 1) := by decide +kernel
theorem own_b4_d13 : decode prog_57_method_2_code 13 = .ok (.aload_n 0, 1) := by decide +kernel
theorem own_b4_d14 : decode prog_57_method_2_code 14 = .ok (.getfield 13, 3) := by decide +kernel
theorem own_b4_d17 : decode prog_57_method_2_code 17 = .ok (.aload_n 1, 1) := by decide +kernel
theorem own_b4_d18 : decode prog_57_method_2_code 18 = .ok (.getfield 13, 3) := by decide +kernel
theorem own_b4_d21 : decode prog_57_method_2_code 21 = .ok (.iadd, 1) := by decide +kernel
theorem own_b4_d22 : decode prog_57_method_2_code 22 = .ok (.aload_n 0, 1) := by decide +kernel
theorem own_b4_d23 : decode prog_57_method_2_code 23 = .ok (.getfield 16, 3) := by decide +kernel
theorem own_b4_d26 : decode prog_57_method_2_code 26 = .ok (.aload_n 1, 1) := by decide +kernel
theorem own_b4_d27 : decode prog_57_method_2_code 27 = .ok (.getfield 16, 3) := by decide +kernel
theorem own_b4_d30 : decode prog_57_method_2_code 30 = .ok (.iadd, 1) := by decide +kernel
theorem own_b4_d31 : decode prog_57_method_2_code 31 = .ok (.invokespecial 19, 3) := by decide +kernel
theorem own_b4_d34 : decode prog_57_method_2_code 34 = .ok (.areturn, 1) := by decide +kernel
theorem own_ef_rm4 (m : MethodId) (x0 : Addr) (x1 : Addr) : entryFrame m #[(.ref x0), (.ref x1)] 2 = mkF m 0 #[.val (.ref x0), .val (.ref x1)] [] := by first | (simp [entryFrame, mkF, argsToLocals, Value.category]; done) | rfl
def Q4 (Z : State) (a : Addr) (d : Addr) (x0 : Int32) (x1 : Int32) (x2 : Int32) (y0 : Int32) (y1 : Int32) (y2 : Int32) (h0 : Heap) (n0 : Nat) (v : Option Value) (h : Heap) (L : List Loc) : Prop := ∃ b : Addr, v = some (.ref b) ∧ Fr n0 L ∧ Keep h0 h [] ∧ h0.size ≤ b ∧ Exa Z h b "com/example/serialine/serialine/stress/Tally" ∧ Fld Z h b "com/example/serialine/serialine/stress/Tally" "committed" "I" (.int (x0 + y0)) ∧ Fld Z h b "com/example/serialine/serialine/stress/Tally" "aborted" "I" (.int (x1 + y1)) ∧ Fld Z h b "com/example/serialine/serialine/stress/Tally" "longReads" "I" (.int (x2 + y2))
set_option maxRecDepth 65536 in
set_option maxHeartbeats 40000000 in
theorem rm4 (l : Launch) (Z : State) (a0 : Array Value) (hw : ∀ d ∈ tables_1, d.before a0 Z = true) (ws : List Jvm.Cond) (a : Addr) (d : Addr) (x0 : Int32) (x1 : Int32) (x2 : Int32) (y0 : Int32) (y1 : Int32) (y2 : Int32) (h0 : Heap) (n0 : Nat) (Z0 : n0 ≤ h0.size) (F0 : Fld Z h0 a "com/example/serialine/serialine/stress/Tally" "committed" "I" (.int x0)) (F1 : Fld Z h0 a "com/example/serialine/serialine/stress/Tally" "aborted" "I" (.int x1)) (F2 : Fld Z h0 a "com/example/serialine/serialine/stress/Tally" "longReads" "I" (.int x2)) (F3 : Fld Z h0 d "com/example/serialine/serialine/stress/Tally" "committed" "I" (.int y0)) (F4 : Fld Z h0 d "com/example/serialine/serialine/stress/Tally" "aborted" "I" (.int y1)) (F5 : Fld Z h0 d "com/example/serialine/serialine/stress/Tally" "longReads" "I" (.int y2)) :
    MetFree l (⟨"com/example/serialine/serialine/stress/Tally", "plus", "(Lcom/example/serialine/serialine/stress/Tally;)Lcom/example/serialine/serialine/stress/Tally;"⟩ : MethodName) (head1 (Jvm.Cond.code (⟨"com/example/serialine/serialine/stress/Tally", "plus", "(Lcom/example/serialine/serialine/stress/Tally;)Lcom/example/serialine/serialine/stress/Tally;"⟩ : MethodName) prog_57_method_2_code 2 (some (.object "com/example/serialine/serialine/stress/Tally")) :: ws) ({ frames := 3, cells := 1, slots := 3, locals := 40 } : Room)) (fun aa_ U_ => aa_ = #[(.ref a), (.ref d)] ∧ Z.Warmed39 U_.vm ∧ U_.heap = h0) (fun _ _ _ _ _ => True) (fun _ U_ o_ U1_ => ∃ v_ L_, o_ = .returned v_ ∧ Q4 Z a d x0 x1 x2 y0 y1 y2 h0 n0 v_ U1_.heap L_ ∧ FrameEnd U_ o_ U1_ L_ ({ frames := 3, cells := 1, slots := 3, locals := 40 } : Room).cells ({ frames := 3, cells := 1, slots := 3, locals := 40 } : Room).slots) := by
  refine MetFree.of_bodySF (plainFor_of_name own_pn1) hisR ?_
  intro p e s m args below meth c s₁ Bd hml0 hP hK
  obtain ⟨rfl, hZ, hh⟩ := hP
  have hx := Bd.exec
  have hby := Bd.bytes
  have hlk := Bd.notSynchronized
  have hml : c.maxLocals = 2 := hml0
  have hown : s.vm.findClass "com/example/serialine/serialine/stress/Tally" = some m.cls := findClass_of_methodNamed Bd.named
  have hnm := (name_of_methodNamed Bd.named Bd.method).1
  have X0 : Stand p l e ({ frames := 3, cells := 1, slots := 3, locals := 40 } : Room) s m #[(.ref a), (.ref d)] below meth c s₁ [] 0 0 := Stand.of_body Bd
  have e0 : s₁.heap = h0 := by rw [← hh, Bd.state]; rfl
  have N0 := Fr.nil n0
  show own_E p e below s (Q4 Z a d x0 x1 x2 y0 y1 y2 h0 n0) ({ frames := 3, cells := 1, slots := 3, locals := 40 } : Room).cells ({ frames := 3, cells := 1, slots := 3, locals := 40 } : Room).slots (s₁.setTop (entryFrame m #[(.ref a), (.ref d)] 2))
  refine own_st (B := s₁.setTop (mkF m 0 #[.val (.ref a), .val (.ref d)] [])) (fun t k => castTop (own_ef_rm4 m a d) k) ?_
  have K0 : Keep h0 h0 [] := Keep.refl _ _
  obtain ⟨T1, h1, X1, e1, E1, A1, D1, -, st1⟩ := newO X0 hx hZ hown (hw _ (List.mem_of_getElem? (i := 25) rfl)) (hw _ (List.mem_of_getElem? (i := 1) rfl)) (hw _ (List.mem_of_getElem? (i := 2) rfl)) e0 (g := (mkF m 0 #[.val (.ref a), .val (.ref d)] [])) rfl (hb hby own_b4_d0) (by decide) (by decide)
  obtain ⟨b1, g1⟩ : ∃ z, z = h0.size := ⟨_, rfl⟩
  rw [← g1] at A1 D1 st1
  have ne2 : a ≠ b1 := Nat.ne_of_lt (Nat.lt_of_lt_of_le F0.lt (Nat.le_of_eq g1.symm))
  have ne3 : d ≠ b1 := Nat.ne_of_lt (Nat.lt_of_lt_of_le F3.lt (Nat.le_of_eq g1.symm))
  have g4 : n0 ≤ b1 := Nat.le_trans Z0 (Nat.le_of_eq g1.symm)
  have sz5 : h0.size ≤ b1 := Nat.le_trans K0.1 (Nat.le_of_eq g1.symm)
  have Z6 := Nat.le_trans Z0 E1.1
  have K7 := K0.ext E1
  have F1_committed : Fld Z h1 b1 "com/example/serialine/serialine/stress/Tally" "committed" "I" (.int (0 : Int32)) := D1 (Or.inr (hw _ (List.mem_of_getElem? (i := 15) rfl))) (ty := .int) (by decide)
  have F1_aborted : Fld Z h1 b1 "com/example/serialine/serialine/stress/Tally" "aborted" "I" (.int (0 : Int32)) := D1 (Or.inr (hw _ (List.mem_of_getElem? (i := 17) rfl))) (ty := .int) (by decide)
  have F1_longReads : Fld Z h1 b1 "com/example/serialine/serialine/stress/Tally" "longReads" "I" (.int (0 : Int32)) := D1 (Or.inr (hw _ (List.mem_of_getElem? (i := 19) rfl))) (ty := .int) (by decide)
  refine own_st (B := T1.setTop (mkF m 3 #[.val (.ref a), .val (.ref d)] [(.ref b1)])) st1 ?_
  refine own_st (B := T1.setTop (mkF m 4 #[.val (.ref a), .val (.ref d)] [(.ref b1), (.ref b1)])) (fun t k => XS.dup X1.here hx rfl (hb hby own_b4_d3) rfl rfl k) ?_
  refine own_st (B := T1.setTop (mkF m 5 #[.val (.ref a), .val (.ref d)] [(.ref a), (.ref b1), (.ref b1)])) (fun t k => XS.aloadN X1.here hx rfl (hb hby own_b4_d4) rfl rfl k) ?_
  have u8 := F0.ext E1
  obtain ⟨T9, X9, e9, st9⟩ := getF X1 hx hZ hown (host := "") (Or.inl (hw _ (List.mem_of_getElem? (i := 14) rfl))) Via.refl e1 u8 (g := (mkF m 5 #[.val (.ref a), .val (.ref d)] [(.ref a), (.ref b1), (.ref b1)])) rfl rfl (hb hby own_b4_d5)
  refine own_st (B := T9.setTop (mkF m 8 #[.val (.ref a), .val (.ref d)] [(.int x0), (.ref b1), (.ref b1)])) st9 ?_
  refine own_st (B := T9.setTop (mkF m 9 #[.val (.ref a), .val (.ref d)] [(.ref d), (.int x0), (.ref b1), (.ref b1)])) (fun t k => XS.aloadN X9.here hx rfl (hb hby own_b4_d8) rfl rfl k) ?_
  have u10 := F3.ext E1
  obtain ⟨T11, X11, e11, st11⟩ := getF X9 hx hZ hown (host := "") (Or.inl (hw _ (List.mem_of_getElem? (i := 14) rfl))) Via.refl e9 u10 (g := (mkF m 9 #[.val (.ref a), .val (.ref d)] [(.ref d), (.int x0), (.ref b1), (.ref b1)])) rfl rfl (hb hby own_b4_d9)
  refine own_st (B := T11.setTop (mkF m 12 #[.val (.ref a), .val (.ref d)] [(.int y0), (.int x0), (.ref b1), (.ref b1)])) st11 ?_
  refine own_st (B := T11.setTop (mkF m 13 #[.val (.ref a), .val (.ref d)] [(.int (x0 + y0)), (.ref b1), (.ref b1)])) (fun t k => XS.iadd X11.here hx rfl (hb hby own_b4_d12) rfl k) ?_
  refine own_st (B := T11.setTop (mkF m 14 #[.val (.ref a), .val (.ref d)] [(.ref a), (.int (x0 + y0)), (.ref b1), (.ref b1)])) (fun t k => XS.aloadN X11.here hx rfl (hb hby own_b4_d13) rfl rfl k) ?_
  have u12 := F1.ext E1
  obtain ⟨T13, X13, e13, st13⟩ := getF X11 hx hZ hown (host := "") (Or.inl (hw _ (List.mem_of_getElem? (i := 16) rfl))) Via.refl e11 u12 (g := (mkF m 14 #[.val (.ref a), .val (.ref d)] [(.ref a), (.int (x0 + y0)), (.ref b1), (.ref b1)])) rfl rfl (hb hby own_b4_d14)
  refine own_st (B := T13.setTop (mkF m 17 #[.val (.ref a), .val (.ref d)] [(.int x1), (.int (x0 + y0)), (.ref b1), (.ref b1)])) st13 ?_
  refine own_st (B := T13.setTop (mkF m 18 #[.val (.ref a), .val (.ref d)] [(.ref d), (.int x1), (.int (x0 + y0)), (.ref b1), (.ref b1)])) (fun t k => XS.aloadN X13.here hx rfl (hb hby own_b4_d17) rfl rfl k) ?_
  have u14 := F4.ext E1
  obtain ⟨T15, X15, e15, st15⟩ := getF X13 hx hZ hown (host := "") (Or.inl (hw _ (List.mem_of_getElem? (i := 16) rfl))) Via.refl e13 u14 (g := (mkF m 18 #[.val (.ref a), .val (.ref d)] [(.ref d), (.int x1), (.int (x0 + y0)), (.ref b1), (.ref b1)])) rfl rfl (hb hby own_b4_d18)
  refine own_st (B := T15.setTop (mkF m 21 #[.val (.ref a), .val (.ref d)] [(.int y1), (.int x1), (.int (x0 + y0)), (.ref b1), (.ref b1)])) st15 ?_
  refine own_st (B := T15.setTop (mkF m 22 #[.val (.ref a), .val (.ref d)] [(.int (x1 + y1)), (.int (x0 + y0)), (.ref b1), (.ref b1)])) (fun t k => XS.iadd X15.here hx rfl (hb hby own_b4_d21) rfl k) ?_
  refine own_st (B := T15.setTop (mkF m 23 #[.val (.ref a), .val (.ref d)] [(.ref a), (.int (x1 + y1)), (.int (x0 + y0)), (.ref b1), (.ref b1)])) (fun t k => XS.aloadN X15.here hx rfl (hb hby own_b4_d22) rfl rfl k) ?_
  have u16 := F2.ext E1
  obtain ⟨T17, X17, e17, st17⟩ := getF X15 hx hZ hown (host := "") (Or.inl (hw _ (List.mem_of_getElem? (i := 18) rfl))) Via.refl e15 u16 (g := (mkF m 23 #[.val (.ref a), .val (.ref d)] [(.ref a), (.int (x1 + y1)), (.int (x0 + y0)), (.ref b1), (.ref b1)])) rfl rfl (hb hby own_b4_d23)
  refine own_st (B := T17.setTop (mkF m 26 #[.val (.ref a), .val (.ref d)] [(.int x2), (.int (x1 + y1)), (.int (x0 + y0)), (.ref b1), (.ref b1)])) st17 ?_
  refine own_st (B := T17.setTop (mkF m 27 #[.val (.ref a), .val (.ref d)] [(.ref d), (.int x2), (.int (x1 + y1)), (.int (x0 + y0)), (.ref b1), (.ref b1)])) (fun t k => XS.aloadN X17.here hx rfl (hb hby own_b4_d26) rfl rfl k) ?_
  have u18 := F5.ext E1
  obtain ⟨T19, X19, e19, st19⟩ := getF X17 hx hZ hown (host := "") (Or.inl (hw _ (List.mem_of_getElem? (i := 18) rfl))) Via.refl e17 u18 (g := (mkF m 27 #[.val (.ref a), .val (.ref d)] [(.ref d), (.int x2), (.int (x1 + y1)), (.int (x0 + y0)), (.ref b1), (.ref b1)])) rfl rfl (hb hby own_b4_d27)
  refine own_st (B := T19.setTop (mkF m 30 #[.val (.ref a), .val (.ref d)] [(.int y2), (.int x2), (.int (x1 + y1)), (.int (x0 + y0)), (.ref b1), (.ref b1)])) st19 ?_
  refine own_st (B := T19.setTop (mkF m 31 #[.val (.ref a), .val (.ref d)] [(.int (x2 + y2)), (.int (x1 + y1)), (.int (x0 + y0)), (.ref b1), (.ref b1)])) (fun t k => XS.iadd X19.here hx rfl (hb hby own_b4_d30) rfl k) ?_
  obtain ⟨_, _, ⟨T20, L20, k20, n20⟩, -, X20, ⟨Lc20, hQ20, l20, y20, z20⟩, st20⟩ := X19.specialBack hx (y := (⟨"com/example/serialine/serialine/stress/Tally", "<init>", "(III)V"⟩ : MethodName)) rfl hown (mvT hZ (hw _ (List.mem_of_getElem? (i := 26) rfl))) (mvT hZ (hw _ (List.mem_of_getElem? (i := 4) rfl))) (mvT hZ (hw _ (List.mem_of_getElem? (i := 5) rfl))) (by decide) (backOf (W := 1) (rm1 l Z a0 hw [] b1 (x0 + y0) (x1 + y1) (x2 + y2) h1 n0 Z6 A1 F1_committed F1_aborted F1_longReads g4) hZ (hw _ (List.mem_of_getElem? (i := 5) rfl)) (hw _ (List.mem_of_getElem? (i := 2) rfl)) (by decide) (by decide)) (g := (mkF m 31 #[.val (.ref a), .val (.ref d)] [(.int (x2 + y2)), (.int (x1 + y1)), (.int (x0 + y0)), (.ref b1), (.ref b1)])) rfl (by rw [hml]; rfl) (Steps.refl _) (a := b1) (argsL := [(.int (x0 + y0)), (.int (x1 + y1)), (.int (x2 + y2))]) (rest := [(.ref b1)]) (lenOf own_pd1 rfl) rfl (by show 2 * 0 + _ ≤ _; exact Nat.le_of_eq rfl) (hb hby own_b4_d31) (fun _ _ => ⟨rfl, e19, (by decide : 1 + 0 ≤ _), (by decide : 3 + 0 ≤ _)⟩)
  dsimp only [Pt.U, Pt.locs, Pt.cells, Pt.slots] at X20 l20 y20 z20 st20 hQ20
  subst l20 y20 z20
  obtain ⟨rfl, N20q, K20, Fc20_0, Fc20_1, Fc20_2⟩ := hQ20
  have N20 := Fr.app N0 N20q
  have Z21 := Nat.le_trans Z6 K20.1
  have K22 := K7.trans K20 (allS (Or.inr sz5) all0)
  refine own_st (B := T20.setTop (mkF m 34 #[.val (.ref a), .val (.ref d)] [(.ref b1)])) (fun t k => st20.trans k) ?_
  refine own_retR X20 hx rfl Bd.returns rfl hlk (hb hby own_b4_d34) (by decide) (by decide) ?_
  show Q4 Z a d x0 x1 x2 y0 y1 y2 h0 n0 _ T20.heap _
  have u23 := A1.keep K20
  exact ⟨b1, rfl, N20, K22, sz5, u23, Fc20_0, Fc20_1, Fc20_2⟩
theorem own_b5_d0 : decode prog_57_method_6_code 0 = .ok (.aload_n 0, 1) := by decide +kernel
theorem own_b5_d1 : decode prog_57_method_6_code 1 = .ok (.getfield 7, 3) := by decide +kernel
theorem own_b5_d4 : decode prog_57_method_6_code 4 = .ok (.ireturn, 1) := by decide +kernel
theorem own_ef_rm5 (m : MethodId) (x0 : Addr) : entryFrame m #[(.ref x0)] 1 = mkF m 0 #[.val (.ref x0)] [] := by first | (simp [entryFrame, mkF, argsToLocals, Value.category]; done) | rfl
def Q5 (Z : State) (a : Addr) (u : Int32) (h0 : Heap) (n0 : Nat) (v : Option Value) (h : Heap) (L : List Loc) : Prop := v = some (.int u) ∧ Fr n0 L ∧ h = h0
set_option maxRecDepth 65536 in
set_option maxHeartbeats 40000000 in
theorem rm5 (l : Launch) (Z : State) (a0 : Array Value) (hw : ∀ d ∈ tables_1, d.before a0 Z = true) (ws : List Jvm.Cond) (a : Addr) (u : Int32) (h0 : Heap) (n0 : Nat) (Z0 : n0 ≤ h0.size) (F : Fld Z h0 a "com/example/serialine/serialine/stress/Tally" "committed" "I" (.int u)) :
    MetFree l (⟨"com/example/serialine/serialine/stress/Tally", "committed", "()I"⟩ : MethodName) (head1 (Jvm.Cond.code (⟨"com/example/serialine/serialine/stress/Tally", "committed", "()I"⟩ : MethodName) prog_57_method_6_code 1 (some .int) :: ws) ({ frames := 0, cells := 0, slots := 0, locals := 0 } : Room)) (fun aa_ U_ => aa_ = #[(.ref a)] ∧ Z.Warmed39 U_.vm ∧ U_.heap = h0) (fun _ _ _ _ _ => True) (fun _ U_ o_ U1_ => ∃ v_ L_, o_ = .returned v_ ∧ Q5 Z a u h0 n0 v_ U1_.heap L_ ∧ FrameEnd U_ o_ U1_ L_ ({ frames := 0, cells := 0, slots := 0, locals := 0 } : Room).cells ({ frames := 0, cells := 0, slots := 0, locals := 0 } : Room).slots) := by
  refine MetFree.of_bodySF (plainFor_of_name own_pn1) hisR ?_
  intro p e s m args below meth c s₁ Bd hml0 hP hK
  obtain ⟨rfl, hZ, hh⟩ := hP
  have hx := Bd.exec
  have hby := Bd.bytes
  have hlk := Bd.notSynchronized
  have hml : c.maxLocals = 1 := hml0
  have hown : s.vm.findClass "com/example/serialine/serialine/stress/Tally" = some m.cls := findClass_of_methodNamed Bd.named
  have hnm := (name_of_methodNamed Bd.named Bd.method).1
  have X0 : Stand p l e ({ frames := 0, cells := 0, slots := 0, locals := 0 } : Room) s m #[(.ref a)] below meth c s₁ [] 0 0 := Stand.of_body Bd
  have e0 : s₁.heap = h0 := by rw [← hh, Bd.state]; rfl
  have N0 := Fr.nil n0
  show own_E p e below s (Q5 Z a u h0 n0) ({ frames := 0, cells := 0, slots := 0, locals := 0 } : Room).cells ({ frames := 0, cells := 0, slots := 0, locals := 0 } : Room).slots (s₁.setTop (entryFrame m #[(.ref a)] 1))
  refine own_st (B := s₁.setTop (mkF m 0 #[.val (.ref a)] [])) (fun t k => castTop (own_ef_rm5 m a) k) ?_
  refine own_st (B := s₁.setTop (mkF m 1 #[.val (.ref a)] [(.ref a)])) (fun t k => XS.aloadN X0.here hx rfl (hb hby own_b5_d0) rfl rfl k) ?_
  obtain ⟨T1, X1, e1, st1⟩ := getF X0 hx hZ hown (host := "") (Or.inl (hw _ (List.mem_of_getElem? (i := 14) rfl))) Via.refl e0 F (g := (mkF m 1 #[.val (.ref a)] [(.ref a)])) rfl rfl (hb hby own_b5_d1)
  refine own_st (B := T1.setTop (mkF m 4 #[.val (.ref a)] [(.int u)])) st1 ?_
  refine own_retI X1 hx Bd.returns hlk (hb hby own_b5_d4) (by decide) (by decide) ?_
  show Q5 Z a u h0 n0 _ T1.heap _
  rw [e1]
  exact ⟨rfl, N0, rfl⟩
theorem own_b6_d0 : decode prog_57_method_7_code 0 = .ok (.aload_n 0, 1) := by decide +kernel
theorem own_b6_d1 : decode prog_57_method_7_code 1 = .ok (.getfield 13, 3) := by decide +kernel
theorem own_b6_d4 : decode prog_57_method_7_code 4 = .ok (.ireturn, 1) := by decide +kernel
theorem own_ef_rm6 (m : MethodId) (x0 : Addr) : entryFrame m #[(.ref x0)] 1 = mkF m 0 #[.val (.ref x0)] [] := by first | (simp [entryFrame, mkF, argsToLocals, Value.category]; done) | rfl
def Q6 (Z : State) (a : Addr) (u : Int32) (h0 : Heap) (n0 : Nat) (v : Option Value) (h : Heap) (L : List Loc) : Prop := v = some (.int u) ∧ Fr n0 L ∧ h = h0
set_option maxRecDepth 65536 in
set_option maxHeartbeats 40000000 in
theorem rm6 (l : Launch) (Z : State) (a0 : Array Value) (hw : ∀ d ∈ tables_1, d.before a0 Z = true) (ws : List Jvm.Cond) (a : Addr) (u : Int32) (h0 : Heap) (n0 : Nat) (Z0 : n0 ≤ h0.size) (F : Fld Z h0 a "com/example/serialine/serialine/stress/Tally" "aborted" "I" (.int u)) :
    MetFree l (⟨"com/example/serialine/serialine/stress/Tally", "aborted", "()I"⟩ : MethodName) (head1 (Jvm.Cond.code (⟨"com/example/serialine/serialine/stress/Tally", "aborted", "()I"⟩ : MethodName) prog_57_method_7_code 1 (some .int) :: ws) ({ frames := 0, cells := 0, slots := 0, locals := 0 } : Room)) (fun aa_ U_ => aa_ = #[(.ref a)] ∧ Z.Warmed39 U_.vm ∧ U_.heap = h0) (fun _ _ _ _ _ => True) (fun _ U_ o_ U1_ => ∃ v_ L_, o_ = .returned v_ ∧ Q6 Z a u h0 n0 v_ U1_.heap L_ ∧ FrameEnd U_ o_ U1_ L_ ({ frames := 0, cells := 0, slots := 0, locals := 0 } : Room).cells ({ frames := 0, cells := 0, slots := 0, locals := 0 } : Room).slots) := by
  refine MetFree.of_bodySF (plainFor_of_name own_pn1) hisR ?_
  intro p e s m args below meth c s₁ Bd hml0 hP hK
  obtain ⟨rfl, hZ, hh⟩ := hP
  have hx := Bd.exec
  have hby := Bd.bytes
  have hlk := Bd.notSynchronized
  have hml : c.maxLocals = 1 := hml0
  have hown : s.vm.findClass "com/example/serialine/serialine/stress/Tally" = some m.cls := findClass_of_methodNamed Bd.named
  have hnm := (name_of_methodNamed Bd.named Bd.method).1
  have X0 : Stand p l e ({ frames := 0, cells := 0, slots := 0, locals := 0 } : Room) s m #[(.ref a)] below meth c s₁ [] 0 0 := Stand.of_body Bd
  have e0 : s₁.heap = h0 := by rw [← hh, Bd.state]; rfl
  have N0 := Fr.nil n0
  show own_E p e below s (Q6 Z a u h0 n0) ({ frames := 0, cells := 0, slots := 0, locals := 0 } : Room).cells ({ frames := 0, cells := 0, slots := 0, locals := 0 } : Room).slots (s₁.setTop (entryFrame m #[(.ref a)] 1))
  refine own_st (B := s₁.setTop (mkF m 0 #[.val (.ref a)] [])) (fun t k => castTop (own_ef_rm6 m a) k) ?_
  refine own_st (B := s₁.setTop (mkF m 1 #[.val (.ref a)] [(.ref a)])) (fun t k => XS.aloadN X0.here hx rfl (hb hby own_b6_d0) rfl rfl k) ?_
  obtain ⟨T1, X1, e1, st1⟩ := getF X0 hx hZ hown (host := "") (Or.inl (hw _ (List.mem_of_getElem? (i := 16) rfl))) Via.refl e0 F (g := (mkF m 1 #[.val (.ref a)] [(.ref a)])) rfl rfl (hb hby own_b6_d1)
  refine own_st (B := T1.setTop (mkF m 4 #[.val (.ref a)] [(.int u)])) st1 ?_
  refine own_retI X1 hx Bd.returns hlk (hb hby own_b6_d4) (by decide) (by decide) ?_
  show Q6 Z a u h0 n0 _ T1.heap _
  rw [e1]
  exact ⟨rfl, N0, rfl⟩
theorem own_b7_d0 : decode prog_57_method_8_code 0 = .ok (.aload_n 0, 1) := by decide +kernel
theorem own_b7_d1 : decode prog_57_method_8_code 1 = .ok (.getfield 16, 3) := by decide +kernel
theorem own_b7_d4 : decode prog_57_method_8_code 4 = .ok (.ireturn, 1) := by decide +kernel
theorem own_ef_rm7 (m : MethodId) (x0 : Addr) : entryFrame m #[(.ref x0)] 1 = mkF m 0 #[.val (.ref x0)] [] := by first | (simp [entryFrame, mkF, argsToLocals, Value.category]; done) | rfl
def Q7 (Z : State) (a : Addr) (u : Int32) (h0 : Heap) (n0 : Nat) (v : Option Value) (h : Heap) (L : List Loc) : Prop := v = some (.int u) ∧ Fr n0 L ∧ h = h0
set_option maxRecDepth 65536 in
set_option maxHeartbeats 40000000 in
theorem rm7 (l : Launch) (Z : State) (a0 : Array Value) (hw : ∀ d ∈ tables_1, d.before a0 Z = true) (ws : List Jvm.Cond) (a : Addr) (u : Int32) (h0 : Heap) (n0 : Nat) (Z0 : n0 ≤ h0.size) (F : Fld Z h0 a "com/example/serialine/serialine/stress/Tally" "longReads" "I" (.int u)) :
    MetFree l (⟨"com/example/serialine/serialine/stress/Tally", "longReads", "()I"⟩ : MethodName) (head1 (Jvm.Cond.code (⟨"com/example/serialine/serialine/stress/Tally", "longReads", "()I"⟩ : MethodName) prog_57_method_8_code 1 (some .int) :: ws) ({ frames := 0, cells := 0, slots := 0, locals := 0 } : Room)) (fun aa_ U_ => aa_ = #[(.ref a)] ∧ Z.Warmed39 U_.vm ∧ U_.heap = h0) (fun _ _ _ _ _ => True) (fun _ U_ o_ U1_ => ∃ v_ L_, o_ = .returned v_ ∧ Q7 Z a u h0 n0 v_ U1_.heap L_ ∧ FrameEnd U_ o_ U1_ L_ ({ frames := 0, cells := 0, slots := 0, locals := 0 } : Room).cells ({ frames := 0, cells := 0, slots := 0, locals := 0 } : Room).slots) := by
  refine MetFree.of_bodySF (plainFor_of_name own_pn1) hisR ?_
  intro p e s m args below meth c s₁ Bd hml0 hP hK
  obtain ⟨rfl, hZ, hh⟩ := hP
  have hx := Bd.exec
  have hby := Bd.bytes
  have hlk := Bd.notSynchronized
  have hml : c.maxLocals = 1 := hml0
  have hown : s.vm.findClass "com/example/serialine/serialine/stress/Tally" = some m.cls := findClass_of_methodNamed Bd.named
  have hnm := (name_of_methodNamed Bd.named Bd.method).1
  have X0 : Stand p l e ({ frames := 0, cells := 0, slots := 0, locals := 0 } : Room) s m #[(.ref a)] below meth c s₁ [] 0 0 := Stand.of_body Bd
  have e0 : s₁.heap = h0 := by rw [← hh, Bd.state]; rfl
  have N0 := Fr.nil n0
  show own_E p e below s (Q7 Z a u h0 n0) ({ frames := 0, cells := 0, slots := 0, locals := 0 } : Room).cells ({ frames := 0, cells := 0, slots := 0, locals := 0 } : Room).slots (s₁.setTop (entryFrame m #[(.ref a)] 1))
  refine own_st (B := s₁.setTop (mkF m 0 #[.val (.ref a)] [])) (fun t k => castTop (own_ef_rm7 m a) k) ?_
  refine own_st (B := s₁.setTop (mkF m 1 #[.val (.ref a)] [(.ref a)])) (fun t k => XS.aloadN X0.here hx rfl (hb hby own_b7_d0) rfl rfl k) ?_
  obtain ⟨T1, X1, e1, st1⟩ := getF X0 hx hZ hown (host := "") (Or.inl (hw _ (List.mem_of_getElem? (i := 18) rfl))) Via.refl e0 F (g := (mkF m 1 #[.val (.ref a)] [(.ref a)])) rfl rfl (hb hby own_b7_d1)
  refine own_st (B := T1.setTop (mkF m 4 #[.val (.ref a)] [(.int u)])) st1 ?_
  refine own_retI X1 hx Bd.returns hlk (hb hby own_b7_d4) (by decide) (by decide) ?_
  show Q7 Z a u h0 n0 _ T1.heap _
  rw [e1]
  exact ⟨rfl, N0, rfl⟩
theorem own_sub (x y : Int32) : x + y - y = x := by rw [← Int32.toBitVec_inj]; simp
theorem own_pd2 : parseMethodDescriptor "(Lcom/example/serialine/serialine/stress/Tally;)Lcom/example/serialine/serialine/stress/Tally;" = some ⟨[(.object "com/example/serialine/serialine/stress/Tally")], some (.object "com/example/serialine/serialine/stress/Tally")⟩ := by decide +kernel
theorem own_pd3 : parseMethodDescriptor "()I" = some ⟨[], some .int⟩ := by decide +kernel
theorem own_pn2 : plainName "com/example/serialine/serialine/stress/TallyPlusPinLaw" = true := by first | (simp [plainName, overriddenIn]; done) | decide +kernel
theorem own_ef_rm0 (m : MethodId) (x0 : Int32) (x1 : Int32) (x2 : Int32) (x3 : Int32) (x4 : Int32) (x5 : Int32) : entryFrame m #[(.int x0), (.int x1), (.int x2), (.int x3), (.int x4), (.int x5)] maxLocals = mkF m 0 #[.val (.int x0), .val (.int x1), .val (.int x2), .val (.int x3), .val (.int x4), .val (.int x5), .unset, .unset, .unset, .unset, .unset, .unset, .unset, .unset, .unset] [] := by first | (simp [entryFrame, mkF, argsToLocals, Value.category, maxLocals]; done) | rfl
def Q0 (Z : State) (u0 : Int32) (u1 : Int32) (u2 : Int32) (u3 : Int32) (u4 : Int32) (u5 : Int32) (h0 : Heap) (n0 : Nat) (v : Option Value) (h : Heap) (L : List Loc) : Prop := v = some (.int 1) ∧ Fr n0 L
set_option maxRecDepth 65536 in
set_option maxHeartbeats 40000000 in
theorem rm0 (l : Launch) (Z : State) (a0 : Array Value) (hw : ∀ d ∈ tables_1, d.before a0 Z = true) (ws : List Jvm.Cond) (u0 : Int32) (u1 : Int32) (u2 : Int32) (u3 : Int32) (u4 : Int32) (u5 : Int32) (h0 : Heap) (n0 : Nat) (Z0 : n0 ≤ h0.size) :
    MetFree l x (head1 (Jvm.Cond.code x code maxLocals ret :: ws) room_1) (fun aa_ U_ => aa_ = #[(.int u0), (.int u1), (.int u2), (.int u3), (.int u4), (.int u5)] ∧ Z.Warmed39 U_.vm ∧ U_.heap = h0) (fun _ _ _ _ _ => True) (fun _ U_ o_ U1_ => ∃ v_ L_, o_ = .returned v_ ∧ Q0 Z u0 u1 u2 u3 u4 u5 h0 n0 v_ U1_.heap L_ ∧ FrameEnd U_ o_ U1_ L_ 4 12) := by
  refine MetFree.of_bodySF (plainFor_of_name own_pn2) hisR ?_
  intro p e s m args below meth c s₁ Bd hml0 hP hK
  obtain ⟨rfl, hZ, hh⟩ := hP
  have hx := Bd.exec
  have hby := Bd.bytes
  have hlk := Bd.notSynchronized
  have hml : c.maxLocals = 15 := hml0
  have hown : s.vm.findClass "com/example/serialine/serialine/stress/TallyPlusPinLaw" = some m.cls := findClass_of_methodNamed Bd.named
  have hnm := (name_of_methodNamed Bd.named Bd.method).1
  have X0 : Stand p l e room_1 s m #[(.int u0), (.int u1), (.int u2), (.int u3), (.int u4), (.int u5)] below meth c s₁ [] 0 0 := Stand.of_body Bd
  have e0 : s₁.heap = h0 := by rw [← hh, Bd.state]; rfl
  have N0 := Fr.nil n0
  show own_E p e below s (Q0 Z u0 u1 u2 u3 u4 u5 h0 n0) 4 12 (s₁.setTop (entryFrame m #[(.int u0), (.int u1), (.int u2), (.int u3), (.int u4), (.int u5)] maxLocals))
  refine own_st (B := s₁.setTop (mkF m 0 #[.val (.int u0), .val (.int u1), .val (.int u2), .val (.int u3), .val (.int u4), .val (.int u5), .unset, .unset, .unset, .unset, .unset, .unset, .unset, .unset, .unset] [])) (fun t k => castTop (own_ef_rm0 m u0 u1 u2 u3 u4 u5) k) ?_
  obtain ⟨T1, h1, X1, e1, E1, A1, D1, -, st1⟩ := newO X0 hx hZ hown (hw _ (List.mem_of_getElem? (i := 0) rfl)) (hw _ (List.mem_of_getElem? (i := 1) rfl)) (hw _ (List.mem_of_getElem? (i := 2) rfl)) e0 (g := (mkF m 0 #[.val (.int u0), .val (.int u1), .val (.int u2), .val (.int u3), .val (.int u4), .val (.int u5), .unset, .unset, .unset, .unset, .unset, .unset, .unset, .unset, .unset] [])) rfl (hb hby at_0) (by decide) (by decide)
  obtain ⟨b1, g1⟩ : ∃ z, z = h0.size := ⟨_, rfl⟩
  rw [← g1] at A1 D1 st1
  have g2 : n0 ≤ b1 := Nat.le_trans Z0 (Nat.le_of_eq g1.symm)
  have Z3 := Nat.le_trans Z0 E1.1
  have F1_committed : Fld Z h1 b1 "com/example/serialine/serialine/stress/Tally" "committed" "I" (.int (0 : Int32)) := D1 (Or.inr (hw _ (List.mem_of_getElem? (i := 15) rfl))) (ty := .int) (by decide)
  have F1_aborted : Fld Z h1 b1 "com/example/serialine/serialine/stress/Tally" "aborted" "I" (.int (0 : Int32)) := D1 (Or.inr (hw _ (List.mem_of_getElem? (i := 17) rfl))) (ty := .int) (by decide)
  have F1_longReads : Fld Z h1 b1 "com/example/serialine/serialine/stress/Tally" "longReads" "I" (.int (0 : Int32)) := D1 (Or.inr (hw _ (List.mem_of_getElem? (i := 19) rfl))) (ty := .int) (by decide)
  refine own_st (B := T1.setTop (mkF m 3 #[.val (.int u0), .val (.int u1), .val (.int u2), .val (.int u3), .val (.int u4), .val (.int u5), .unset, .unset, .unset, .unset, .unset, .unset, .unset, .unset, .unset] [(.ref b1)])) st1 ?_
  refine own_st (B := T1.setTop (mkF m 4 #[.val (.int u0), .val (.int u1), .val (.int u2), .val (.int u3), .val (.int u4), .val (.int u5), .unset, .unset, .unset, .unset, .unset, .unset, .unset, .unset, .unset] [(.ref b1), (.ref b1)])) (fun t k => XS.dup X1.here hx rfl (hb hby at_3) rfl rfl k) ?_
  refine own_st (B := T1.setTop (mkF m 5 #[.val (.int u0), .val (.int u1), .val (.int u2), .val (.int u3), .val (.int u4), .val (.int u5), .unset, .unset, .unset, .unset, .unset, .unset, .unset, .unset, .unset] [(.int u0), (.ref b1), (.ref b1)])) (fun t k => XS.iloadN X1.here hx rfl (hb hby at_4) rfl k) ?_
  refine own_st (B := T1.setTop (mkF m 6 #[.val (.int u0), .val (.int u1), .val (.int u2), .val (.int u3), .val (.int u4), .val (.int u5), .unset, .unset, .unset, .unset, .unset, .unset, .unset, .unset, .unset] [(.int u1), (.int u0), (.ref b1), (.ref b1)])) (fun t k => XS.iloadN X1.here hx rfl (hb hby at_5) rfl k) ?_
  refine own_st (B := T1.setTop (mkF m 7 #[.val (.int u0), .val (.int u1), .val (.int u2), .val (.int u3), .val (.int u4), .val (.int u5), .unset, .unset, .unset, .unset, .unset, .unset, .unset, .unset, .unset] [(.int u2), (.int u1), (.int u0), (.ref b1), (.ref b1)])) (fun t k => XS.iloadN X1.here hx rfl (hb hby at_6) rfl k) ?_
  obtain ⟨_, _, ⟨T4, L4, k4, n4⟩, -, X4, ⟨Lc4, hQ4, l4, y4, z4⟩, st4⟩ := X1.specialBack hx (y := (⟨"com/example/serialine/serialine/stress/Tally", "<init>", "(III)V"⟩ : MethodName)) rfl hown (mvT hZ (hw _ (List.mem_of_getElem? (i := 3) rfl))) (mvT hZ (hw _ (List.mem_of_getElem? (i := 4) rfl))) (mvT hZ (hw _ (List.mem_of_getElem? (i := 5) rfl))) (by decide) (backOf (W := 1) (rm1 l Z a0 hw [] b1 u0 u1 u2 h1 n0 Z3 A1 F1_committed F1_aborted F1_longReads g2) hZ (hw _ (List.mem_of_getElem? (i := 5) rfl)) (hw _ (List.mem_of_getElem? (i := 2) rfl)) (by decide) (by decide)) (g := (mkF m 7 #[.val (.int u0), .val (.int u1), .val (.int u2), .val (.int u3), .val (.int u4), .val (.int u5), .unset, .unset, .unset, .unset, .unset, .unset, .unset, .unset, .unset] [(.int u2), (.int u1), (.int u0), (.ref b1), (.ref b1)])) rfl (by rw [hml]; rfl) (Steps.refl _) (a := b1) (argsL := [(.int u0), (.int u1), (.int u2)]) (rest := [(.ref b1)]) (lenOf own_pd1 rfl) rfl (by show 2 * 0 + _ ≤ _; exact Nat.le_of_eq rfl) (hb hby at_7) (fun _ _ => ⟨rfl, e1, (by decide : 1 + 0 ≤ _), (by decide : 3 + 0 ≤ _)⟩)
  dsimp only [Pt.U, Pt.locs, Pt.cells, Pt.slots] at X4 l4 y4 z4 st4 hQ4
  subst l4 y4 z4
  obtain ⟨rfl, N4q, K4, Fc4_0, Fc4_1, Fc4_2⟩ := hQ4
  have N4 := Fr.app N0 N4q
  have Z5 := Nat.le_trans Z3 K4.1
  refine own_st (B := T4.setTop (mkF m 10 #[.val (.int u0), .val (.int u1), .val (.int u2), .val (.int u3), .val (.int u4), .val (.int u5), .unset, .unset, .unset, .unset, .unset, .unset, .unset, .unset, .unset] [(.ref b1)])) (fun t k => st4.trans k) ?_
  refine own_st (B := T4.setTop (mkF m 12 #[.val (.int u0), .val (.int u1), .val (.int u2), .val (.int u3), .val (.int u4), .val (.int u5), .val (.ref b1), .unset, .unset, .unset, .unset, .unset, .unset, .unset, .unset] [])) (fun t k => XS.astore X4.here hx rfl (hb hby at_10) rfl rfl (l' := #[.val (.int u0), .val (.int u1), .val (.int u2), .val (.int u3), .val (.int u4), .val (.int u5), .val (.ref b1), .unset, .unset, .unset, .unset, .unset, .unset, .unset, .unset]) rfl k) ?_
  obtain ⟨T6, h6, X6, e6, E6, A6, D6, -, st6⟩ := newO X4 hx hZ hown (hw _ (List.mem_of_getElem? (i := 0) rfl)) (hw _ (List.mem_of_getElem? (i := 1) rfl)) (hw _ (List.mem_of_getElem? (i := 2) rfl)) rfl (g := (mkF m 12 #[.val (.int u0), .val (.int u1), .val (.int u2), .val (.int u3), .val (.int u4), .val (.int u5), .val (.ref b1), .unset, .unset, .unset, .unset, .unset, .unset, .unset, .unset] [])) rfl (hb hby at_12) (by decide) (by decide)
  obtain ⟨b6, g6⟩ : ∃ z, z = T4.heap.size := ⟨_, rfl⟩
  rw [← g6] at A6 D6 st6
  have u7 := A1.keep K4
  have ne8 : b1 ≠ b6 := Nat.ne_of_lt (Nat.lt_of_lt_of_le u7.lt (Nat.le_of_eq g6.symm))
  have g9 : n0 ≤ b6 := Nat.le_trans Z5 (Nat.le_of_eq g6.symm)
  have Z10 := Nat.le_trans Z5 E6.1
  have F6_committed : Fld Z h6 b6 "com/example/serialine/serialine/stress/Tally" "committed" "I" (.int (0 : Int32)) := D6 (Or.inr (hw _ (List.mem_of_getElem? (i := 15) rfl))) (ty := .int) (by decide)
  have F6_aborted : Fld Z h6 b6 "com/example/serialine/serialine/stress/Tally" "aborted" "I" (.int (0 : Int32)) := D6 (Or.inr (hw _ (List.mem_of_getElem? (i := 17) rfl))) (ty := .int) (by decide)
  have F6_longReads : Fld Z h6 b6 "com/example/serialine/serialine/stress/Tally" "longReads" "I" (.int (0 : Int32)) := D6 (Or.inr (hw _ (List.mem_of_getElem? (i := 19) rfl))) (ty := .int) (by decide)
  refine own_st (B := T6.setTop (mkF m 15 #[.val (.int u0), .val (.int u1), .val (.int u2), .val (.int u3), .val (.int u4), .val (.int u5), .val (.ref b1), .unset, .unset, .unset, .unset, .unset, .unset, .unset, .unset] [(.ref b6)])) st6 ?_
  refine own_st (B := T6.setTop (mkF m 16 #[.val (.int u0), .val (.int u1), .val (.int u2), .val (.int u3), .val (.int u4), .val (.int u5), .val (.ref b1), .unset, .unset, .unset, .unset, .unset, .unset, .unset, .unset] [(.ref b6), (.ref b6)])) (fun t k => XS.dup X6.here hx rfl (hb hby at_15) rfl rfl k) ?_
  refine own_st (B := T6.setTop (mkF m 17 #[.val (.int u0), .val (.int u1), .val (.int u2), .val (.int u3), .val (.int u4), .val (.int u5), .val (.ref b1), .unset, .unset, .unset, .unset, .unset, .unset, .unset, .unset] [(.int u3), (.ref b6), (.ref b6)])) (fun t k => XS.iloadN X6.here hx rfl (hb hby at_16) rfl k) ?_
  refine own_st (B := T6.setTop (mkF m 19 #[.val (.int u0), .val (.int u1), .val (.int u2), .val (.int u3), .val (.int u4), .val (.int u5), .val (.ref b1), .unset, .unset, .unset, .unset, .unset, .unset, .unset, .unset] [(.int u4), (.int u3), (.ref b6), (.ref b6)])) (fun t k => XS.iload X6.here hx rfl (hb hby at_17) rfl k) ?_
  refine own_st (B := T6.setTop (mkF m 21 #[.val (.int u0), .val (.int u1), .val (.int u2), .val (.int u3), .val (.int u4), .val (.int u5), .val (.ref b1), .unset, .unset, .unset, .unset, .unset, .unset, .unset, .unset] [(.int u5), (.int u4), (.int u3), (.ref b6), (.ref b6)])) (fun t k => XS.iload X6.here hx rfl (hb hby at_19) rfl k) ?_
  obtain ⟨_, _, ⟨T11, L11, k11, n11⟩, -, X11, ⟨Lc11, hQ11, l11, y11, z11⟩, st11⟩ := X6.specialBack hx (y := (⟨"com/example/serialine/serialine/stress/Tally", "<init>", "(III)V"⟩ : MethodName)) rfl hown (mvT hZ (hw _ (List.mem_of_getElem? (i := 3) rfl))) (mvT hZ (hw _ (List.mem_of_getElem? (i := 4) rfl))) (mvT hZ (hw _ (List.mem_of_getElem? (i := 5) rfl))) (by decide) (backOf (W := 1) (rm1 l Z a0 hw [] b6 u3 u4 u5 h6 n0 Z10 A6 F6_committed F6_aborted F6_longReads g9) hZ (hw _ (List.mem_of_getElem? (i := 5) rfl)) (hw _ (List.mem_of_getElem? (i := 2) rfl)) (by decide) (by decide)) (g := (mkF m 21 #[.val (.int u0), .val (.int u1), .val (.int u2), .val (.int u3), .val (.int u4), .val (.int u5), .val (.ref b1), .unset, .unset, .unset, .unset, .unset, .unset, .unset, .unset] [(.int u5), (.int u4), (.int u3), (.ref b6), (.ref b6)])) rfl (by rw [hml]; rfl) (Steps.refl _) (a := b6) (argsL := [(.int u3), (.int u4), (.int u5)]) (rest := [(.ref b6)]) (lenOf own_pd1 rfl) rfl (by show 2 * 0 + _ ≤ _; exact Nat.le_of_eq rfl) (hb hby at_21) (fun _ _ => ⟨rfl, e6, (by decide : 2 + 0 ≤ _), (by decide : 6 + 0 ≤ _)⟩)
  dsimp only [Pt.U, Pt.locs, Pt.cells, Pt.slots] at X11 l11 y11 z11 st11 hQ11
  subst l11 y11 z11
  obtain ⟨rfl, N11q, K11, Fc11_0, Fc11_1, Fc11_2⟩ := hQ11
  have N11 := Fr.app N4 N11q
  have Z12 := Nat.le_trans Z10 K11.1
  refine own_st (B := T11.setTop (mkF m 24 #[.val (.int u0), .val (.int u1), .val (.int u2), .val (.int u3), .val (.int u4), .val (.int u5), .val (.ref b1), .unset, .unset, .unset, .unset, .unset, .unset, .unset, .unset] [(.ref b6)])) (fun t k => st11.trans k) ?_
  refine own_st (B := T11.setTop (mkF m 26 #[.val (.int u0), .val (.int u1), .val (.int u2), .val (.int u3), .val (.int u4), .val (.int u5), .val (.ref b1), .val (.ref b6), .unset, .unset, .unset, .unset, .unset, .unset, .unset] [])) (fun t k => XS.astore X11.here hx rfl (hb hby at_24) rfl rfl (l' := #[.val (.int u0), .val (.int u1), .val (.int u2), .val (.int u3), .val (.int u4), .val (.int u5), .val (.ref b1), .val (.ref b6), .unset, .unset, .unset, .unset, .unset, .unset, .unset]) rfl k) ?_
  refine own_st (B := T11.setTop (mkF m 28 #[.val (.int u0), .val (.int u1), .val (.int u2), .val (.int u3), .val (.int u4), .val (.int u5), .val (.ref b1), .val (.ref b6), .unset, .unset, .unset, .unset, .unset, .unset, .unset] [(.ref b1)])) (fun t k => XS.aload X11.here hx rfl (hb hby at_26) rfl rfl k) ?_
  refine own_st (B := T11.setTop (mkF m 30 #[.val (.int u0), .val (.int u1), .val (.int u2), .val (.int u3), .val (.int u4), .val (.int u5), .val (.ref b1), .val (.ref b6), .unset, .unset, .unset, .unset, .unset, .unset, .unset] [(.ref b6), (.ref b1)])) (fun t k => XS.aload X11.here hx rfl (hb hby at_28) rfl rfl k) ?_
  have u14 := Fc4_0.ext E6
  have u15 := u14.keep K11 (ninS ne8 nin0)
  have u16 := Fc4_1.ext E6
  have u17 := u16.keep K11 (ninS ne8 nin0)
  have u18 := Fc4_2.ext E6
  have u19 := u18.keep K11 (ninS ne8 nin0)
  have u20 := u7.ext E6
  have u21 := u20.keep K11
  obtain ⟨cq13, kq13, q13a, q13b, q13c⟩ := isOf hZ rfl u21
  obtain ⟨_, _, ⟨T13, L13, k13, n13⟩, -, X13, ⟨Lc13, hQ13, l13, y13, z13⟩, st13⟩ := X11.virtualBack hx (y := (⟨"com/example/serialine/serialine/stress/Tally", "plus", "(Lcom/example/serialine/serialine/stress/Tally;)Lcom/example/serialine/serialine/stress/Tally;"⟩ : MethodName)) (z := (⟨"com/example/serialine/serialine/stress/Tally", "plus", "(Lcom/example/serialine/serialine/stress/Tally;)Lcom/example/serialine/serialine/stress/Tally;"⟩ : MethodName)) hown (mvT hZ (hw _ (List.mem_of_getElem? (i := 20) rfl))) (mvT hZ (hw _ (List.mem_of_getElem? (i := 21) rfl))) (notFace_of_selects (args := #[]) (mvT hZ (hw _ (List.mem_of_getElem? (i := 23) rfl)))) (mvT hZ (hw _ (List.mem_of_getElem? (i := 23) rfl))) (mvT hZ (hw _ (List.mem_of_getElem? (i := 22) rfl))) (by decide) (backOf (W := 0) (rm4 l Z a0 hw [] b1 b6 u0 u1 u2 u3 u4 u5 T11.heap n0 Z12 u15 u17 u19 Fc11_0 Fc11_1 Fc11_2) hZ (hw _ (List.mem_of_getElem? (i := 24) rfl)) (hw _ (List.mem_of_getElem? (i := 2) rfl)) (by decide) (by decide)) q13a q13c (g := (mkF m 30 #[.val (.int u0), .val (.int u1), .val (.int u2), .val (.int u3), .val (.int u4), .val (.int u5), .val (.ref b1), .val (.ref b6), .unset, .unset, .unset, .unset, .unset, .unset, .unset] [(.ref b6), (.ref b1)])) rfl (by rw [hml]; rfl) (Steps.refl _) (argsL := [(.ref b6)]) (rest := []) (lenOf own_pd2 rfl) rfl (by show 2 * 0 + _ ≤ _; exact Nat.le_of_eq rfl) (hb hby at_30) (fun _ _ => ⟨rfl, rfl, (by decide : 2 + 1 ≤ _), (by decide : 6 + 3 ≤ _)⟩)
  dsimp only [Pt.U, Pt.locs, Pt.cells, Pt.slots] at X13 l13 y13 z13 st13 hQ13
  subst l13 y13 z13
  obtain ⟨d13, rfl, N13q, K13, gb13, Eb13, Fb13_0, Fb13_1, Fb13_2⟩ := hQ13
  have N13 := Fr.app N11 N13q
  have ne22 : b1 ≠ d13 := Nat.ne_of_lt (Nat.lt_of_lt_of_le u21.lt gb13)
  have u23 := A6.keep K11
  have ne24 : b6 ≠ d13 := Nat.ne_of_lt (Nat.lt_of_lt_of_le u23.lt gb13)
  have g25 : n0 ≤ d13 := Nat.le_trans Z12 gb13
  have Z26 := Nat.le_trans Z12 K13.1
  refine own_st (B := T13.setTop (mkF m 33 #[.val (.int u0), .val (.int u1), .val (.int u2), .val (.int u3), .val (.int u4), .val (.int u5), .val (.ref b1), .val (.ref b6), .unset, .unset, .unset, .unset, .unset, .unset, .unset] [(.ref d13)])) (fun t k => st13.trans k) ?_
  refine own_st (B := T13.setTop (mkF m 35 #[.val (.int u0), .val (.int u1), .val (.int u2), .val (.int u3), .val (.int u4), .val (.int u5), .val (.ref b1), .val (.ref b6), .val (.ref d13), .unset, .unset, .unset, .unset, .unset, .unset] [])) (fun t k => XS.astore X13.here hx rfl (hb hby at_33) rfl rfl (l' := #[.val (.int u0), .val (.int u1), .val (.int u2), .val (.int u3), .val (.int u4), .val (.int u5), .val (.ref b1), .val (.ref b6), .val (.ref d13), .unset, .unset, .unset, .unset, .unset, .unset]) rfl k) ?_
  refine own_st (B := T13.setTop (mkF m 37 #[.val (.int u0), .val (.int u1), .val (.int u2), .val (.int u3), .val (.int u4), .val (.int u5), .val (.ref b1), .val (.ref b6), .val (.ref d13), .unset, .unset, .unset, .unset, .unset, .unset] [(.ref b6)])) (fun t k => XS.aload X13.here hx rfl (hb hby at_35) rfl rfl k) ?_
  refine own_st (B := T13.setTop (mkF m 39 #[.val (.int u0), .val (.int u1), .val (.int u2), .val (.int u3), .val (.int u4), .val (.int u5), .val (.ref b1), .val (.ref b6), .val (.ref d13), .unset, .unset, .unset, .unset, .unset, .unset] [(.ref b1), (.ref b6)])) (fun t k => XS.aload X13.here hx rfl (hb hby at_37) rfl rfl k) ?_
  have u28 := Fc11_0.keep K13 nin0
  have u29 := Fc11_1.keep K13 nin0
  have u30 := Fc11_2.keep K13 nin0
  have u31 := u15.keep K13 nin0
  have u32 := u17.keep K13 nin0
  have u33 := u19.keep K13 nin0
  have u34 := u23.keep K13
  obtain ⟨cq27, kq27, q27a, q27b, q27c⟩ := isOf hZ rfl u34
  obtain ⟨_, _, ⟨T27, L27, k27, n27⟩, -, X27, ⟨Lc27, hQ27, l27, y27, z27⟩, st27⟩ := X13.virtualBack hx (y := (⟨"com/example/serialine/serialine/stress/Tally", "plus", "(Lcom/example/serialine/serialine/stress/Tally;)Lcom/example/serialine/serialine/stress/Tally;"⟩ : MethodName)) (z := (⟨"com/example/serialine/serialine/stress/Tally", "plus", "(Lcom/example/serialine/serialine/stress/Tally;)Lcom/example/serialine/serialine/stress/Tally;"⟩ : MethodName)) hown (mvT hZ (hw _ (List.mem_of_getElem? (i := 20) rfl))) (mvT hZ (hw _ (List.mem_of_getElem? (i := 21) rfl))) (notFace_of_selects (args := #[]) (mvT hZ (hw _ (List.mem_of_getElem? (i := 23) rfl)))) (mvT hZ (hw _ (List.mem_of_getElem? (i := 23) rfl))) (mvT hZ (hw _ (List.mem_of_getElem? (i := 22) rfl))) (by decide) (backOf (W := 0) (rm4 l Z a0 hw [] b6 b1 u3 u4 u5 u0 u1 u2 T13.heap n0 Z26 u28 u29 u30 u31 u32 u33) hZ (hw _ (List.mem_of_getElem? (i := 24) rfl)) (hw _ (List.mem_of_getElem? (i := 2) rfl)) (by decide) (by decide)) q27a q27c (g := (mkF m 39 #[.val (.int u0), .val (.int u1), .val (.int u2), .val (.int u3), .val (.int u4), .val (.int u5), .val (.ref b1), .val (.ref b6), .val (.ref d13), .unset, .unset, .unset, .unset, .unset, .unset] [(.ref b1), (.ref b6)])) rfl (by rw [hml]; rfl) (Steps.refl _) (argsL := [(.ref b1)]) (rest := []) (lenOf own_pd2 rfl) rfl (by show 2 * 0 + _ ≤ _; exact Nat.le_of_eq rfl) (hb hby at_39) (fun _ _ => ⟨rfl, rfl, (by decide : 3 + 1 ≤ _), (by decide : 9 + 3 ≤ _)⟩)
  dsimp only [Pt.U, Pt.locs, Pt.cells, Pt.slots] at X27 l27 y27 z27 st27 hQ27
  subst l27 y27 z27
  obtain ⟨d27, rfl, N27q, K27, gb27, Eb27, Fb27_0, Fb27_1, Fb27_2⟩ := hQ27
  have N27 := Fr.app N13 N27q
  have u35 := u21.keep K13
  have ne36 : b1 ≠ d27 := Nat.ne_of_lt (Nat.lt_of_lt_of_le u35.lt gb27)
  have ne37 : b6 ≠ d27 := Nat.ne_of_lt (Nat.lt_of_lt_of_le u34.lt gb27)
  have ne38 : d13 ≠ d27 := Nat.ne_of_lt (Nat.lt_of_lt_of_le Eb13.lt gb27)
  have g39 : n0 ≤ d27 := Nat.le_trans Z26 gb27
  have Z40 := Nat.le_trans Z26 K27.1
  refine own_st (B := T27.setTop (mkF m 42 #[.val (.int u0), .val (.int u1), .val (.int u2), .val (.int u3), .val (.int u4), .val (.int u5), .val (.ref b1), .val (.ref b6), .val (.ref d13), .unset, .unset, .unset, .unset, .unset, .unset] [(.ref d27)])) (fun t k => st27.trans k) ?_
  refine own_st (B := T27.setTop (mkF m 44 #[.val (.int u0), .val (.int u1), .val (.int u2), .val (.int u3), .val (.int u4), .val (.int u5), .val (.ref b1), .val (.ref b6), .val (.ref d13), .val (.ref d27), .unset, .unset, .unset, .unset, .unset] [])) (fun t k => XS.astore X27.here hx rfl (hb hby at_42) rfl rfl (l' := #[.val (.int u0), .val (.int u1), .val (.int u2), .val (.int u3), .val (.int u4), .val (.int u5), .val (.ref b1), .val (.ref b6), .val (.ref d13), .val (.ref d27), .unset, .unset, .unset, .unset, .unset]) rfl k) ?_
  refine own_st (B := T27.setTop (mkF m 46 #[.val (.int u0), .val (.int u1), .val (.int u2), .val (.int u3), .val (.int u4), .val (.int u5), .val (.ref b1), .val (.ref b6), .val (.ref d13), .val (.ref d27), .unset, .unset, .unset, .unset, .unset] [(.ref d13)])) (fun t k => XS.aload X27.here hx rfl (hb hby at_44) rfl rfl k) ?_
  have u42 := Fb13_0.keep K27 nin0
  have u43 := Eb13.keep K27
  obtain ⟨cq41, kq41, q41a, q41b, q41c⟩ := isOf hZ rfl u43
  obtain ⟨_, _, ⟨T41, L41, k41, n41⟩, -, X41, ⟨Lc41, hQ41, l41, y41, z41⟩, st41⟩ := X27.virtualBack hx (y := (⟨"com/example/serialine/serialine/stress/Tally", "committed", "()I"⟩ : MethodName)) (z := (⟨"com/example/serialine/serialine/stress/Tally", "committed", "()I"⟩ : MethodName)) hown (mvT hZ (hw _ (List.mem_of_getElem? (i := 27) rfl))) (mvT hZ (hw _ (List.mem_of_getElem? (i := 28) rfl))) (notFace_of_selects (args := #[]) (mvT hZ (hw _ (List.mem_of_getElem? (i := 30) rfl)))) (mvT hZ (hw _ (List.mem_of_getElem? (i := 30) rfl))) (mvT hZ (hw _ (List.mem_of_getElem? (i := 29) rfl))) (by decide) (backOf (W := 0) (rm5 l Z a0 hw [] d13 (u0 + u3) T27.heap n0 Z40 u42) hZ (hw _ (List.mem_of_getElem? (i := 31) rfl)) (hw _ (List.mem_of_getElem? (i := 2) rfl)) (by decide) (by decide)) q41a q41c (g := (mkF m 46 #[.val (.int u0), .val (.int u1), .val (.int u2), .val (.int u3), .val (.int u4), .val (.int u5), .val (.ref b1), .val (.ref b6), .val (.ref d13), .val (.ref d27), .unset, .unset, .unset, .unset, .unset] [(.ref d13)])) rfl (by rw [hml]; rfl) (Steps.refl _) (argsL := []) (rest := []) (lenOf own_pd3 rfl) rfl (by show 2 * 0 + _ ≤ _; exact Nat.le_of_eq rfl) (hb hby at_46) (fun _ _ => ⟨rfl, rfl, (by decide : 4 + 0 ≤ _), (by decide : 12 + 0 ≤ _)⟩)
  dsimp only [Pt.U, Pt.locs, Pt.cells, Pt.slots] at X41 l41 y41 z41 st41 hQ41
  subst l41 y41 z41
  obtain ⟨rfl, N41q, eh41⟩ := hQ41
  have N41 := Fr.app N27 N41q
  refine own_st (B := T41.setTop (mkF m 49 #[.val (.int u0), .val (.int u1), .val (.int u2), .val (.int u3), .val (.int u4), .val (.int u5), .val (.ref b1), .val (.ref b6), .val (.ref d13), .val (.ref d27), .unset, .unset, .unset, .unset, .unset] [(.int (u0 + u3))])) (fun t k => st41.trans k) ?_
  refine own_st (B := T41.setTop (mkF m 51 #[.val (.int u0), .val (.int u1), .val (.int u2), .val (.int u3), .val (.int u4), .val (.int u5), .val (.ref b1), .val (.ref b6), .val (.ref d13), .val (.ref d27), .val (.int (u0 + u3)), .unset, .unset, .unset, .unset] [])) (fun t k => XS.istore X41.here hx rfl (hb hby at_49) rfl (l' := #[.val (.int u0), .val (.int u1), .val (.int u2), .val (.int u3), .val (.int u4), .val (.int u5), .val (.ref b1), .val (.ref b6), .val (.ref d13), .val (.ref d27), .val (.int (u0 + u3)), .unset, .unset, .unset, .unset]) rfl k) ?_
  refine own_st (B := T41.setTop (mkF m 53 #[.val (.int u0), .val (.int u1), .val (.int u2), .val (.int u3), .val (.int u4), .val (.int u5), .val (.ref b1), .val (.ref b6), .val (.ref d13), .val (.ref d27), .val (.int (u0 + u3)), .unset, .unset, .unset, .unset] [(.ref d13)])) (fun t k => XS.aload X41.here hx rfl (hb hby at_51) rfl rfl k) ?_
  have u45 := Fb13_1.keep K27 nin0
  obtain ⟨cq44, kq44, q44a, q44b, q44c⟩ := isOf hZ eh41 u43
  obtain ⟨_, _, ⟨T44, L44, k44, n44⟩, -, X44, ⟨Lc44, hQ44, l44, y44, z44⟩, st44⟩ := X41.virtualBack hx (y := (⟨"com/example/serialine/serialine/stress/Tally", "aborted", "()I"⟩ : MethodName)) (z := (⟨"com/example/serialine/serialine/stress/Tally", "aborted", "()I"⟩ : MethodName)) hown (mvT hZ (hw _ (List.mem_of_getElem? (i := 32) rfl))) (mvT hZ (hw _ (List.mem_of_getElem? (i := 33) rfl))) (notFace_of_selects (args := #[]) (mvT hZ (hw _ (List.mem_of_getElem? (i := 35) rfl)))) (mvT hZ (hw _ (List.mem_of_getElem? (i := 35) rfl))) (mvT hZ (hw _ (List.mem_of_getElem? (i := 34) rfl))) (by decide) (backOf (W := 0) (rm6 l Z a0 hw [] d13 (u1 + u4) T27.heap n0 Z40 u45) hZ (hw _ (List.mem_of_getElem? (i := 36) rfl)) (hw _ (List.mem_of_getElem? (i := 2) rfl)) (by decide) (by decide)) q44a q44c (g := (mkF m 53 #[.val (.int u0), .val (.int u1), .val (.int u2), .val (.int u3), .val (.int u4), .val (.int u5), .val (.ref b1), .val (.ref b6), .val (.ref d13), .val (.ref d27), .val (.int (u0 + u3)), .unset, .unset, .unset, .unset] [(.ref d13)])) rfl (by rw [hml]; rfl) (Steps.refl _) (argsL := []) (rest := []) (lenOf own_pd3 rfl) rfl (by show 2 * 0 + _ ≤ _; exact Nat.le_of_eq rfl) (hb hby at_53) (fun _ _ => ⟨rfl, eh41, (by decide : 4 + 0 ≤ _), (by decide : 12 + 0 ≤ _)⟩)
  dsimp only [Pt.U, Pt.locs, Pt.cells, Pt.slots] at X44 l44 y44 z44 st44 hQ44
  subst l44 y44 z44
  obtain ⟨rfl, N44q, eh44⟩ := hQ44
  have N44 := Fr.app N41 N44q
  refine own_st (B := T44.setTop (mkF m 56 #[.val (.int u0), .val (.int u1), .val (.int u2), .val (.int u3), .val (.int u4), .val (.int u5), .val (.ref b1), .val (.ref b6), .val (.ref d13), .val (.ref d27), .val (.int (u0 + u3)), .unset, .unset, .unset, .unset] [(.int (u1 + u4))])) (fun t k => st44.trans k) ?_
  refine own_st (B := T44.setTop (mkF m 58 #[.val (.int u0), .val (.int u1), .val (.int u2), .val (.int u3), .val (.int u4), .val (.int u5), .val (.ref b1), .val (.ref b6), .val (.ref d13), .val (.ref d27), .val (.int (u0 + u3)), .val (.int (u1 + u4)), .unset, .unset, .unset] [])) (fun t k => XS.istore X44.here hx rfl (hb hby at_56) rfl (l' := #[.val (.int u0), .val (.int u1), .val (.int u2), .val (.int u3), .val (.int u4), .val (.int u5), .val (.ref b1), .val (.ref b6), .val (.ref d13), .val (.ref d27), .val (.int (u0 + u3)), .val (.int (u1 + u4)), .unset, .unset, .unset]) rfl k) ?_
  refine own_st (B := T44.setTop (mkF m 60 #[.val (.int u0), .val (.int u1), .val (.int u2), .val (.int u3), .val (.int u4), .val (.int u5), .val (.ref b1), .val (.ref b6), .val (.ref d13), .val (.ref d27), .val (.int (u0 + u3)), .val (.int (u1 + u4)), .unset, .unset, .unset] [(.ref d13)])) (fun t k => XS.aload X44.here hx rfl (hb hby at_58) rfl rfl k) ?_
  have u47 := Fb13_2.keep K27 nin0
  obtain ⟨cq46, kq46, q46a, q46b, q46c⟩ := isOf hZ eh44 u43
  obtain ⟨_, _, ⟨T46, L46, k46, n46⟩, -, X46, ⟨Lc46, hQ46, l46, y46, z46⟩, st46⟩ := X44.virtualBack hx (y := (⟨"com/example/serialine/serialine/stress/Tally", "longReads", "()I"⟩ : MethodName)) (z := (⟨"com/example/serialine/serialine/stress/Tally", "longReads", "()I"⟩ : MethodName)) hown (mvT hZ (hw _ (List.mem_of_getElem? (i := 37) rfl))) (mvT hZ (hw _ (List.mem_of_getElem? (i := 38) rfl))) (notFace_of_selects (args := #[]) (mvT hZ (hw _ (List.mem_of_getElem? (i := 40) rfl)))) (mvT hZ (hw _ (List.mem_of_getElem? (i := 40) rfl))) (mvT hZ (hw _ (List.mem_of_getElem? (i := 39) rfl))) (by decide) (backOf (W := 0) (rm7 l Z a0 hw [] d13 (u2 + u5) T27.heap n0 Z40 u47) hZ (hw _ (List.mem_of_getElem? (i := 41) rfl)) (hw _ (List.mem_of_getElem? (i := 2) rfl)) (by decide) (by decide)) q46a q46c (g := (mkF m 60 #[.val (.int u0), .val (.int u1), .val (.int u2), .val (.int u3), .val (.int u4), .val (.int u5), .val (.ref b1), .val (.ref b6), .val (.ref d13), .val (.ref d27), .val (.int (u0 + u3)), .val (.int (u1 + u4)), .unset, .unset, .unset] [(.ref d13)])) rfl (by rw [hml]; rfl) (Steps.refl _) (argsL := []) (rest := []) (lenOf own_pd3 rfl) rfl (by show 2 * 0 + _ ≤ _; exact Nat.le_of_eq rfl) (hb hby at_60) (fun _ _ => ⟨rfl, eh44, (by decide : 4 + 0 ≤ _), (by decide : 12 + 0 ≤ _)⟩)
  dsimp only [Pt.U, Pt.locs, Pt.cells, Pt.slots] at X46 l46 y46 z46 st46 hQ46
  subst l46 y46 z46
  obtain ⟨rfl, N46q, eh46⟩ := hQ46
  have N46 := Fr.app N44 N46q
  refine own_st (B := T46.setTop (mkF m 63 #[.val (.int u0), .val (.int u1), .val (.int u2), .val (.int u3), .val (.int u4), .val (.int u5), .val (.ref b1), .val (.ref b6), .val (.ref d13), .val (.ref d27), .val (.int (u0 + u3)), .val (.int (u1 + u4)), .unset, .unset, .unset] [(.int (u2 + u5))])) (fun t k => st46.trans k) ?_
  refine own_st (B := T46.setTop (mkF m 65 #[.val (.int u0), .val (.int u1), .val (.int u2), .val (.int u3), .val (.int u4), .val (.int u5), .val (.ref b1), .val (.ref b6), .val (.ref d13), .val (.ref d27), .val (.int (u0 + u3)), .val (.int (u1 + u4)), .val (.int (u2 + u5)), .unset, .unset] [])) (fun t k => XS.istore X46.here hx rfl (hb hby at_63) rfl (l' := #[.val (.int u0), .val (.int u1), .val (.int u2), .val (.int u3), .val (.int u4), .val (.int u5), .val (.ref b1), .val (.ref b6), .val (.ref d13), .val (.ref d27), .val (.int (u0 + u3)), .val (.int (u1 + u4)), .val (.int (u2 + u5)), .unset, .unset]) rfl k) ?_
  refine own_st (B := T46.setTop (mkF m 67 #[.val (.int u0), .val (.int u1), .val (.int u2), .val (.int u3), .val (.int u4), .val (.int u5), .val (.ref b1), .val (.ref b6), .val (.ref d13), .val (.ref d27), .val (.int (u0 + u3)), .val (.int (u1 + u4)), .val (.int (u2 + u5)), .unset, .unset] [(.int (u0 + u3))])) (fun t k => XS.iload X46.here hx rfl (hb hby at_65) rfl k) ?_
  refine own_st (B := T46.setTop (mkF m 68 #[.val (.int u0), .val (.int u1), .val (.int u2), .val (.int u3), .val (.int u4), .val (.int u5), .val (.ref b1), .val (.ref b6), .val (.ref d13), .val (.ref d27), .val (.int (u0 + u3)), .val (.int (u1 + u4)), .val (.int (u2 + u5)), .unset, .unset] [(.int u3), (.int (u0 + u3))])) (fun t k => XS.iloadN X46.here hx rfl (hb hby at_67) rfl k) ?_
  refine own_st (B := T46.setTop (mkF m 69 #[.val (.int u0), .val (.int u1), .val (.int u2), .val (.int u3), .val (.int u4), .val (.int u5), .val (.ref b1), .val (.ref b6), .val (.ref d13), .val (.ref d27), .val (.int (u0 + u3)), .val (.int (u1 + u4)), .val (.int (u2 + u5)), .unset, .unset] [(.int ((u0 + u3) - u3))])) (fun t k => XS.isub X46.here hx rfl (hb hby at_68) rfl k) ?_
  refine own_st (B := T46.setTop (mkF m 70 #[.val (.int u0), .val (.int u1), .val (.int u2), .val (.int u3), .val (.int u4), .val (.int u5), .val (.ref b1), .val (.ref b6), .val (.ref d13), .val (.ref d27), .val (.int (u0 + u3)), .val (.int (u1 + u4)), .val (.int (u2 + u5)), .unset, .unset] [(.int u0), (.int ((u0 + u3) - u3))])) (fun t k => XS.iloadN X46.here hx rfl (hb hby at_69) rfl k) ?_
  have hc48 : ((u0 + u3) - u3) = u0 := own_sub u0 u3
  have hd48 := own_eq32 hc48
  refine own_st (B := T46.setTop (mkF m 73 #[.val (.int u0), .val (.int u1), .val (.int u2), .val (.int u3), .val (.int u4), .val (.int u5), .val (.ref b1), .val (.ref b6), .val (.ref d13), .val (.ref d27), .val (.int (u0 + u3)), .val (.int (u1 + u4)), .val (.int (u2 + u5)), .unset, .unset] [])) (fun t k => XS.icmpNo X46.here hx rfl (hb hby at_70) rfl (teq hc48).2 k) ?_
  refine own_st (B := T46.setTop (mkF m 75 #[.val (.int u0), .val (.int u1), .val (.int u2), .val (.int u3), .val (.int u4), .val (.int u5), .val (.ref b1), .val (.ref b6), .val (.ref d13), .val (.ref d27), .val (.int (u0 + u3)), .val (.int (u1 + u4)), .val (.int (u2 + u5)), .unset, .unset] [(.int (u1 + u4))])) (fun t k => XS.iload X46.here hx rfl (hb hby at_73) rfl k) ?_
  refine own_st (B := T46.setTop (mkF m 77 #[.val (.int u0), .val (.int u1), .val (.int u2), .val (.int u3), .val (.int u4), .val (.int u5), .val (.ref b1), .val (.ref b6), .val (.ref d13), .val (.ref d27), .val (.int (u0 + u3)), .val (.int (u1 + u4)), .val (.int (u2 + u5)), .unset, .unset] [(.int u4), (.int (u1 + u4))])) (fun t k => XS.iload X46.here hx rfl (hb hby at_75) rfl k) ?_
  refine own_st (B := T46.setTop (mkF m 78 #[.val (.int u0), .val (.int u1), .val (.int u2), .val (.int u3), .val (.int u4), .val (.int u5), .val (.ref b1), .val (.ref b6), .val (.ref d13), .val (.ref d27), .val (.int (u0 + u3)), .val (.int (u1 + u4)), .val (.int (u2 + u5)), .unset, .unset] [(.int ((u1 + u4) - u4))])) (fun t k => XS.isub X46.here hx rfl (hb hby at_77) rfl k) ?_
  refine own_st (B := T46.setTop (mkF m 79 #[.val (.int u0), .val (.int u1), .val (.int u2), .val (.int u3), .val (.int u4), .val (.int u5), .val (.ref b1), .val (.ref b6), .val (.ref d13), .val (.ref d27), .val (.int (u0 + u3)), .val (.int (u1 + u4)), .val (.int (u2 + u5)), .unset, .unset] [(.int u1), (.int ((u1 + u4) - u4))])) (fun t k => XS.iloadN X46.here hx rfl (hb hby at_78) rfl k) ?_
  have hc49 : ((u1 + u4) - u4) = u1 := own_sub u1 u4
  have hd49 := own_eq32 hc49
  refine own_st (B := T46.setTop (mkF m 82 #[.val (.int u0), .val (.int u1), .val (.int u2), .val (.int u3), .val (.int u4), .val (.int u5), .val (.ref b1), .val (.ref b6), .val (.ref d13), .val (.ref d27), .val (.int (u0 + u3)), .val (.int (u1 + u4)), .val (.int (u2 + u5)), .unset, .unset] [])) (fun t k => XS.icmpNo X46.here hx rfl (hb hby at_79) rfl (teq hc49).2 k) ?_
  refine own_st (B := T46.setTop (mkF m 84 #[.val (.int u0), .val (.int u1), .val (.int u2), .val (.int u3), .val (.int u4), .val (.int u5), .val (.ref b1), .val (.ref b6), .val (.ref d13), .val (.ref d27), .val (.int (u0 + u3)), .val (.int (u1 + u4)), .val (.int (u2 + u5)), .unset, .unset] [(.int (u2 + u5))])) (fun t k => XS.iload X46.here hx rfl (hb hby at_82) rfl k) ?_
  refine own_st (B := T46.setTop (mkF m 86 #[.val (.int u0), .val (.int u1), .val (.int u2), .val (.int u3), .val (.int u4), .val (.int u5), .val (.ref b1), .val (.ref b6), .val (.ref d13), .val (.ref d27), .val (.int (u0 + u3)), .val (.int (u1 + u4)), .val (.int (u2 + u5)), .unset, .unset] [(.int u5), (.int (u2 + u5))])) (fun t k => XS.iload X46.here hx rfl (hb hby at_84) rfl k) ?_
  refine own_st (B := T46.setTop (mkF m 87 #[.val (.int u0), .val (.int u1), .val (.int u2), .val (.int u3), .val (.int u4), .val (.int u5), .val (.ref b1), .val (.ref b6), .val (.ref d13), .val (.ref d27), .val (.int (u0 + u3)), .val (.int (u1 + u4)), .val (.int (u2 + u5)), .unset, .unset] [(.int ((u2 + u5) - u5))])) (fun t k => XS.isub X46.here hx rfl (hb hby at_86) rfl k) ?_
  refine own_st (B := T46.setTop (mkF m 88 #[.val (.int u0), .val (.int u1), .val (.int u2), .val (.int u3), .val (.int u4), .val (.int u5), .val (.ref b1), .val (.ref b6), .val (.ref d13), .val (.ref d27), .val (.int (u0 + u3)), .val (.int (u1 + u4)), .val (.int (u2 + u5)), .unset, .unset] [(.int u2), (.int ((u2 + u5) - u5))])) (fun t k => XS.iloadN X46.here hx rfl (hb hby at_87) rfl k) ?_
  have hc50 : ((u2 + u5) - u5) = u2 := own_sub u2 u5
  have hd50 := own_eq32 hc50
  refine own_st (B := T46.setTop (mkF m 91 #[.val (.int u0), .val (.int u1), .val (.int u2), .val (.int u3), .val (.int u4), .val (.int u5), .val (.ref b1), .val (.ref b6), .val (.ref d13), .val (.ref d27), .val (.int (u0 + u3)), .val (.int (u1 + u4)), .val (.int (u2 + u5)), .unset, .unset] [])) (fun t k => XS.icmpNo X46.here hx rfl (hb hby at_88) rfl (teq hc50).2 k) ?_
  refine own_st (B := T46.setTop (mkF m 92 #[.val (.int u0), .val (.int u1), .val (.int u2), .val (.int u3), .val (.int u4), .val (.int u5), .val (.ref b1), .val (.ref b6), .val (.ref d13), .val (.ref d27), .val (.int (u0 + u3)), .val (.int (u1 + u4)), .val (.int (u2 + u5)), .unset, .unset] [(.int (1 : Int32))])) (fun t k => XS.iconst X46.here hx rfl (hb hby at_91) k) ?_
  refine own_st (B := T46.setTop (mkF m 96 #[.val (.int u0), .val (.int u1), .val (.int u2), .val (.int u3), .val (.int u4), .val (.int u5), .val (.ref b1), .val (.ref b6), .val (.ref d13), .val (.ref d27), .val (.int (u0 + u3)), .val (.int (u1 + u4)), .val (.int (u2 + u5)), .unset, .unset] [(.int (1 : Int32))])) (fun t k => XS.goto X46.here hx rfl (pc0 := 92) (pc' := 96) rfl (hb hby at_92) (by decide) (by decide) k) ?_
  refine own_st (B := T46.setTop (mkF m 98 #[.val (.int u0), .val (.int u1), .val (.int u2), .val (.int u3), .val (.int u4), .val (.int u5), .val (.ref b1), .val (.ref b6), .val (.ref d13), .val (.ref d27), .val (.int (u0 + u3)), .val (.int (u1 + u4)), .val (.int (u2 + u5)), .val (.int (1 : Int32)), .unset] [])) (fun t k => XS.istore X46.here hx rfl (hb hby at_96) rfl (l' := #[.val (.int u0), .val (.int u1), .val (.int u2), .val (.int u3), .val (.int u4), .val (.int u5), .val (.ref b1), .val (.ref b6), .val (.ref d13), .val (.ref d27), .val (.int (u0 + u3)), .val (.int (u1 + u4)), .val (.int (u2 + u5)), .val (.int (1 : Int32)), .unset]) rfl k) ?_
  refine own_st (B := T46.setTop (mkF m 100 #[.val (.int u0), .val (.int u1), .val (.int u2), .val (.int u3), .val (.int u4), .val (.int u5), .val (.ref b1), .val (.ref b6), .val (.ref d13), .val (.ref d27), .val (.int (u0 + u3)), .val (.int (u1 + u4)), .val (.int (u2 + u5)), .val (.int (1 : Int32)), .unset] [(.ref d27)])) (fun t k => XS.aload X46.here hx rfl (hb hby at_98) rfl rfl k) ?_
  obtain ⟨cq51, kq51, q51a, q51b, q51c⟩ := isOf hZ eh46 Eb27
  obtain ⟨_, _, ⟨T51, L51, k51, n51⟩, -, X51, ⟨Lc51, hQ51, l51, y51, z51⟩, st51⟩ := X46.virtualBack hx (y := (⟨"com/example/serialine/serialine/stress/Tally", "committed", "()I"⟩ : MethodName)) (z := (⟨"com/example/serialine/serialine/stress/Tally", "committed", "()I"⟩ : MethodName)) hown (mvT hZ (hw _ (List.mem_of_getElem? (i := 27) rfl))) (mvT hZ (hw _ (List.mem_of_getElem? (i := 28) rfl))) (notFace_of_selects (args := #[]) (mvT hZ (hw _ (List.mem_of_getElem? (i := 30) rfl)))) (mvT hZ (hw _ (List.mem_of_getElem? (i := 30) rfl))) (mvT hZ (hw _ (List.mem_of_getElem? (i := 29) rfl))) (by decide) (backOf (W := 0) (rm5 l Z a0 hw [] d27 (u3 + u0) T27.heap n0 Z40 Fb27_0) hZ (hw _ (List.mem_of_getElem? (i := 31) rfl)) (hw _ (List.mem_of_getElem? (i := 2) rfl)) (by decide) (by decide)) q51a q51c (g := (mkF m 100 #[.val (.int u0), .val (.int u1), .val (.int u2), .val (.int u3), .val (.int u4), .val (.int u5), .val (.ref b1), .val (.ref b6), .val (.ref d13), .val (.ref d27), .val (.int (u0 + u3)), .val (.int (u1 + u4)), .val (.int (u2 + u5)), .val (.int (1 : Int32)), .unset] [(.ref d27)])) rfl (by rw [hml]; rfl) (Steps.refl _) (argsL := []) (rest := []) (lenOf own_pd3 rfl) rfl (by show 2 * 0 + _ ≤ _; exact Nat.le_of_eq rfl) (hb hby at_100) (fun _ _ => ⟨rfl, eh46, (by decide : 4 + 0 ≤ _), (by decide : 12 + 0 ≤ _)⟩)
  dsimp only [Pt.U, Pt.locs, Pt.cells, Pt.slots] at X51 l51 y51 z51 st51 hQ51
  subst l51 y51 z51
  obtain ⟨rfl, N51q, eh51⟩ := hQ51
  have N51 := Fr.app N46 N51q
  refine own_st (B := T51.setTop (mkF m 103 #[.val (.int u0), .val (.int u1), .val (.int u2), .val (.int u3), .val (.int u4), .val (.int u5), .val (.ref b1), .val (.ref b6), .val (.ref d13), .val (.ref d27), .val (.int (u0 + u3)), .val (.int (u1 + u4)), .val (.int (u2 + u5)), .val (.int (1 : Int32)), .unset] [(.int (u3 + u0))])) (fun t k => st51.trans k) ?_
  refine own_st (B := T51.setTop (mkF m 105 #[.val (.int u0), .val (.int u1), .val (.int u2), .val (.int u3), .val (.int u4), .val (.int u5), .val (.ref b1), .val (.ref b6), .val (.ref d13), .val (.ref d27), .val (.int (u0 + u3)), .val (.int (u1 + u4)), .val (.int (u2 + u5)), .val (.int (1 : Int32)), .unset] [(.int (u0 + u3)), (.int (u3 + u0))])) (fun t k => XS.iload X51.here hx rfl (hb hby at_103) rfl k) ?_
  have hc52 : (u3 + u0) = (u0 + u3) := Int32.add_comm u3 u0
  have hd52 := own_eq32 hc52
  refine own_st (B := T51.setTop (mkF m 108 #[.val (.int u0), .val (.int u1), .val (.int u2), .val (.int u3), .val (.int u4), .val (.int u5), .val (.ref b1), .val (.ref b6), .val (.ref d13), .val (.ref d27), .val (.int (u0 + u3)), .val (.int (u1 + u4)), .val (.int (u2 + u5)), .val (.int (1 : Int32)), .unset] [])) (fun t k => XS.icmpNo X51.here hx rfl (hb hby at_105) rfl (teq hc52).2 k) ?_
  refine own_st (B := T51.setTop (mkF m 110 #[.val (.int u0), .val (.int u1), .val (.int u2), .val (.int u3), .val (.int u4), .val (.int u5), .val (.ref b1), .val (.ref b6), .val (.ref d13), .val (.ref d27), .val (.int (u0 + u3)), .val (.int (u1 + u4)), .val (.int (u2 + u5)), .val (.int (1 : Int32)), .unset] [(.ref d27)])) (fun t k => XS.aload X51.here hx rfl (hb hby at_108) rfl rfl k) ?_
  obtain ⟨cq53, kq53, q53a, q53b, q53c⟩ := isOf hZ eh51 Eb27
  obtain ⟨_, _, ⟨T53, L53, k53, n53⟩, -, X53, ⟨Lc53, hQ53, l53, y53, z53⟩, st53⟩ := X51.virtualBack hx (y := (⟨"com/example/serialine/serialine/stress/Tally", "aborted", "()I"⟩ : MethodName)) (z := (⟨"com/example/serialine/serialine/stress/Tally", "aborted", "()I"⟩ : MethodName)) hown (mvT hZ (hw _ (List.mem_of_getElem? (i := 32) rfl))) (mvT hZ (hw _ (List.mem_of_getElem? (i := 33) rfl))) (notFace_of_selects (args := #[]) (mvT hZ (hw _ (List.mem_of_getElem? (i := 35) rfl)))) (mvT hZ (hw _ (List.mem_of_getElem? (i := 35) rfl))) (mvT hZ (hw _ (List.mem_of_getElem? (i := 34) rfl))) (by decide) (backOf (W := 0) (rm6 l Z a0 hw [] d27 (u4 + u1) T27.heap n0 Z40 Fb27_1) hZ (hw _ (List.mem_of_getElem? (i := 36) rfl)) (hw _ (List.mem_of_getElem? (i := 2) rfl)) (by decide) (by decide)) q53a q53c (g := (mkF m 110 #[.val (.int u0), .val (.int u1), .val (.int u2), .val (.int u3), .val (.int u4), .val (.int u5), .val (.ref b1), .val (.ref b6), .val (.ref d13), .val (.ref d27), .val (.int (u0 + u3)), .val (.int (u1 + u4)), .val (.int (u2 + u5)), .val (.int (1 : Int32)), .unset] [(.ref d27)])) rfl (by rw [hml]; rfl) (Steps.refl _) (argsL := []) (rest := []) (lenOf own_pd3 rfl) rfl (by show 2 * 0 + _ ≤ _; exact Nat.le_of_eq rfl) (hb hby at_110) (fun _ _ => ⟨rfl, eh51, (by decide : 4 + 0 ≤ _), (by decide : 12 + 0 ≤ _)⟩)
  dsimp only [Pt.U, Pt.locs, Pt.cells, Pt.slots] at X53 l53 y53 z53 st53 hQ53
  subst l53 y53 z53
  obtain ⟨rfl, N53q, eh53⟩ := hQ53
  have N53 := Fr.app N51 N53q
  refine own_st (B := T53.setTop (mkF m 113 #[.val (.int u0), .val (.int u1), .val (.int u2), .val (.int u3), .val (.int u4), .val (.int u5), .val (.ref b1), .val (.ref b6), .val (.ref d13), .val (.ref d27), .val (.int (u0 + u3)), .val (.int (u1 + u4)), .val (.int (u2 + u5)), .val (.int (1 : Int32)), .unset] [(.int (u4 + u1))])) (fun t k => st53.trans k) ?_
  refine own_st (B := T53.setTop (mkF m 115 #[.val (.int u0), .val (.int u1), .val (.int u2), .val (.int u3), .val (.int u4), .val (.int u5), .val (.ref b1), .val (.ref b6), .val (.ref d13), .val (.ref d27), .val (.int (u0 + u3)), .val (.int (u1 + u4)), .val (.int (u2 + u5)), .val (.int (1 : Int32)), .unset] [(.int (u1 + u4)), (.int (u4 + u1))])) (fun t k => XS.iload X53.here hx rfl (hb hby at_113) rfl k) ?_
  have hc54 : (u4 + u1) = (u1 + u4) := Int32.add_comm u4 u1
  have hd54 := own_eq32 hc54
  refine own_st (B := T53.setTop (mkF m 118 #[.val (.int u0), .val (.int u1), .val (.int u2), .val (.int u3), .val (.int u4), .val (.int u5), .val (.ref b1), .val (.ref b6), .val (.ref d13), .val (.ref d27), .val (.int (u0 + u3)), .val (.int (u1 + u4)), .val (.int (u2 + u5)), .val (.int (1 : Int32)), .unset] [])) (fun t k => XS.icmpNo X53.here hx rfl (hb hby at_115) rfl (teq hc54).2 k) ?_
  refine own_st (B := T53.setTop (mkF m 120 #[.val (.int u0), .val (.int u1), .val (.int u2), .val (.int u3), .val (.int u4), .val (.int u5), .val (.ref b1), .val (.ref b6), .val (.ref d13), .val (.ref d27), .val (.int (u0 + u3)), .val (.int (u1 + u4)), .val (.int (u2 + u5)), .val (.int (1 : Int32)), .unset] [(.ref d27)])) (fun t k => XS.aload X53.here hx rfl (hb hby at_118) rfl rfl k) ?_
  obtain ⟨cq55, kq55, q55a, q55b, q55c⟩ := isOf hZ eh53 Eb27
  obtain ⟨_, _, ⟨T55, L55, k55, n55⟩, -, X55, ⟨Lc55, hQ55, l55, y55, z55⟩, st55⟩ := X53.virtualBack hx (y := (⟨"com/example/serialine/serialine/stress/Tally", "longReads", "()I"⟩ : MethodName)) (z := (⟨"com/example/serialine/serialine/stress/Tally", "longReads", "()I"⟩ : MethodName)) hown (mvT hZ (hw _ (List.mem_of_getElem? (i := 37) rfl))) (mvT hZ (hw _ (List.mem_of_getElem? (i := 38) rfl))) (notFace_of_selects (args := #[]) (mvT hZ (hw _ (List.mem_of_getElem? (i := 40) rfl)))) (mvT hZ (hw _ (List.mem_of_getElem? (i := 40) rfl))) (mvT hZ (hw _ (List.mem_of_getElem? (i := 39) rfl))) (by decide) (backOf (W := 0) (rm7 l Z a0 hw [] d27 (u5 + u2) T27.heap n0 Z40 Fb27_2) hZ (hw _ (List.mem_of_getElem? (i := 41) rfl)) (hw _ (List.mem_of_getElem? (i := 2) rfl)) (by decide) (by decide)) q55a q55c (g := (mkF m 120 #[.val (.int u0), .val (.int u1), .val (.int u2), .val (.int u3), .val (.int u4), .val (.int u5), .val (.ref b1), .val (.ref b6), .val (.ref d13), .val (.ref d27), .val (.int (u0 + u3)), .val (.int (u1 + u4)), .val (.int (u2 + u5)), .val (.int (1 : Int32)), .unset] [(.ref d27)])) rfl (by rw [hml]; rfl) (Steps.refl _) (argsL := []) (rest := []) (lenOf own_pd3 rfl) rfl (by show 2 * 0 + _ ≤ _; exact Nat.le_of_eq rfl) (hb hby at_120) (fun _ _ => ⟨rfl, eh53, (by decide : 4 + 0 ≤ _), (by decide : 12 + 0 ≤ _)⟩)
  dsimp only [Pt.U, Pt.locs, Pt.cells, Pt.slots] at X55 l55 y55 z55 st55 hQ55
  subst l55 y55 z55
  obtain ⟨rfl, N55q, eh55⟩ := hQ55
  have N55 := Fr.app N53 N55q
  refine own_st (B := T55.setTop (mkF m 123 #[.val (.int u0), .val (.int u1), .val (.int u2), .val (.int u3), .val (.int u4), .val (.int u5), .val (.ref b1), .val (.ref b6), .val (.ref d13), .val (.ref d27), .val (.int (u0 + u3)), .val (.int (u1 + u4)), .val (.int (u2 + u5)), .val (.int (1 : Int32)), .unset] [(.int (u5 + u2))])) (fun t k => st55.trans k) ?_
  refine own_st (B := T55.setTop (mkF m 125 #[.val (.int u0), .val (.int u1), .val (.int u2), .val (.int u3), .val (.int u4), .val (.int u5), .val (.ref b1), .val (.ref b6), .val (.ref d13), .val (.ref d27), .val (.int (u0 + u3)), .val (.int (u1 + u4)), .val (.int (u2 + u5)), .val (.int (1 : Int32)), .unset] [(.int (u2 + u5)), (.int (u5 + u2))])) (fun t k => XS.iload X55.here hx rfl (hb hby at_123) rfl k) ?_
  have hc56 : (u5 + u2) = (u2 + u5) := Int32.add_comm u5 u2
  have hd56 := own_eq32 hc56
  refine own_st (B := T55.setTop (mkF m 128 #[.val (.int u0), .val (.int u1), .val (.int u2), .val (.int u3), .val (.int u4), .val (.int u5), .val (.ref b1), .val (.ref b6), .val (.ref d13), .val (.ref d27), .val (.int (u0 + u3)), .val (.int (u1 + u4)), .val (.int (u2 + u5)), .val (.int (1 : Int32)), .unset] [])) (fun t k => XS.icmpNo X55.here hx rfl (hb hby at_125) rfl (teq hc56).2 k) ?_
  refine own_st (B := T55.setTop (mkF m 129 #[.val (.int u0), .val (.int u1), .val (.int u2), .val (.int u3), .val (.int u4), .val (.int u5), .val (.ref b1), .val (.ref b6), .val (.ref d13), .val (.ref d27), .val (.int (u0 + u3)), .val (.int (u1 + u4)), .val (.int (u2 + u5)), .val (.int (1 : Int32)), .unset] [(.int (1 : Int32))])) (fun t k => XS.iconst X55.here hx rfl (hb hby at_128) k) ?_
  refine own_st (B := T55.setTop (mkF m 133 #[.val (.int u0), .val (.int u1), .val (.int u2), .val (.int u3), .val (.int u4), .val (.int u5), .val (.ref b1), .val (.ref b6), .val (.ref d13), .val (.ref d27), .val (.int (u0 + u3)), .val (.int (u1 + u4)), .val (.int (u2 + u5)), .val (.int (1 : Int32)), .unset] [(.int (1 : Int32))])) (fun t k => XS.goto X55.here hx rfl (pc0 := 129) (pc' := 133) rfl (hb hby at_129) (by decide) (by decide) k) ?_
  refine own_st (B := T55.setTop (mkF m 135 #[.val (.int u0), .val (.int u1), .val (.int u2), .val (.int u3), .val (.int u4), .val (.int u5), .val (.ref b1), .val (.ref b6), .val (.ref d13), .val (.ref d27), .val (.int (u0 + u3)), .val (.int (u1 + u4)), .val (.int (u2 + u5)), .val (.int (1 : Int32)), .val (.int (1 : Int32))] [])) (fun t k => XS.istore X55.here hx rfl (hb hby at_133) rfl (l' := #[.val (.int u0), .val (.int u1), .val (.int u2), .val (.int u3), .val (.int u4), .val (.int u5), .val (.ref b1), .val (.ref b6), .val (.ref d13), .val (.ref d27), .val (.int (u0 + u3)), .val (.int (u1 + u4)), .val (.int (u2 + u5)), .val (.int (1 : Int32)), .val (.int (1 : Int32))]) rfl k) ?_
  refine own_st (B := T55.setTop (mkF m 137 #[.val (.int u0), .val (.int u1), .val (.int u2), .val (.int u3), .val (.int u4), .val (.int u5), .val (.ref b1), .val (.ref b6), .val (.ref d13), .val (.ref d27), .val (.int (u0 + u3)), .val (.int (u1 + u4)), .val (.int (u2 + u5)), .val (.int (1 : Int32)), .val (.int (1 : Int32))] [(.int (1 : Int32))])) (fun t k => XS.iload X55.here hx rfl (hb hby at_135) rfl k) ?_
  refine own_st (B := T55.setTop (mkF m 140 #[.val (.int u0), .val (.int u1), .val (.int u2), .val (.int u3), .val (.int u4), .val (.int u5), .val (.ref b1), .val (.ref b6), .val (.ref d13), .val (.ref d27), .val (.int (u0 + u3)), .val (.int (u1 + u4)), .val (.int (u2 + u5)), .val (.int (1 : Int32)), .val (.int (1 : Int32))] [])) (fun t k => XS.ifNo X55.here hx rfl (hb hby at_137) rfl ((if0 _ _).trans (feq (by decide : ¬ ((1 : Int32) = (0 : Int32)))).1) k) ?_
  refine own_st (B := T55.setTop (mkF m 142 #[.val (.int u0), .val (.int u1), .val (.int u2), .val (.int u3), .val (.int u4), .val (.int u5), .val (.ref b1), .val (.ref b6), .val (.ref d13), .val (.ref d27), .val (.int (u0 + u3)), .val (.int (u1 + u4)), .val (.int (u2 + u5)), .val (.int (1 : Int32)), .val (.int (1 : Int32))] [(.int (1 : Int32))])) (fun t k => XS.iload X55.here hx rfl (hb hby at_140) rfl k) ?_
  refine own_st (B := T55.setTop (mkF m 145 #[.val (.int u0), .val (.int u1), .val (.int u2), .val (.int u3), .val (.int u4), .val (.int u5), .val (.ref b1), .val (.ref b6), .val (.ref d13), .val (.ref d27), .val (.int (u0 + u3)), .val (.int (u1 + u4)), .val (.int (u2 + u5)), .val (.int (1 : Int32)), .val (.int (1 : Int32))] [])) (fun t k => XS.ifNo X55.here hx rfl (hb hby at_142) rfl ((if0 _ _).trans (feq (by decide : ¬ ((1 : Int32) = (0 : Int32)))).1) k) ?_
  refine own_st (B := T55.setTop (mkF m 146 #[.val (.int u0), .val (.int u1), .val (.int u2), .val (.int u3), .val (.int u4), .val (.int u5), .val (.ref b1), .val (.ref b6), .val (.ref d13), .val (.ref d27), .val (.int (u0 + u3)), .val (.int (u1 + u4)), .val (.int (u2 + u5)), .val (.int (1 : Int32)), .val (.int (1 : Int32))] [(.int (1 : Int32))])) (fun t k => XS.iconst X55.here hx rfl (hb hby at_145) k) ?_
  refine own_st (B := T55.setTop (mkF m 150 #[.val (.int u0), .val (.int u1), .val (.int u2), .val (.int u3), .val (.int u4), .val (.int u5), .val (.ref b1), .val (.ref b6), .val (.ref d13), .val (.ref d27), .val (.int (u0 + u3)), .val (.int (u1 + u4)), .val (.int (u2 + u5)), .val (.int (1 : Int32)), .val (.int (1 : Int32))] [(.int (1 : Int32))])) (fun t k => XS.goto X55.here hx rfl (pc0 := 146) (pc' := 150) rfl (hb hby at_146) (by decide) (by decide) k) ?_
  refine own_retN X55 hx (t := .boolean) Bd.returns (by simp) hlk (hb hby at_150) (z' := (1 : Int32)) (by first | rfl | exact own_nb _ | exact own_nbb _) (by decide) (by decide) ?_
  show Q0 Z u0 u1 u2 u3 u4 u5 h0 n0 _ T55.heap _
  rw [eh55]
  exact ⟨rfl, N55⟩
set_option maxRecDepth 65536 in
set_option maxHeartbeats 40000000 in
theorem comes_1 {Post : Tables → Env → Array Value → State → Outcome → State → Prop} (hpost : ∀ tb e args s v u, (limb_1_1.after args s (.returned v) u = true ∧ limb_1_2.after args s (.returned v) u = true ∧ True) → FrameEnd s (.returned v) u (Jvm.fieldLocs frame_1_writes args s ++ Jvm.arrayLocs frame_1_arrays args s ++ Jvm.staticLocs frame_1_statics s) 16 128 → Post tb e args s (.returned v) u) :
    ArmFor flags0 classFile x code maxLocals ret World_1 tables_1 room_1 Calls_1 rest_1 Pre_1 Post := by
  intro l hfl _ _ p e ha hc hk s m args below hf hA hF happ hP
  obtain ⟨hcalls, hrest, hpre⟩ := hP
  obtain ⟨-, -, -, hnamed, -, -, -, hat⟩ := (Spec.applies_iff hf).mp happ
  obtain ⟨hg, hn⟩ := and_e (Cond.before_iff.mp (show (Jvm.Cond.and given_1 narrow_1).before args s = true from hpre))
  obtain ⟨gg1, gg2⟩ := and_e hg
  obtain ⟨gg3, gg4⟩ := and_e gg2
  obtain ⟨gg5, gg6⟩ := and_e gg4
  obtain ⟨gg7, gg8⟩ := and_e gg6
  obtain ⟨gg9, gg10⟩ := and_e gg8
  obtain ⟨gg11, gg12⟩ := and_e gg10
  obtain ⟨w0, w1, w2, w3, w4, w5, rfl⟩ : ∃ w0 w1 w2 w3 w4 w5 : Value, args = #[w0, w1, w2, w3, w4, w5] := by
    have hs : args.size = 6 := by simpa [Cond.value, given_1] using gg1
    obtain ⟨L⟩ := args
    match L, hs with
    | [w0, w1, w2, w3, w4, w5], _ => exact ⟨w0, w1, w2, w3, w4, w5, rfl⟩
  have hw := fun d (hd : d ∈ tables_1) => atoms_spec (ws := Jvm.Cond.code x code maxLocals ret :: tables_1) hat d (List.mem_cons_of_mem _ hd)
  have hfit : Fit s := fun {y c} hc i hi => by
    obtain ⟨ha, rfl⟩ := Array.getElem?_eq_some_iff.mp hc
    have q := List.all_eq_true.mp ((Array.all_eq_true_iff_forall_mem.mp hF) _ (Array.getElem_mem ha)) i (List.mem_range.mpr hi)
    simpa [Array.getElem?_eq_getElem hi] using q
  obtain ⟨i0, ei0⟩ := is_v gg3
  obtain rfl : w0 = (.int i0) := Option.some.inj ei0
  obtain ⟨i1, ei1⟩ := is_v gg5
  obtain rfl : w1 = (.int i1) := Option.some.inj ei1
  obtain ⟨i2, ei2⟩ := is_v gg7
  obtain rfl : w2 = (.int i2) := Option.some.inj ei2
  obtain ⟨i3, ei3⟩ := is_v gg9
  obtain rfl : w3 = (.int i3) := Option.some.inj ei3
  obtain ⟨i4, ei4⟩ := is_v gg11
  obtain rfl : w4 = (.int i4) := Option.some.inj ei4
  obtain ⟨i5, ei5⟩ := is_v gg12
  obtain rfl : w5 = (.int i5) := Option.some.inj ei5
  obtain ⟨n, o, h1, h2, h3, _, L, rfl, ⟨rfl, N⟩, hq⟩ := rm0 l s _ hw tables_1 i0 i1 i2 i3 i4 i5 s.heap s.heap.size (Nat.le_refl _)  p e ha hc hk s m _ below hf ((Spec.applies_iff_loose hf).mp happ).1 ⟨rfl, State.Warmed39.refl s, rfl⟩ trivial
  refine ⟨n, _, h1, h2, h3, hpost _ _ _ _ _ _ ⟨Cond.after_iff.mpr rfl, Cond.after_iff.mpr (eq_i res_at (Term.int_eval (1)) rfl), trivial⟩ ⟨hq.1, hq.2.1, (hq.2.2.sift fun y hy => Or.inr (N y hy)).mono (by decide) (by decide)⟩⟩
theorem main_1_1 : Claimed_1_1 := comes_1 fun _ _ _ _ _ _ h hF => ⟨h.1, hF⟩
theorem main_1_2 : Claimed_1_2 := comes_1 fun _ _ _ _ _ _ h hF => ⟨h.2.1, hF⟩
end Jvm.Pilot.@@N@@
namespace Jvm.Pilot.@@N@@
open Jvm Jvm.ClassFile Sem Op Lib Jvm.Free Jvm.Stand Jvm.Pilot.@@N@@.Jvm.D
/-! MADE BY PROGRAM (witnessworld.py) out of the Statement's table words and the real class files: 10 classes; the members and pool entries that the words name. The judged class is class 1, her method 1. -/
namespace start1
open Jvm.ClassFile
def u (s : String) : CpInfo := .utf8 (stringToUtf16 s)
/-- a pool by its gaps: so many unusable entries, then the entry; so many at the end -/
def gap : Nat → List CpInfo → List CpInfo
  | 0, r => r
  | n + 1, r => .unusable :: gap n r
def poolList (es : List (Nat × CpInfo)) (last : Nat) : List CpInfo := es.foldr (fun e r => gap e.1 (e.2 :: r)) (gap last [])
def pool (es : List (Nat × CpInfo)) (last : Nat) : Array CpInfo := ⟨poolList es last⟩
def fileOf (pool : Array CpInfo) (this : Nat) (attrs : Array Attribute := #[]) (ms : Array MethodInfo := #[]) (fl : Nat := 33) (sup : Nat := 0) (ifs : Array Nat := #[]) (fds : Array FieldInfo := #[]) : ClassFile where
  minorVersion := 0
  majorVersion := 65
  constantPool := pool
  accessFlags := fl
  thisClass := this
  superClass := sup
  interfaces := ifs
  fields := fds
  methods := ms
  attributes := attrs
def plain (name : String) (sup : Option ClassId) : Class where
  name := name
  kind := .ordinary
  loader := none
  accessFlags := 33
  super := sup
  interfaces := #[]
  cf := none
  fields := #[]
  methods := #[]
  instanceTypes := #[]
  staticTypes := #[]
  resolved := #[]
  callSites := []
  init := .initialized
  statics := none
  mirror := none

def pool0 : Array CpInfo := pool [(5, u "<init>"), (0, u "()V"), (1, .class_ 10), (1, u "java/lang/Object")] 113

def k0c0 : Code := { maxStack := 0, maxLocals := 1, code := object_method_1_code, exceptionTable := #[], attributes := #[] }
def k0m0 : Method := { name := "<init>", desc := "()V", sig := { parameters := [], returnType := none }, accessFlags := 1, code := some k0c0 }
/-- java/lang/Object -/
def k0 : Class := { plain "java/lang/Object" none with
  accessFlags := 33
  interfaces := #[]
  cf := some (fileOf pool0 8 #[] #[{ accessFlags := 1, nameIndex := 5, descriptorIndex := 6, attributes := #[] }] 33 0 #[] #[])
  fields := #[]
  methods := #[k0m0]
  instanceTypes := #[]
  staticTypes := #[]
  resolved := Array.replicate 124 none
  statics := none }

def pool1 : Array CpInfo := pool [(2, .class_ 4), (1, u "java/lang/Object"), (0, u "<init>"), (0, u "()V"), (0, .class_ 8), (0, u "com/example/serialine/serialine/stress/Tally"), (0, .methodref 7 10), (0, .nameAndType 5 11), (0, u "(III)V"), (0, .methodref 7 13), (0, .nameAndType 14 15), (0, u "plus"), (0, u "(Lcom/example/serialine/serialine/stress/Tally;)Lcom/example/serialine/serialine/stress/Tally;"), (0, .methodref 7 17), (0, .nameAndType 18 19), (0, u "committed"), (0, u "()I"), (0, .methodref 7 21), (0, .nameAndType 22 19), (0, u "aborted"), (0, .methodref 7 24), (0, .nameAndType 25 19), (0, u "longReads"), (0, .class_ 27), (0, u "com/example/serialine/serialine/stress/TallyPlusPinLaw"), (2, u "law"), (0, u "(IIIIII)Z")] 3

def k1m0 : Method := { name := "<init>", desc := "()V", sig := { parameters := [], returnType := none }, accessFlags := 1, code := none }
def k1c1 : Code := { maxStack := 5, maxLocals := 15, code := code, exceptionTable := #[], attributes := #[] }
def k1m1 : Method := { name := "law", desc := "(IIIIII)Z", sig := { parameters := [.int, .int, .int, .int, .int, .int], returnType := some .boolean }, accessFlags := 9, code := some k1c1 }
/-- com/example/serialine/serialine/stress/TallyPlusPinLaw -/
def k1 : Class := { plain "com/example/serialine/serialine/stress/TallyPlusPinLaw" (some 0) with
  accessFlags := 49
  interfaces := #[]
  cf := some (fileOf pool1 26 #[] #[{ accessFlags := 1, nameIndex := 5, descriptorIndex := 6, attributes := #[] }, { accessFlags := 9, nameIndex := 30, descriptorIndex := 31, attributes := #[] }] 49 2 #[] #[])
  fields := #[]
  methods := #[k1m0, k1m1]
  instanceTypes := #[]
  staticTypes := #[]
  resolved := Array.replicate 35 none
  statics := none }

def pool2 : Array CpInfo := pool [(1, .methodref 2 3), (0, .class_ 4), (0, .nameAndType 5 6), (0, u "java/lang/Object"), (0, u "<init>"), (0, u "()V"), (0, .class_ 8), (0, u "java/lang/Record")] 13

def k2c0 : Code := { maxStack := 1, maxLocals := 1, code := jdk_30_method_1_code, exceptionTable := #[], attributes := #[] }
def k2m0 : Method := { name := "<init>", desc := "()V", sig := { parameters := [], returnType := none }, accessFlags := 4, code := some k2c0 }
/-- java/lang/Record -/
def k2 : Class := { plain "java/lang/Record" (some 0) with
  accessFlags := 1057
  interfaces := #[]
  cf := some (fileOf pool2 7 #[] #[{ accessFlags := 4, nameIndex := 5, descriptorIndex := 6, attributes := #[] }] 1057 2 #[] #[])
  fields := #[]
  methods := #[k2m0]
  instanceTypes := #[]
  staticTypes := #[]
  resolved := Array.replicate 22 none
  statics := none }

def pool3 : Array CpInfo := pool [(1, .methodref 2 3), (0, .class_ 4), (0, .nameAndType 5 6), (0, u "java/lang/Record"), (0, u "<init>"), (0, u "()V"), (0, .fieldref 8 9), (0, .class_ 10), (0, .nameAndType 11 12), (0, u "com/example/serialine/serialine/stress/Tally"), (0, u "committed"), (0, u "I"), (0, .fieldref 8 14), (0, .nameAndType 15 12), (0, u "aborted"), (0, .fieldref 8 17), (0, .nameAndType 18 12), (0, u "longReads"), (0, .methodref 8 20), (0, .nameAndType 5 21), (0, u "(III)V"), (15, u "plus"), (0, u "(Lcom/example/serialine/serialine/stress/Tally;)Lcom/example/serialine/serialine/stress/Tally;"), (1, u "()I")] 23

def k3c0 : Code := { maxStack := 2, maxLocals := 4, code := prog_57_method_1_code, exceptionTable := #[], attributes := #[] }
def k3m0 : Method := { name := "<init>", desc := "(III)V", sig := { parameters := [.int, .int, .int], returnType := none }, accessFlags := 1, code := some k3c0 }
def k3c1 : Code := { maxStack := 6, maxLocals := 2, code := prog_57_method_2_code, exceptionTable := #[], attributes := #[] }
def k3m1 : Method := { name := "plus", desc := "(Lcom/example/serialine/serialine/stress/Tally;)Lcom/example/serialine/serialine/stress/Tally;", sig := { parameters := [(.object "com/example/serialine/serialine/stress/Tally")], returnType := some (.object "com/example/serialine/serialine/stress/Tally") }, accessFlags := 0, code := some k3c1 }
def k3c2 : Code := { maxStack := 1, maxLocals := 1, code := prog_57_method_6_code, exceptionTable := #[], attributes := #[] }
def k3m2 : Method := { name := "committed", desc := "()I", sig := { parameters := [], returnType := some .int }, accessFlags := 1, code := some k3c2 }
def k3c3 : Code := { maxStack := 1, maxLocals := 1, code := prog_57_method_7_code, exceptionTable := #[], attributes := #[] }
def k3m3 : Method := { name := "aborted", desc := "()I", sig := { parameters := [], returnType := some .int }, accessFlags := 1, code := some k3c3 }
def k3c4 : Code := { maxStack := 1, maxLocals := 1, code := prog_57_method_8_code, exceptionTable := #[], attributes := #[] }
def k3m4 : Method := { name := "longReads", desc := "()I", sig := { parameters := [], returnType := some .int }, accessFlags := 1, code := some k3c4 }
/-- com/example/serialine/serialine/stress/Tally -/
def k3 : Class := { plain "com/example/serialine/serialine/stress/Tally" (some 2) with
  accessFlags := 49
  interfaces := #[]
  cf := some (fileOf pool3 8 #[] #[{ accessFlags := 1, nameIndex := 5, descriptorIndex := 21, attributes := #[] }, { accessFlags := 0, nameIndex := 37, descriptorIndex := 38, attributes := #[] }, { accessFlags := 1, nameIndex := 11, descriptorIndex := 40, attributes := #[] }, { accessFlags := 1, nameIndex := 15, descriptorIndex := 40, attributes := #[] }, { accessFlags := 1, nameIndex := 18, descriptorIndex := 40, attributes := #[] }] 49 2 #[] #[{ accessFlags := 18, nameIndex := 11, descriptorIndex := 12, attributes := #[] }, { accessFlags := 18, nameIndex := 15, descriptorIndex := 12, attributes := #[] }, { accessFlags := 18, nameIndex := 18, descriptorIndex := 12, attributes := #[] }])
  fields := #[{ name := "committed", type := .int, accessFlags := 18, slot := 0, constantValue := 0 }, { name := "aborted", type := .int, accessFlags := 18, slot := 1, constantValue := 0 }, { name := "longReads", type := .int, accessFlags := 18, slot := 2, constantValue := 0 }]
  methods := #[k3m0, k3m1, k3m2, k3m3, k3m4]
  instanceTypes := #[.int, .int, .int]
  staticTypes := #[]
  resolved := Array.replicate 64 none
  statics := none }

def pool4 : Array CpInfo := pool [(1, u "java/lang/Cloneable"), (0, .class_ 1), (0, u "java/lang/Object"), (0, .class_ 3)] 3

/-- java/lang/Cloneable -/
def k4 : Class := { plain "java/lang/Cloneable" (some 0) with
  accessFlags := 1537
  interfaces := #[]
  cf := some (fileOf pool4 2 #[] #[] 1537 4 #[] #[])
  fields := #[]
  methods := #[]
  instanceTypes := #[]
  staticTypes := #[]
  resolved := Array.replicate 8 none
  statics := none }

def pool5 : Array CpInfo := pool [(1, u "java/io/Serializable"), (0, .class_ 1), (0, u "java/lang/Object"), (0, .class_ 3)] 3

/-- java/io/Serializable -/
def k5 : Class := { plain "java/io/Serializable" (some 0) with
  accessFlags := 1537
  interfaces := #[]
  cf := some (fileOf pool5 2 #[] #[] 1537 4 #[] #[])
  fields := #[]
  methods := #[]
  instanceTypes := #[]
  staticTypes := #[]
  resolved := Array.replicate 8 none
  statics := none }

/-- the primitive byte -/
def k6 : Class := { plain "byte" none with kind := .primitive 'B', accessFlags := 0x411 }
/-- [B -/
def k7 : Class := { plain "[B" (some 0) with kind := .array 6 .byte, interfaces := #[4, 5], accessFlags := 1041 }

/-- the primitive int -/
def k8 : Class := { plain "int" none with kind := .primitive 'I', accessFlags := 0x411 }
/-- [I -/
def k9 : Class := { plain "[I" (some 0) with kind := .array 8 .int, interfaces := #[4, 5], accessFlags := 1041 }

def heap : Heap := #[]
def classes : Array Class := #[k0, k1, k2, k3, k4, k5, k6, k7, k8, k9]
def interned : List (Array UInt16 × Addr) := []
def slotsUsed : Nat := 0
def theMethod : MethodId := ⟨1, 1⟩
def args0 : Array Value := #[.int 5, .int 6, .int 7, .int 8, .int 1, .int 2]
def aboutOver (below : List Frame) : State where
  vm := { classes := classes, interned := interned.toArray }
  heap := heap
  slotsUsed := slotsUsed
  threads := #[{ frames := .invoking theMethod args0 :: below }]
def below0 : List Frame := [.native { method := ⟨0, 0⟩, args := #[] }]
def about1 : State := aboutOver below0
def p0 : Program := .bare "" "" ""
def e0 : Env := launch0.env 0 0 0
theorem w_frames : about1.frames = Frame.invoking theMethod args0 :: below0 := rfl
set_option maxRecDepth 65536 in
theorem w_args : argsFit about1.vm theMethod args0 = true := by decide +kernel
set_option maxRecDepth 65536 in
theorem w_heap : heapFits about1 = true := by decide +kernel
set_option maxRecDepth 65536 in
theorem w_runnable : about1.curStatus? = some .runnable := by decide +kernel
set_option maxRecDepth 65536 in
theorem w_alone : about1.alone = true := by decide +kernel
set_option maxRecDepth 65536 in
theorem w_named : about1.methodNamed? x = some theMethod := by decide +kernel
set_option maxRecDepth 65536 in
theorem w_hears : about1.hears theMethod below0 = true := by decide +kernel
set_option maxRecDepth 65536 in
theorem w_ripe : about1.ripe theMethod args0 below0 = true := by decide +kernel
theorem w_running : about1.status = .running := rfl
set_option maxRecDepth 65536 in
theorem w_room : about1.hasRoom e0.platform room_1 = true :=
  launch0.hasRoom_least _ room_1 (by decide +kernel) (by decide +kernel) (by decide +kernel) (by decide +kernel) (by decide +kernel) (by decide +kernel)
theorem allAtoms_all (ts : List Jvm.Cond) (a : Array Jvm.Value) (st : Jvm.State) : (allAtoms ts).before a st = ts.all (fun c => c.before a st) := by
  induction ts with
  | nil => rfl
  | cons c t ih =>
    show (Jvm.Cond.and c (allAtoms t)).before a st = _
    rw [Jvm.Cond.before_and, ih, List.all_cons]
def words1 : List Jvm.Cond := Jvm.Cond.code x code maxLocals ret :: tables_1
/-- a 'code' word, met by the world's own term for the bytes: nothing is compared byte by byte -/
theorem code_word {y : MethodName} {bytes : ByteArray} {mx : Nat} {rt : Option FieldType} {a : Array Value} {s : State} {m : MethodId} {meth : Method} {c : Code} (h1 : s.methodNamed? y = some m) (h2 : s.vm.method? m = some meth) (h3 : meth.code = some c) (h4 : c.code = bytes)
    (h5 : (c.maxLocals == mx && c.exceptionTable.isEmpty && decide (c.maxStack ≤ mostOperands) && decide (meth.sig.returnType = rt) && !meth.locks && decide (parseMethodDescriptor y.desc = some meth.sig)) = true) : (Jvm.Cond.code y bytes mx rt).before a s = true := by
  simp only [Bool.and_eq_true, beq_iff_eq, Bool.not_eq_true', decide_eq_true_eq] at h5
  obtain ⟨⟨⟨⟨⟨g1, g2⟩, g3⟩, g4⟩, g5⟩, g6⟩ := h5
  simp [Cond.before, Cond.holds, Cond.value, h1, h2, h3, h4, g1, g2, g3, g4, g5, g6]
def isCode : Jvm.Cond → Bool
  | .code _ _ _ _ => true
  | _ => false
theorem all_split {L : List Jvm.Cond} {P : Jvm.Cond → Bool} (h1 : L.all (fun c => isCode c || P c) = true) (h2 : ∀ c ∈ L.filter isCode, P c = true) : L.all P = true := by
  refine List.all_eq_true.mpr fun c hc => ?_
  have h := List.all_eq_true.mp h1 c hc
  rcases Bool.eq_false_or_eq_true (isCode c) with hi | hi
  · exact h2 c (List.mem_filter.mpr ⟨hc, hi⟩)
  · simpa [hi] using h
set_option maxRecDepth 65536 in
theorem w_c0 : (Jvm.Cond.code x code maxLocals ret).before args0 about1 = true := code_word (m := ⟨1, 1⟩) (meth := k1m1) (c := k1c1) (by decide +kernel) rfl rfl rfl (by decide +kernel)
set_option maxRecDepth 65536 in
theorem w_c1 : (Jvm.Cond.code ({ cls := "com/example/serialine/serialine/stress/Tally", name := "<init>", desc := "(III)V" } : Jvm.MethodName) prog_57_method_1_code (4 : Nat) (Option.none : Option Jvm.ClassFile.FieldType)).before args0 about1 = true := code_word (m := ⟨3, 0⟩) (meth := k3m0) (c := k3c0) (by decide +kernel) rfl rfl rfl (by decide +kernel)
set_option maxRecDepth 65536 in
theorem w_c2 : (Jvm.Cond.code ({ cls := "java/lang/Record", name := "<init>", desc := "()V" } : Jvm.MethodName) jdk_30_method_1_code (1 : Nat) (Option.none : Option Jvm.ClassFile.FieldType)).before args0 about1 = true := code_word (m := ⟨2, 0⟩) (meth := k2m0) (c := k2c0) (by decide +kernel) rfl rfl rfl (by decide +kernel)
set_option maxRecDepth 65536 in
theorem w_c3 : (Jvm.Cond.code ({ cls := "java/lang/Object", name := "<init>", desc := "()V" } : Jvm.MethodName) object_method_1_code (1 : Nat) (Option.none : Option Jvm.ClassFile.FieldType)).before args0 about1 = true := code_word (m := ⟨0, 0⟩) (meth := k0m0) (c := k0c0) (by decide +kernel) rfl rfl rfl (by decide +kernel)
set_option maxRecDepth 65536 in
theorem w_c4 : (Jvm.Cond.code ({ cls := "com/example/serialine/serialine/stress/Tally", name := "plus", desc := "(Lcom/example/serialine/serialine/stress/Tally;)Lcom/example/serialine/serialine/stress/Tally;" } : Jvm.MethodName) prog_57_method_2_code (2 : Nat) (Option.some (Jvm.ClassFile.FieldType.object "com/example/serialine/serialine/stress/Tally"))).before args0 about1 = true := code_word (m := ⟨3, 1⟩) (meth := k3m1) (c := k3c1) (by decide +kernel) rfl rfl rfl (by decide +kernel)
set_option maxRecDepth 65536 in
theorem w_c5 : (Jvm.Cond.code ({ cls := "com/example/serialine/serialine/stress/Tally", name := "committed", desc := "()I" } : Jvm.MethodName) prog_57_method_6_code (1 : Nat) (Option.some Jvm.ClassFile.FieldType.int)).before args0 about1 = true := code_word (m := ⟨3, 2⟩) (meth := k3m2) (c := k3c2) (by decide +kernel) rfl rfl rfl (by decide +kernel)
set_option maxRecDepth 65536 in
theorem w_c6 : (Jvm.Cond.code ({ cls := "com/example/serialine/serialine/stress/Tally", name := "aborted", desc := "()I" } : Jvm.MethodName) prog_57_method_7_code (1 : Nat) (Option.some Jvm.ClassFile.FieldType.int)).before args0 about1 = true := code_word (m := ⟨3, 3⟩) (meth := k3m3) (c := k3c3) (by decide +kernel) rfl rfl rfl (by decide +kernel)
set_option maxRecDepth 65536 in
theorem w_c7 : (Jvm.Cond.code ({ cls := "com/example/serialine/serialine/stress/Tally", name := "longReads", desc := "()I" } : Jvm.MethodName) prog_57_method_8_code (1 : Nat) (Option.some Jvm.ClassFile.FieldType.int)).before args0 about1 = true := code_word (m := ⟨3, 4⟩) (meth := k3m4) (c := k3c4) (by decide +kernel) rfl rfl rfl (by decide +kernel)
def codes1 : List Jvm.Cond := [Jvm.Cond.code x code maxLocals ret, Jvm.Cond.code ({ cls := "com/example/serialine/serialine/stress/Tally", name := "<init>", desc := "(III)V" } : Jvm.MethodName) prog_57_method_1_code (4 : Nat) (Option.none : Option Jvm.ClassFile.FieldType), Jvm.Cond.code ({ cls := "java/lang/Record", name := "<init>", desc := "()V" } : Jvm.MethodName) jdk_30_method_1_code (1 : Nat) (Option.none : Option Jvm.ClassFile.FieldType), Jvm.Cond.code ({ cls := "java/lang/Object", name := "<init>", desc := "()V" } : Jvm.MethodName) object_method_1_code (1 : Nat) (Option.none : Option Jvm.ClassFile.FieldType), Jvm.Cond.code ({ cls := "com/example/serialine/serialine/stress/Tally", name := "plus", desc := "(Lcom/example/serialine/serialine/stress/Tally;)Lcom/example/serialine/serialine/stress/Tally;" } : Jvm.MethodName) prog_57_method_2_code (2 : Nat) (Option.some (Jvm.ClassFile.FieldType.object "com/example/serialine/serialine/stress/Tally")), Jvm.Cond.code ({ cls := "com/example/serialine/serialine/stress/Tally", name := "committed", desc := "()I" } : Jvm.MethodName) prog_57_method_6_code (1 : Nat) (Option.some Jvm.ClassFile.FieldType.int), Jvm.Cond.code ({ cls := "com/example/serialine/serialine/stress/Tally", name := "aborted", desc := "()I" } : Jvm.MethodName) prog_57_method_7_code (1 : Nat) (Option.some Jvm.ClassFile.FieldType.int), Jvm.Cond.code ({ cls := "com/example/serialine/serialine/stress/Tally", name := "longReads", desc := "()I" } : Jvm.MethodName) prog_57_method_8_code (1 : Nat) (Option.some Jvm.ClassFile.FieldType.int)]
set_option maxRecDepth 65536 in
theorem codes_eq : words1.filter isCode = codes1 := rfl
theorem w_codes : ∀ c ∈ words1.filter isCode, c.before args0 about1 = true := by
  rw [codes_eq]
  intro c hc
  simp only [codes1, List.mem_cons, List.not_mem_nil, or_false] at hc
  rcases hc with rfl | rfl | rfl | rfl | rfl | rfl | rfl | rfl
  · exact w_c0
  · exact w_c1
  · exact w_c2
  · exact w_c3
  · exact w_c4
  · exact w_c5
  · exact w_c6
  · exact w_c7
set_option maxRecDepth 65536 in
theorem w_t1 : (words1.take 24).all (fun c => isCode c || c.before args0 about1) = true := by decide +kernel
set_option maxRecDepth 65536 in
theorem w_t2 : (words1.drop 24).all (fun c => isCode c || c.before args0 about1) = true := by decide +kernel
theorem w_tables : (allAtoms (Jvm.Cond.code x code maxLocals ret :: tables_1)).before args0 about1 = true := by
  rw [allAtoms_all]
  show words1.all (fun c => c.before args0 about1) = true
  refine all_split ?_ w_codes
  rw [← List.take_append_drop 24 words1, List.all_append, w_t1, w_t2]
  rfl
set_option maxRecDepth 65536 in
theorem w_case : (Jvm.Cond.and given_1 narrow_1).before args0 about1 = true := by decide +kernel
theorem w_applies : (headSpec (Jvm.Cond.code x code maxLocals ret :: tables_1) room_1).applies x e0.platform about1 = true :=
  (Spec.applies_iff w_frames).mpr ⟨w_running, w_runnable, w_alone, w_named, w_hears, w_ripe, w_room, w_tables⟩
theorem atStart : AtStart classFile x code maxLocals ret World_1 tables_1 room_1 Calls_1 rest_1 Pre_1 launch0 p0 e0 about1 theMethod args0 below0 :=
  ⟨lists_1, trivial, launch0.admits_env _ _ _, launch0.least_env, fairChoices_fair.cas, fairChoices_fair.clock, w_frames, w_args, w_heap, w_applies, trivial, trivial, w_case⟩
end start1
theorem witness_1 : WitnessClaimed_1 := ⟨start1.p0, start1.e0, start1.about1, start1.theMethod, start1.args0, start1.below0, start1.atStart⟩
end Jvm.Pilot.@@N@@
