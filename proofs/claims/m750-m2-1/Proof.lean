import JvmDerived
import JvmDerived.Pilot.@@N@@Statement
import JvmDerived.Pilot.@@N@@Code
set_option linter.unusedVariables false
set_option linter.unusedSimpArgs false

namespace Jvm.Pilot.@@N@@
open Jvm Jvm.ClassFile Sem Op Lib Jvm.Free Jvm.Stand Jvm.LawKit Jvm.RoadKit Bundle Jvm.Pilot.@@N@@.Jvm.D
section Own
variable {p : Program} {l : Launch} {e : Env} {R : Room} {s : State} {m : MethodId} {args : Array Value} {below : List Frame} {meth : Method} {c : Code} {T : State} {locs : List Loc} {cells slots : Nat} {Z : State} {h h' : Heap}
/-- the run from A comes to the method's end as Q says, with at most kc new cells and ks new slots -/
def own_E (p : Program) (e : Env) (below : List Frame) (s : State) (Q : Option Value → Heap → List Loc → Prop) (kc ks : Nat) (A : State) : Prop :=
  ∃ s₂ o, Steps p.tables e below A s₂ ∧ s₂.status = .running ∧ Ended s₂ below o ∧ ∃ v L, o = .returned v ∧ Q v s₂.heap L ∧ FrameEnd s o s₂ L kc ks
variable {Q : Option Value → Heap → List Loc → Prop} {kc ks : Nat} {A B : State}
theorem own_st (k : ∀ t, Steps p.tables e below B t → Steps p.tables e below A t) (h : own_E p e below s Q kc ks B) : own_E p e below s Q kc ks A := by
  obtain ⟨t, o, h1, h2⟩ := h
  exact ⟨t, o, k t h1, h2⟩
theorem own_end (X : Stand p l e R s m args below meth c T locs cells slots) {v : Option Value} (hv : meth.sig.returnType = none → v = none) (hlk : meth.locks = false)
    (hk : ∀ fs, (∀ (f : JFrame) (acts : List Action), f.method = m → f.locked = none → f.entered = [] → (doReturn e (T.setTop f) acts v).1 = T.setFrames fs) → Steps p.tables e below A (T.setFrames fs)) (hc : cells ≤ kc) (hs : slots ≤ ks) (hQ : Q v T.heap locs) : own_E p e below s Q kc ks A := by
  obtain ⟨fs, hr, hrun, hended, hW, hsame⟩ := X.leave (v := v) hv hlk
  exact ⟨_, _, hk fs hr, hrun, hended, _, _, rfl, hQ, ⟨_, rfl⟩, hW, hsame.mono hc hs⟩
theorem own_retN (X : Stand p l e R s m args below meth c T locs cells slots) (hx : p.tables.exec = Jvm.exec) {pc : Nat} {Ls : Array Slot} {z z' : Int32} {t : FieldType} {rest : List Value} (hret : meth.sig.returnType = some t) (ht : t = .boolean ∨ t = .byte ∨ t = .char ∨ t = .short) (hlk : meth.locks = false)
    (hd : decode c.code pc = .ok (.ireturn, 1)) (hz : nar t z = z') (hc : cells ≤ kc) (hs : slots ≤ ks) (hQ : Q (some (.int z')) T.heap locs) : own_E p e below s Q kc ks (T.setTop (mkF m pc Ls (.int z :: rest))) := by
  subst hz
  exact own_end X (fun q => by rw [hret] at q; cases q) hlk (fun fs hr => retN X hx hret ht hd hr) hc hs hQ
theorem own_retI (X : Stand p l e R s m args below meth c T locs cells slots) (hx : p.tables.exec = Jvm.exec) {pc : Nat} {Ls : Array Slot} {z : Int32} {rest : List Value} (hret : meth.sig.returnType = some .int) (hlk : meth.locks = false)
    (hd : decode c.code pc = .ok (.ireturn, 1)) (hc : cells ≤ kc) (hs : slots ≤ ks) (hQ : Q (some (.int z)) T.heap locs) : own_E p e below s Q kc ks (T.setTop (mkF m pc Ls (.int z :: rest))) := by
  refine own_end X (fun q => by rw [hret] at q; cases q) hlk (fun fs hr => ?_) hc hs hQ
  have hm' : T.vm.method? m = some meth := X.method'
  have hn : narrow .int (.int z) = .int z := rfl
  show Steps p.tables e below (T.setTop { method := m, pc := pc, locals := Ls, stack := _ :: rest, locked := none }) _
  jvm_step X.here [X.here.top, hx, hd, hm', hret, hn]
  first | (intro acts; rw [hr _ acts rfl rfl rfl]) | rw [hr _ _ rfl rfl rfl]
  exact Steps.refl _
theorem own_retJ (X : Stand p l e R s m args below meth c T locs cells slots) (hx : p.tables.exec = Jvm.exec) {pc : Nat} {Ls : Array Slot} {z : Int64} (hret : meth.sig.returnType = some .long) (hlk : meth.locks = false)
    (hd : decode c.code pc = .ok (.lreturn, 1)) (hc : cells ≤ kc) (hs : slots ≤ ks) (hQ : Q (some (.long z)) T.heap locs) : own_E p e below s Q kc ks (T.setTop (mkF m pc Ls [.long z])) :=
  own_end X (fun q => by rw [hret] at q; cases q) hlk (fun fs hr => X.lreturnOut hx hret hd hr) hc hs hQ
theorem own_retR (X : Stand p l e R s m args below meth c T locs cells slots) (hx : p.tables.exec = Jvm.exec) {pc : Nat} {Ls : Array Slot} {w : Value} {t : FieldType} (hw : w.isRef = true) (hret : meth.sig.returnType = some t) (ht : t.isReference = true) (hlk : meth.locks = false)
    (hd : decode c.code pc = .ok (.areturn, 1)) (hc : cells ≤ kc) (hs : slots ≤ ks) (hQ : Q (some w) T.heap locs) : own_E p e below s Q kc ks (T.setTop (mkF m pc Ls [w])) :=
  own_end X (fun q => by rw [hret] at q; cases q) hlk (fun fs hr => X.areturnOut hx hw hret ht hd hr) hc hs hQ
theorem own_retV (X : Stand p l e R s m args below meth c T locs cells slots) (hx : p.tables.exec = Jvm.exec) {pc : Nat} {Ls : Array Slot} (hret : meth.sig.returnType = none) (hlk : meth.locks = false)
    (hd : decode c.code pc = .ok (.return_, 1)) (hc : cells ≤ kc) (hs : slots ≤ ks) (hQ : Q none T.heap locs) : own_E p e below s Q kc ks (T.setTop (mkF m pc Ls [])) :=
  own_end X (fun _ => rfl) hlk (fun fs hr => X.returnOut hx hret hd hr) hc hs hQ
/-- a boolean as the machine holds it -/
def own_b (b : Bool) : Int32 := if b then 1 else 0
theorem own_b1 {P : Prop} [Decidable P] (h : P) : own_b (decide P) = 1 := by simp [own_b, h]
theorem own_bz {P : Prop} [Decidable P] (h : ¬ P) : own_b (decide P) = 0 := by simp [own_b, h]
theorem own_lt32 {x y : Int32} (h : x < y) : x.toInt < y.toInt := Int32.lt_iff_toInt_lt.mp h
theorem own_nlt32 {x y : Int32} (h : ¬ x < y) : ¬ x.toInt < y.toInt := fun q => h (Int32.lt_iff_toInt_lt.mpr q)
theorem own_eq32 {x y : Int32} (h : x = y) : x.toInt = y.toInt := congrArg _ h
theorem own_neq32 {x y : Int32} (h : ¬ x = y) : ¬ x.toInt = y.toInt := fun q => h (Int32.toInt_inj.mp q)
theorem own_lt64 {x y : Int64} (h : x < y) : x.toInt < y.toInt := Int64.lt_iff_toInt_lt.mp h
theorem own_nlt64 {x y : Int64} (h : ¬ x < y) : ¬ x.toInt < y.toInt := fun q => h (Int64.lt_iff_toInt_lt.mpr q)
theorem own_eq64 {x y : Int64} (h : x = y) : x.toInt = y.toInt := congrArg _ h
theorem own_neq64 {x y : Int64} (h : ¬ x = y) : ¬ x.toInt = y.toInt := fun q => h (Int64.toInt_inj.mp q)
theorem own_b0 {b : Bool} : own_b b = 0 ↔ b = false := by cases b <;> decide
theorem own_nb (b : Bool) : nar .boolean (own_b b) = own_b b := by cases b <;> rfl
theorem own_nbb (x : Int32) : nar .byte (x.toInt8.toInt32) = x.toInt8.toInt32 := by
  show x.toInt8.toInt32.toInt8.toInt32 = x.toInt8.toInt32
  rw [Int8.toInt8_toInt32]
theorem own_stV {l : Array Slot} {i : Nat} {v : Value} {o : Slot} (hold : l[i]? = some o) (ho : o = .unset ∨ ∃ w, o = .val w ∧ w.category = 1) (hv : v.category = 1) : storeLocals l i v = some (l.setIfInBounds i (.val v)) := XS.store1 hold ho hv
theorem own_narV {ty : FieldType} {v : Value} (hv : v.isRef = true) : narrow ty v = v := by
  rcases ref_cases hv with rfl | ⟨a, rfl⟩ <;> cases ty <;> rfl
theorem own_fitV {ty : FieldType} {v : Value} (ht : ty.isReference = true) (hv : v.isRef = true) : fits ty v = true := by
  rcases ref_cases hv with rfl | ⟨a, rfl⟩ <;> cases ty <;> first | rfl | (cases ht; done)
/-- an array of n places, whose place j holds f j -/
def own_A (Z : State) (h : Heap) (a : Addr) (ty : FieldType) (n : Nat) (f : Nat → Int32) : Prop := ∃ c : Cell, Arr Z h a c ty ∧ c.slots.size = n ∧ n < 2 ^ 31 ∧ (∀ j, j < n → c.slots[j]? = some (.int (f j))) ∧ ∀ j, j < n → fits ty (.int (f j)) = true
def own_up (f : Nat → Int32) (i : Nat) (v : Int32) (k : Nat) : Int32 := if k = i then v else f k
theorem own_up_same (f : Nat → Int32) (i : Nat) (v : Int32) : own_up f i v i = v := if_pos rfl
theorem own_up_ne (f : Nat → Int32) {i k : Nat} (v : Int32) (h : ¬ k = i) : own_up f i v k = f k := if_neg h
theorem own_catV {v : Value} (h : v.isRef = true) : v.category = 1 := by rcases ref_cases h with rfl | ⟨a, rfl⟩ <;> rfl
abbrev own_ix (j : Int32) (i : Nat) : Prop := ¬ j < 0 ∧ j.toNatClampNeg = i
variable {a b : Addr} {ty : FieldType} {n i : Nat} {f : Nat → Int32} {j x : Int32} {pc : Nat} {Ls : Array Slot} {rest : List Value} {sl : Nat} {v : Value} {ws : List Addr}
theorem own_A.lt (F : own_A Z h a ty n f) : a < h.size := by obtain ⟨c, A, -⟩ := F; exact A.lt
theorem own_A.ext (F : own_A Z h a ty n f) (E : Ext h h') : own_A Z h' a ty n f := by obtain ⟨c, A, r⟩ := F; exact ⟨c, A.ext E, r⟩
theorem own_A.other (F : own_A Z h b ty n f) (W : Wr h h' a sl v) (q : b ≠ a) : own_A Z h' b ty n f := by obtain ⟨c, A, r⟩ := F; exact ⟨c, A.other W q, r⟩
theorem own_A.keep (F : own_A Z h a ty n f) (K : Keep h h' ws) (q : a ∉ ws) : own_A Z h' a ty n f := by obtain ⟨c, A, r⟩ := F; exact ⟨c, ⟨K.2.1 a c A.1 q, A.2⟩, r⟩
theorem own_A.congr {g : Nat → Int32} (F : own_A Z h a ty n f) (q : ∀ j, j < n → f j = g j) : own_A Z h a ty n g := by obtain ⟨c, A, r1, r2, r3, r4⟩ := F; exact ⟨c, A, r1, r2, fun j hj => by rw [← q j hj]; exact r3 j hj, fun j hj => by rw [← q j hj]; exact r4 j hj⟩
theorem own_A.new {k : ClassId} {z : Int32} (A : Arr Z h a (newA k ty z) ty) (q : ¬ z < 0) (hz : z.toNatClampNeg = n) (hd : defaultValue ty = .int 0 := by rfl) : own_A Z h a ty n (fun _ => 0) := by
  subst hz
  exact ⟨_, A, sz_new _ _ _, (back32 q).2, fun j hj => by simp [newA, hj, hd], fun j hj => by rw [← hd]; cases ty <;> rfl⟩
theorem own_A.set (F : own_A Z h a ty n f) (hj : own_ix j i) (W : Wr h h' a j.toNatClampNeg (.int x)) (hf : fits ty (.int x) = true) : own_A Z h' a ty n (own_up f i x) := by
  obtain ⟨c, A, r1, r2, r3, r4⟩ := F
  obtain ⟨hj1, rfl⟩ := hj
  refine ⟨_, A.same W, by rw [sz_set]; exact r1, r2, fun k hk => ?_, fun k hk => ?_⟩ <;> by_cases q : k = j.toNatClampNeg
  · subst q; simp [Cell.setSlot, own_up, r1, hk]
  · simp only [Cell.setSlot, own_up, if_neg q]; rw [Array.getElem?_setIfInBounds_ne (Ne.symm q)]; exact r3 k hk
  · simp only [own_up, if_pos q]; exact hf
  · simp only [own_up, if_neg q]; exact r4 k hk
theorem own_in (hj : own_ix j i) (hi : i < n) {c : Cell} (hc : c.slots.size = n) : ¬ (j < 0 ∨ c.slots.size ≤ j.toNatClampNeg) := by
  rintro (q | q)
  · exact hj.1 q
  · rw [hj.2, hc] at q; omega
theorem own_stB (X : Stand p l e R s m args below meth c T locs cells slots) (hx : p.tables.exec = Jvm.exec) (hZ : Z.Warmed39 s.vm) (eT : T.heap = h) (A : own_A Z h a .byte n f) (hj : own_ix j i) (hi : i < n) (hd : decode c.code pc = .ok (.bastore, 1)) :
    ∃ T' h', Stand p l e R s m args below meth c T' (locs ++ [⟨a, j.toNatClampNeg⟩]) cells slots ∧ T'.heap = h' ∧ Wr h h' a j.toNatClampNeg (.int (nar .byte x)) ∧ own_A Z h' a .byte n (own_up f i (nar .byte x)) ∧ ∀ t, Steps p.tables e below (T'.setTop (mkF m (pc + 1) Ls rest)) t → Steps p.tables e below (T.setTop (mkF m pc Ls (.int x :: .int j :: .ref a :: rest))) t := by
  have A0 := A
  obtain ⟨cl, A1, r1, r2, r3, r4⟩ := A
  obtain ⟨T', h', X', e', W, st⟩ := stB X hx hZ eT A1 (j := j) (x := x) (own_in hj hi r1) (g := mkF m pc Ls (.int x :: .int j :: .ref a :: rest)) rfl rfl hd
  exact ⟨T', h', X', e', W, A0.set hj W (fits_nar_byte x), st⟩
theorem own_stI (X : Stand p l e R s m args below meth c T locs cells slots) (hx : p.tables.exec = Jvm.exec) (hZ : Z.Warmed39 s.vm) (eT : T.heap = h) (A : own_A Z h a .int n f) (hj : own_ix j i) (hi : i < n) (hd : decode c.code pc = .ok (.iastore, 1)) :
    ∃ T' h', Stand p l e R s m args below meth c T' (locs ++ [⟨a, j.toNatClampNeg⟩]) cells slots ∧ T'.heap = h' ∧ Wr h h' a j.toNatClampNeg (.int x) ∧ own_A Z h' a .int n (own_up f i x) ∧ ∀ t, Steps p.tables e below (T'.setTop (mkF m (pc + 1) Ls rest)) t → Steps p.tables e below (T.setTop (mkF m pc Ls (.int x :: .int j :: .ref a :: rest))) t := by
  have A0 := A
  obtain ⟨cl, A1, r1, r2, r3, r4⟩ := A
  obtain ⟨T', h', X', e', W, st⟩ := stI X hx hZ eT A1 (j := j) (x := x) (own_in hj hi r1) (g := mkF m pc Ls (.int x :: .int j :: .ref a :: rest)) rfl rfl hd
  exact ⟨T', h', X', e', W, A0.set hj W rfl, st⟩
theorem own_ldB (X : Stand p l e R s m args below meth c T locs cells slots) (hx : p.tables.exec = Jvm.exec) (hZ : Z.Warmed39 s.vm) (eT : T.heap = h) (A : own_A Z h a .byte n f) (hj : own_ix j i) (hi : i < n) (hd : decode c.code pc = .ok (.baload, 1)) (t : State)
    (k : Steps p.tables e below (T.setTop (mkF m (pc + 1) Ls (.int (f i) :: rest))) t) : Steps p.tables e below (T.setTop (mkF m pc Ls (.int j :: .ref a :: rest))) t := by
  obtain ⟨cl, A1, r1, r2, r3, r4⟩ := A
  exact X.baloadBytes hx (j := j) (v := .int (f i)) (by rw [eT]; exact A1.1) (State.isArrayOf_alike hZ.alike A1.2.1) A1.2.2 (own_in hj hi r1) (by rw [hj.2]; exact r3 i hi) (g := mkF m pc Ls (.int j :: .ref a :: rest)) rfl rfl hd t k
theorem own_ldI (X : Stand p l e R s m args below meth c T locs cells slots) (hx : p.tables.exec = Jvm.exec) (hZ : Z.Warmed39 s.vm) (eT : T.heap = h) (A : own_A Z h a .int n f) (hj : own_ix j i) (hi : i < n) (hd : decode c.code pc = .ok (.iaload, 1)) (t : State)
    (k : Steps p.tables e below (T.setTop (mkF m (pc + 1) Ls (.int (f i) :: rest))) t) : Steps p.tables e below (T.setTop (mkF m pc Ls (.int j :: .ref a :: rest))) t := by
  obtain ⟨cl, A1, r1, r2, r3, r4⟩ := A
  exact X.iaload hx (j := j) (v := .int (f i)) (by rw [eT]; exact A1.1) (State.isArrayOf_alike hZ.alike A1.2.1) A1.2.2 (own_in hj hi r1) (by rw [hj.2]; exact r3 i hi) (g := mkF m pc Ls (.int j :: .ref a :: rest)) rfl rfl hd t k
theorem own_len {z : Int32} (X : Stand p l e R s m args below meth c T locs cells slots) (hx : p.tables.exec = Jvm.exec) (hZ : Z.Warmed39 s.vm) (eT : T.heap = h) (A : own_A Z h a ty n f) (hz : n.toInt32 = z) (hd : decode c.code pc = .ok (.arraylength, 1)) (t : State)
    (k : Steps p.tables e below (T.setTop (mkF m (pc + 1) Ls (.int z :: rest))) t) : Steps p.tables e below (T.setTop (mkF m pc Ls (.ref a :: rest))) t := by
  obtain ⟨cl, A1, r1, r2, r3, r4⟩ := A
  subst hz
  refine X.arraylength hx (by rw [eT]; exact A1.1) (State.isArrayOf_alike hZ.alike A1.2.1) (g := mkF m pc Ls (.ref a :: rest)) rfl rfl hd t ?_
  rw [r1]; exact k
theorem own_clone (X : Stand p l e R s m args below meth c T locs cells slots) (hx : p.tables.exec = Jvm.exec) (hZ : Z.Warmed39 s.vm) {a0 : Array Value} {own ad : String} {index : Nat} (hown : s.vm.findClass own = some m.cls)
    (w1 : (Cond.methodLink own index ⟨ad, "clone", "()Ljava/lang/Object;"⟩).before a0 Z = true) (w2 : (Cond.sameMethod ad "java/lang/Object" "clone" "()Ljava/lang/Object;").before a0 Z = true) (w3 : (Cond.native ⟨"java/lang/Object", "clone", "()Ljava/lang/Object;"⟩).before a0 Z = true)
    (w4 : (Cond.instanceMethod ⟨"java/lang/Object", "clone", "()Ljava/lang/Object;"⟩).before a0 Z = true) (w5 : (Cond.selects ad ⟨ad, "clone", "()Ljava/lang/Object;"⟩ ⟨"java/lang/Object", "clone", "()Ljava/lang/Object;"⟩).before a0 Z = true) (w6 : (Cond.castable ad "java/lang/Cloneable").before a0 Z = true)
    (eT : T.heap = h) (A : own_A Z h a ty n f) (E : Exa Z h a ad) (hsize : Ls.size = c.maxLocals) (hd : decode c.code pc = .ok (.invokevirtual index, 3))
    (hf : 1 ≤ R.frames) {W cap : Nat} (hW : 2 * 0 + (rest.map fun v => v.category).sum ≤ W) (hl : W + 14 ≤ R.locals) (hcap : n ≤ cap) (hc : cells + 1 ≤ R.cells) (hsl : slots + cap ≤ R.slots) :
    ∃ T' h', Stand p l e R s m args below meth c T' locs (cells + 1) (slots + cap) ∧ T'.heap = h' ∧ Ext h h' ∧ own_A Z h' h.size ty n f ∧ Exa Z h' h.size ad ∧
      ∀ t, Steps p.tables e below (T'.setTop (mkF m (pc + 3) Ls (.ref h.size :: rest))) t → Steps p.tables e below (T.setTop (mkF m pc Ls (.ref a :: rest))) t := by
  obtain ⟨cl, A1, r1, r2, r3, r4⟩ := A
  have FC : FitC Z cl := fitC_of A1 fun i hi v hv => by rw [r1] at hi; rw [r3 i hi] at hv; cases hv; exact r4 i hi
  obtain ⟨T', h', X', e', ex, A', E', st⟩ := cloneA X hx hZ hown w1 w2 w3 w4 w5 w6 eT A1 E FC (g := mkF m pc Ls (.ref a :: rest)) rfl hsize rfl hd hf hW hl (by rw [r1]; exact hcap) hc hsl
  exact ⟨T', h', X', e', ex, ⟨cloneOf cl, A', r1, r2, r3, r4⟩, E', st⟩
theorem own_selP {s : State} {args : Array Value} {y : MethodName} {n : Nat} (hin : (Cond.instantiable y.cls n).before args s = true) (hpriv : s.PrivateAt y) (hinst : (Cond.instanceMethod y).before args s = true) (hy : y.cls ≠ "java/lang/invoke/MethodHandle" ∧ y.cls ≠ "java/lang/invoke/VarHandle") : (Cond.selects y.cls y y).before args s = true := by
  obtain ⟨c, k, h1, h2, -, h4, -⟩ := Cond.instantiable_spec hin
  exact selects_self_of_private h1 h2 (Bool.or_eq_false_iff.mp h4).1 hpriv hinst hy
theorem own_ixa (h : own_ix j i) (k : Nat) (hi : i + k < 2 ^ 31) : own_ix (j + Int32.ofNat k) (i + k) := by
  obtain ⟨h1, h2⟩ := h
  have e0 : (0 : Int32).toInt = 0 := rfl
  have e1 : (Int32.ofNat k).toInt = k := Int32.toInt_ofNat_of_lt (by omega)
  rw [Int32.lt_iff_toInt_lt, e0] at h1
  simp only [Int32.toNatClampNeg] at h2
  have h3 := c_iadd j (Int32.ofNat k); have h4 := rng32 (j + Int32.ofNat k)
  rw [e1] at h3
  refine ⟨by rw [Int32.lt_iff_toInt_lt, e0]; omega, ?_⟩
  simp only [Int32.toNatClampNeg]; omega
theorem own_ixI (h : own_ix j i) : j.toInt = i := by
  obtain ⟨h1, h2⟩ := h
  have e0 : (0 : Int32).toInt = 0 := rfl
  rw [Int32.lt_iff_toInt_lt, e0] at h1
  simp only [Int32.toNatClampNeg] at h2; omega
theorem own_ixof (h : j.toInt = i) : own_ix j i := by
  have e0 : (0 : Int32).toInt = 0 := rfl
  refine ⟨by rw [Int32.lt_iff_toInt_lt, e0]; omega, ?_⟩
  simp only [Int32.toNatClampNeg]; omega
theorem own_ixs (h : ¬ j < 0) : own_ix j j.toNatClampNeg := ⟨h, rfl⟩
theorem own_and3 (x : Int32) (k : Nat) (hk : k < 2 ^ 31) : ¬ (x &&& Int32.ofNat k) < 0 ∧ (x &&& Int32.ofNat k).toNatClampNeg ≤ k := by
  have h0 : 0 ≤ (Int32.ofNat k).toInt := by rw [Int32.toInt_ofNat_of_lt hk]; omega
  have h1 := (c_andS x (Int32.ofNat k)).2.2 h0
  have e0 : (0 : Int32).toInt = 0 := rfl
  refine ⟨by rw [Int32.lt_iff_toInt_lt, e0]; omega, ?_⟩
  have hb : (x &&& Int32.ofNat k).toBitVec.toNat ≤ k := by
    have : (x &&& Int32.ofNat k).toBitVec.toNat = x.toBitVec.toNat &&& (Int32.ofNat k).toBitVec.toNat := by rw [Int32.toBitVec_and, BitVec.toNat_and]
    rw [this]
    refine Nat.le_trans Nat.and_le_right ?_
    show (BitVec.ofNat 32 k).toNat ≤ k
    rw [BitVec.toNat_ofNat]; exact Nat.mod_le _ _
  have e : (x &&& Int32.ofNat k).toInt = ((x &&& Int32.ofNat k).toBitVec.toNat : Int) := by
    show (x &&& Int32.ofNat k).toBitVec.toInt = _
    rw [BitVec.toInt_eq_toNat_cond]; split
    · rfl
    · omega
  simp only [Int32.toNatClampNeg, e]; omega
end Own

def own_at (a : Addr) (x0 x1 : Int64) : Value := if x1 < x0 then .null else .ref a
theorem own_atR (a : Addr) (x0 x1 : Int64) : (own_at a x0 x1).isRef = true := by unfold own_at; split <;> rfl
theorem own_atC (a : Addr) (x0 x1 : Int64) : (own_at a x0 x1).category = 1 := own_catV (own_atR a x0 x1)
theorem own_b2_d0 : decode prog_17_method_1_code 0 = .ok (.aload_n 0, 1) := by decide +kernel
theorem own_b2_d1 : decode prog_17_method_1_code 1 = .ok (.invokespecial 3, 3) := by decide +kernel
theorem own_b2_d4 : decode prog_17_method_1_code 4 = .ok (.aload_n 0, 1) := by decide +kernel
theorem own_b2_d5 : decode prog_17_method_1_code 5 = .ok (.lload_n 1, 1) := by decide +kernel
theorem own_b2_d6 : decode prog_17_method_1_code 6 = .ok (.putfield 9, 3) := by decide +kernel
theorem own_b2_d9 : decode prog_17_method_1_code 9 = .ok (.aload_n 0, 1) := by decide +kernel
theorem own_b2_d10 : decode prog_17_method_1_code 10 = .ok (.lload_n 3, 1) := by decide +kernel
theorem own_b2_d11 : decode prog_17_method_1_code 11 = .ok (.putfield 15, 3) := by decide +kernel
theorem own_b2_d14 : decode prog_17_method_1_code 14 = .ok (.aload_n 0, 1) := by decide +kernel
theorem own_b2_d15 : decode prog_17_method_1_code 15 = .ok (.aload 5, 2) := by decide +kernel
theorem own_b2_d17 : decode prog_17_method_1_code 17 = .ok (.putfield 18, 3) := by decide +kernel
theorem own_b2_d20 : decode prog_17_method_1_code 20 = .ok (.aload_n 0, 1) := by decide +kernel
theorem own_b2_d21 : decode prog_17_method_1_code 21 = .ok (.aload 6, 2) := by decide +kernel
theorem own_b2_d23 : decode prog_17_method_1_code 23 = .ok (.putfield 22, 3) := by decide +kernel
theorem own_b2_d26 : decode prog_17_method_1_code 26 = .ok (.return_, 1) := by decide +kernel
theorem own_pn0 : plainName "com/example/serialine/serialine/Version" = true := by first | (simp [plainName, overriddenIn]; done) | decide +kernel
theorem own_ef_rm2 (m : MethodId) (x0 : Addr) (x1 : Int64) (x2 : Int64) (x3 : Value) (q3 : x3.isRef = true) : entryFrame m #[(.ref x0), (.long x1), (.long x2), x3, .null] 7 = mkF m 0 #[.val (.ref x0), .val (.long x1), .second, .val (.long x2), .second, .val x3, .val .null] [] := by rcases ref_cases q3 with rfl | ⟨_, rfl⟩ <;> first | (simp [entryFrame, mkF, argsToLocals, Value.category]; done) | rfl
def Q2 (Z : State) (a : Addr) (x0 : Int64) (x1 : Int64) (x2 : Value) (h0 : Heap) (n0 : Nat) (v : Option Value) (h : Heap) (L : List Loc) : Prop := v = none ∧ Fr n0 L ∧ Keep h0 h [a] ∧ Fld Z h a "com/example/serialine/serialine/Version" "commit" "J" (.long x0) ∧ Fld Z h a "com/example/serialine/serialine/Version" "writer" "J" (.long x1) ∧ Fld Z h a "com/example/serialine/serialine/Version" "value" "[B" x2 ∧ Fld Z h a "com/example/serialine/serialine/Version" "older" "Lcom/example/serialine/serialine/Version;" .null
set_option maxRecDepth 65536 in
set_option maxHeartbeats 40000000 in
theorem rm2 (l : Launch) (Z : State) (a0 : Array Value) (hw : ∀ d ∈ tables_1, d.before a0 Z = true) (ws : List Jvm.Cond) (a : Addr) (x0 : Int64) (x1 : Int64) (x2 : Value) (h0 : Heap) (n0 : Nat) (Z0 : n0 ≤ h0.size) (hx2 : x2.isRef = true) (E : Exa Z h0 a "com/example/serialine/serialine/Version") (F0 : Fld Z h0 a "com/example/serialine/serialine/Version" "commit" "J" (.long (0 : Int64))) (F1 : Fld Z h0 a "com/example/serialine/serialine/Version" "writer" "J" (.long (0 : Int64))) (F2 : Fld Z h0 a "com/example/serialine/serialine/Version" "value" "[B" .null) (F3 : Fld Z h0 a "com/example/serialine/serialine/Version" "older" "Lcom/example/serialine/serialine/Version;" .null) (ga : n0 ≤ a) :
    MetFree l (⟨"com/example/serialine/serialine/Version", "<init>", "(JJ[BLcom/example/serialine/serialine/Version;)V"⟩ : MethodName) (head1 (Jvm.Cond.code (⟨"com/example/serialine/serialine/Version", "<init>", "(JJ[BLcom/example/serialine/serialine/Version;)V"⟩ : MethodName) prog_17_method_1_code 7 none :: ws) ({ frames := 1, cells := 0, slots := 0, locals := 12 } : Room)) (fun aa_ U_ => aa_ = #[(.ref a), (.long x0), (.long x1), x2, .null] ∧ Z.Warmed39 U_.vm ∧ U_.heap = h0) (fun _ _ _ _ _ => True) (fun _ U_ o_ U1_ => ∃ v_ L_, o_ = .returned v_ ∧ Q2 Z a x0 x1 x2 h0 n0 v_ U1_.heap L_ ∧ FrameEnd U_ o_ U1_ L_ ({ frames := 1, cells := 0, slots := 0, locals := 12 } : Room).cells ({ frames := 1, cells := 0, slots := 0, locals := 12 } : Room).slots) := by
  refine MetFree.of_bodySF (plainFor_of_name own_pn0) hisR ?_
  intro p e s m args below meth c s₁ Bd hml0 hP hK
  obtain ⟨rfl, hZ, hh⟩ := hP
  have hx := Bd.exec
  have hby := Bd.bytes
  have hlk := Bd.notSynchronized
  have hml : c.maxLocals = 7 := hml0
  have hown : s.vm.findClass "com/example/serialine/serialine/Version" = some m.cls := findClass_of_methodNamed Bd.named
  have hnm := (name_of_methodNamed Bd.named Bd.method).1
  have X0 : Stand p l e ({ frames := 1, cells := 0, slots := 0, locals := 12 } : Room) s m #[(.ref a), (.long x0), (.long x1), x2, .null] below meth c s₁ [] 0 0 := Stand.of_body Bd
  have e0 : s₁.heap = h0 := by rw [← hh, Bd.state]; rfl
  have N0 := Fr.nil n0
  show own_E p e below s (Q2 Z a x0 x1 x2 h0 n0) ({ frames := 1, cells := 0, slots := 0, locals := 12 } : Room).cells ({ frames := 1, cells := 0, slots := 0, locals := 12 } : Room).slots (s₁.setTop (entryFrame m #[(.ref a), (.long x0), (.long x1), x2, .null] 7))
  refine own_st (B := s₁.setTop (mkF m 0 #[.val (.ref a), .val (.long x0), .second, .val (.long x1), .second, .val x2, .val .null] [])) (fun t_ k_ => castTop (own_ef_rm2 m a x0 x1 x2 hx2) k_) ?_
  have K0 : Keep h0 h0 [a] := Keep.refl _ _
  refine own_st (B := s₁.setTop (mkF m 1 #[.val (.ref a), .val (.long x0), .second, .val (.long x1), .second, .val x2, .val .null] [(.ref a)])) (fun t_ k_ => XS.aloadN X0.here hx rfl (hb hby own_b2_d0) rfl rfl k_) ?_
  obtain ⟨T1, X1, e1, st1⟩ := initO X0 hx hZ hown (hw _ (List.mem_of_getElem? (i := 12) rfl)) (hw _ (List.mem_of_getElem? (i := 13) rfl)) (hw _ (List.mem_of_getElem? (i := 14) rfl)) e0 (g := (mkF m 1 #[.val (.ref a), .val (.long x0), .second, .val (.long x1), .second, .val x2, .val .null] [(.ref a)])) rfl (by rw [hml]; rfl) rfl (hb hby own_b2_d1) (by decide) (W := 0) (by show 2 * 0 + _ ≤ _; exact Nat.le_of_eq rfl) (by decide)
  refine own_st (B := T1.setTop (mkF m 4 #[.val (.ref a), .val (.long x0), .second, .val (.long x1), .second, .val x2, .val .null] [])) st1 ?_
  refine own_st (B := T1.setTop (mkF m 5 #[.val (.ref a), .val (.long x0), .second, .val (.long x1), .second, .val x2, .val .null] [(.ref a)])) (fun t_ k_ => XS.aloadN X1.here hx rfl (hb hby own_b2_d4) rfl rfl k_) ?_
  refine own_st (B := T1.setTop (mkF m 6 #[.val (.ref a), .val (.long x0), .second, .val (.long x1), .second, .val x2, .val .null] [(.long x0), (.ref a)])) (fun t_ k_ => XS.lloadN X1.here hx rfl (hb hby own_b2_d5) rfl k_) ?_
  obtain ⟨T2, h2, X2, e2, W2, st2⟩ := putF X1 hx hZ hown (host := "") (Or.inl (hw _ (List.mem_of_getElem? (i := 15) rfl))) Via.refl e1 F0 E (Or.inl (hw _ (List.mem_of_getElem? (i := 16) rfl))) (hw _ (List.mem_of_getElem? (i := 7) rfl)) (ty := .long) (by decide) rfl rfl (g := (mkF m 6 #[.val (.ref a), .val (.long x0), .second, .val (.long x1), .second, .val x2, .val .null] [(.long x0), (.ref a)])) rfl rfl (hb hby own_b2_d6)
  have Fw2 := F0.same W2
  have N2 := Fr.snoc X2 N0 ga
  have Z3 := Nat.le_trans Z0 (Keep.of_wr W2).1
  have K4 := K0.wr W2 (Or.inl (List.mem_of_getElem? (i := 0) rfl))
  refine own_st (B := T2.setTop (mkF m 9 #[.val (.ref a), .val (.long x0), .second, .val (.long x1), .second, .val x2, .val .null] [])) st2 ?_
  refine own_st (B := T2.setTop (mkF m 10 #[.val (.ref a), .val (.long x0), .second, .val (.long x1), .second, .val x2, .val .null] [(.ref a)])) (fun t_ k_ => XS.aloadN X2.here hx rfl (hb hby own_b2_d9) rfl rfl k_) ?_
  refine own_st (B := T2.setTop (mkF m 11 #[.val (.ref a), .val (.long x0), .second, .val (.long x1), .second, .val x2, .val .null] [(.long x1), (.ref a)])) (fun t_ k_ => XS.lloadN X2.here hx rfl (hb hby own_b2_d10) rfl k_) ?_
  have u5 := E.wr W2
  have u6 := F1.other W2 (Or.inr (slot_ne (Or.inr (hw _ (List.mem_of_getElem? (i := 18) rfl))) (Or.inl (hw _ (List.mem_of_getElem? (i := 16) rfl))) (by decide) (t := .long) (t' := .long) (by decide) (by decide)))
  obtain ⟨T7, h7, X7, e7, W7, st7⟩ := putF X2 hx hZ hown (host := "") (Or.inl (hw _ (List.mem_of_getElem? (i := 17) rfl))) Via.refl e2 u6 u5 (Or.inr ⟨(hw _ (List.mem_of_getElem? (i := 18) rfl)), rfl, hnm⟩) (hw _ (List.mem_of_getElem? (i := 7) rfl)) (ty := .long) (by decide) rfl rfl (g := (mkF m 11 #[.val (.ref a), .val (.long x0), .second, .val (.long x1), .second, .val x2, .val .null] [(.long x1), (.ref a)])) rfl rfl (hb hby own_b2_d11)
  have Fw7 := u6.same W7
  have N7 := Fr.snoc X7 N2 ga
  have Z8 := Nat.le_trans Z3 (Keep.of_wr W7).1
  have K9 := K4.wr W7 (Or.inl (List.mem_of_getElem? (i := 0) rfl))
  refine own_st (B := T7.setTop (mkF m 14 #[.val (.ref a), .val (.long x0), .second, .val (.long x1), .second, .val x2, .val .null] [])) st7 ?_
  refine own_st (B := T7.setTop (mkF m 15 #[.val (.ref a), .val (.long x0), .second, .val (.long x1), .second, .val x2, .val .null] [(.ref a)])) (fun t_ k_ => XS.aloadN X7.here hx rfl (hb hby own_b2_d14) rfl rfl k_) ?_
  refine own_st (B := T7.setTop (mkF m 17 #[.val (.ref a), .val (.long x0), .second, .val (.long x1), .second, .val x2, .val .null] [x2, (.ref a)])) (fun t_ k_ => XS.aload X7.here hx rfl (hb hby own_b2_d15) rfl hx2 k_) ?_
  have u10 := u5.wr W7
  have u11 := F2.other W2 (Or.inr (slot_ne (Or.inr (hw _ (List.mem_of_getElem? (i := 20) rfl))) (Or.inl (hw _ (List.mem_of_getElem? (i := 16) rfl))) (by decide) (t := (.array .byte)) (t' := .long) (by decide) (by decide)))
  have u12 := u11.other W7 (Or.inr (slot_ne (Or.inr (hw _ (List.mem_of_getElem? (i := 20) rfl))) (Or.inr (hw _ (List.mem_of_getElem? (i := 18) rfl))) (by decide) (t := (.array .byte)) (t' := .long) (by decide) (by decide)))
  obtain ⟨T13, h13, X13, e13, W13, st13⟩ := putF X7 hx hZ hown (host := "") (Or.inl (hw _ (List.mem_of_getElem? (i := 19) rfl))) Via.refl e7 u12 u10 (Or.inr ⟨(hw _ (List.mem_of_getElem? (i := 20) rfl)), rfl, hnm⟩) (hw _ (List.mem_of_getElem? (i := 7) rfl)) (ty := (.array .byte)) (by decide) (own_narV hx2) (own_fitV (by decide) hx2) (g := (mkF m 17 #[.val (.ref a), .val (.long x0), .second, .val (.long x1), .second, .val x2, .val .null] [x2, (.ref a)])) rfl rfl (hb hby own_b2_d17)
  have Fw13 := u12.same W13
  have N13 := Fr.snoc X13 N7 ga
  have Z14 := Nat.le_trans Z8 (Keep.of_wr W13).1
  have K15 := K9.wr W13 (Or.inl (List.mem_of_getElem? (i := 0) rfl))
  refine own_st (B := T13.setTop (mkF m 20 #[.val (.ref a), .val (.long x0), .second, .val (.long x1), .second, .val x2, .val .null] [])) st13 ?_
  refine own_st (B := T13.setTop (mkF m 21 #[.val (.ref a), .val (.long x0), .second, .val (.long x1), .second, .val x2, .val .null] [(.ref a)])) (fun t_ k_ => XS.aloadN X13.here hx rfl (hb hby own_b2_d20) rfl rfl k_) ?_
  refine own_st (B := T13.setTop (mkF m 23 #[.val (.ref a), .val (.long x0), .second, .val (.long x1), .second, .val x2, .val .null] [.null, (.ref a)])) (fun t_ k_ => XS.aload X13.here hx rfl (hb hby own_b2_d21) rfl rfl k_) ?_
  have u16 := u10.wr W13
  have u17 := F3.other W2 (Or.inr (slot_ne (Or.inl (hw _ (List.mem_of_getElem? (i := 22) rfl))) (Or.inl (hw _ (List.mem_of_getElem? (i := 16) rfl))) (by decide) (t := (.object "com/example/serialine/serialine/Version")) (t' := .long) (by decide) (by decide)))
  have u18 := u17.other W7 (Or.inr (slot_ne (Or.inl (hw _ (List.mem_of_getElem? (i := 22) rfl))) (Or.inr (hw _ (List.mem_of_getElem? (i := 18) rfl))) (by decide) (t := (.object "com/example/serialine/serialine/Version")) (t' := .long) (by decide) (by decide)))
  have u19 := u18.other W13 (Or.inr (slot_ne (Or.inl (hw _ (List.mem_of_getElem? (i := 22) rfl))) (Or.inr (hw _ (List.mem_of_getElem? (i := 20) rfl))) (by decide) (t := (.object "com/example/serialine/serialine/Version")) (t' := (.array .byte)) (by decide) (by decide)))
  obtain ⟨T20, h20, X20, e20, W20, st20⟩ := putF X13 hx hZ hown (host := "") (Or.inl (hw _ (List.mem_of_getElem? (i := 21) rfl))) Via.refl e13 u19 u16 (Or.inl (hw _ (List.mem_of_getElem? (i := 22) rfl))) (hw _ (List.mem_of_getElem? (i := 7) rfl)) (ty := (.object "com/example/serialine/serialine/Version")) (by decide) rfl rfl (g := (mkF m 23 #[.val (.ref a), .val (.long x0), .second, .val (.long x1), .second, .val x2, .val .null] [.null, (.ref a)])) rfl rfl (hb hby own_b2_d23)
  have Fw20 := u19.same W20
  have N20 := Fr.snoc X20 N13 ga
  have Z21 := Nat.le_trans Z14 (Keep.of_wr W20).1
  have K22 := K15.wr W20 (Or.inl (List.mem_of_getElem? (i := 0) rfl))
  refine own_st (B := T20.setTop (mkF m 26 #[.val (.ref a), .val (.long x0), .second, .val (.long x1), .second, .val x2, .val .null] [])) st20 ?_
  refine own_retV X20 hx Bd.returns hlk (hb hby own_b2_d26) (by decide) (by decide) ?_
  show Q2 Z a x0 x1 x2 h0 n0 _ T20.heap _
  rw [e20]
  have u23 := Fw2.other W7 (Or.inr (slot_ne (Or.inl (hw _ (List.mem_of_getElem? (i := 16) rfl))) (Or.inr (hw _ (List.mem_of_getElem? (i := 18) rfl))) (by decide) (t := .long) (t' := .long) (by decide) (by decide)))
  have u24 := u23.other W13 (Or.inr (slot_ne (Or.inl (hw _ (List.mem_of_getElem? (i := 16) rfl))) (Or.inr (hw _ (List.mem_of_getElem? (i := 20) rfl))) (by decide) (t := .long) (t' := (.array .byte)) (by decide) (by decide)))
  have u25 := u24.other W20 (Or.inr (slot_ne (Or.inl (hw _ (List.mem_of_getElem? (i := 16) rfl))) (Or.inl (hw _ (List.mem_of_getElem? (i := 22) rfl))) (by decide) (t := .long) (t' := (.object "com/example/serialine/serialine/Version")) (by decide) (by decide)))
  have u26 := Fw7.other W13 (Or.inr (slot_ne (Or.inr (hw _ (List.mem_of_getElem? (i := 18) rfl))) (Or.inr (hw _ (List.mem_of_getElem? (i := 20) rfl))) (by decide) (t := .long) (t' := (.array .byte)) (by decide) (by decide)))
  have u27 := u26.other W20 (Or.inr (slot_ne (Or.inr (hw _ (List.mem_of_getElem? (i := 18) rfl))) (Or.inl (hw _ (List.mem_of_getElem? (i := 22) rfl))) (by decide) (t := .long) (t' := (.object "com/example/serialine/serialine/Version")) (by decide) (by decide)))
  have u28 := Fw13.other W20 (Or.inr (slot_ne (Or.inr (hw _ (List.mem_of_getElem? (i := 20) rfl))) (Or.inl (hw _ (List.mem_of_getElem? (i := 22) rfl))) (by decide) (t := (.array .byte)) (t' := (.object "com/example/serialine/serialine/Version")) (by decide) (by decide)))
  exact ⟨rfl, N20, K22, u25, u27, u28, Fw20⟩
theorem own_pd0 : parseMethodDescriptor "(JJ[BLcom/example/serialine/serialine/Version;)V" = some ⟨[.long, .long, (.array .byte), (.object "com/example/serialine/serialine/Version")], none⟩ := by decide +kernel
theorem own_b1_d0 : decode prog_17_method_3_code 0 = .ok (.new 10, 3) := by decide +kernel
theorem own_b1_d3 : decode prog_17_method_3_code 3 = .ok (.dup, 1) := by decide +kernel
theorem own_b1_d4 : decode prog_17_method_3_code 4 = .ok (.ldc2_w 29, 3) := by decide +kernel
theorem own_b1_d7 : decode prog_17_method_3_code 7 = .ok (.lload_n 0, 1) := by decide +kernel
theorem own_b1_d8 : decode prog_17_method_3_code 8 = .ok (.aload_n 2, 1) := by decide +kernel
theorem own_b1_d9 : decode prog_17_method_3_code 9 = .ok (.aconst_null, 1) := by decide +kernel
theorem own_b1_d10 : decode prog_17_method_3_code 10 = .ok (.invokespecial 26, 3) := by decide +kernel
theorem own_b1_d13 : decode prog_17_method_3_code 13 = .ok (.areturn, 1) := by decide +kernel
theorem own_ef_rm1 (m : MethodId) (x0 : Int64) (x1 : Value) (q1 : x1.isRef = true) : entryFrame m #[(.long x0), x1] 3 = mkF m 0 #[.val (.long x0), .second, .val x1] [] := by rcases ref_cases q1 with rfl | ⟨_, rfl⟩ <;> first | (simp [entryFrame, mkF, argsToLocals, Value.category]; done) | rfl
def Q1 (Z : State) (x1 : Int64) (x2 : Value) (h0 : Heap) (n0 : Nat) (v : Option Value) (h : Heap) (L : List Loc) : Prop := ∃ b : Addr, v = some (.ref b) ∧ Fr n0 L ∧ Keep h0 h [] ∧ h0.size ≤ b ∧ Exa Z h b "com/example/serialine/serialine/Version" ∧ Fld Z h b "com/example/serialine/serialine/Version" "commit" "J" (.long (9223372036854775807 : Int64)) ∧ Fld Z h b "com/example/serialine/serialine/Version" "writer" "J" (.long x1) ∧ Fld Z h b "com/example/serialine/serialine/Version" "value" "[B" x2 ∧ Fld Z h b "com/example/serialine/serialine/Version" "older" "Lcom/example/serialine/serialine/Version;" .null
set_option maxRecDepth 65536 in
set_option maxHeartbeats 40000000 in
theorem rm1 (l : Launch) (Z : State) (a0 : Array Value) (hw : ∀ d ∈ tables_1, d.before a0 Z = true) (ws : List Jvm.Cond) (x1 : Int64) (x2 : Value) (h0 : Heap) (n0 : Nat) (Z0 : n0 ≤ h0.size) (hx2 : x2.isRef = true) :
    MetFree l (⟨"com/example/serialine/serialine/Version", "uncommitted", "(J[B)Lcom/example/serialine/serialine/Version;"⟩ : MethodName) (head1 (Jvm.Cond.code (⟨"com/example/serialine/serialine/Version", "uncommitted", "(J[B)Lcom/example/serialine/serialine/Version;"⟩ : MethodName) prog_17_method_3_code 3 (some (.object "com/example/serialine/serialine/Version")) :: ws) ({ frames := 2, cells := 1, slots := 4, locals := 31 } : Room)) (fun aa_ U_ => aa_ = #[(.long x1), x2] ∧ Z.Warmed39 U_.vm ∧ U_.heap = h0) (fun _ _ _ _ _ => True) (fun _ U_ o_ U1_ => ∃ v_ L_, o_ = .returned v_ ∧ Q1 Z x1 x2 h0 n0 v_ U1_.heap L_ ∧ FrameEnd U_ o_ U1_ L_ ({ frames := 2, cells := 1, slots := 4, locals := 31 } : Room).cells ({ frames := 2, cells := 1, slots := 4, locals := 31 } : Room).slots) := by
  refine MetFree.of_bodySF (plainFor_of_name own_pn0) hisR ?_
  intro p e s m args below meth c s₁ Bd hml0 hP hK
  obtain ⟨rfl, hZ, hh⟩ := hP
  have hx := Bd.exec
  have hby := Bd.bytes
  have hlk := Bd.notSynchronized
  have hml : c.maxLocals = 3 := hml0
  have hown : s.vm.findClass "com/example/serialine/serialine/Version" = some m.cls := findClass_of_methodNamed Bd.named
  have hnm := (name_of_methodNamed Bd.named Bd.method).1
  have X0 : Stand p l e ({ frames := 2, cells := 1, slots := 4, locals := 31 } : Room) s m #[(.long x1), x2] below meth c s₁ [] 0 0 := Stand.of_body Bd
  have e0 : s₁.heap = h0 := by rw [← hh, Bd.state]; rfl
  have N0 := Fr.nil n0
  show own_E p e below s (Q1 Z x1 x2 h0 n0) ({ frames := 2, cells := 1, slots := 4, locals := 31 } : Room).cells ({ frames := 2, cells := 1, slots := 4, locals := 31 } : Room).slots (s₁.setTop (entryFrame m #[(.long x1), x2] 3))
  refine own_st (B := s₁.setTop (mkF m 0 #[.val (.long x1), .second, .val x2] [])) (fun t_ k_ => castTop (own_ef_rm1 m x1 x2 hx2) k_) ?_
  have K0 : Keep h0 h0 [] := Keep.refl _ _
  obtain ⟨T1, h1, X1, e1, E1, A1, D1, -, st1⟩ := newO X0 hx hZ hown (hw _ (List.mem_of_getElem? (i := 6) rfl)) (hw _ (List.mem_of_getElem? (i := 7) rfl)) (hw _ (List.mem_of_getElem? (i := 4) rfl)) e0 (g := (mkF m 0 #[.val (.long x1), .second, .val x2] [])) rfl (hb hby own_b1_d0) (by decide) (by decide)
  obtain ⟨b1, g1⟩ : ∃ z, z = h0.size := ⟨_, rfl⟩
  rw [← g1] at A1 D1 st1
  have g2 : n0 ≤ b1 := Nat.le_trans Z0 (Nat.le_of_eq g1.symm)
  have sz3 : h0.size ≤ b1 := Nat.le_trans K0.1 (Nat.le_of_eq g1.symm)
  have Z4 := Nat.le_trans Z0 E1.1
  have K5 := K0.ext E1
  have F1_commit : Fld Z h1 b1 "com/example/serialine/serialine/Version" "commit" "J" (.long (0 : Int64)) := D1 (Or.inl (hw _ (List.mem_of_getElem? (i := 16) rfl))) (ty := .long) (by decide)
  have F1_writer : Fld Z h1 b1 "com/example/serialine/serialine/Version" "writer" "J" (.long (0 : Int64)) := D1 (Or.inr (hw _ (List.mem_of_getElem? (i := 18) rfl))) (ty := .long) (by decide)
  have F1_value : Fld Z h1 b1 "com/example/serialine/serialine/Version" "value" "[B" .null := D1 (Or.inr (hw _ (List.mem_of_getElem? (i := 20) rfl))) (ty := (.array .byte)) (by decide)
  have F1_older : Fld Z h1 b1 "com/example/serialine/serialine/Version" "older" "Lcom/example/serialine/serialine/Version;" .null := D1 (Or.inl (hw _ (List.mem_of_getElem? (i := 22) rfl))) (ty := (.object "com/example/serialine/serialine/Version")) (by decide)
  refine own_st (B := T1.setTop (mkF m 3 #[.val (.long x1), .second, .val x2] [(.ref b1)])) st1 ?_
  refine own_st (B := T1.setTop (mkF m 4 #[.val (.long x1), .second, .val x2] [(.ref b1), (.ref b1)])) (fun t_ k_ => XS.dup X1.here hx rfl (hb hby own_b1_d3) rfl rfl k_) ?_
  refine own_st (B := T1.setTop (mkF m 7 #[.val (.long x1), .second, .val x2] [(.long (9223372036854775807 : Int64)), (.ref b1), (.ref b1)])) (fun t_ k_ => X1.ldc2Long hx hown (mvT hZ (hw _ (List.mem_of_getElem? (i := 8) rfl))) (g := (mkF m 4 #[.val (.long x1), .second, .val x2] [(.ref b1), (.ref b1)])) rfl (hb hby own_b1_d4) t_ k_) ?_
  refine own_st (B := T1.setTop (mkF m 8 #[.val (.long x1), .second, .val x2] [(.long x1), (.long (9223372036854775807 : Int64)), (.ref b1), (.ref b1)])) (fun t_ k_ => XS.lloadN X1.here hx rfl (hb hby own_b1_d7) rfl k_) ?_
  refine own_st (B := T1.setTop (mkF m 9 #[.val (.long x1), .second, .val x2] [x2, (.long x1), (.long (9223372036854775807 : Int64)), (.ref b1), (.ref b1)])) (fun t_ k_ => XS.aloadN X1.here hx rfl (hb hby own_b1_d8) rfl hx2 k_) ?_
  refine own_st (B := T1.setTop (mkF m 10 #[.val (.long x1), .second, .val x2] [.null, x2, (.long x1), (.long (9223372036854775807 : Int64)), (.ref b1), (.ref b1)])) (fun t_ k_ => XS.aconstNull X1.here hx rfl (hb hby own_b1_d9) k_) ?_
  obtain ⟨_, _, ⟨T6, L6, k6, n6⟩, -, X6, ⟨Lc6, hQ6, l6, y6, z6⟩, st6⟩ := X1.specialBack hx (y := (⟨"com/example/serialine/serialine/Version", "<init>", "(JJ[BLcom/example/serialine/serialine/Version;)V"⟩ : MethodName)) rfl hown (mvT hZ (hw _ (List.mem_of_getElem? (i := 9) rfl))) (mvT hZ (hw _ (List.mem_of_getElem? (i := 10) rfl))) (mvT hZ (hw _ (List.mem_of_getElem? (i := 11) rfl))) (by decide) (backOf (W := 1) (rm2 l Z a0 hw [] b1 (9223372036854775807 : Int64) x1 x2 h1 n0 Z4 hx2 A1 F1_commit F1_writer F1_value F1_older g2) hZ (hw _ (List.mem_of_getElem? (i := 11) rfl)) (hw _ (List.mem_of_getElem? (i := 4) rfl)) (by decide) (by decide)) (g := (mkF m 10 #[.val (.long x1), .second, .val x2] [.null, x2, (.long x1), (.long (9223372036854775807 : Int64)), (.ref b1), (.ref b1)])) rfl (by rw [hml]; rfl) (Steps.refl _) (a := b1) (argsL := [(.long (9223372036854775807 : Int64)), (.long x1), x2, .null]) (rest := [(.ref b1)]) (lenOf own_pd0 rfl) rfl (by show 2 * 0 + _ ≤ _; exact Nat.le_of_eq rfl) (hb hby own_b1_d10) (fun _ _ => ⟨rfl, e1, (by decide : 1 + 0 ≤ _), (by decide : 4 + 0 ≤ _)⟩)
  dsimp only [Pt.U, Pt.locs, Pt.cells, Pt.slots] at X6 l6 y6 z6 st6 hQ6
  subst l6 y6 z6
  obtain ⟨rfl, N6q, K6, Fc6_0, Fc6_1, Fc6_2, Fc6_3⟩ := hQ6
  have N6 := Fr.app N0 N6q
  have Z7 := Nat.le_trans Z4 K6.1
  have K8 := K5.trans K6 (allS (Or.inr sz3) all0)
  refine own_st (B := T6.setTop (mkF m 13 #[.val (.long x1), .second, .val x2] [(.ref b1)])) (fun t_ k_ => st6.trans k_) ?_
  refine own_retR X6 hx rfl Bd.returns rfl hlk (hb hby own_b1_d13) (by decide) (by decide) ?_
  show Q1 Z x1 x2 h0 n0 _ T6.heap _
  have u9 := A1.keep K6
  exact ⟨b1, rfl, N6, K8, sz3, u9, Fc6_0, Fc6_1, Fc6_2, Fc6_3⟩
theorem own_b4_d0 : decode prog_17_method_5_code 0 = .ok (.aload_n 0, 1) := by decide +kernel
theorem own_b4_d1 : decode prog_17_method_5_code 1 = .ok (.getfield 9, 3) := by decide +kernel
theorem own_b4_d4 : decode prog_17_method_5_code 4 = .ok (.lreturn, 1) := by decide +kernel
theorem own_ef_rm4 (m : MethodId) (x0 : Addr) : entryFrame m #[(.ref x0)] 1 = mkF m 0 #[.val (.ref x0)] [] := by first | (simp [entryFrame, mkF, argsToLocals, Value.category]; done) | rfl
def Q4 (Z : State) (a : Addr) (u : Int64) (h0 : Heap) (n0 : Nat) (v : Option Value) (h : Heap) (L : List Loc) : Prop := v = some (.long u) ∧ Fr n0 L ∧ h = h0
set_option maxRecDepth 65536 in
set_option maxHeartbeats 40000000 in
theorem rm4 (l : Launch) (Z : State) (a0 : Array Value) (hw : ∀ d ∈ tables_1, d.before a0 Z = true) (ws : List Jvm.Cond) (a : Addr) (u : Int64) (h0 : Heap) (n0 : Nat) (Z0 : n0 ≤ h0.size) (F : Fld Z h0 a "com/example/serialine/serialine/Version" "commit" "J" (.long u)) :
    MetFree l (⟨"com/example/serialine/serialine/Version", "commit", "()J"⟩ : MethodName) (head1 (Jvm.Cond.code (⟨"com/example/serialine/serialine/Version", "commit", "()J"⟩ : MethodName) prog_17_method_5_code 1 (some .long) :: ws) ({ frames := 0, cells := 0, slots := 0, locals := 0 } : Room)) (fun aa_ U_ => aa_ = #[(.ref a)] ∧ Z.Warmed39 U_.vm ∧ U_.heap = h0) (fun _ _ _ _ _ => True) (fun _ U_ o_ U1_ => ∃ v_ L_, o_ = .returned v_ ∧ Q4 Z a u h0 n0 v_ U1_.heap L_ ∧ FrameEnd U_ o_ U1_ L_ ({ frames := 0, cells := 0, slots := 0, locals := 0 } : Room).cells ({ frames := 0, cells := 0, slots := 0, locals := 0 } : Room).slots) := by
  refine MetFree.of_bodySF (plainFor_of_name own_pn0) hisR ?_
  intro p e s m args below meth c s₁ Bd hml0 hP hK
  obtain ⟨rfl, hZ, hh⟩ := hP
  have hx := Bd.exec
  have hby := Bd.bytes
  have hlk := Bd.notSynchronized
  have hml : c.maxLocals = 1 := hml0
  have hown : s.vm.findClass "com/example/serialine/serialine/Version" = some m.cls := findClass_of_methodNamed Bd.named
  have hnm := (name_of_methodNamed Bd.named Bd.method).1
  have X0 : Stand p l e ({ frames := 0, cells := 0, slots := 0, locals := 0 } : Room) s m #[(.ref a)] below meth c s₁ [] 0 0 := Stand.of_body Bd
  have e0 : s₁.heap = h0 := by rw [← hh, Bd.state]; rfl
  have N0 := Fr.nil n0
  show own_E p e below s (Q4 Z a u h0 n0) ({ frames := 0, cells := 0, slots := 0, locals := 0 } : Room).cells ({ frames := 0, cells := 0, slots := 0, locals := 0 } : Room).slots (s₁.setTop (entryFrame m #[(.ref a)] 1))
  refine own_st (B := s₁.setTop (mkF m 0 #[.val (.ref a)] [])) (fun t_ k_ => castTop (own_ef_rm4 m a) k_) ?_
  refine own_st (B := s₁.setTop (mkF m 1 #[.val (.ref a)] [(.ref a)])) (fun t_ k_ => XS.aloadN X0.here hx rfl (hb hby own_b4_d0) rfl rfl k_) ?_
  obtain ⟨T1, X1, e1, st1⟩ := getF X0 hx hZ hown (host := "") (Or.inl (hw _ (List.mem_of_getElem? (i := 15) rfl))) Via.refl e0 F (g := (mkF m 1 #[.val (.ref a)] [(.ref a)])) rfl rfl (hb hby own_b4_d1)
  refine own_st (B := T1.setTop (mkF m 4 #[.val (.ref a)] [(.long u)])) st1 ?_
  refine own_retJ X1 hx Bd.returns hlk (hb hby own_b4_d4) (by decide) (by decide) ?_
  show Q4 Z a u h0 n0 _ T1.heap _
  rw [e1]
  exact ⟨rfl, N0, rfl⟩
theorem own_b5_d0 : decode prog_17_method_6_code 0 = .ok (.aload_n 0, 1) := by decide +kernel
theorem own_b5_d1 : decode prog_17_method_6_code 1 = .ok (.getfield 15, 3) := by decide +kernel
theorem own_b5_d4 : decode prog_17_method_6_code 4 = .ok (.lreturn, 1) := by decide +kernel
theorem own_ef_rm5 (m : MethodId) (x0 : Addr) : entryFrame m #[(.ref x0)] 1 = mkF m 0 #[.val (.ref x0)] [] := by first | (simp [entryFrame, mkF, argsToLocals, Value.category]; done) | rfl
def Q5 (Z : State) (a : Addr) (u : Int64) (h0 : Heap) (n0 : Nat) (v : Option Value) (h : Heap) (L : List Loc) : Prop := v = some (.long u) ∧ Fr n0 L ∧ h = h0
set_option maxRecDepth 65536 in
set_option maxHeartbeats 40000000 in
theorem rm5 (l : Launch) (Z : State) (a0 : Array Value) (hw : ∀ d ∈ tables_1, d.before a0 Z = true) (ws : List Jvm.Cond) (a : Addr) (u : Int64) (h0 : Heap) (n0 : Nat) (Z0 : n0 ≤ h0.size) (F : Fld Z h0 a "com/example/serialine/serialine/Version" "writer" "J" (.long u)) :
    MetFree l (⟨"com/example/serialine/serialine/Version", "writer", "()J"⟩ : MethodName) (head1 (Jvm.Cond.code (⟨"com/example/serialine/serialine/Version", "writer", "()J"⟩ : MethodName) prog_17_method_6_code 1 (some .long) :: ws) ({ frames := 0, cells := 0, slots := 0, locals := 0 } : Room)) (fun aa_ U_ => aa_ = #[(.ref a)] ∧ Z.Warmed39 U_.vm ∧ U_.heap = h0) (fun _ _ _ _ _ => True) (fun _ U_ o_ U1_ => ∃ v_ L_, o_ = .returned v_ ∧ Q5 Z a u h0 n0 v_ U1_.heap L_ ∧ FrameEnd U_ o_ U1_ L_ ({ frames := 0, cells := 0, slots := 0, locals := 0 } : Room).cells ({ frames := 0, cells := 0, slots := 0, locals := 0 } : Room).slots) := by
  refine MetFree.of_bodySF (plainFor_of_name own_pn0) hisR ?_
  intro p e s m args below meth c s₁ Bd hml0 hP hK
  obtain ⟨rfl, hZ, hh⟩ := hP
  have hx := Bd.exec
  have hby := Bd.bytes
  have hlk := Bd.notSynchronized
  have hml : c.maxLocals = 1 := hml0
  have hown : s.vm.findClass "com/example/serialine/serialine/Version" = some m.cls := findClass_of_methodNamed Bd.named
  have hnm := (name_of_methodNamed Bd.named Bd.method).1
  have X0 : Stand p l e ({ frames := 0, cells := 0, slots := 0, locals := 0 } : Room) s m #[(.ref a)] below meth c s₁ [] 0 0 := Stand.of_body Bd
  have e0 : s₁.heap = h0 := by rw [← hh, Bd.state]; rfl
  have N0 := Fr.nil n0
  show own_E p e below s (Q5 Z a u h0 n0) ({ frames := 0, cells := 0, slots := 0, locals := 0 } : Room).cells ({ frames := 0, cells := 0, slots := 0, locals := 0 } : Room).slots (s₁.setTop (entryFrame m #[(.ref a)] 1))
  refine own_st (B := s₁.setTop (mkF m 0 #[.val (.ref a)] [])) (fun t_ k_ => castTop (own_ef_rm5 m a) k_) ?_
  refine own_st (B := s₁.setTop (mkF m 1 #[.val (.ref a)] [(.ref a)])) (fun t_ k_ => XS.aloadN X0.here hx rfl (hb hby own_b5_d0) rfl rfl k_) ?_
  obtain ⟨T1, X1, e1, st1⟩ := getF X0 hx hZ hown (host := "") (Or.inl (hw _ (List.mem_of_getElem? (i := 17) rfl))) Via.refl e0 F (g := (mkF m 1 #[.val (.ref a)] [(.ref a)])) rfl rfl (hb hby own_b5_d1)
  refine own_st (B := T1.setTop (mkF m 4 #[.val (.ref a)] [(.long u)])) st1 ?_
  refine own_retJ X1 hx Bd.returns hlk (hb hby own_b5_d4) (by decide) (by decide) ?_
  show Q5 Z a u h0 n0 _ T1.heap _
  rw [e1]
  exact ⟨rfl, N0, rfl⟩
theorem own_b6_d0 : decode prog_17_method_7_code 0 = .ok (.aload_n 0, 1) := by decide +kernel
theorem own_b6_d1 : decode prog_17_method_7_code 1 = .ok (.getfield 18, 3) := by decide +kernel
theorem own_b6_d4 : decode prog_17_method_7_code 4 = .ok (.areturn, 1) := by decide +kernel
theorem own_ef_rm6 (m : MethodId) (x0 : Addr) : entryFrame m #[(.ref x0)] 1 = mkF m 0 #[.val (.ref x0)] [] := by first | (simp [entryFrame, mkF, argsToLocals, Value.category]; done) | rfl
def Q6 (Z : State) (a : Addr) (u : Value) (h0 : Heap) (n0 : Nat) (v : Option Value) (h : Heap) (L : List Loc) : Prop := v = some u ∧ Fr n0 L ∧ h = h0
set_option maxRecDepth 65536 in
set_option maxHeartbeats 40000000 in
theorem rm6 (l : Launch) (Z : State) (a0 : Array Value) (hw : ∀ d ∈ tables_1, d.before a0 Z = true) (ws : List Jvm.Cond) (a : Addr) (u : Value) (h0 : Heap) (n0 : Nat) (Z0 : n0 ≤ h0.size) (hu : u.isRef = true) (F : Fld Z h0 a "com/example/serialine/serialine/Version" "value" "[B" u) :
    MetFree l (⟨"com/example/serialine/serialine/Version", "value", "()[B"⟩ : MethodName) (head1 (Jvm.Cond.code (⟨"com/example/serialine/serialine/Version", "value", "()[B"⟩ : MethodName) prog_17_method_7_code 1 (some (.array .byte)) :: ws) ({ frames := 0, cells := 0, slots := 0, locals := 0 } : Room)) (fun aa_ U_ => aa_ = #[(.ref a)] ∧ Z.Warmed39 U_.vm ∧ U_.heap = h0) (fun _ _ _ _ _ => True) (fun _ U_ o_ U1_ => ∃ v_ L_, o_ = .returned v_ ∧ Q6 Z a u h0 n0 v_ U1_.heap L_ ∧ FrameEnd U_ o_ U1_ L_ ({ frames := 0, cells := 0, slots := 0, locals := 0 } : Room).cells ({ frames := 0, cells := 0, slots := 0, locals := 0 } : Room).slots) := by
  refine MetFree.of_bodySF (plainFor_of_name own_pn0) hisR ?_
  intro p e s m args below meth c s₁ Bd hml0 hP hK
  obtain ⟨rfl, hZ, hh⟩ := hP
  have hx := Bd.exec
  have hby := Bd.bytes
  have hlk := Bd.notSynchronized
  have hml : c.maxLocals = 1 := hml0
  have hown : s.vm.findClass "com/example/serialine/serialine/Version" = some m.cls := findClass_of_methodNamed Bd.named
  have hnm := (name_of_methodNamed Bd.named Bd.method).1
  have X0 : Stand p l e ({ frames := 0, cells := 0, slots := 0, locals := 0 } : Room) s m #[(.ref a)] below meth c s₁ [] 0 0 := Stand.of_body Bd
  have e0 : s₁.heap = h0 := by rw [← hh, Bd.state]; rfl
  have N0 := Fr.nil n0
  show own_E p e below s (Q6 Z a u h0 n0) ({ frames := 0, cells := 0, slots := 0, locals := 0 } : Room).cells ({ frames := 0, cells := 0, slots := 0, locals := 0 } : Room).slots (s₁.setTop (entryFrame m #[(.ref a)] 1))
  refine own_st (B := s₁.setTop (mkF m 0 #[.val (.ref a)] [])) (fun t_ k_ => castTop (own_ef_rm6 m a) k_) ?_
  refine own_st (B := s₁.setTop (mkF m 1 #[.val (.ref a)] [(.ref a)])) (fun t_ k_ => XS.aloadN X0.here hx rfl (hb hby own_b6_d0) rfl rfl k_) ?_
  obtain ⟨T1, X1, e1, st1⟩ := getF X0 hx hZ hown (host := "") (Or.inl (hw _ (List.mem_of_getElem? (i := 19) rfl))) Via.refl e0 F (g := (mkF m 1 #[.val (.ref a)] [(.ref a)])) rfl rfl (hb hby own_b6_d1)
  refine own_st (B := T1.setTop (mkF m 4 #[.val (.ref a)] [u])) st1 ?_
  refine own_retR X1 hx hu Bd.returns rfl hlk (hb hby own_b6_d4) (by decide) (by decide) ?_
  show Q6 Z a u h0 n0 _ T1.heap _
  rw [e1]
  exact ⟨rfl, N0, rfl⟩
theorem own_b7_d0 : decode prog_17_method_8_code 0 = .ok (.aload_n 0, 1) := by decide +kernel
theorem own_b7_d1 : decode prog_17_method_8_code 1 = .ok (.getfield 22, 3) := by decide +kernel
theorem own_b7_d4 : decode prog_17_method_8_code 4 = .ok (.areturn, 1) := by decide +kernel
theorem own_ef_rm7 (m : MethodId) (x0 : Addr) : entryFrame m #[(.ref x0)] 1 = mkF m 0 #[.val (.ref x0)] [] := by first | (simp [entryFrame, mkF, argsToLocals, Value.category]; done) | rfl
def Q7 (Z : State) (a : Addr) (u : Value) (h0 : Heap) (n0 : Nat) (v : Option Value) (h : Heap) (L : List Loc) : Prop := v = some u ∧ Fr n0 L ∧ h = h0
set_option maxRecDepth 65536 in
set_option maxHeartbeats 40000000 in
theorem rm7 (l : Launch) (Z : State) (a0 : Array Value) (hw : ∀ d ∈ tables_1, d.before a0 Z = true) (ws : List Jvm.Cond) (a : Addr) (u : Value) (h0 : Heap) (n0 : Nat) (Z0 : n0 ≤ h0.size) (hu : u.isRef = true) (F : Fld Z h0 a "com/example/serialine/serialine/Version" "older" "Lcom/example/serialine/serialine/Version;" u) :
    MetFree l (⟨"com/example/serialine/serialine/Version", "older", "()Lcom/example/serialine/serialine/Version;"⟩ : MethodName) (head1 (Jvm.Cond.code (⟨"com/example/serialine/serialine/Version", "older", "()Lcom/example/serialine/serialine/Version;"⟩ : MethodName) prog_17_method_8_code 1 (some (.object "com/example/serialine/serialine/Version")) :: ws) ({ frames := 0, cells := 0, slots := 0, locals := 0 } : Room)) (fun aa_ U_ => aa_ = #[(.ref a)] ∧ Z.Warmed39 U_.vm ∧ U_.heap = h0) (fun _ _ _ _ _ => True) (fun _ U_ o_ U1_ => ∃ v_ L_, o_ = .returned v_ ∧ Q7 Z a u h0 n0 v_ U1_.heap L_ ∧ FrameEnd U_ o_ U1_ L_ ({ frames := 0, cells := 0, slots := 0, locals := 0 } : Room).cells ({ frames := 0, cells := 0, slots := 0, locals := 0 } : Room).slots) := by
  refine MetFree.of_bodySF (plainFor_of_name own_pn0) hisR ?_
  intro p e s m args below meth c s₁ Bd hml0 hP hK
  obtain ⟨rfl, hZ, hh⟩ := hP
  have hx := Bd.exec
  have hby := Bd.bytes
  have hlk := Bd.notSynchronized
  have hml : c.maxLocals = 1 := hml0
  have hown : s.vm.findClass "com/example/serialine/serialine/Version" = some m.cls := findClass_of_methodNamed Bd.named
  have hnm := (name_of_methodNamed Bd.named Bd.method).1
  have X0 : Stand p l e ({ frames := 0, cells := 0, slots := 0, locals := 0 } : Room) s m #[(.ref a)] below meth c s₁ [] 0 0 := Stand.of_body Bd
  have e0 : s₁.heap = h0 := by rw [← hh, Bd.state]; rfl
  have N0 := Fr.nil n0
  show own_E p e below s (Q7 Z a u h0 n0) ({ frames := 0, cells := 0, slots := 0, locals := 0 } : Room).cells ({ frames := 0, cells := 0, slots := 0, locals := 0 } : Room).slots (s₁.setTop (entryFrame m #[(.ref a)] 1))
  refine own_st (B := s₁.setTop (mkF m 0 #[.val (.ref a)] [])) (fun t_ k_ => castTop (own_ef_rm7 m a) k_) ?_
  refine own_st (B := s₁.setTop (mkF m 1 #[.val (.ref a)] [(.ref a)])) (fun t_ k_ => XS.aloadN X0.here hx rfl (hb hby own_b7_d0) rfl rfl k_) ?_
  obtain ⟨T1, X1, e1, st1⟩ := getF X0 hx hZ hown (host := "") (Or.inl (hw _ (List.mem_of_getElem? (i := 21) rfl))) Via.refl e0 F (g := (mkF m 1 #[.val (.ref a)] [(.ref a)])) rfl rfl (hb hby own_b7_d1)
  refine own_st (B := T1.setTop (mkF m 4 #[.val (.ref a)] [u])) st1 ?_
  refine own_retR X1 hx hu Bd.returns rfl hlk (hb hby own_b7_d4) (by decide) (by decide) ?_
  show Q7 Z a u h0 n0 _ T1.heap _
  rw [e1]
  exact ⟨rfl, N0, rfl⟩
theorem own_b8_d0 : decode prog_17_method_9_code 0 = .ok (.aload_n 0, 1) := by decide +kernel
theorem own_b8_d1 : decode prog_17_method_9_code 1 = .ok (.astore_n 3, 1) := by decide +kernel
theorem own_b8_d2 : decode prog_17_method_9_code 2 = .ok (.aload_n 3, 1) := by decide +kernel
theorem own_b8_d3 : decode prog_17_method_9_code 3 = .ok (.ifnull 20, 3) := by decide +kernel
theorem own_b8_d6 : decode prog_17_method_9_code 6 = .ok (.aload_n 3, 1) := by decide +kernel
theorem own_b8_d7 : decode prog_17_method_9_code 7 = .ok (.getfield 9, 3) := by decide +kernel
theorem own_b8_d10 : decode prog_17_method_9_code 10 = .ok (.lload_n 1, 1) := by decide +kernel
theorem own_b8_d11 : decode prog_17_method_9_code 11 = .ok (.lcmp, 1) := by decide +kernel
theorem own_b8_d12 : decode prog_17_method_9_code 12 = .ok (.ifCond .le 11, 3) := by decide +kernel
theorem own_b8_d15 : decode prog_17_method_9_code 15 = .ok (.aload_n 3, 1) := by decide +kernel
theorem own_b8_d16 : decode prog_17_method_9_code 16 = .ok (.getfield 22, 3) := by decide +kernel
theorem own_b8_d19 : decode prog_17_method_9_code 19 = .ok (.astore_n 3, 1) := by decide +kernel
theorem own_b8_d20 : decode prog_17_method_9_code 20 = .ok (.goto (-18), 3) := by decide +kernel
theorem own_b8_d23 : decode prog_17_method_9_code 23 = .ok (.aload_n 3, 1) := by decide +kernel
theorem own_b8_d24 : decode prog_17_method_9_code 24 = .ok (.areturn, 1) := by decide +kernel
theorem own_ef_rm8 (m : MethodId) (x0 : Addr) (x1 : Int64) : entryFrame m #[(.ref x0), (.long x1)] 4 = mkF m 0 #[.val (.ref x0), .val (.long x1), .second, .unset] [] := by first | (simp [entryFrame, mkF, argsToLocals, Value.category]; done) | rfl
def Q8 (Z : State) (a : Addr) (x0 : Int64) (x1 : Int64) (h0 : Heap) (n0 : Nat) (v : Option Value) (h : Heap) (L : List Loc) : Prop := v = some (own_at a x0 x1) ∧ Fr n0 L ∧ h = h0
set_option maxRecDepth 65536 in
set_option maxHeartbeats 40000000 in
theorem rm8 (l : Launch) (Z : State) (a0 : Array Value) (hw : ∀ d ∈ tables_1, d.before a0 Z = true) (ws : List Jvm.Cond) (a : Addr) (x0 : Int64) (x1 : Int64) (h0 : Heap) (n0 : Nat) (Z0 : n0 ≤ h0.size) (F0 : Fld Z h0 a "com/example/serialine/serialine/Version" "commit" "J" (.long x0)) (F1 : Fld Z h0 a "com/example/serialine/serialine/Version" "older" "Lcom/example/serialine/serialine/Version;" .null) :
    MetFree l (⟨"com/example/serialine/serialine/Version", "at", "(J)Lcom/example/serialine/serialine/Version;"⟩ : MethodName) (head1 (Jvm.Cond.code (⟨"com/example/serialine/serialine/Version", "at", "(J)Lcom/example/serialine/serialine/Version;"⟩ : MethodName) prog_17_method_9_code 4 (some (.object "com/example/serialine/serialine/Version")) :: ws) ({ frames := 0, cells := 0, slots := 0, locals := 0 } : Room)) (fun aa_ U_ => aa_ = #[(.ref a), (.long x1)] ∧ Z.Warmed39 U_.vm ∧ U_.heap = h0) (fun _ _ _ _ _ => True) (fun _ U_ o_ U1_ => ∃ v_ L_, o_ = .returned v_ ∧ Q8 Z a x0 x1 h0 n0 v_ U1_.heap L_ ∧ FrameEnd U_ o_ U1_ L_ ({ frames := 0, cells := 0, slots := 0, locals := 0 } : Room).cells ({ frames := 0, cells := 0, slots := 0, locals := 0 } : Room).slots) := by
  refine MetFree.of_bodySF (plainFor_of_name own_pn0) hisR ?_
  intro p e s m args below meth c s₁ Bd hml0 hP hK
  obtain ⟨rfl, hZ, hh⟩ := hP
  have hx := Bd.exec
  have hby := Bd.bytes
  have hlk := Bd.notSynchronized
  have hml : c.maxLocals = 4 := hml0
  have hown : s.vm.findClass "com/example/serialine/serialine/Version" = some m.cls := findClass_of_methodNamed Bd.named
  have hnm := (name_of_methodNamed Bd.named Bd.method).1
  have X0 : Stand p l e ({ frames := 0, cells := 0, slots := 0, locals := 0 } : Room) s m #[(.ref a), (.long x1)] below meth c s₁ [] 0 0 := Stand.of_body Bd
  have e0 : s₁.heap = h0 := by rw [← hh, Bd.state]; rfl
  have N0 := Fr.nil n0
  show own_E p e below s (Q8 Z a x0 x1 h0 n0) ({ frames := 0, cells := 0, slots := 0, locals := 0 } : Room).cells ({ frames := 0, cells := 0, slots := 0, locals := 0 } : Room).slots (s₁.setTop (entryFrame m #[(.ref a), (.long x1)] 4))
  refine own_st (B := s₁.setTop (mkF m 0 #[.val (.ref a), .val (.long x1), .second, .unset] [])) (fun t_ k_ => castTop (own_ef_rm8 m a x1) k_) ?_
  refine own_st (B := s₁.setTop (mkF m 1 #[.val (.ref a), .val (.long x1), .second, .unset] [(.ref a)])) (fun t_ k_ => XS.aloadN X0.here hx rfl (hb hby own_b8_d0) rfl rfl k_) ?_
  refine own_st (B := s₁.setTop (mkF m 2 #[.val (.ref a), .val (.long x1), .second, .val (.ref a)] [])) (fun t_ k_ => XS.astoreN X0.here hx rfl (hb hby own_b8_d1) rfl rfl (l' := #[.val (.ref a), .val (.long x1), .second, .val (.ref a)]) rfl k_) ?_
  refine own_st (B := s₁.setTop (mkF m 3 #[.val (.ref a), .val (.long x1), .second, .val (.ref a)] [(.ref a)])) (fun t_ k_ => XS.aloadN X0.here hx rfl (hb hby own_b8_d2) rfl rfl k_) ?_
  refine own_st (B := s₁.setTop (mkF m 6 #[.val (.ref a), .val (.long x1), .second, .val (.ref a)] [])) (fun t_ k_ => XS.ifnullNo X0.here hx rfl (hb hby own_b8_d3) rfl k_) ?_
  refine own_st (B := s₁.setTop (mkF m 7 #[.val (.ref a), .val (.long x1), .second, .val (.ref a)] [(.ref a)])) (fun t_ k_ => XS.aloadN X0.here hx rfl (hb hby own_b8_d6) rfl rfl k_) ?_
  obtain ⟨T1, X1, e1, st1⟩ := getF X0 hx hZ hown (host := "") (Or.inl (hw _ (List.mem_of_getElem? (i := 15) rfl))) Via.refl e0 F0 (g := (mkF m 7 #[.val (.ref a), .val (.long x1), .second, .val (.ref a)] [(.ref a)])) rfl rfl (hb hby own_b8_d7)
  refine own_st (B := T1.setTop (mkF m 10 #[.val (.ref a), .val (.long x1), .second, .val (.ref a)] [(.long x0)])) st1 ?_
  refine own_st (B := T1.setTop (mkF m 11 #[.val (.ref a), .val (.long x1), .second, .val (.ref a)] [(.long x1), (.long x0)])) (fun t_ k_ => XS.lloadN X1.here hx rfl (hb hby own_b8_d10) rfl k_) ?_
  refine own_st (B := T1.setTop (mkF m 12 #[.val (.ref a), .val (.long x1), .second, .val (.ref a)] [(.int (lcmpW x0 x1))])) (fun t_ k_ => XS.lcmp X1.here hx rfl (hb hby own_b8_d11) rfl k_) ?_
  by_cases hc2 : x1 < x0
  · have hd2 := own_lt64 hc2
    refine own_st (B := T1.setTop (mkF m 15 #[.val (.ref a), .val (.long x1), .second, .val (.ref a)] [])) (fun t_ k_ => XS.ifNo X1.here hx rfl (hb hby own_b8_d12) rfl ((if0 _ _).trans (tlt ((lw_gt _ _).mpr hc2)).2.2.2) k_) ?_
    refine own_st (B := T1.setTop (mkF m 16 #[.val (.ref a), .val (.long x1), .second, .val (.ref a)] [(.ref a)])) (fun t_ k_ => XS.aloadN X1.here hx rfl (hb hby own_b8_d15) rfl rfl k_) ?_
    obtain ⟨T3, X3, e3, st3⟩ := getF X1 hx hZ hown (host := "") (Or.inl (hw _ (List.mem_of_getElem? (i := 21) rfl))) Via.refl e1 F1 (g := (mkF m 16 #[.val (.ref a), .val (.long x1), .second, .val (.ref a)] [(.ref a)])) rfl rfl (hb hby own_b8_d16)
    refine own_st (B := T3.setTop (mkF m 19 #[.val (.ref a), .val (.long x1), .second, .val (.ref a)] [.null])) st3 ?_
    refine own_st (B := T3.setTop (mkF m 20 #[.val (.ref a), .val (.long x1), .second, .val .null] [])) (fun t_ k_ => XS.astoreN X3.here hx rfl (hb hby own_b8_d19) rfl rfl (l' := #[.val (.ref a), .val (.long x1), .second, .val .null]) rfl k_) ?_
    refine own_st (B := T3.setTop (mkF m 2 #[.val (.ref a), .val (.long x1), .second, .val .null] [])) (fun t_ k_ => XS.goto X3.here hx rfl (pc0 := 20) (pc' := 2) rfl (hb hby own_b8_d20) (by decide) (by decide) k_) ?_
    refine own_st (B := T3.setTop (mkF m 3 #[.val (.ref a), .val (.long x1), .second, .val .null] [.null])) (fun t_ k_ => XS.aloadN X3.here hx rfl (hb hby own_b8_d2) rfl rfl k_) ?_
    refine own_st (B := T3.setTop (mkF m 23 #[.val (.ref a), .val (.long x1), .second, .val .null] [])) (fun t_ k_ => XS.ifnullYes X3.here hx rfl (pc0 := 3) (pc' := 23) rfl (hb hby own_b8_d3) rfl (by decide) (by decide) k_) ?_
    refine own_st (B := T3.setTop (mkF m 24 #[.val (.ref a), .val (.long x1), .second, .val .null] [.null])) (fun t_ k_ => XS.aloadN X3.here hx rfl (hb hby own_b8_d23) rfl rfl k_) ?_
    refine own_retR X3 hx rfl Bd.returns rfl hlk (hb hby own_b8_d24) (by decide) (by decide) ?_
    show Q8 Z a x0 x1 h0 n0 _ T3.heap _
    rw [e3]
    exact ⟨by simp [own_at, hc2], N0, rfl⟩
  · have hd2 := own_nlt64 hc2
    refine own_st (B := T1.setTop (mkF m 23 #[.val (.ref a), .val (.long x1), .second, .val (.ref a)] [])) (fun t_ k_ => XS.ifYes X1.here hx rfl (pc0 := 12) (pc' := 23) rfl (hb hby own_b8_d12) rfl ((if0 _ _).trans (flt (fun q => hc2 ((lw_gt _ _).mp q))).2.2.2) (by decide) (by decide) k_) ?_
    refine own_st (B := T1.setTop (mkF m 24 #[.val (.ref a), .val (.long x1), .second, .val (.ref a)] [(.ref a)])) (fun t_ k_ => XS.aloadN X1.here hx rfl (hb hby own_b8_d23) rfl rfl k_) ?_
    refine own_retR X1 hx rfl Bd.returns rfl hlk (hb hby own_b8_d24) (by decide) (by decide) ?_
    show Q8 Z a x0 x1 h0 n0 _ T1.heap _
    rw [e1]
    exact ⟨by simp [own_at, hc2], N0, rfl⟩
theorem own_lm {z : Int64} (h : ¬ z = (9223372036854775807 : Int64)) : z < (9223372036854775807 : Int64) := by
  have h1 := own_neq64 h; have h2 := rng64 z
  rw [show (9223372036854775807 : Int64).toInt = 9223372036854775807 from rfl] at h1
  rw [Int64.lt_iff_toInt_lt, show (9223372036854775807 : Int64).toInt = 9223372036854775807 from rfl]; omega
theorem own_pd1 : parseMethodDescriptor "(J[B)Lcom/example/serialine/serialine/Version;" = some ⟨[.long, (.array .byte)], some (.object "com/example/serialine/serialine/Version")⟩ := by decide +kernel
theorem own_pd2 : parseMethodDescriptor "()J" = some ⟨[], some .long⟩ := by decide +kernel
theorem own_pd3 : parseMethodDescriptor "()[B" = some ⟨[], some (.array .byte)⟩ := by decide +kernel
theorem own_pd4 : parseMethodDescriptor "()Lcom/example/serialine/serialine/Version;" = some ⟨[], some (.object "com/example/serialine/serialine/Version")⟩ := by decide +kernel
theorem own_pd5 : parseMethodDescriptor "(J)Lcom/example/serialine/serialine/Version;" = some ⟨[.long], some (.object "com/example/serialine/serialine/Version")⟩ := by decide +kernel
theorem own_pn1 : plainName "com/example/serialine/serialine/VersionUncommittedPinLaw" = true := by first | (simp [plainName, overriddenIn]; done) | decide +kernel
theorem own_ef_rm0 (m : MethodId) (x0 : Int64) (x1 : Int32) (x2 : Int32) (x3 : Int64) : entryFrame m #[(.long x0), (.int x1), (.int x2), (.long x3)] maxLocals = mkF m 0 #[.val (.long x0), .second, .val (.int x1), .val (.int x2), .val (.long x3), .second, .unset, .unset, .unset, .unset, .unset, .unset, .unset, .unset] [] := by first | (simp [entryFrame, mkF, argsToLocals, Value.category, maxLocals]; done) | rfl
def Q0 (Z : State) (u0 : Int64) (u1 : Int32) (u2 : Int32) (u3 : Int64) (h0 : Heap) (n0 : Nat) (v : Option Value) (h : Heap) (L : List Loc) : Prop := v = some (.int 1) ∧ Fr n0 L
set_option maxRecDepth 65536 in
set_option maxHeartbeats 40000000 in
theorem rm0 (l : Launch) (Z : State) (a0 : Array Value) (hw : ∀ d ∈ tables_1, d.before a0 Z = true) (ws : List Jvm.Cond) (u0 : Int64) (u1 : Int32) (u2 : Int32) (u3 : Int64) (h0 : Heap) (n0 : Nat) (Z0 : n0 ≤ h0.size) :
    MetFree l x (head1 (Jvm.Cond.code x code maxLocals ret :: ws) room_1) (fun aa_ U_ => aa_ = #[(.long u0), (.int u1), (.int u2), (.long u3)] ∧ Z.Warmed39 U_.vm ∧ U_.heap = h0) (fun _ _ _ _ _ => True) (fun _ U_ o_ U1_ => ∃ v_ L_, o_ = .returned v_ ∧ Q0 Z u0 u1 u2 u3 h0 n0 v_ U1_.heap L_ ∧ FrameEnd U_ o_ U1_ L_ 2 5) := by
  refine MetFree.of_bodySF (plainFor_of_name own_pn1) hisR ?_
  intro p e s m args below meth c s₁ Bd hml0 hP hK
  obtain ⟨rfl, hZ, hh⟩ := hP
  have hx := Bd.exec
  have hby := Bd.bytes
  have hlk := Bd.notSynchronized
  have hml : c.maxLocals = 14 := hml0
  have hown : s.vm.findClass "com/example/serialine/serialine/VersionUncommittedPinLaw" = some m.cls := findClass_of_methodNamed Bd.named
  have hnm := (name_of_methodNamed Bd.named Bd.method).1
  have X0 : Stand p l e room_1 s m #[(.long u0), (.int u1), (.int u2), (.long u3)] below meth c s₁ [] 0 0 := Stand.of_body Bd
  have e0 : s₁.heap = h0 := by rw [← hh, Bd.state]; rfl
  have N0 := Fr.nil n0
  show own_E p e below s (Q0 Z u0 u1 u2 u3 h0 n0) 2 5 (s₁.setTop (entryFrame m #[(.long u0), (.int u1), (.int u2), (.long u3)] maxLocals))
  refine own_st (B := s₁.setTop (mkF m 0 #[.val (.long u0), .second, .val (.int u1), .val (.int u2), .val (.long u3), .second, .unset, .unset, .unset, .unset, .unset, .unset, .unset, .unset] [])) (fun t_ k_ => castTop (own_ef_rm0 m u0 u1 u2 u3) k_) ?_
  refine own_st (B := s₁.setTop (mkF m 1 #[.val (.long u0), .second, .val (.int u1), .val (.int u2), .val (.long u3), .second, .unset, .unset, .unset, .unset, .unset, .unset, .unset, .unset] [(.int u1)])) (fun t_ k_ => XS.iloadN X0.here hx rfl (hb hby at_0) rfl k_) ?_
  refine own_st (B := s₁.setTop (mkF m 2 #[.val (.long u0), .second, .val (.int u1), .val (.int u2), .val (.long u3), .second, .unset, .unset, .unset, .unset, .unset, .unset, .unset, .unset] [(.int (1 : Int32)), (.int u1)])) (fun t_ k_ => XS.iconst X0.here hx rfl (hb hby at_1) k_) ?_
  refine own_st (B := s₁.setTop (mkF m 3 #[.val (.long u0), .second, .val (.int u1), .val (.int u2), .val (.long u3), .second, .unset, .unset, .unset, .unset, .unset, .unset, .unset, .unset] [(.int (u1 &&& (1 : Int32)))])) (fun t_ k_ => XS.iand X0.here hx rfl (hb hby at_2) rfl k_) ?_
  by_cases hc1 : (u1 &&& (1 : Int32)) = (0 : Int32)
  · have hd1 := own_eq32 hc1
    rw [show (0 : Int32).toInt = 0 from rfl] at hd1
    refine own_st (B := s₁.setTop (mkF m 10 #[.val (.long u0), .second, .val (.int u1), .val (.int u2), .val (.long u3), .second, .unset, .unset, .unset, .unset, .unset, .unset, .unset, .unset] [])) (fun t_ k_ => XS.ifYes X0.here hx rfl (pc0 := 3) (pc' := 10) rfl (hb hby at_3) rfl ((if0 _ _).trans (teq hc1).1) (by decide) (by decide) k_) ?_
    refine own_st (B := s₁.setTop (mkF m 11 #[.val (.long u0), .second, .val (.int u1), .val (.int u2), .val (.long u3), .second, .unset, .unset, .unset, .unset, .unset, .unset, .unset, .unset] [(.int (0 : Int32))])) (fun t_ k_ => XS.iconst X0.here hx rfl (hb hby at_10) k_) ?_
    refine own_st (B := s₁.setTop (mkF m 13 #[.val (.long u0), .second, .val (.int u1), .val (.int u2), .val (.long u3), .second, .val (.int (0 : Int32)), .unset, .unset, .unset, .unset, .unset, .unset, .unset] [])) (fun t_ k_ => XS.istore X0.here hx rfl (hb hby at_11) rfl (l' := #[.val (.long u0), .second, .val (.int u1), .val (.int u2), .val (.long u3), .second, .val (.int (0 : Int32)), .unset, .unset, .unset, .unset, .unset, .unset, .unset]) rfl k_) ?_
    refine own_st (B := s₁.setTop (mkF m 14 #[.val (.long u0), .second, .val (.int u1), .val (.int u2), .val (.long u3), .second, .val (.int (0 : Int32)), .unset, .unset, .unset, .unset, .unset, .unset, .unset] [(.int u1)])) (fun t_ k_ => XS.iloadN X0.here hx rfl (hb hby at_13) rfl k_) ?_
    refine own_st (B := s₁.setTop (mkF m 15 #[.val (.long u0), .second, .val (.int u1), .val (.int u2), .val (.long u3), .second, .val (.int (0 : Int32)), .unset, .unset, .unset, .unset, .unset, .unset, .unset] [(.int (2 : Int32)), (.int u1)])) (fun t_ k_ => XS.iconst X0.here hx rfl (hb hby at_14) k_) ?_
    refine own_st (B := s₁.setTop (mkF m 16 #[.val (.long u0), .second, .val (.int u1), .val (.int u2), .val (.long u3), .second, .val (.int (0 : Int32)), .unset, .unset, .unset, .unset, .unset, .unset, .unset] [(.int (u1 &&& (2 : Int32)))])) (fun t_ k_ => XS.iand X0.here hx rfl (hb hby at_15) rfl k_) ?_
    by_cases hc2 : (u1 &&& (2 : Int32)) = (0 : Int32)
    · have hd2 := own_eq32 hc2
      rw [show (0 : Int32).toInt = 0 from rfl] at hd2
      refine own_st (B := s₁.setTop (mkF m 23 #[.val (.long u0), .second, .val (.int u1), .val (.int u2), .val (.long u3), .second, .val (.int (0 : Int32)), .unset, .unset, .unset, .unset, .unset, .unset, .unset] [])) (fun t_ k_ => XS.ifYes X0.here hx rfl (pc0 := 16) (pc' := 23) rfl (hb hby at_16) rfl ((if0 _ _).trans (teq hc2).1) (by decide) (by decide) k_) ?_
      refine own_st (B := s₁.setTop (mkF m 24 #[.val (.long u0), .second, .val (.int u1), .val (.int u2), .val (.long u3), .second, .val (.int (0 : Int32)), .unset, .unset, .unset, .unset, .unset, .unset, .unset] [(.int (0 : Int32))])) (fun t_ k_ => XS.iconst X0.here hx rfl (hb hby at_23) k_) ?_
      refine own_st (B := s₁.setTop (mkF m 26 #[.val (.long u0), .second, .val (.int u1), .val (.int u2), .val (.long u3), .second, .val (.int (0 : Int32)), .val (.int (0 : Int32)), .unset, .unset, .unset, .unset, .unset, .unset] [])) (fun t_ k_ => XS.istore X0.here hx rfl (hb hby at_24) rfl (l' := #[.val (.long u0), .second, .val (.int u1), .val (.int u2), .val (.long u3), .second, .val (.int (0 : Int32)), .val (.int (0 : Int32)), .unset, .unset, .unset, .unset, .unset, .unset]) rfl k_) ?_
      refine own_st (B := s₁.setTop (mkF m 28 #[.val (.long u0), .second, .val (.int u1), .val (.int u2), .val (.long u3), .second, .val (.int (0 : Int32)), .val (.int (0 : Int32)), .unset, .unset, .unset, .unset, .unset, .unset] [(.int (0 : Int32))])) (fun t_ k_ => XS.iload X0.here hx rfl (hb hby at_26) rfl k_) ?_
      refine own_st (B := s₁.setTop (mkF m 37 #[.val (.long u0), .second, .val (.int u1), .val (.int u2), .val (.long u3), .second, .val (.int (0 : Int32)), .val (.int (0 : Int32)), .unset, .unset, .unset, .unset, .unset, .unset] [])) (fun t_ k_ => XS.ifYes X0.here hx rfl (pc0 := 28) (pc' := 37) rfl (hb hby at_28) rfl ((if0 _ _).trans (teq (by decide : (0 : Int32) = (0 : Int32))).1) (by decide) (by decide) k_) ?_
      refine own_st (B := s₁.setTop (mkF m 39 #[.val (.long u0), .second, .val (.int u1), .val (.int u2), .val (.long u3), .second, .val (.int (0 : Int32)), .val (.int (0 : Int32)), .unset, .unset, .unset, .unset, .unset, .unset] [(.long u3)])) (fun t_ k_ => XS.lload X0.here hx rfl (hb hby at_37) rfl k_) ?_
      refine own_st (B := s₁.setTop (mkF m 41 #[.val (.long u0), .second, .val (.int u1), .val (.int u2), .val (.long u3), .second, .val (.int (0 : Int32)), .val (.int (0 : Int32)), .val (.long u3), .second, .unset, .unset, .unset, .unset] [])) (fun t_ k_ => XS.lstore X0.here hx rfl (hb hby at_39) rfl (l' := #[.val (.long u0), .second, .val (.int u1), .val (.int u2), .val (.long u3), .second, .val (.int (0 : Int32)), .val (.int (0 : Int32)), .val (.long u3), .second, .unset, .unset, .unset, .unset]) rfl k_) ?_
      refine own_st (B := s₁.setTop (mkF m 43 #[.val (.long u0), .second, .val (.int u1), .val (.int u2), .val (.long u3), .second, .val (.int (0 : Int32)), .val (.int (0 : Int32)), .val (.long u3), .second, .unset, .unset, .unset, .unset] [(.int (0 : Int32))])) (fun t_ k_ => XS.iload X0.here hx rfl (hb hby at_41) rfl k_) ?_
      refine own_st (B := s₁.setTop (mkF m 50 #[.val (.long u0), .second, .val (.int u1), .val (.int u2), .val (.long u3), .second, .val (.int (0 : Int32)), .val (.int (0 : Int32)), .val (.long u3), .second, .unset, .unset, .unset, .unset] [])) (fun t_ k_ => XS.ifYes X0.here hx rfl (pc0 := 43) (pc' := 50) rfl (hb hby at_43) rfl ((if0 _ _).trans (teq (by decide : (0 : Int32) = (0 : Int32))).1) (by decide) (by decide) k_) ?_
      refine own_st (B := s₁.setTop (mkF m 51 #[.val (.long u0), .second, .val (.int u1), .val (.int u2), .val (.long u3), .second, .val (.int (0 : Int32)), .val (.int (0 : Int32)), .val (.long u3), .second, .unset, .unset, .unset, .unset] [(.int (1 : Int32))])) (fun t_ k_ => XS.iconst X0.here hx rfl (hb hby at_50) k_) ?_
      obtain ⟨T3, h3, k3, X3, e3, E3, A3, G3, st3⟩ := newPE X0 hx hZ (hw _ (List.mem_of_getElem? (i := 1) rfl)) e0 (g := (mkF m 51 #[.val (.long u0), .second, .val (.int u1), .val (.int u2), .val (.long u3), .second, .val (.int (0 : Int32)), .val (.int (0 : Int32)), .val (.long u3), .second, .unset, .unset, .unset, .unset] [(.int (1 : Int32))])) rfl (hb hby at_51) rfl (by decide) (cap := 1) (by decide) (by decide) (by decide) (by decide) (ad := "[B") (by decide)
      obtain ⟨b3, g3⟩ : ∃ z, z = h0.size := ⟨_, rfl⟩
      rw [← g3] at A3 G3 st3
      have g4 : n0 ≤ b3 := Nat.le_trans Z0 (Nat.le_of_eq g3.symm)
      have Z5 := Nat.le_trans Z0 E3.1
      have a3 : own_A Z h3 b3 .byte 1 (fun _ => 0) := own_A.new A3 (by decide) rfl
      refine own_st (B := T3.setTop (mkF m 53 #[.val (.long u0), .second, .val (.int u1), .val (.int u2), .val (.long u3), .second, .val (.int (0 : Int32)), .val (.int (0 : Int32)), .val (.long u3), .second, .unset, .unset, .unset, .unset] [(.ref b3)])) st3 ?_
      refine own_st (B := T3.setTop (mkF m 54 #[.val (.long u0), .second, .val (.int u1), .val (.int u2), .val (.long u3), .second, .val (.int (0 : Int32)), .val (.int (0 : Int32)), .val (.long u3), .second, .unset, .unset, .unset, .unset] [(.ref b3), (.ref b3)])) (fun t_ k_ => XS.dup X3.here hx rfl (hb hby at_53) rfl rfl k_) ?_
      refine own_st (B := T3.setTop (mkF m 55 #[.val (.long u0), .second, .val (.int u1), .val (.int u2), .val (.long u3), .second, .val (.int (0 : Int32)), .val (.int (0 : Int32)), .val (.long u3), .second, .unset, .unset, .unset, .unset] [(.int (0 : Int32)), (.ref b3), (.ref b3)])) (fun t_ k_ => XS.iconst X3.here hx rfl (hb hby at_54) k_) ?_
      refine own_st (B := T3.setTop (mkF m 56 #[.val (.long u0), .second, .val (.int u1), .val (.int u2), .val (.long u3), .second, .val (.int (0 : Int32)), .val (.int (0 : Int32)), .val (.long u3), .second, .unset, .unset, .unset, .unset] [(.int u2), (.int (0 : Int32)), (.ref b3), (.ref b3)])) (fun t_ k_ => XS.iloadN X3.here hx rfl (hb hby at_55) rfl k_) ?_
      refine own_st (B := T3.setTop (mkF m 57 #[.val (.long u0), .second, .val (.int u1), .val (.int u2), .val (.long u3), .second, .val (.int (0 : Int32)), .val (.int (0 : Int32)), .val (.long u3), .second, .unset, .unset, .unset, .unset] [(.int (u2.toInt8.toInt32)), (.int (0 : Int32)), (.ref b3), (.ref b3)])) (fun t_ k_ => XS.i2b X3.here hx rfl (hb hby at_56) rfl k_) ?_
      obtain ⟨T6, h6, X6, e6, W6, a6, st6⟩ := own_stB X3 hx hZ e3 a3 (i := 0) (j := (0 : Int32)) (by decide) (by decide) (pc := 57) (x := (u2.toInt8.toInt32)) (Ls := #[.val (.long u0), .second, .val (.int u1), .val (.int u2), .val (.long u3), .second, .val (.int (0 : Int32)), .val (.int (0 : Int32)), .val (.long u3), .second, .unset, .unset, .unset, .unset]) (rest := [(.ref b3)]) (hb hby at_57)
      have N6 := Fr.snoc X6 N0 g4
      have Z7 := Nat.le_trans Z5 (Keep.of_wr W6).1
      refine own_st (B := T6.setTop (mkF m 58 #[.val (.long u0), .second, .val (.int u1), .val (.int u2), .val (.long u3), .second, .val (.int (0 : Int32)), .val (.int (0 : Int32)), .val (.long u3), .second, .unset, .unset, .unset, .unset] [(.ref b3)])) st6 ?_
      refine own_st (B := T6.setTop (mkF m 60 #[.val (.long u0), .second, .val (.int u1), .val (.int u2), .val (.long u3), .second, .val (.int (0 : Int32)), .val (.int (0 : Int32)), .val (.long u3), .second, .val (.ref b3), .unset, .unset, .unset] [])) (fun t_ k_ => XS.astore X6.here hx rfl (hb hby at_58) rfl rfl (l' := #[.val (.long u0), .second, .val (.int u1), .val (.int u2), .val (.long u3), .second, .val (.int (0 : Int32)), .val (.int (0 : Int32)), .val (.long u3), .second, .val (.ref b3), .unset, .unset, .unset]) rfl k_) ?_
      refine own_st (B := T6.setTop (mkF m 61 #[.val (.long u0), .second, .val (.int u1), .val (.int u2), .val (.long u3), .second, .val (.int (0 : Int32)), .val (.int (0 : Int32)), .val (.long u3), .second, .val (.ref b3), .unset, .unset, .unset] [(.long u0)])) (fun t_ k_ => XS.lloadN X6.here hx rfl (hb hby at_60) rfl k_) ?_
      refine own_st (B := T6.setTop (mkF m 63 #[.val (.long u0), .second, .val (.int u1), .val (.int u2), .val (.long u3), .second, .val (.int (0 : Int32)), .val (.int (0 : Int32)), .val (.long u3), .second, .val (.ref b3), .unset, .unset, .unset] [(.ref b3), (.long u0)])) (fun t_ k_ => XS.aload X6.here hx rfl (hb hby at_61) rfl rfl k_) ?_
      obtain ⟨_, _, ⟨T8, L8, k8, n8⟩, -, X8, ⟨Lc8, hQ8, l8, y8, z8⟩, st8⟩ := Jvm.LawKit.callS X6 hx (y := (⟨"com/example/serialine/serialine/Version", "uncommitted", "(J[B)Lcom/example/serialine/serialine/Version;"⟩ : MethodName)) hown (mvT hZ (hw _ (List.mem_of_getElem? (i := 2) rfl))) (mvT hZ (hw _ (List.mem_of_getElem? (i := 3) rfl))) (mvT hZ (hw _ (List.mem_of_getElem? (i := 4) rfl))) (mvT hZ (hw _ (List.mem_of_getElem? (i := 5) rfl))) (by decide) (backOf (W := 0) (rm1 l Z a0 hw [] u0 (.ref b3) h6 n0 Z7 rfl) hZ (hw _ (List.mem_of_getElem? (i := 5) rfl)) (hw _ (List.mem_of_getElem? (i := 4) rfl)) (by decide) (by decide)) (g := (mkF m 63 #[.val (.long u0), .second, .val (.int u1), .val (.int u2), .val (.long u3), .second, .val (.int (0 : Int32)), .val (.int (0 : Int32)), .val (.long u3), .second, .val (.ref b3), .unset, .unset, .unset] [(.ref b3), (.long u0)])) rfl (by rw [hml]; rfl) (argsL := [(.long u0), (.ref b3)]) (rest := []) (lenOf own_pd1 rfl) rfl (by show 2 * 0 + _ ≤ _; exact Nat.le_of_eq rfl) (hb hby at_63) (fun _ _ => ⟨rfl, e6, (by decide : 1 + 1 ≤ _), (by decide : 1 + 4 ≤ _)⟩)
      dsimp only [Pt.U, Pt.locs, Pt.cells, Pt.slots] at X8 l8 y8 z8 st8 hQ8
      subst l8 y8 z8
      obtain ⟨d8, rfl, N8q, K8, gb8, Eb8, Fb8_0, Fb8_1, Fb8_2, Fb8_3⟩ := hQ8
      have N8 := Fr.app N6 N8q
      have ne9 : b3 ≠ d8 := Nat.ne_of_lt (Nat.lt_of_lt_of_le a6.lt gb8)
      have g10 : n0 ≤ d8 := Nat.le_trans Z7 gb8
      have Z11 := Nat.le_trans Z7 K8.1
      refine own_st (B := T8.setTop (mkF m 66 #[.val (.long u0), .second, .val (.int u1), .val (.int u2), .val (.long u3), .second, .val (.int (0 : Int32)), .val (.int (0 : Int32)), .val (.long u3), .second, .val (.ref b3), .unset, .unset, .unset] [(.ref d8)])) st8 ?_
      refine own_st (B := T8.setTop (mkF m 68 #[.val (.long u0), .second, .val (.int u1), .val (.int u2), .val (.long u3), .second, .val (.int (0 : Int32)), .val (.int (0 : Int32)), .val (.long u3), .second, .val (.ref b3), .val (.ref d8), .unset, .unset] [])) (fun t_ k_ => XS.astore X8.here hx rfl (hb hby at_66) rfl rfl (l' := #[.val (.long u0), .second, .val (.int u1), .val (.int u2), .val (.long u3), .second, .val (.int (0 : Int32)), .val (.int (0 : Int32)), .val (.long u3), .second, .val (.ref b3), .val (.ref d8), .unset, .unset]) rfl k_) ?_
      refine own_st (B := T8.setTop (mkF m 70 #[.val (.long u0), .second, .val (.int u1), .val (.int u2), .val (.long u3), .second, .val (.int (0 : Int32)), .val (.int (0 : Int32)), .val (.long u3), .second, .val (.ref b3), .val (.ref d8), .unset, .unset] [(.ref d8)])) (fun t_ k_ => XS.aload X8.here hx rfl (hb hby at_68) rfl rfl k_) ?_
      refine own_st (B := T8.setTop (mkF m 75 #[.val (.long u0), .second, .val (.int u1), .val (.int u2), .val (.long u3), .second, .val (.int (0 : Int32)), .val (.int (0 : Int32)), .val (.long u3), .second, .val (.ref b3), .val (.ref d8), .unset, .unset] [])) (fun t_ k_ => XT.ifnonnullYes X8.here hx rfl (pc0 := 70) (pc' := 75) rfl (hb hby at_70) rfl (by decide) (by decide) k_) ?_
      refine own_st (B := T8.setTop (mkF m 77 #[.val (.long u0), .second, .val (.int u1), .val (.int u2), .val (.long u3), .second, .val (.int (0 : Int32)), .val (.int (0 : Int32)), .val (.long u3), .second, .val (.ref b3), .val (.ref d8), .unset, .unset] [(.ref d8)])) (fun t_ k_ => XS.aload X8.here hx rfl (hb hby at_75) rfl rfl k_) ?_
      obtain ⟨cq12, kq12, q12a, q12b, q12c⟩ := isOf hZ rfl Eb8
      obtain ⟨_, _, ⟨T12, L12, k12, n12⟩, -, X12, ⟨Lc12, hQ12, l12, y12, z12⟩, st12⟩ := X8.virtualBack hx (y := (⟨"com/example/serialine/serialine/Version", "commit", "()J"⟩ : MethodName)) (z := (⟨"com/example/serialine/serialine/Version", "commit", "()J"⟩ : MethodName)) hown (mvT hZ (hw _ (List.mem_of_getElem? (i := 23) rfl))) (mvT hZ (hw _ (List.mem_of_getElem? (i := 24) rfl))) (notFace_of_selects (args := #[]) (mvT hZ (hw _ (List.mem_of_getElem? (i := 26) rfl)))) (mvT hZ (hw _ (List.mem_of_getElem? (i := 26) rfl))) (mvT hZ (hw _ (List.mem_of_getElem? (i := 25) rfl))) (by decide) (backOf (W := 0) (rm4 l Z a0 hw [] d8 (9223372036854775807 : Int64) T8.heap n0 Z11 Fb8_0) hZ (hw _ (List.mem_of_getElem? (i := 27) rfl)) (hw _ (List.mem_of_getElem? (i := 4) rfl)) (by decide) (by decide)) q12a q12c (g := (mkF m 77 #[.val (.long u0), .second, .val (.int u1), .val (.int u2), .val (.long u3), .second, .val (.int (0 : Int32)), .val (.int (0 : Int32)), .val (.long u3), .second, .val (.ref b3), .val (.ref d8), .unset, .unset] [(.ref d8)])) rfl (by rw [hml]; rfl) (Steps.refl _) (argsL := []) (rest := []) (lenOf own_pd2 rfl) rfl (by show 2 * 0 + _ ≤ _; exact Nat.le_of_eq rfl) (hb hby at_77) (fun _ _ => ⟨rfl, rfl, (by decide : 2 + 0 ≤ _), (by decide : 5 + 0 ≤ _)⟩)
      dsimp only [Pt.U, Pt.locs, Pt.cells, Pt.slots] at X12 l12 y12 z12 st12 hQ12
      subst l12 y12 z12
      obtain ⟨rfl, N12q, eh12⟩ := hQ12
      have N12 := Fr.app N8 N12q
      refine own_st (B := T12.setTop (mkF m 80 #[.val (.long u0), .second, .val (.int u1), .val (.int u2), .val (.long u3), .second, .val (.int (0 : Int32)), .val (.int (0 : Int32)), .val (.long u3), .second, .val (.ref b3), .val (.ref d8), .unset, .unset] [(.long (9223372036854775807 : Int64))])) (fun t_ k_ => st12.trans k_) ?_
      refine own_st (B := T12.setTop (mkF m 83 #[.val (.long u0), .second, .val (.int u1), .val (.int u2), .val (.long u3), .second, .val (.int (0 : Int32)), .val (.int (0 : Int32)), .val (.long u3), .second, .val (.ref b3), .val (.ref d8), .unset, .unset] [(.long (9223372036854775807 : Int64)), (.long (9223372036854775807 : Int64))])) (fun t_ k_ => X12.ldc2Long hx hown (mvT hZ (hw _ (List.mem_of_getElem? (i := 0) rfl))) (g := (mkF m 80 #[.val (.long u0), .second, .val (.int u1), .val (.int u2), .val (.long u3), .second, .val (.int (0 : Int32)), .val (.int (0 : Int32)), .val (.long u3), .second, .val (.ref b3), .val (.ref d8), .unset, .unset] [(.long (9223372036854775807 : Int64))])) rfl (hb hby at_80) t_ k_) ?_
      refine own_st (B := T12.setTop (mkF m 84 #[.val (.long u0), .second, .val (.int u1), .val (.int u2), .val (.long u3), .second, .val (.int (0 : Int32)), .val (.int (0 : Int32)), .val (.long u3), .second, .val (.ref b3), .val (.ref d8), .unset, .unset] [(.int (lcmpW (9223372036854775807 : Int64) (9223372036854775807 : Int64)))])) (fun t_ k_ => XS.lcmp X12.here hx rfl (hb hby at_83) rfl k_) ?_
      have hc13 : (9223372036854775807 : Int64) = (9223372036854775807 : Int64) := by decide
      refine own_st (B := T12.setTop (mkF m 89 #[.val (.long u0), .second, .val (.int u1), .val (.int u2), .val (.long u3), .second, .val (.int (0 : Int32)), .val (.int (0 : Int32)), .val (.long u3), .second, .val (.ref b3), .val (.ref d8), .unset, .unset] [])) (fun t_ k_ => XS.ifYes X12.here hx rfl (pc0 := 84) (pc' := 89) rfl (hb hby at_84) rfl ((if0 _ _).trans (teq ((lw_eq _ _).mpr hc13)).1) (by decide) (by decide) k_) ?_
      refine own_st (B := T12.setTop (mkF m 91 #[.val (.long u0), .second, .val (.int u1), .val (.int u2), .val (.long u3), .second, .val (.int (0 : Int32)), .val (.int (0 : Int32)), .val (.long u3), .second, .val (.ref b3), .val (.ref d8), .unset, .unset] [(.ref d8)])) (fun t_ k_ => XS.aload X12.here hx rfl (hb hby at_89) rfl rfl k_) ?_
      obtain ⟨cq14, kq14, q14a, q14b, q14c⟩ := isOf hZ eh12 Eb8
      obtain ⟨_, _, ⟨T14, L14, k14, n14⟩, -, X14, ⟨Lc14, hQ14, l14, y14, z14⟩, st14⟩ := X12.virtualBack hx (y := (⟨"com/example/serialine/serialine/Version", "writer", "()J"⟩ : MethodName)) (z := (⟨"com/example/serialine/serialine/Version", "writer", "()J"⟩ : MethodName)) hown (mvT hZ (hw _ (List.mem_of_getElem? (i := 28) rfl))) (mvT hZ (hw _ (List.mem_of_getElem? (i := 29) rfl))) (notFace_of_selects (args := #[]) (mvT hZ (hw _ (List.mem_of_getElem? (i := 31) rfl)))) (mvT hZ (hw _ (List.mem_of_getElem? (i := 31) rfl))) (mvT hZ (hw _ (List.mem_of_getElem? (i := 30) rfl))) (by decide) (backOf (W := 0) (rm5 l Z a0 hw [] d8 u0 T8.heap n0 Z11 Fb8_1) hZ (hw _ (List.mem_of_getElem? (i := 32) rfl)) (hw _ (List.mem_of_getElem? (i := 4) rfl)) (by decide) (by decide)) q14a q14c (g := (mkF m 91 #[.val (.long u0), .second, .val (.int u1), .val (.int u2), .val (.long u3), .second, .val (.int (0 : Int32)), .val (.int (0 : Int32)), .val (.long u3), .second, .val (.ref b3), .val (.ref d8), .unset, .unset] [(.ref d8)])) rfl (by rw [hml]; rfl) (Steps.refl _) (argsL := []) (rest := []) (lenOf own_pd2 rfl) rfl (by show 2 * 0 + _ ≤ _; exact Nat.le_of_eq rfl) (hb hby at_91) (fun _ _ => ⟨rfl, eh12, (by decide : 2 + 0 ≤ _), (by decide : 5 + 0 ≤ _)⟩)
      dsimp only [Pt.U, Pt.locs, Pt.cells, Pt.slots] at X14 l14 y14 z14 st14 hQ14
      subst l14 y14 z14
      obtain ⟨rfl, N14q, eh14⟩ := hQ14
      have N14 := Fr.app N12 N14q
      refine own_st (B := T14.setTop (mkF m 94 #[.val (.long u0), .second, .val (.int u1), .val (.int u2), .val (.long u3), .second, .val (.int (0 : Int32)), .val (.int (0 : Int32)), .val (.long u3), .second, .val (.ref b3), .val (.ref d8), .unset, .unset] [(.long u0)])) (fun t_ k_ => st14.trans k_) ?_
      refine own_st (B := T14.setTop (mkF m 95 #[.val (.long u0), .second, .val (.int u1), .val (.int u2), .val (.long u3), .second, .val (.int (0 : Int32)), .val (.int (0 : Int32)), .val (.long u3), .second, .val (.ref b3), .val (.ref d8), .unset, .unset] [(.long u0), (.long u0)])) (fun t_ k_ => XS.lloadN X14.here hx rfl (hb hby at_94) rfl k_) ?_
      refine own_st (B := T14.setTop (mkF m 96 #[.val (.long u0), .second, .val (.int u1), .val (.int u2), .val (.long u3), .second, .val (.int (0 : Int32)), .val (.int (0 : Int32)), .val (.long u3), .second, .val (.ref b3), .val (.ref d8), .unset, .unset] [(.int (lcmpW u0 u0))])) (fun t_ k_ => XS.lcmp X14.here hx rfl (hb hby at_95) rfl k_) ?_
      have hc15 : u0 = u0 := rfl
      have hd15 := own_eq64 hc15
      refine own_st (B := T14.setTop (mkF m 101 #[.val (.long u0), .second, .val (.int u1), .val (.int u2), .val (.long u3), .second, .val (.int (0 : Int32)), .val (.int (0 : Int32)), .val (.long u3), .second, .val (.ref b3), .val (.ref d8), .unset, .unset] [])) (fun t_ k_ => XS.ifYes X14.here hx rfl (pc0 := 96) (pc' := 101) rfl (hb hby at_96) rfl ((if0 _ _).trans (teq ((lw_eq _ _).mpr hc15)).1) (by decide) (by decide) k_) ?_
      refine own_st (B := T14.setTop (mkF m 103 #[.val (.long u0), .second, .val (.int u1), .val (.int u2), .val (.long u3), .second, .val (.int (0 : Int32)), .val (.int (0 : Int32)), .val (.long u3), .second, .val (.ref b3), .val (.ref d8), .unset, .unset] [(.ref d8)])) (fun t_ k_ => XS.aload X14.here hx rfl (hb hby at_101) rfl rfl k_) ?_
      obtain ⟨cq16, kq16, q16a, q16b, q16c⟩ := isOf hZ eh14 Eb8
      obtain ⟨_, _, ⟨T16, L16, k16, n16⟩, -, X16, ⟨Lc16, hQ16, l16, y16, z16⟩, st16⟩ := X14.virtualBack hx (y := (⟨"com/example/serialine/serialine/Version", "value", "()[B"⟩ : MethodName)) (z := (⟨"com/example/serialine/serialine/Version", "value", "()[B"⟩ : MethodName)) hown (mvT hZ (hw _ (List.mem_of_getElem? (i := 33) rfl))) (mvT hZ (hw _ (List.mem_of_getElem? (i := 34) rfl))) (notFace_of_selects (args := #[]) (mvT hZ (hw _ (List.mem_of_getElem? (i := 36) rfl)))) (mvT hZ (hw _ (List.mem_of_getElem? (i := 36) rfl))) (mvT hZ (hw _ (List.mem_of_getElem? (i := 35) rfl))) (by decide) (backOf (W := 0) (rm6 l Z a0 hw [] d8 (.ref b3) T8.heap n0 Z11 rfl Fb8_2) hZ (hw _ (List.mem_of_getElem? (i := 37) rfl)) (hw _ (List.mem_of_getElem? (i := 4) rfl)) (by decide) (by decide)) q16a q16c (g := (mkF m 103 #[.val (.long u0), .second, .val (.int u1), .val (.int u2), .val (.long u3), .second, .val (.int (0 : Int32)), .val (.int (0 : Int32)), .val (.long u3), .second, .val (.ref b3), .val (.ref d8), .unset, .unset] [(.ref d8)])) rfl (by rw [hml]; rfl) (Steps.refl _) (argsL := []) (rest := []) (lenOf own_pd3 rfl) rfl (by show 2 * 0 + _ ≤ _; exact Nat.le_of_eq rfl) (hb hby at_103) (fun _ _ => ⟨rfl, eh14, (by decide : 2 + 0 ≤ _), (by decide : 5 + 0 ≤ _)⟩)
      dsimp only [Pt.U, Pt.locs, Pt.cells, Pt.slots] at X16 l16 y16 z16 st16 hQ16
      subst l16 y16 z16
      obtain ⟨rfl, N16q, eh16⟩ := hQ16
      have N16 := Fr.app N14 N16q
      refine own_st (B := T16.setTop (mkF m 106 #[.val (.long u0), .second, .val (.int u1), .val (.int u2), .val (.long u3), .second, .val (.int (0 : Int32)), .val (.int (0 : Int32)), .val (.long u3), .second, .val (.ref b3), .val (.ref d8), .unset, .unset] [(.ref b3)])) (fun t_ k_ => st16.trans k_) ?_
      refine own_st (B := T16.setTop (mkF m 108 #[.val (.long u0), .second, .val (.int u1), .val (.int u2), .val (.long u3), .second, .val (.int (0 : Int32)), .val (.int (0 : Int32)), .val (.long u3), .second, .val (.ref b3), .val (.ref d8), .unset, .unset] [(.ref b3), (.ref b3)])) (fun t_ k_ => XS.aload X16.here hx rfl (hb hby at_106) rfl rfl k_) ?_
      refine own_st (B := T16.setTop (mkF m 113 #[.val (.long u0), .second, .val (.int u1), .val (.int u2), .val (.long u3), .second, .val (.int (0 : Int32)), .val (.int (0 : Int32)), .val (.long u3), .second, .val (.ref b3), .val (.ref d8), .unset, .unset] [])) (fun t_ k_ => Jvm.RoadKit.acmp (g := (mkF m 108 #[.val (.long u0), .second, .val (.int u1), .val (.int u2), .val (.long u3), .second, .val (.int (0 : Int32)), .val (.int (0 : Int32)), .val (.long u3), .second, .val (.ref b3), .val (.ref d8), .unset, .unset] [(.ref b3), (.ref b3)])) X16 hx rfl rfl rfl (pc0 := 108) (pc' := 113) (same := true) rfl (hb hby at_108) rfl (decide_eq_true rfl) (by decide) (by decide) k_) ?_
      refine own_st (B := T16.setTop (mkF m 115 #[.val (.long u0), .second, .val (.int u1), .val (.int u2), .val (.long u3), .second, .val (.int (0 : Int32)), .val (.int (0 : Int32)), .val (.long u3), .second, .val (.ref b3), .val (.ref d8), .unset, .unset] [(.int (0 : Int32))])) (fun t_ k_ => XS.iload X16.here hx rfl (hb hby at_113) rfl k_) ?_
      refine own_st (B := T16.setTop (mkF m 118 #[.val (.long u0), .second, .val (.int u1), .val (.int u2), .val (.long u3), .second, .val (.int (0 : Int32)), .val (.int (0 : Int32)), .val (.long u3), .second, .val (.ref b3), .val (.ref d8), .unset, .unset] [])) (fun t_ k_ => XS.ifNo X16.here hx rfl (hb hby at_115) rfl ((if0 _ _).trans (teq (by decide : (0 : Int32) = (0 : Int32))).2) k_) ?_
      refine own_st (B := T16.setTop (mkF m 120 #[.val (.long u0), .second, .val (.int u1), .val (.int u2), .val (.long u3), .second, .val (.int (0 : Int32)), .val (.int (0 : Int32)), .val (.long u3), .second, .val (.ref b3), .val (.ref d8), .unset, .unset] [(.ref b3)])) (fun t_ k_ => XS.aload X16.here hx rfl (hb hby at_118) rfl rfl k_) ?_
      refine own_st (B := T16.setTop (mkF m 121 #[.val (.long u0), .second, .val (.int u1), .val (.int u2), .val (.long u3), .second, .val (.int (0 : Int32)), .val (.int (0 : Int32)), .val (.long u3), .second, .val (.ref b3), .val (.ref d8), .unset, .unset] [(.int (0 : Int32)), (.ref b3)])) (fun t_ k_ => XS.iconst X16.here hx rfl (hb hby at_120) k_) ?_
      have u17 := a6.keep K8 nin0
      refine own_st (B := T16.setTop (mkF m 122 #[.val (.long u0), .second, .val (.int u1), .val (.int u2), .val (.long u3), .second, .val (.int (0 : Int32)), .val (.int (0 : Int32)), .val (.long u3), .second, .val (.ref b3), .val (.ref d8), .unset, .unset] [(.int ((own_up (fun _ => 0) 0 (nar .byte (u2.toInt8.toInt32))) 0))])) (fun t_ k_ => own_ldB X16 hx hZ eh16 u17 (i := 0) (by decide) (by decide) (hb hby at_121) t_ k_) ?_
      refine own_st (B := T16.setTop (mkF m 123 #[.val (.long u0), .second, .val (.int u1), .val (.int u2), .val (.long u3), .second, .val (.int (0 : Int32)), .val (.int (0 : Int32)), .val (.long u3), .second, .val (.ref b3), .val (.ref d8), .unset, .unset] [(.int u2), (.int ((own_up (fun _ => 0) 0 (nar .byte (u2.toInt8.toInt32))) 0))])) (fun t_ k_ => XS.iloadN X16.here hx rfl (hb hby at_122) rfl k_) ?_
      refine own_st (B := T16.setTop (mkF m 124 #[.val (.long u0), .second, .val (.int u1), .val (.int u2), .val (.long u3), .second, .val (.int (0 : Int32)), .val (.int (0 : Int32)), .val (.long u3), .second, .val (.ref b3), .val (.ref d8), .unset, .unset] [(.int (u2.toInt8.toInt32)), (.int ((own_up (fun _ => 0) 0 (nar .byte (u2.toInt8.toInt32))) 0))])) (fun t_ k_ => XS.i2b X16.here hx rfl (hb hby at_123) rfl k_) ?_
      have hc18 : ((own_up (fun _ => 0) 0 (nar .byte (u2.toInt8.toInt32))) 0) = (u2.toInt8.toInt32) := (own_up_same _ _ _).trans (own_nbb _)
      have hd18 := own_eq32 hc18
      refine own_st (B := T16.setTop (mkF m 129 #[.val (.long u0), .second, .val (.int u1), .val (.int u2), .val (.long u3), .second, .val (.int (0 : Int32)), .val (.int (0 : Int32)), .val (.long u3), .second, .val (.ref b3), .val (.ref d8), .unset, .unset] [])) (fun t_ k_ => XS.icmpYes X16.here hx rfl (pc0 := 124) (pc' := 129) rfl (hb hby at_124) rfl (teq hc18).1 (by decide) (by decide) k_) ?_
      refine own_st (B := T16.setTop (mkF m 131 #[.val (.long u0), .second, .val (.int u1), .val (.int u2), .val (.long u3), .second, .val (.int (0 : Int32)), .val (.int (0 : Int32)), .val (.long u3), .second, .val (.ref b3), .val (.ref d8), .unset, .unset] [(.ref d8)])) (fun t_ k_ => XS.aload X16.here hx rfl (hb hby at_129) rfl rfl k_) ?_
      obtain ⟨cq19, kq19, q19a, q19b, q19c⟩ := isOf hZ eh16 Eb8
      obtain ⟨_, _, ⟨T19, L19, k19, n19⟩, -, X19, ⟨Lc19, hQ19, l19, y19, z19⟩, st19⟩ := X16.virtualBack hx (y := (⟨"com/example/serialine/serialine/Version", "older", "()Lcom/example/serialine/serialine/Version;"⟩ : MethodName)) (z := (⟨"com/example/serialine/serialine/Version", "older", "()Lcom/example/serialine/serialine/Version;"⟩ : MethodName)) hown (mvT hZ (hw _ (List.mem_of_getElem? (i := 38) rfl))) (mvT hZ (hw _ (List.mem_of_getElem? (i := 39) rfl))) (notFace_of_selects (args := #[]) (mvT hZ (hw _ (List.mem_of_getElem? (i := 41) rfl)))) (mvT hZ (hw _ (List.mem_of_getElem? (i := 41) rfl))) (mvT hZ (hw _ (List.mem_of_getElem? (i := 40) rfl))) (by decide) (backOf (W := 0) (rm7 l Z a0 hw [] d8 .null T8.heap n0 Z11 rfl Fb8_3) hZ (hw _ (List.mem_of_getElem? (i := 42) rfl)) (hw _ (List.mem_of_getElem? (i := 4) rfl)) (by decide) (by decide)) q19a q19c (g := (mkF m 131 #[.val (.long u0), .second, .val (.int u1), .val (.int u2), .val (.long u3), .second, .val (.int (0 : Int32)), .val (.int (0 : Int32)), .val (.long u3), .second, .val (.ref b3), .val (.ref d8), .unset, .unset] [(.ref d8)])) rfl (by rw [hml]; rfl) (Steps.refl _) (argsL := []) (rest := []) (lenOf own_pd4 rfl) rfl (by show 2 * 0 + _ ≤ _; exact Nat.le_of_eq rfl) (hb hby at_131) (fun _ _ => ⟨rfl, eh16, (by decide : 2 + 0 ≤ _), (by decide : 5 + 0 ≤ _)⟩)
      dsimp only [Pt.U, Pt.locs, Pt.cells, Pt.slots] at X19 l19 y19 z19 st19 hQ19
      subst l19 y19 z19
      obtain ⟨rfl, N19q, eh19⟩ := hQ19
      have N19 := Fr.app N16 N19q
      refine own_st (B := T19.setTop (mkF m 134 #[.val (.long u0), .second, .val (.int u1), .val (.int u2), .val (.long u3), .second, .val (.int (0 : Int32)), .val (.int (0 : Int32)), .val (.long u3), .second, .val (.ref b3), .val (.ref d8), .unset, .unset] [.null])) (fun t_ k_ => st19.trans k_) ?_
      refine own_st (B := T19.setTop (mkF m 139 #[.val (.long u0), .second, .val (.int u1), .val (.int u2), .val (.long u3), .second, .val (.int (0 : Int32)), .val (.int (0 : Int32)), .val (.long u3), .second, .val (.ref b3), .val (.ref d8), .unset, .unset] [])) (fun t_ k_ => XS.ifnullYes X19.here hx rfl (pc0 := 134) (pc' := 139) rfl (hb hby at_134) rfl (by decide) (by decide) k_) ?_
      refine own_st (B := T19.setTop (mkF m 141 #[.val (.long u0), .second, .val (.int u1), .val (.int u2), .val (.long u3), .second, .val (.int (0 : Int32)), .val (.int (0 : Int32)), .val (.long u3), .second, .val (.ref b3), .val (.ref d8), .unset, .unset] [(.ref d8)])) (fun t_ k_ => XS.aload X19.here hx rfl (hb hby at_139) rfl rfl k_) ?_
      refine own_st (B := T19.setTop (mkF m 143 #[.val (.long u0), .second, .val (.int u1), .val (.int u2), .val (.long u3), .second, .val (.int (0 : Int32)), .val (.int (0 : Int32)), .val (.long u3), .second, .val (.ref b3), .val (.ref d8), .unset, .unset] [(.long u3), (.ref d8)])) (fun t_ k_ => XS.lload X19.here hx rfl (hb hby at_141) rfl k_) ?_
      obtain ⟨cq20, kq20, q20a, q20b, q20c⟩ := isOf hZ eh19 Eb8
      obtain ⟨_, _, ⟨T20, L20, k20, n20⟩, -, X20, ⟨Lc20, hQ20, l20, y20, z20⟩, st20⟩ := X19.virtualBack hx (y := (⟨"com/example/serialine/serialine/Version", "at", "(J)Lcom/example/serialine/serialine/Version;"⟩ : MethodName)) (z := (⟨"com/example/serialine/serialine/Version", "at", "(J)Lcom/example/serialine/serialine/Version;"⟩ : MethodName)) hown (mvT hZ (hw _ (List.mem_of_getElem? (i := 43) rfl))) (mvT hZ (hw _ (List.mem_of_getElem? (i := 44) rfl))) (notFace_of_selects (args := #[]) (mvT hZ (hw _ (List.mem_of_getElem? (i := 46) rfl)))) (mvT hZ (hw _ (List.mem_of_getElem? (i := 46) rfl))) (mvT hZ (hw _ (List.mem_of_getElem? (i := 45) rfl))) (by decide) (backOf (W := 0) (rm8 l Z a0 hw [] d8 (9223372036854775807 : Int64) u3 T8.heap n0 Z11 Fb8_0 Fb8_3) hZ (hw _ (List.mem_of_getElem? (i := 47) rfl)) (hw _ (List.mem_of_getElem? (i := 4) rfl)) (by decide) (by decide)) q20a q20c (g := (mkF m 143 #[.val (.long u0), .second, .val (.int u1), .val (.int u2), .val (.long u3), .second, .val (.int (0 : Int32)), .val (.int (0 : Int32)), .val (.long u3), .second, .val (.ref b3), .val (.ref d8), .unset, .unset] [(.long u3), (.ref d8)])) rfl (by rw [hml]; rfl) (Steps.refl _) (argsL := [(.long u3)]) (rest := []) (lenOf own_pd5 rfl) rfl (by show 2 * 0 + _ ≤ _; exact Nat.le_of_eq rfl) (hb hby at_143) (fun _ _ => ⟨rfl, eh19, (by decide : 2 + 0 ≤ _), (by decide : 5 + 0 ≤ _)⟩)
      dsimp only [Pt.U, Pt.locs, Pt.cells, Pt.slots] at X20 l20 y20 z20 st20 hQ20
      subst l20 y20 z20
      obtain ⟨rfl, N20q, eh20⟩ := hQ20
      have N20 := Fr.app N19 N20q
      refine own_st (B := T20.setTop (mkF m 146 #[.val (.long u0), .second, .val (.int u1), .val (.int u2), .val (.long u3), .second, .val (.int (0 : Int32)), .val (.int (0 : Int32)), .val (.long u3), .second, .val (.ref b3), .val (.ref d8), .unset, .unset] [(own_at d8 (9223372036854775807 : Int64) u3)])) (fun t_ k_ => st20.trans k_) ?_
      refine own_st (B := T20.setTop (mkF m 148 #[.val (.long u0), .second, .val (.int u1), .val (.int u2), .val (.long u3), .second, .val (.int (0 : Int32)), .val (.int (0 : Int32)), .val (.long u3), .second, .val (.ref b3), .val (.ref d8), .val (own_at d8 (9223372036854775807 : Int64) u3), .unset] [])) (fun t_ k_ => XS.astore X20.here hx rfl (hb hby at_146) rfl (own_atR _ _ _) (l' := #[.val (.long u0), .second, .val (.int u1), .val (.int u2), .val (.long u3), .second, .val (.int (0 : Int32)), .val (.int (0 : Int32)), .val (.long u3), .second, .val (.ref b3), .val (.ref d8), .val (own_at d8 (9223372036854775807 : Int64) u3), .unset]) (own_stV rfl (Or.inl rfl) (own_atC _ _ _)) k_) ?_
      refine own_st (B := T20.setTop (mkF m 150 #[.val (.long u0), .second, .val (.int u1), .val (.int u2), .val (.long u3), .second, .val (.int (0 : Int32)), .val (.int (0 : Int32)), .val (.long u3), .second, .val (.ref b3), .val (.ref d8), .val (own_at d8 (9223372036854775807 : Int64) u3), .unset] [(.long u3)])) (fun t_ k_ => XS.lload X20.here hx rfl (hb hby at_148) rfl k_) ?_
      refine own_st (B := T20.setTop (mkF m 153 #[.val (.long u0), .second, .val (.int u1), .val (.int u2), .val (.long u3), .second, .val (.int (0 : Int32)), .val (.int (0 : Int32)), .val (.long u3), .second, .val (.ref b3), .val (.ref d8), .val (own_at d8 (9223372036854775807 : Int64) u3), .unset] [(.long (9223372036854775807 : Int64)), (.long u3)])) (fun t_ k_ => X20.ldc2Long hx hown (mvT hZ (hw _ (List.mem_of_getElem? (i := 0) rfl))) (g := (mkF m 150 #[.val (.long u0), .second, .val (.int u1), .val (.int u2), .val (.long u3), .second, .val (.int (0 : Int32)), .val (.int (0 : Int32)), .val (.long u3), .second, .val (.ref b3), .val (.ref d8), .val (own_at d8 (9223372036854775807 : Int64) u3), .unset] [(.long u3)])) rfl (hb hby at_150) t_ k_) ?_
      refine own_st (B := T20.setTop (mkF m 154 #[.val (.long u0), .second, .val (.int u1), .val (.int u2), .val (.long u3), .second, .val (.int (0 : Int32)), .val (.int (0 : Int32)), .val (.long u3), .second, .val (.ref b3), .val (.ref d8), .val (own_at d8 (9223372036854775807 : Int64) u3), .unset] [(.int (lcmpW u3 (9223372036854775807 : Int64)))])) (fun t_ k_ => XS.lcmp X20.here hx rfl (hb hby at_153) rfl k_) ?_
      by_cases hc21 : u3 = (9223372036854775807 : Int64)
      · have hd21 := own_eq64 hc21
        rw [show (9223372036854775807 : Int64).toInt = 9223372036854775807 from rfl] at hd21
        refine own_st (B := T20.setTop (mkF m 157 #[.val (.long u0), .second, .val (.int u1), .val (.int u2), .val (.long u3), .second, .val (.int (0 : Int32)), .val (.int (0 : Int32)), .val (.long u3), .second, .val (.ref b3), .val (.ref d8), .val (own_at d8 (9223372036854775807 : Int64) u3), .unset] [])) (fun t_ k_ => XS.ifNo X20.here hx rfl (hb hby at_154) rfl ((if0 _ _).trans (teq ((lw_eq _ _).mpr hc21)).2) k_) ?_
        refine own_st (B := T20.setTop (mkF m 159 #[.val (.long u0), .second, .val (.int u1), .val (.int u2), .val (.long u3), .second, .val (.int (0 : Int32)), .val (.int (0 : Int32)), .val (.long u3), .second, .val (.ref b3), .val (.ref d8), .val (own_at d8 (9223372036854775807 : Int64) u3), .unset] [(.ref d8)])) (fun t_ k_ => XS.aload X20.here hx rfl (hb hby at_157) rfl rfl k_) ?_
        refine own_st (B := T20.setTop (mkF m 163 #[.val (.long u0), .second, .val (.int u1), .val (.int u2), .val (.long u3), .second, .val (.int (0 : Int32)), .val (.int (0 : Int32)), .val (.long u3), .second, .val (.ref b3), .val (.ref d8), .val (own_at d8 (9223372036854775807 : Int64) u3), .unset] [(.ref d8)])) (fun t_ k_ => XS.goto X20.here hx rfl (pc0 := 159) (pc' := 163) rfl (hb hby at_159) (by decide) (by decide) k_) ?_
        refine own_st (B := T20.setTop (mkF m 165 #[.val (.long u0), .second, .val (.int u1), .val (.int u2), .val (.long u3), .second, .val (.int (0 : Int32)), .val (.int (0 : Int32)), .val (.long u3), .second, .val (.ref b3), .val (.ref d8), .val (own_at d8 (9223372036854775807 : Int64) u3), .val (.ref d8)] [])) (fun t_ k_ => XS.astore X20.here hx rfl (hb hby at_163) rfl rfl (l' := #[.val (.long u0), .second, .val (.int u1), .val (.int u2), .val (.long u3), .second, .val (.int (0 : Int32)), .val (.int (0 : Int32)), .val (.long u3), .second, .val (.ref b3), .val (.ref d8), .val (own_at d8 (9223372036854775807 : Int64) u3), .val (.ref d8)]) rfl k_) ?_
        refine own_st (B := T20.setTop (mkF m 167 #[.val (.long u0), .second, .val (.int u1), .val (.int u2), .val (.long u3), .second, .val (.int (0 : Int32)), .val (.int (0 : Int32)), .val (.long u3), .second, .val (.ref b3), .val (.ref d8), .val (own_at d8 (9223372036854775807 : Int64) u3), .val (.ref d8)] [(own_at d8 (9223372036854775807 : Int64) u3)])) (fun t_ k_ => XS.aload X20.here hx rfl (hb hby at_165) rfl (own_atR _ _ _) k_) ?_
        refine own_st (B := T20.setTop (mkF m 169 #[.val (.long u0), .second, .val (.int u1), .val (.int u2), .val (.long u3), .second, .val (.int (0 : Int32)), .val (.int (0 : Int32)), .val (.long u3), .second, .val (.ref b3), .val (.ref d8), .val (own_at d8 (9223372036854775807 : Int64) u3), .val (.ref d8)] [(.ref d8), (own_at d8 (9223372036854775807 : Int64) u3)])) (fun t_ k_ => XS.aload X20.here hx rfl (hb hby at_167) rfl rfl k_) ?_
        refine own_st (B := T20.setTop (mkF m 172 #[.val (.long u0), .second, .val (.int u1), .val (.int u2), .val (.long u3), .second, .val (.int (0 : Int32)), .val (.int (0 : Int32)), .val (.long u3), .second, .val (.ref b3), .val (.ref d8), .val (own_at d8 (9223372036854775807 : Int64) u3), .val (.ref d8)] [])) (fun t_ k_ => Jvm.RoadKit.acmp (g := (mkF m 169 #[.val (.long u0), .second, .val (.int u1), .val (.int u2), .val (.long u3), .second, .val (.int (0 : Int32)), .val (.int (0 : Int32)), .val (.long u3), .second, .val (.ref b3), .val (.ref d8), .val (own_at d8 (9223372036854775807 : Int64) u3), .val (.ref d8)] [(.ref d8), (own_at d8 (9223372036854775807 : Int64) u3)])) X20 hx rfl (own_atR _ _ _) rfl (pc0 := 169) (pc' := 172) (same := true) rfl (hb hby at_169) rfl (decide_eq_true (by rw [own_at, hc21, if_neg (by decide)])) (by decide) (by decide) k_) ?_
        refine own_st (B := T20.setTop (mkF m 173 #[.val (.long u0), .second, .val (.int u1), .val (.int u2), .val (.long u3), .second, .val (.int (0 : Int32)), .val (.int (0 : Int32)), .val (.long u3), .second, .val (.ref b3), .val (.ref d8), .val (own_at d8 (9223372036854775807 : Int64) u3), .val (.ref d8)] [(.int (1 : Int32))])) (fun t_ k_ => XS.iconst X20.here hx rfl (hb hby at_172) k_) ?_
        refine own_st (B := T20.setTop (mkF m 177 #[.val (.long u0), .second, .val (.int u1), .val (.int u2), .val (.long u3), .second, .val (.int (0 : Int32)), .val (.int (0 : Int32)), .val (.long u3), .second, .val (.ref b3), .val (.ref d8), .val (own_at d8 (9223372036854775807 : Int64) u3), .val (.ref d8)] [(.int (1 : Int32))])) (fun t_ k_ => XS.goto X20.here hx rfl (pc0 := 173) (pc' := 177) rfl (hb hby at_173) (by decide) (by decide) k_) ?_
        refine own_retN X20 hx (t := .boolean) Bd.returns (by simp) hlk (hb hby at_177) (z' := (1 : Int32)) (by first | rfl | exact own_nb _ | exact own_nbb _) (by decide) (by decide) ?_
        show Q0 Z u0 u1 u2 u3 h0 n0 _ T20.heap _
        rw [eh20]
        exact ⟨rfl, N20⟩
      · have hd21 := own_neq64 hc21
        rw [show (9223372036854775807 : Int64).toInt = 9223372036854775807 from rfl] at hd21
        refine own_st (B := T20.setTop (mkF m 162 #[.val (.long u0), .second, .val (.int u1), .val (.int u2), .val (.long u3), .second, .val (.int (0 : Int32)), .val (.int (0 : Int32)), .val (.long u3), .second, .val (.ref b3), .val (.ref d8), .val (own_at d8 (9223372036854775807 : Int64) u3), .unset] [])) (fun t_ k_ => XS.ifYes X20.here hx rfl (pc0 := 154) (pc' := 162) rfl (hb hby at_154) rfl ((if0 _ _).trans (feq (fun q => hc21 ((lw_eq _ _).mp q))).2) (by decide) (by decide) k_) ?_
        refine own_st (B := T20.setTop (mkF m 163 #[.val (.long u0), .second, .val (.int u1), .val (.int u2), .val (.long u3), .second, .val (.int (0 : Int32)), .val (.int (0 : Int32)), .val (.long u3), .second, .val (.ref b3), .val (.ref d8), .val (own_at d8 (9223372036854775807 : Int64) u3), .unset] [.null])) (fun t_ k_ => XS.aconstNull X20.here hx rfl (hb hby at_162) k_) ?_
        refine own_st (B := T20.setTop (mkF m 165 #[.val (.long u0), .second, .val (.int u1), .val (.int u2), .val (.long u3), .second, .val (.int (0 : Int32)), .val (.int (0 : Int32)), .val (.long u3), .second, .val (.ref b3), .val (.ref d8), .val (own_at d8 (9223372036854775807 : Int64) u3), .val .null] [])) (fun t_ k_ => XS.astore X20.here hx rfl (hb hby at_163) rfl rfl (l' := #[.val (.long u0), .second, .val (.int u1), .val (.int u2), .val (.long u3), .second, .val (.int (0 : Int32)), .val (.int (0 : Int32)), .val (.long u3), .second, .val (.ref b3), .val (.ref d8), .val (own_at d8 (9223372036854775807 : Int64) u3), .val .null]) rfl k_) ?_
        refine own_st (B := T20.setTop (mkF m 167 #[.val (.long u0), .second, .val (.int u1), .val (.int u2), .val (.long u3), .second, .val (.int (0 : Int32)), .val (.int (0 : Int32)), .val (.long u3), .second, .val (.ref b3), .val (.ref d8), .val (own_at d8 (9223372036854775807 : Int64) u3), .val .null] [(own_at d8 (9223372036854775807 : Int64) u3)])) (fun t_ k_ => XS.aload X20.here hx rfl (hb hby at_165) rfl (own_atR _ _ _) k_) ?_
        refine own_st (B := T20.setTop (mkF m 169 #[.val (.long u0), .second, .val (.int u1), .val (.int u2), .val (.long u3), .second, .val (.int (0 : Int32)), .val (.int (0 : Int32)), .val (.long u3), .second, .val (.ref b3), .val (.ref d8), .val (own_at d8 (9223372036854775807 : Int64) u3), .val .null] [.null, (own_at d8 (9223372036854775807 : Int64) u3)])) (fun t_ k_ => XS.aload X20.here hx rfl (hb hby at_167) rfl rfl k_) ?_
        refine own_st (B := T20.setTop (mkF m 172 #[.val (.long u0), .second, .val (.int u1), .val (.int u2), .val (.long u3), .second, .val (.int (0 : Int32)), .val (.int (0 : Int32)), .val (.long u3), .second, .val (.ref b3), .val (.ref d8), .val (own_at d8 (9223372036854775807 : Int64) u3), .val .null] [])) (fun t_ k_ => Jvm.RoadKit.acmp (g := (mkF m 169 #[.val (.long u0), .second, .val (.int u1), .val (.int u2), .val (.long u3), .second, .val (.int (0 : Int32)), .val (.int (0 : Int32)), .val (.long u3), .second, .val (.ref b3), .val (.ref d8), .val (own_at d8 (9223372036854775807 : Int64) u3), .val .null] [.null, (own_at d8 (9223372036854775807 : Int64) u3)])) X20 hx rfl (own_atR _ _ _) rfl (pc0 := 169) (pc' := 172) (same := true) rfl (hb hby at_169) rfl (decide_eq_true (by rw [own_at, if_pos (own_lm hc21)])) (by decide) (by decide) k_) ?_
        refine own_st (B := T20.setTop (mkF m 173 #[.val (.long u0), .second, .val (.int u1), .val (.int u2), .val (.long u3), .second, .val (.int (0 : Int32)), .val (.int (0 : Int32)), .val (.long u3), .second, .val (.ref b3), .val (.ref d8), .val (own_at d8 (9223372036854775807 : Int64) u3), .val .null] [(.int (1 : Int32))])) (fun t_ k_ => XS.iconst X20.here hx rfl (hb hby at_172) k_) ?_
        refine own_st (B := T20.setTop (mkF m 177 #[.val (.long u0), .second, .val (.int u1), .val (.int u2), .val (.long u3), .second, .val (.int (0 : Int32)), .val (.int (0 : Int32)), .val (.long u3), .second, .val (.ref b3), .val (.ref d8), .val (own_at d8 (9223372036854775807 : Int64) u3), .val .null] [(.int (1 : Int32))])) (fun t_ k_ => XS.goto X20.here hx rfl (pc0 := 173) (pc' := 177) rfl (hb hby at_173) (by decide) (by decide) k_) ?_
        refine own_retN X20 hx (t := .boolean) Bd.returns (by simp) hlk (hb hby at_177) (z' := (1 : Int32)) (by first | rfl | exact own_nb _ | exact own_nbb _) (by decide) (by decide) ?_
        show Q0 Z u0 u1 u2 u3 h0 n0 _ T20.heap _
        rw [eh20]
        exact ⟨rfl, N20⟩
    · have hd2 := own_neq32 hc2
      rw [show (0 : Int32).toInt = 0 from rfl] at hd2
      refine own_st (B := s₁.setTop (mkF m 19 #[.val (.long u0), .second, .val (.int u1), .val (.int u2), .val (.long u3), .second, .val (.int (0 : Int32)), .unset, .unset, .unset, .unset, .unset, .unset, .unset] [])) (fun t_ k_ => XS.ifNo X0.here hx rfl (hb hby at_16) rfl ((if0 _ _).trans (feq hc2).1) k_) ?_
      refine own_st (B := s₁.setTop (mkF m 20 #[.val (.long u0), .second, .val (.int u1), .val (.int u2), .val (.long u3), .second, .val (.int (0 : Int32)), .unset, .unset, .unset, .unset, .unset, .unset, .unset] [(.int (1 : Int32))])) (fun t_ k_ => XS.iconst X0.here hx rfl (hb hby at_19) k_) ?_
      refine own_st (B := s₁.setTop (mkF m 24 #[.val (.long u0), .second, .val (.int u1), .val (.int u2), .val (.long u3), .second, .val (.int (0 : Int32)), .unset, .unset, .unset, .unset, .unset, .unset, .unset] [(.int (1 : Int32))])) (fun t_ k_ => XS.goto X0.here hx rfl (pc0 := 20) (pc' := 24) rfl (hb hby at_20) (by decide) (by decide) k_) ?_
      refine own_st (B := s₁.setTop (mkF m 26 #[.val (.long u0), .second, .val (.int u1), .val (.int u2), .val (.long u3), .second, .val (.int (0 : Int32)), .val (.int (1 : Int32)), .unset, .unset, .unset, .unset, .unset, .unset] [])) (fun t_ k_ => XS.istore X0.here hx rfl (hb hby at_24) rfl (l' := #[.val (.long u0), .second, .val (.int u1), .val (.int u2), .val (.long u3), .second, .val (.int (0 : Int32)), .val (.int (1 : Int32)), .unset, .unset, .unset, .unset, .unset, .unset]) rfl k_) ?_
      refine own_st (B := s₁.setTop (mkF m 28 #[.val (.long u0), .second, .val (.int u1), .val (.int u2), .val (.long u3), .second, .val (.int (0 : Int32)), .val (.int (1 : Int32)), .unset, .unset, .unset, .unset, .unset, .unset] [(.int (1 : Int32))])) (fun t_ k_ => XS.iload X0.here hx rfl (hb hby at_26) rfl k_) ?_
      refine own_st (B := s₁.setTop (mkF m 31 #[.val (.long u0), .second, .val (.int u1), .val (.int u2), .val (.long u3), .second, .val (.int (0 : Int32)), .val (.int (1 : Int32)), .unset, .unset, .unset, .unset, .unset, .unset] [])) (fun t_ k_ => XS.ifNo X0.here hx rfl (hb hby at_28) rfl ((if0 _ _).trans (feq (by decide : ¬ ((1 : Int32) = (0 : Int32)))).1) k_) ?_
      refine own_st (B := s₁.setTop (mkF m 34 #[.val (.long u0), .second, .val (.int u1), .val (.int u2), .val (.long u3), .second, .val (.int (0 : Int32)), .val (.int (1 : Int32)), .unset, .unset, .unset, .unset, .unset, .unset] [(.long (9223372036854775807 : Int64))])) (fun t_ k_ => X0.ldc2Long hx hown (mvT hZ (hw _ (List.mem_of_getElem? (i := 0) rfl))) (g := (mkF m 31 #[.val (.long u0), .second, .val (.int u1), .val (.int u2), .val (.long u3), .second, .val (.int (0 : Int32)), .val (.int (1 : Int32)), .unset, .unset, .unset, .unset, .unset, .unset] [])) rfl (hb hby at_31) t_ k_) ?_
      refine own_st (B := s₁.setTop (mkF m 39 #[.val (.long u0), .second, .val (.int u1), .val (.int u2), .val (.long u3), .second, .val (.int (0 : Int32)), .val (.int (1 : Int32)), .unset, .unset, .unset, .unset, .unset, .unset] [(.long (9223372036854775807 : Int64))])) (fun t_ k_ => XS.goto X0.here hx rfl (pc0 := 34) (pc' := 39) rfl (hb hby at_34) (by decide) (by decide) k_) ?_
      refine own_st (B := s₁.setTop (mkF m 41 #[.val (.long u0), .second, .val (.int u1), .val (.int u2), .val (.long u3), .second, .val (.int (0 : Int32)), .val (.int (1 : Int32)), .val (.long (9223372036854775807 : Int64)), .second, .unset, .unset, .unset, .unset] [])) (fun t_ k_ => XS.lstore X0.here hx rfl (hb hby at_39) rfl (l' := #[.val (.long u0), .second, .val (.int u1), .val (.int u2), .val (.long u3), .second, .val (.int (0 : Int32)), .val (.int (1 : Int32)), .val (.long (9223372036854775807 : Int64)), .second, .unset, .unset, .unset, .unset]) rfl k_) ?_
      refine own_st (B := s₁.setTop (mkF m 43 #[.val (.long u0), .second, .val (.int u1), .val (.int u2), .val (.long u3), .second, .val (.int (0 : Int32)), .val (.int (1 : Int32)), .val (.long (9223372036854775807 : Int64)), .second, .unset, .unset, .unset, .unset] [(.int (0 : Int32))])) (fun t_ k_ => XS.iload X0.here hx rfl (hb hby at_41) rfl k_) ?_
      refine own_st (B := s₁.setTop (mkF m 50 #[.val (.long u0), .second, .val (.int u1), .val (.int u2), .val (.long u3), .second, .val (.int (0 : Int32)), .val (.int (1 : Int32)), .val (.long (9223372036854775807 : Int64)), .second, .unset, .unset, .unset, .unset] [])) (fun t_ k_ => XS.ifYes X0.here hx rfl (pc0 := 43) (pc' := 50) rfl (hb hby at_43) rfl ((if0 _ _).trans (teq (by decide : (0 : Int32) = (0 : Int32))).1) (by decide) (by decide) k_) ?_
      refine own_st (B := s₁.setTop (mkF m 51 #[.val (.long u0), .second, .val (.int u1), .val (.int u2), .val (.long u3), .second, .val (.int (0 : Int32)), .val (.int (1 : Int32)), .val (.long (9223372036854775807 : Int64)), .second, .unset, .unset, .unset, .unset] [(.int (1 : Int32))])) (fun t_ k_ => XS.iconst X0.here hx rfl (hb hby at_50) k_) ?_
      obtain ⟨T22, h22, k22, X22, e22, E22, A22, G22, st22⟩ := newPE X0 hx hZ (hw _ (List.mem_of_getElem? (i := 1) rfl)) e0 (g := (mkF m 51 #[.val (.long u0), .second, .val (.int u1), .val (.int u2), .val (.long u3), .second, .val (.int (0 : Int32)), .val (.int (1 : Int32)), .val (.long (9223372036854775807 : Int64)), .second, .unset, .unset, .unset, .unset] [(.int (1 : Int32))])) rfl (hb hby at_51) rfl (by decide) (cap := 1) (by decide) (by decide) (by decide) (by decide) (ad := "[B") (by decide)
      obtain ⟨b22, g22⟩ : ∃ z, z = h0.size := ⟨_, rfl⟩
      rw [← g22] at A22 G22 st22
      have g23 : n0 ≤ b22 := Nat.le_trans Z0 (Nat.le_of_eq g22.symm)
      have Z24 := Nat.le_trans Z0 E22.1
      have a22 : own_A Z h22 b22 .byte 1 (fun _ => 0) := own_A.new A22 (by decide) rfl
      refine own_st (B := T22.setTop (mkF m 53 #[.val (.long u0), .second, .val (.int u1), .val (.int u2), .val (.long u3), .second, .val (.int (0 : Int32)), .val (.int (1 : Int32)), .val (.long (9223372036854775807 : Int64)), .second, .unset, .unset, .unset, .unset] [(.ref b22)])) st22 ?_
      refine own_st (B := T22.setTop (mkF m 54 #[.val (.long u0), .second, .val (.int u1), .val (.int u2), .val (.long u3), .second, .val (.int (0 : Int32)), .val (.int (1 : Int32)), .val (.long (9223372036854775807 : Int64)), .second, .unset, .unset, .unset, .unset] [(.ref b22), (.ref b22)])) (fun t_ k_ => XS.dup X22.here hx rfl (hb hby at_53) rfl rfl k_) ?_
      refine own_st (B := T22.setTop (mkF m 55 #[.val (.long u0), .second, .val (.int u1), .val (.int u2), .val (.long u3), .second, .val (.int (0 : Int32)), .val (.int (1 : Int32)), .val (.long (9223372036854775807 : Int64)), .second, .unset, .unset, .unset, .unset] [(.int (0 : Int32)), (.ref b22), (.ref b22)])) (fun t_ k_ => XS.iconst X22.here hx rfl (hb hby at_54) k_) ?_
      refine own_st (B := T22.setTop (mkF m 56 #[.val (.long u0), .second, .val (.int u1), .val (.int u2), .val (.long u3), .second, .val (.int (0 : Int32)), .val (.int (1 : Int32)), .val (.long (9223372036854775807 : Int64)), .second, .unset, .unset, .unset, .unset] [(.int u2), (.int (0 : Int32)), (.ref b22), (.ref b22)])) (fun t_ k_ => XS.iloadN X22.here hx rfl (hb hby at_55) rfl k_) ?_
      refine own_st (B := T22.setTop (mkF m 57 #[.val (.long u0), .second, .val (.int u1), .val (.int u2), .val (.long u3), .second, .val (.int (0 : Int32)), .val (.int (1 : Int32)), .val (.long (9223372036854775807 : Int64)), .second, .unset, .unset, .unset, .unset] [(.int (u2.toInt8.toInt32)), (.int (0 : Int32)), (.ref b22), (.ref b22)])) (fun t_ k_ => XS.i2b X22.here hx rfl (hb hby at_56) rfl k_) ?_
      obtain ⟨T25, h25, X25, e25, W25, a25, st25⟩ := own_stB X22 hx hZ e22 a22 (i := 0) (j := (0 : Int32)) (by decide) (by decide) (pc := 57) (x := (u2.toInt8.toInt32)) (Ls := #[.val (.long u0), .second, .val (.int u1), .val (.int u2), .val (.long u3), .second, .val (.int (0 : Int32)), .val (.int (1 : Int32)), .val (.long (9223372036854775807 : Int64)), .second, .unset, .unset, .unset, .unset]) (rest := [(.ref b22)]) (hb hby at_57)
      have N25 := Fr.snoc X25 N0 g23
      have Z26 := Nat.le_trans Z24 (Keep.of_wr W25).1
      refine own_st (B := T25.setTop (mkF m 58 #[.val (.long u0), .second, .val (.int u1), .val (.int u2), .val (.long u3), .second, .val (.int (0 : Int32)), .val (.int (1 : Int32)), .val (.long (9223372036854775807 : Int64)), .second, .unset, .unset, .unset, .unset] [(.ref b22)])) st25 ?_
      refine own_st (B := T25.setTop (mkF m 60 #[.val (.long u0), .second, .val (.int u1), .val (.int u2), .val (.long u3), .second, .val (.int (0 : Int32)), .val (.int (1 : Int32)), .val (.long (9223372036854775807 : Int64)), .second, .val (.ref b22), .unset, .unset, .unset] [])) (fun t_ k_ => XS.astore X25.here hx rfl (hb hby at_58) rfl rfl (l' := #[.val (.long u0), .second, .val (.int u1), .val (.int u2), .val (.long u3), .second, .val (.int (0 : Int32)), .val (.int (1 : Int32)), .val (.long (9223372036854775807 : Int64)), .second, .val (.ref b22), .unset, .unset, .unset]) rfl k_) ?_
      refine own_st (B := T25.setTop (mkF m 61 #[.val (.long u0), .second, .val (.int u1), .val (.int u2), .val (.long u3), .second, .val (.int (0 : Int32)), .val (.int (1 : Int32)), .val (.long (9223372036854775807 : Int64)), .second, .val (.ref b22), .unset, .unset, .unset] [(.long u0)])) (fun t_ k_ => XS.lloadN X25.here hx rfl (hb hby at_60) rfl k_) ?_
      refine own_st (B := T25.setTop (mkF m 63 #[.val (.long u0), .second, .val (.int u1), .val (.int u2), .val (.long u3), .second, .val (.int (0 : Int32)), .val (.int (1 : Int32)), .val (.long (9223372036854775807 : Int64)), .second, .val (.ref b22), .unset, .unset, .unset] [(.ref b22), (.long u0)])) (fun t_ k_ => XS.aload X25.here hx rfl (hb hby at_61) rfl rfl k_) ?_
      obtain ⟨_, _, ⟨T27, L27, k27, n27⟩, -, X27, ⟨Lc27, hQ27, l27, y27, z27⟩, st27⟩ := Jvm.LawKit.callS X25 hx (y := (⟨"com/example/serialine/serialine/Version", "uncommitted", "(J[B)Lcom/example/serialine/serialine/Version;"⟩ : MethodName)) hown (mvT hZ (hw _ (List.mem_of_getElem? (i := 2) rfl))) (mvT hZ (hw _ (List.mem_of_getElem? (i := 3) rfl))) (mvT hZ (hw _ (List.mem_of_getElem? (i := 4) rfl))) (mvT hZ (hw _ (List.mem_of_getElem? (i := 5) rfl))) (by decide) (backOf (W := 0) (rm1 l Z a0 hw [] u0 (.ref b22) h25 n0 Z26 rfl) hZ (hw _ (List.mem_of_getElem? (i := 5) rfl)) (hw _ (List.mem_of_getElem? (i := 4) rfl)) (by decide) (by decide)) (g := (mkF m 63 #[.val (.long u0), .second, .val (.int u1), .val (.int u2), .val (.long u3), .second, .val (.int (0 : Int32)), .val (.int (1 : Int32)), .val (.long (9223372036854775807 : Int64)), .second, .val (.ref b22), .unset, .unset, .unset] [(.ref b22), (.long u0)])) rfl (by rw [hml]; rfl) (argsL := [(.long u0), (.ref b22)]) (rest := []) (lenOf own_pd1 rfl) rfl (by show 2 * 0 + _ ≤ _; exact Nat.le_of_eq rfl) (hb hby at_63) (fun _ _ => ⟨rfl, e25, (by decide : 1 + 1 ≤ _), (by decide : 1 + 4 ≤ _)⟩)
      dsimp only [Pt.U, Pt.locs, Pt.cells, Pt.slots] at X27 l27 y27 z27 st27 hQ27
      subst l27 y27 z27
      obtain ⟨d27, rfl, N27q, K27, gb27, Eb27, Fb27_0, Fb27_1, Fb27_2, Fb27_3⟩ := hQ27
      have N27 := Fr.app N25 N27q
      have ne28 : b22 ≠ d27 := Nat.ne_of_lt (Nat.lt_of_lt_of_le a25.lt gb27)
      have g29 : n0 ≤ d27 := Nat.le_trans Z26 gb27
      have Z30 := Nat.le_trans Z26 K27.1
      refine own_st (B := T27.setTop (mkF m 66 #[.val (.long u0), .second, .val (.int u1), .val (.int u2), .val (.long u3), .second, .val (.int (0 : Int32)), .val (.int (1 : Int32)), .val (.long (9223372036854775807 : Int64)), .second, .val (.ref b22), .unset, .unset, .unset] [(.ref d27)])) st27 ?_
      refine own_st (B := T27.setTop (mkF m 68 #[.val (.long u0), .second, .val (.int u1), .val (.int u2), .val (.long u3), .second, .val (.int (0 : Int32)), .val (.int (1 : Int32)), .val (.long (9223372036854775807 : Int64)), .second, .val (.ref b22), .val (.ref d27), .unset, .unset] [])) (fun t_ k_ => XS.astore X27.here hx rfl (hb hby at_66) rfl rfl (l' := #[.val (.long u0), .second, .val (.int u1), .val (.int u2), .val (.long u3), .second, .val (.int (0 : Int32)), .val (.int (1 : Int32)), .val (.long (9223372036854775807 : Int64)), .second, .val (.ref b22), .val (.ref d27), .unset, .unset]) rfl k_) ?_
      refine own_st (B := T27.setTop (mkF m 70 #[.val (.long u0), .second, .val (.int u1), .val (.int u2), .val (.long u3), .second, .val (.int (0 : Int32)), .val (.int (1 : Int32)), .val (.long (9223372036854775807 : Int64)), .second, .val (.ref b22), .val (.ref d27), .unset, .unset] [(.ref d27)])) (fun t_ k_ => XS.aload X27.here hx rfl (hb hby at_68) rfl rfl k_) ?_
      refine own_st (B := T27.setTop (mkF m 75 #[.val (.long u0), .second, .val (.int u1), .val (.int u2), .val (.long u3), .second, .val (.int (0 : Int32)), .val (.int (1 : Int32)), .val (.long (9223372036854775807 : Int64)), .second, .val (.ref b22), .val (.ref d27), .unset, .unset] [])) (fun t_ k_ => XT.ifnonnullYes X27.here hx rfl (pc0 := 70) (pc' := 75) rfl (hb hby at_70) rfl (by decide) (by decide) k_) ?_
      refine own_st (B := T27.setTop (mkF m 77 #[.val (.long u0), .second, .val (.int u1), .val (.int u2), .val (.long u3), .second, .val (.int (0 : Int32)), .val (.int (1 : Int32)), .val (.long (9223372036854775807 : Int64)), .second, .val (.ref b22), .val (.ref d27), .unset, .unset] [(.ref d27)])) (fun t_ k_ => XS.aload X27.here hx rfl (hb hby at_75) rfl rfl k_) ?_
      obtain ⟨cq31, kq31, q31a, q31b, q31c⟩ := isOf hZ rfl Eb27
      obtain ⟨_, _, ⟨T31, L31, k31, n31⟩, -, X31, ⟨Lc31, hQ31, l31, y31, z31⟩, st31⟩ := X27.virtualBack hx (y := (⟨"com/example/serialine/serialine/Version", "commit", "()J"⟩ : MethodName)) (z := (⟨"com/example/serialine/serialine/Version", "commit", "()J"⟩ : MethodName)) hown (mvT hZ (hw _ (List.mem_of_getElem? (i := 23) rfl))) (mvT hZ (hw _ (List.mem_of_getElem? (i := 24) rfl))) (notFace_of_selects (args := #[]) (mvT hZ (hw _ (List.mem_of_getElem? (i := 26) rfl)))) (mvT hZ (hw _ (List.mem_of_getElem? (i := 26) rfl))) (mvT hZ (hw _ (List.mem_of_getElem? (i := 25) rfl))) (by decide) (backOf (W := 0) (rm4 l Z a0 hw [] d27 (9223372036854775807 : Int64) T27.heap n0 Z30 Fb27_0) hZ (hw _ (List.mem_of_getElem? (i := 27) rfl)) (hw _ (List.mem_of_getElem? (i := 4) rfl)) (by decide) (by decide)) q31a q31c (g := (mkF m 77 #[.val (.long u0), .second, .val (.int u1), .val (.int u2), .val (.long u3), .second, .val (.int (0 : Int32)), .val (.int (1 : Int32)), .val (.long (9223372036854775807 : Int64)), .second, .val (.ref b22), .val (.ref d27), .unset, .unset] [(.ref d27)])) rfl (by rw [hml]; rfl) (Steps.refl _) (argsL := []) (rest := []) (lenOf own_pd2 rfl) rfl (by show 2 * 0 + _ ≤ _; exact Nat.le_of_eq rfl) (hb hby at_77) (fun _ _ => ⟨rfl, rfl, (by decide : 2 + 0 ≤ _), (by decide : 5 + 0 ≤ _)⟩)
      dsimp only [Pt.U, Pt.locs, Pt.cells, Pt.slots] at X31 l31 y31 z31 st31 hQ31
      subst l31 y31 z31
      obtain ⟨rfl, N31q, eh31⟩ := hQ31
      have N31 := Fr.app N27 N31q
      refine own_st (B := T31.setTop (mkF m 80 #[.val (.long u0), .second, .val (.int u1), .val (.int u2), .val (.long u3), .second, .val (.int (0 : Int32)), .val (.int (1 : Int32)), .val (.long (9223372036854775807 : Int64)), .second, .val (.ref b22), .val (.ref d27), .unset, .unset] [(.long (9223372036854775807 : Int64))])) (fun t_ k_ => st31.trans k_) ?_
      refine own_st (B := T31.setTop (mkF m 83 #[.val (.long u0), .second, .val (.int u1), .val (.int u2), .val (.long u3), .second, .val (.int (0 : Int32)), .val (.int (1 : Int32)), .val (.long (9223372036854775807 : Int64)), .second, .val (.ref b22), .val (.ref d27), .unset, .unset] [(.long (9223372036854775807 : Int64)), (.long (9223372036854775807 : Int64))])) (fun t_ k_ => X31.ldc2Long hx hown (mvT hZ (hw _ (List.mem_of_getElem? (i := 0) rfl))) (g := (mkF m 80 #[.val (.long u0), .second, .val (.int u1), .val (.int u2), .val (.long u3), .second, .val (.int (0 : Int32)), .val (.int (1 : Int32)), .val (.long (9223372036854775807 : Int64)), .second, .val (.ref b22), .val (.ref d27), .unset, .unset] [(.long (9223372036854775807 : Int64))])) rfl (hb hby at_80) t_ k_) ?_
      refine own_st (B := T31.setTop (mkF m 84 #[.val (.long u0), .second, .val (.int u1), .val (.int u2), .val (.long u3), .second, .val (.int (0 : Int32)), .val (.int (1 : Int32)), .val (.long (9223372036854775807 : Int64)), .second, .val (.ref b22), .val (.ref d27), .unset, .unset] [(.int (lcmpW (9223372036854775807 : Int64) (9223372036854775807 : Int64)))])) (fun t_ k_ => XS.lcmp X31.here hx rfl (hb hby at_83) rfl k_) ?_
      have hc32 : (9223372036854775807 : Int64) = (9223372036854775807 : Int64) := by decide
      refine own_st (B := T31.setTop (mkF m 89 #[.val (.long u0), .second, .val (.int u1), .val (.int u2), .val (.long u3), .second, .val (.int (0 : Int32)), .val (.int (1 : Int32)), .val (.long (9223372036854775807 : Int64)), .second, .val (.ref b22), .val (.ref d27), .unset, .unset] [])) (fun t_ k_ => XS.ifYes X31.here hx rfl (pc0 := 84) (pc' := 89) rfl (hb hby at_84) rfl ((if0 _ _).trans (teq ((lw_eq _ _).mpr hc32)).1) (by decide) (by decide) k_) ?_
      refine own_st (B := T31.setTop (mkF m 91 #[.val (.long u0), .second, .val (.int u1), .val (.int u2), .val (.long u3), .second, .val (.int (0 : Int32)), .val (.int (1 : Int32)), .val (.long (9223372036854775807 : Int64)), .second, .val (.ref b22), .val (.ref d27), .unset, .unset] [(.ref d27)])) (fun t_ k_ => XS.aload X31.here hx rfl (hb hby at_89) rfl rfl k_) ?_
      obtain ⟨cq33, kq33, q33a, q33b, q33c⟩ := isOf hZ eh31 Eb27
      obtain ⟨_, _, ⟨T33, L33, k33, n33⟩, -, X33, ⟨Lc33, hQ33, l33, y33, z33⟩, st33⟩ := X31.virtualBack hx (y := (⟨"com/example/serialine/serialine/Version", "writer", "()J"⟩ : MethodName)) (z := (⟨"com/example/serialine/serialine/Version", "writer", "()J"⟩ : MethodName)) hown (mvT hZ (hw _ (List.mem_of_getElem? (i := 28) rfl))) (mvT hZ (hw _ (List.mem_of_getElem? (i := 29) rfl))) (notFace_of_selects (args := #[]) (mvT hZ (hw _ (List.mem_of_getElem? (i := 31) rfl)))) (mvT hZ (hw _ (List.mem_of_getElem? (i := 31) rfl))) (mvT hZ (hw _ (List.mem_of_getElem? (i := 30) rfl))) (by decide) (backOf (W := 0) (rm5 l Z a0 hw [] d27 u0 T27.heap n0 Z30 Fb27_1) hZ (hw _ (List.mem_of_getElem? (i := 32) rfl)) (hw _ (List.mem_of_getElem? (i := 4) rfl)) (by decide) (by decide)) q33a q33c (g := (mkF m 91 #[.val (.long u0), .second, .val (.int u1), .val (.int u2), .val (.long u3), .second, .val (.int (0 : Int32)), .val (.int (1 : Int32)), .val (.long (9223372036854775807 : Int64)), .second, .val (.ref b22), .val (.ref d27), .unset, .unset] [(.ref d27)])) rfl (by rw [hml]; rfl) (Steps.refl _) (argsL := []) (rest := []) (lenOf own_pd2 rfl) rfl (by show 2 * 0 + _ ≤ _; exact Nat.le_of_eq rfl) (hb hby at_91) (fun _ _ => ⟨rfl, eh31, (by decide : 2 + 0 ≤ _), (by decide : 5 + 0 ≤ _)⟩)
      dsimp only [Pt.U, Pt.locs, Pt.cells, Pt.slots] at X33 l33 y33 z33 st33 hQ33
      subst l33 y33 z33
      obtain ⟨rfl, N33q, eh33⟩ := hQ33
      have N33 := Fr.app N31 N33q
      refine own_st (B := T33.setTop (mkF m 94 #[.val (.long u0), .second, .val (.int u1), .val (.int u2), .val (.long u3), .second, .val (.int (0 : Int32)), .val (.int (1 : Int32)), .val (.long (9223372036854775807 : Int64)), .second, .val (.ref b22), .val (.ref d27), .unset, .unset] [(.long u0)])) (fun t_ k_ => st33.trans k_) ?_
      refine own_st (B := T33.setTop (mkF m 95 #[.val (.long u0), .second, .val (.int u1), .val (.int u2), .val (.long u3), .second, .val (.int (0 : Int32)), .val (.int (1 : Int32)), .val (.long (9223372036854775807 : Int64)), .second, .val (.ref b22), .val (.ref d27), .unset, .unset] [(.long u0), (.long u0)])) (fun t_ k_ => XS.lloadN X33.here hx rfl (hb hby at_94) rfl k_) ?_
      refine own_st (B := T33.setTop (mkF m 96 #[.val (.long u0), .second, .val (.int u1), .val (.int u2), .val (.long u3), .second, .val (.int (0 : Int32)), .val (.int (1 : Int32)), .val (.long (9223372036854775807 : Int64)), .second, .val (.ref b22), .val (.ref d27), .unset, .unset] [(.int (lcmpW u0 u0))])) (fun t_ k_ => XS.lcmp X33.here hx rfl (hb hby at_95) rfl k_) ?_
      have hc34 : u0 = u0 := rfl
      have hd34 := own_eq64 hc34
      refine own_st (B := T33.setTop (mkF m 101 #[.val (.long u0), .second, .val (.int u1), .val (.int u2), .val (.long u3), .second, .val (.int (0 : Int32)), .val (.int (1 : Int32)), .val (.long (9223372036854775807 : Int64)), .second, .val (.ref b22), .val (.ref d27), .unset, .unset] [])) (fun t_ k_ => XS.ifYes X33.here hx rfl (pc0 := 96) (pc' := 101) rfl (hb hby at_96) rfl ((if0 _ _).trans (teq ((lw_eq _ _).mpr hc34)).1) (by decide) (by decide) k_) ?_
      refine own_st (B := T33.setTop (mkF m 103 #[.val (.long u0), .second, .val (.int u1), .val (.int u2), .val (.long u3), .second, .val (.int (0 : Int32)), .val (.int (1 : Int32)), .val (.long (9223372036854775807 : Int64)), .second, .val (.ref b22), .val (.ref d27), .unset, .unset] [(.ref d27)])) (fun t_ k_ => XS.aload X33.here hx rfl (hb hby at_101) rfl rfl k_) ?_
      obtain ⟨cq35, kq35, q35a, q35b, q35c⟩ := isOf hZ eh33 Eb27
      obtain ⟨_, _, ⟨T35, L35, k35, n35⟩, -, X35, ⟨Lc35, hQ35, l35, y35, z35⟩, st35⟩ := X33.virtualBack hx (y := (⟨"com/example/serialine/serialine/Version", "value", "()[B"⟩ : MethodName)) (z := (⟨"com/example/serialine/serialine/Version", "value", "()[B"⟩ : MethodName)) hown (mvT hZ (hw _ (List.mem_of_getElem? (i := 33) rfl))) (mvT hZ (hw _ (List.mem_of_getElem? (i := 34) rfl))) (notFace_of_selects (args := #[]) (mvT hZ (hw _ (List.mem_of_getElem? (i := 36) rfl)))) (mvT hZ (hw _ (List.mem_of_getElem? (i := 36) rfl))) (mvT hZ (hw _ (List.mem_of_getElem? (i := 35) rfl))) (by decide) (backOf (W := 0) (rm6 l Z a0 hw [] d27 (.ref b22) T27.heap n0 Z30 rfl Fb27_2) hZ (hw _ (List.mem_of_getElem? (i := 37) rfl)) (hw _ (List.mem_of_getElem? (i := 4) rfl)) (by decide) (by decide)) q35a q35c (g := (mkF m 103 #[.val (.long u0), .second, .val (.int u1), .val (.int u2), .val (.long u3), .second, .val (.int (0 : Int32)), .val (.int (1 : Int32)), .val (.long (9223372036854775807 : Int64)), .second, .val (.ref b22), .val (.ref d27), .unset, .unset] [(.ref d27)])) rfl (by rw [hml]; rfl) (Steps.refl _) (argsL := []) (rest := []) (lenOf own_pd3 rfl) rfl (by show 2 * 0 + _ ≤ _; exact Nat.le_of_eq rfl) (hb hby at_103) (fun _ _ => ⟨rfl, eh33, (by decide : 2 + 0 ≤ _), (by decide : 5 + 0 ≤ _)⟩)
      dsimp only [Pt.U, Pt.locs, Pt.cells, Pt.slots] at X35 l35 y35 z35 st35 hQ35
      subst l35 y35 z35
      obtain ⟨rfl, N35q, eh35⟩ := hQ35
      have N35 := Fr.app N33 N35q
      refine own_st (B := T35.setTop (mkF m 106 #[.val (.long u0), .second, .val (.int u1), .val (.int u2), .val (.long u3), .second, .val (.int (0 : Int32)), .val (.int (1 : Int32)), .val (.long (9223372036854775807 : Int64)), .second, .val (.ref b22), .val (.ref d27), .unset, .unset] [(.ref b22)])) (fun t_ k_ => st35.trans k_) ?_
      refine own_st (B := T35.setTop (mkF m 108 #[.val (.long u0), .second, .val (.int u1), .val (.int u2), .val (.long u3), .second, .val (.int (0 : Int32)), .val (.int (1 : Int32)), .val (.long (9223372036854775807 : Int64)), .second, .val (.ref b22), .val (.ref d27), .unset, .unset] [(.ref b22), (.ref b22)])) (fun t_ k_ => XS.aload X35.here hx rfl (hb hby at_106) rfl rfl k_) ?_
      refine own_st (B := T35.setTop (mkF m 113 #[.val (.long u0), .second, .val (.int u1), .val (.int u2), .val (.long u3), .second, .val (.int (0 : Int32)), .val (.int (1 : Int32)), .val (.long (9223372036854775807 : Int64)), .second, .val (.ref b22), .val (.ref d27), .unset, .unset] [])) (fun t_ k_ => Jvm.RoadKit.acmp (g := (mkF m 108 #[.val (.long u0), .second, .val (.int u1), .val (.int u2), .val (.long u3), .second, .val (.int (0 : Int32)), .val (.int (1 : Int32)), .val (.long (9223372036854775807 : Int64)), .second, .val (.ref b22), .val (.ref d27), .unset, .unset] [(.ref b22), (.ref b22)])) X35 hx rfl rfl rfl (pc0 := 108) (pc' := 113) (same := true) rfl (hb hby at_108) rfl (decide_eq_true rfl) (by decide) (by decide) k_) ?_
      refine own_st (B := T35.setTop (mkF m 115 #[.val (.long u0), .second, .val (.int u1), .val (.int u2), .val (.long u3), .second, .val (.int (0 : Int32)), .val (.int (1 : Int32)), .val (.long (9223372036854775807 : Int64)), .second, .val (.ref b22), .val (.ref d27), .unset, .unset] [(.int (0 : Int32))])) (fun t_ k_ => XS.iload X35.here hx rfl (hb hby at_113) rfl k_) ?_
      refine own_st (B := T35.setTop (mkF m 118 #[.val (.long u0), .second, .val (.int u1), .val (.int u2), .val (.long u3), .second, .val (.int (0 : Int32)), .val (.int (1 : Int32)), .val (.long (9223372036854775807 : Int64)), .second, .val (.ref b22), .val (.ref d27), .unset, .unset] [])) (fun t_ k_ => XS.ifNo X35.here hx rfl (hb hby at_115) rfl ((if0 _ _).trans (teq (by decide : (0 : Int32) = (0 : Int32))).2) k_) ?_
      refine own_st (B := T35.setTop (mkF m 120 #[.val (.long u0), .second, .val (.int u1), .val (.int u2), .val (.long u3), .second, .val (.int (0 : Int32)), .val (.int (1 : Int32)), .val (.long (9223372036854775807 : Int64)), .second, .val (.ref b22), .val (.ref d27), .unset, .unset] [(.ref b22)])) (fun t_ k_ => XS.aload X35.here hx rfl (hb hby at_118) rfl rfl k_) ?_
      refine own_st (B := T35.setTop (mkF m 121 #[.val (.long u0), .second, .val (.int u1), .val (.int u2), .val (.long u3), .second, .val (.int (0 : Int32)), .val (.int (1 : Int32)), .val (.long (9223372036854775807 : Int64)), .second, .val (.ref b22), .val (.ref d27), .unset, .unset] [(.int (0 : Int32)), (.ref b22)])) (fun t_ k_ => XS.iconst X35.here hx rfl (hb hby at_120) k_) ?_
      have u36 := a25.keep K27 nin0
      refine own_st (B := T35.setTop (mkF m 122 #[.val (.long u0), .second, .val (.int u1), .val (.int u2), .val (.long u3), .second, .val (.int (0 : Int32)), .val (.int (1 : Int32)), .val (.long (9223372036854775807 : Int64)), .second, .val (.ref b22), .val (.ref d27), .unset, .unset] [(.int ((own_up (fun _ => 0) 0 (nar .byte (u2.toInt8.toInt32))) 0))])) (fun t_ k_ => own_ldB X35 hx hZ eh35 u36 (i := 0) (by decide) (by decide) (hb hby at_121) t_ k_) ?_
      refine own_st (B := T35.setTop (mkF m 123 #[.val (.long u0), .second, .val (.int u1), .val (.int u2), .val (.long u3), .second, .val (.int (0 : Int32)), .val (.int (1 : Int32)), .val (.long (9223372036854775807 : Int64)), .second, .val (.ref b22), .val (.ref d27), .unset, .unset] [(.int u2), (.int ((own_up (fun _ => 0) 0 (nar .byte (u2.toInt8.toInt32))) 0))])) (fun t_ k_ => XS.iloadN X35.here hx rfl (hb hby at_122) rfl k_) ?_
      refine own_st (B := T35.setTop (mkF m 124 #[.val (.long u0), .second, .val (.int u1), .val (.int u2), .val (.long u3), .second, .val (.int (0 : Int32)), .val (.int (1 : Int32)), .val (.long (9223372036854775807 : Int64)), .second, .val (.ref b22), .val (.ref d27), .unset, .unset] [(.int (u2.toInt8.toInt32)), (.int ((own_up (fun _ => 0) 0 (nar .byte (u2.toInt8.toInt32))) 0))])) (fun t_ k_ => XS.i2b X35.here hx rfl (hb hby at_123) rfl k_) ?_
      have hc37 : ((own_up (fun _ => 0) 0 (nar .byte (u2.toInt8.toInt32))) 0) = (u2.toInt8.toInt32) := (own_up_same _ _ _).trans (own_nbb _)
      have hd37 := own_eq32 hc37
      refine own_st (B := T35.setTop (mkF m 129 #[.val (.long u0), .second, .val (.int u1), .val (.int u2), .val (.long u3), .second, .val (.int (0 : Int32)), .val (.int (1 : Int32)), .val (.long (9223372036854775807 : Int64)), .second, .val (.ref b22), .val (.ref d27), .unset, .unset] [])) (fun t_ k_ => XS.icmpYes X35.here hx rfl (pc0 := 124) (pc' := 129) rfl (hb hby at_124) rfl (teq hc37).1 (by decide) (by decide) k_) ?_
      refine own_st (B := T35.setTop (mkF m 131 #[.val (.long u0), .second, .val (.int u1), .val (.int u2), .val (.long u3), .second, .val (.int (0 : Int32)), .val (.int (1 : Int32)), .val (.long (9223372036854775807 : Int64)), .second, .val (.ref b22), .val (.ref d27), .unset, .unset] [(.ref d27)])) (fun t_ k_ => XS.aload X35.here hx rfl (hb hby at_129) rfl rfl k_) ?_
      obtain ⟨cq38, kq38, q38a, q38b, q38c⟩ := isOf hZ eh35 Eb27
      obtain ⟨_, _, ⟨T38, L38, k38, n38⟩, -, X38, ⟨Lc38, hQ38, l38, y38, z38⟩, st38⟩ := X35.virtualBack hx (y := (⟨"com/example/serialine/serialine/Version", "older", "()Lcom/example/serialine/serialine/Version;"⟩ : MethodName)) (z := (⟨"com/example/serialine/serialine/Version", "older", "()Lcom/example/serialine/serialine/Version;"⟩ : MethodName)) hown (mvT hZ (hw _ (List.mem_of_getElem? (i := 38) rfl))) (mvT hZ (hw _ (List.mem_of_getElem? (i := 39) rfl))) (notFace_of_selects (args := #[]) (mvT hZ (hw _ (List.mem_of_getElem? (i := 41) rfl)))) (mvT hZ (hw _ (List.mem_of_getElem? (i := 41) rfl))) (mvT hZ (hw _ (List.mem_of_getElem? (i := 40) rfl))) (by decide) (backOf (W := 0) (rm7 l Z a0 hw [] d27 .null T27.heap n0 Z30 rfl Fb27_3) hZ (hw _ (List.mem_of_getElem? (i := 42) rfl)) (hw _ (List.mem_of_getElem? (i := 4) rfl)) (by decide) (by decide)) q38a q38c (g := (mkF m 131 #[.val (.long u0), .second, .val (.int u1), .val (.int u2), .val (.long u3), .second, .val (.int (0 : Int32)), .val (.int (1 : Int32)), .val (.long (9223372036854775807 : Int64)), .second, .val (.ref b22), .val (.ref d27), .unset, .unset] [(.ref d27)])) rfl (by rw [hml]; rfl) (Steps.refl _) (argsL := []) (rest := []) (lenOf own_pd4 rfl) rfl (by show 2 * 0 + _ ≤ _; exact Nat.le_of_eq rfl) (hb hby at_131) (fun _ _ => ⟨rfl, eh35, (by decide : 2 + 0 ≤ _), (by decide : 5 + 0 ≤ _)⟩)
      dsimp only [Pt.U, Pt.locs, Pt.cells, Pt.slots] at X38 l38 y38 z38 st38 hQ38
      subst l38 y38 z38
      obtain ⟨rfl, N38q, eh38⟩ := hQ38
      have N38 := Fr.app N35 N38q
      refine own_st (B := T38.setTop (mkF m 134 #[.val (.long u0), .second, .val (.int u1), .val (.int u2), .val (.long u3), .second, .val (.int (0 : Int32)), .val (.int (1 : Int32)), .val (.long (9223372036854775807 : Int64)), .second, .val (.ref b22), .val (.ref d27), .unset, .unset] [.null])) (fun t_ k_ => st38.trans k_) ?_
      refine own_st (B := T38.setTop (mkF m 139 #[.val (.long u0), .second, .val (.int u1), .val (.int u2), .val (.long u3), .second, .val (.int (0 : Int32)), .val (.int (1 : Int32)), .val (.long (9223372036854775807 : Int64)), .second, .val (.ref b22), .val (.ref d27), .unset, .unset] [])) (fun t_ k_ => XS.ifnullYes X38.here hx rfl (pc0 := 134) (pc' := 139) rfl (hb hby at_134) rfl (by decide) (by decide) k_) ?_
      refine own_st (B := T38.setTop (mkF m 141 #[.val (.long u0), .second, .val (.int u1), .val (.int u2), .val (.long u3), .second, .val (.int (0 : Int32)), .val (.int (1 : Int32)), .val (.long (9223372036854775807 : Int64)), .second, .val (.ref b22), .val (.ref d27), .unset, .unset] [(.ref d27)])) (fun t_ k_ => XS.aload X38.here hx rfl (hb hby at_139) rfl rfl k_) ?_
      refine own_st (B := T38.setTop (mkF m 143 #[.val (.long u0), .second, .val (.int u1), .val (.int u2), .val (.long u3), .second, .val (.int (0 : Int32)), .val (.int (1 : Int32)), .val (.long (9223372036854775807 : Int64)), .second, .val (.ref b22), .val (.ref d27), .unset, .unset] [(.long (9223372036854775807 : Int64)), (.ref d27)])) (fun t_ k_ => XS.lload X38.here hx rfl (hb hby at_141) rfl k_) ?_
      obtain ⟨cq39, kq39, q39a, q39b, q39c⟩ := isOf hZ eh38 Eb27
      obtain ⟨_, _, ⟨T39, L39, k39, n39⟩, -, X39, ⟨Lc39, hQ39, l39, y39, z39⟩, st39⟩ := X38.virtualBack hx (y := (⟨"com/example/serialine/serialine/Version", "at", "(J)Lcom/example/serialine/serialine/Version;"⟩ : MethodName)) (z := (⟨"com/example/serialine/serialine/Version", "at", "(J)Lcom/example/serialine/serialine/Version;"⟩ : MethodName)) hown (mvT hZ (hw _ (List.mem_of_getElem? (i := 43) rfl))) (mvT hZ (hw _ (List.mem_of_getElem? (i := 44) rfl))) (notFace_of_selects (args := #[]) (mvT hZ (hw _ (List.mem_of_getElem? (i := 46) rfl)))) (mvT hZ (hw _ (List.mem_of_getElem? (i := 46) rfl))) (mvT hZ (hw _ (List.mem_of_getElem? (i := 45) rfl))) (by decide) (backOf (W := 0) (rm8 l Z a0 hw [] d27 (9223372036854775807 : Int64) (9223372036854775807 : Int64) T27.heap n0 Z30 Fb27_0 Fb27_3) hZ (hw _ (List.mem_of_getElem? (i := 47) rfl)) (hw _ (List.mem_of_getElem? (i := 4) rfl)) (by decide) (by decide)) q39a q39c (g := (mkF m 143 #[.val (.long u0), .second, .val (.int u1), .val (.int u2), .val (.long u3), .second, .val (.int (0 : Int32)), .val (.int (1 : Int32)), .val (.long (9223372036854775807 : Int64)), .second, .val (.ref b22), .val (.ref d27), .unset, .unset] [(.long (9223372036854775807 : Int64)), (.ref d27)])) rfl (by rw [hml]; rfl) (Steps.refl _) (argsL := [(.long (9223372036854775807 : Int64))]) (rest := []) (lenOf own_pd5 rfl) rfl (by show 2 * 0 + _ ≤ _; exact Nat.le_of_eq rfl) (hb hby at_143) (fun _ _ => ⟨rfl, eh38, (by decide : 2 + 0 ≤ _), (by decide : 5 + 0 ≤ _)⟩)
      dsimp only [Pt.U, Pt.locs, Pt.cells, Pt.slots] at X39 l39 y39 z39 st39 hQ39
      subst l39 y39 z39
      obtain ⟨rfl, N39q, eh39⟩ := hQ39
      have N39 := Fr.app N38 N39q
      refine own_st (B := T39.setTop (mkF m 146 #[.val (.long u0), .second, .val (.int u1), .val (.int u2), .val (.long u3), .second, .val (.int (0 : Int32)), .val (.int (1 : Int32)), .val (.long (9223372036854775807 : Int64)), .second, .val (.ref b22), .val (.ref d27), .unset, .unset] [(own_at d27 (9223372036854775807 : Int64) (9223372036854775807 : Int64))])) (fun t_ k_ => st39.trans k_) ?_
      refine own_st (B := T39.setTop (mkF m 148 #[.val (.long u0), .second, .val (.int u1), .val (.int u2), .val (.long u3), .second, .val (.int (0 : Int32)), .val (.int (1 : Int32)), .val (.long (9223372036854775807 : Int64)), .second, .val (.ref b22), .val (.ref d27), .val (own_at d27 (9223372036854775807 : Int64) (9223372036854775807 : Int64)), .unset] [])) (fun t_ k_ => XS.astore X39.here hx rfl (hb hby at_146) rfl (own_atR _ _ _) (l' := #[.val (.long u0), .second, .val (.int u1), .val (.int u2), .val (.long u3), .second, .val (.int (0 : Int32)), .val (.int (1 : Int32)), .val (.long (9223372036854775807 : Int64)), .second, .val (.ref b22), .val (.ref d27), .val (own_at d27 (9223372036854775807 : Int64) (9223372036854775807 : Int64)), .unset]) (own_stV rfl (Or.inl rfl) (own_atC _ _ _)) k_) ?_
      refine own_st (B := T39.setTop (mkF m 150 #[.val (.long u0), .second, .val (.int u1), .val (.int u2), .val (.long u3), .second, .val (.int (0 : Int32)), .val (.int (1 : Int32)), .val (.long (9223372036854775807 : Int64)), .second, .val (.ref b22), .val (.ref d27), .val (own_at d27 (9223372036854775807 : Int64) (9223372036854775807 : Int64)), .unset] [(.long (9223372036854775807 : Int64))])) (fun t_ k_ => XS.lload X39.here hx rfl (hb hby at_148) rfl k_) ?_
      refine own_st (B := T39.setTop (mkF m 153 #[.val (.long u0), .second, .val (.int u1), .val (.int u2), .val (.long u3), .second, .val (.int (0 : Int32)), .val (.int (1 : Int32)), .val (.long (9223372036854775807 : Int64)), .second, .val (.ref b22), .val (.ref d27), .val (own_at d27 (9223372036854775807 : Int64) (9223372036854775807 : Int64)), .unset] [(.long (9223372036854775807 : Int64)), (.long (9223372036854775807 : Int64))])) (fun t_ k_ => X39.ldc2Long hx hown (mvT hZ (hw _ (List.mem_of_getElem? (i := 0) rfl))) (g := (mkF m 150 #[.val (.long u0), .second, .val (.int u1), .val (.int u2), .val (.long u3), .second, .val (.int (0 : Int32)), .val (.int (1 : Int32)), .val (.long (9223372036854775807 : Int64)), .second, .val (.ref b22), .val (.ref d27), .val (own_at d27 (9223372036854775807 : Int64) (9223372036854775807 : Int64)), .unset] [(.long (9223372036854775807 : Int64))])) rfl (hb hby at_150) t_ k_) ?_
      refine own_st (B := T39.setTop (mkF m 154 #[.val (.long u0), .second, .val (.int u1), .val (.int u2), .val (.long u3), .second, .val (.int (0 : Int32)), .val (.int (1 : Int32)), .val (.long (9223372036854775807 : Int64)), .second, .val (.ref b22), .val (.ref d27), .val (own_at d27 (9223372036854775807 : Int64) (9223372036854775807 : Int64)), .unset] [(.int (lcmpW (9223372036854775807 : Int64) (9223372036854775807 : Int64)))])) (fun t_ k_ => XS.lcmp X39.here hx rfl (hb hby at_153) rfl k_) ?_
      have hc40 : (9223372036854775807 : Int64) = (9223372036854775807 : Int64) := by decide
      refine own_st (B := T39.setTop (mkF m 157 #[.val (.long u0), .second, .val (.int u1), .val (.int u2), .val (.long u3), .second, .val (.int (0 : Int32)), .val (.int (1 : Int32)), .val (.long (9223372036854775807 : Int64)), .second, .val (.ref b22), .val (.ref d27), .val (own_at d27 (9223372036854775807 : Int64) (9223372036854775807 : Int64)), .unset] [])) (fun t_ k_ => XS.ifNo X39.here hx rfl (hb hby at_154) rfl ((if0 _ _).trans (teq ((lw_eq _ _).mpr hc40)).2) k_) ?_
      refine own_st (B := T39.setTop (mkF m 159 #[.val (.long u0), .second, .val (.int u1), .val (.int u2), .val (.long u3), .second, .val (.int (0 : Int32)), .val (.int (1 : Int32)), .val (.long (9223372036854775807 : Int64)), .second, .val (.ref b22), .val (.ref d27), .val (own_at d27 (9223372036854775807 : Int64) (9223372036854775807 : Int64)), .unset] [(.ref d27)])) (fun t_ k_ => XS.aload X39.here hx rfl (hb hby at_157) rfl rfl k_) ?_
      refine own_st (B := T39.setTop (mkF m 163 #[.val (.long u0), .second, .val (.int u1), .val (.int u2), .val (.long u3), .second, .val (.int (0 : Int32)), .val (.int (1 : Int32)), .val (.long (9223372036854775807 : Int64)), .second, .val (.ref b22), .val (.ref d27), .val (own_at d27 (9223372036854775807 : Int64) (9223372036854775807 : Int64)), .unset] [(.ref d27)])) (fun t_ k_ => XS.goto X39.here hx rfl (pc0 := 159) (pc' := 163) rfl (hb hby at_159) (by decide) (by decide) k_) ?_
      refine own_st (B := T39.setTop (mkF m 165 #[.val (.long u0), .second, .val (.int u1), .val (.int u2), .val (.long u3), .second, .val (.int (0 : Int32)), .val (.int (1 : Int32)), .val (.long (9223372036854775807 : Int64)), .second, .val (.ref b22), .val (.ref d27), .val (own_at d27 (9223372036854775807 : Int64) (9223372036854775807 : Int64)), .val (.ref d27)] [])) (fun t_ k_ => XS.astore X39.here hx rfl (hb hby at_163) rfl rfl (l' := #[.val (.long u0), .second, .val (.int u1), .val (.int u2), .val (.long u3), .second, .val (.int (0 : Int32)), .val (.int (1 : Int32)), .val (.long (9223372036854775807 : Int64)), .second, .val (.ref b22), .val (.ref d27), .val (own_at d27 (9223372036854775807 : Int64) (9223372036854775807 : Int64)), .val (.ref d27)]) rfl k_) ?_
      refine own_st (B := T39.setTop (mkF m 167 #[.val (.long u0), .second, .val (.int u1), .val (.int u2), .val (.long u3), .second, .val (.int (0 : Int32)), .val (.int (1 : Int32)), .val (.long (9223372036854775807 : Int64)), .second, .val (.ref b22), .val (.ref d27), .val (own_at d27 (9223372036854775807 : Int64) (9223372036854775807 : Int64)), .val (.ref d27)] [(own_at d27 (9223372036854775807 : Int64) (9223372036854775807 : Int64))])) (fun t_ k_ => XS.aload X39.here hx rfl (hb hby at_165) rfl (own_atR _ _ _) k_) ?_
      refine own_st (B := T39.setTop (mkF m 169 #[.val (.long u0), .second, .val (.int u1), .val (.int u2), .val (.long u3), .second, .val (.int (0 : Int32)), .val (.int (1 : Int32)), .val (.long (9223372036854775807 : Int64)), .second, .val (.ref b22), .val (.ref d27), .val (own_at d27 (9223372036854775807 : Int64) (9223372036854775807 : Int64)), .val (.ref d27)] [(.ref d27), (own_at d27 (9223372036854775807 : Int64) (9223372036854775807 : Int64))])) (fun t_ k_ => XS.aload X39.here hx rfl (hb hby at_167) rfl rfl k_) ?_
      refine own_st (B := T39.setTop (mkF m 172 #[.val (.long u0), .second, .val (.int u1), .val (.int u2), .val (.long u3), .second, .val (.int (0 : Int32)), .val (.int (1 : Int32)), .val (.long (9223372036854775807 : Int64)), .second, .val (.ref b22), .val (.ref d27), .val (own_at d27 (9223372036854775807 : Int64) (9223372036854775807 : Int64)), .val (.ref d27)] [])) (fun t_ k_ => Jvm.RoadKit.acmp (g := (mkF m 169 #[.val (.long u0), .second, .val (.int u1), .val (.int u2), .val (.long u3), .second, .val (.int (0 : Int32)), .val (.int (1 : Int32)), .val (.long (9223372036854775807 : Int64)), .second, .val (.ref b22), .val (.ref d27), .val (own_at d27 (9223372036854775807 : Int64) (9223372036854775807 : Int64)), .val (.ref d27)] [(.ref d27), (own_at d27 (9223372036854775807 : Int64) (9223372036854775807 : Int64))])) X39 hx rfl (own_atR _ _ _) rfl (pc0 := 169) (pc' := 172) (same := true) rfl (hb hby at_169) rfl (decide_eq_true (by rw [own_at, if_neg (by decide)])) (by decide) (by decide) k_) ?_
      refine own_st (B := T39.setTop (mkF m 173 #[.val (.long u0), .second, .val (.int u1), .val (.int u2), .val (.long u3), .second, .val (.int (0 : Int32)), .val (.int (1 : Int32)), .val (.long (9223372036854775807 : Int64)), .second, .val (.ref b22), .val (.ref d27), .val (own_at d27 (9223372036854775807 : Int64) (9223372036854775807 : Int64)), .val (.ref d27)] [(.int (1 : Int32))])) (fun t_ k_ => XS.iconst X39.here hx rfl (hb hby at_172) k_) ?_
      refine own_st (B := T39.setTop (mkF m 177 #[.val (.long u0), .second, .val (.int u1), .val (.int u2), .val (.long u3), .second, .val (.int (0 : Int32)), .val (.int (1 : Int32)), .val (.long (9223372036854775807 : Int64)), .second, .val (.ref b22), .val (.ref d27), .val (own_at d27 (9223372036854775807 : Int64) (9223372036854775807 : Int64)), .val (.ref d27)] [(.int (1 : Int32))])) (fun t_ k_ => XS.goto X39.here hx rfl (pc0 := 173) (pc' := 177) rfl (hb hby at_173) (by decide) (by decide) k_) ?_
      refine own_retN X39 hx (t := .boolean) Bd.returns (by simp) hlk (hb hby at_177) (z' := (1 : Int32)) (by first | rfl | exact own_nb _ | exact own_nbb _) (by decide) (by decide) ?_
      show Q0 Z u0 u1 u2 u3 h0 n0 _ T39.heap _
      rw [eh39]
      exact ⟨rfl, N39⟩
  · have hd1 := own_neq32 hc1
    rw [show (0 : Int32).toInt = 0 from rfl] at hd1
    refine own_st (B := s₁.setTop (mkF m 6 #[.val (.long u0), .second, .val (.int u1), .val (.int u2), .val (.long u3), .second, .unset, .unset, .unset, .unset, .unset, .unset, .unset, .unset] [])) (fun t_ k_ => XS.ifNo X0.here hx rfl (hb hby at_3) rfl ((if0 _ _).trans (feq hc1).1) k_) ?_
    refine own_st (B := s₁.setTop (mkF m 7 #[.val (.long u0), .second, .val (.int u1), .val (.int u2), .val (.long u3), .second, .unset, .unset, .unset, .unset, .unset, .unset, .unset, .unset] [(.int (1 : Int32))])) (fun t_ k_ => XS.iconst X0.here hx rfl (hb hby at_6) k_) ?_
    refine own_st (B := s₁.setTop (mkF m 11 #[.val (.long u0), .second, .val (.int u1), .val (.int u2), .val (.long u3), .second, .unset, .unset, .unset, .unset, .unset, .unset, .unset, .unset] [(.int (1 : Int32))])) (fun t_ k_ => XS.goto X0.here hx rfl (pc0 := 7) (pc' := 11) rfl (hb hby at_7) (by decide) (by decide) k_) ?_
    refine own_st (B := s₁.setTop (mkF m 13 #[.val (.long u0), .second, .val (.int u1), .val (.int u2), .val (.long u3), .second, .val (.int (1 : Int32)), .unset, .unset, .unset, .unset, .unset, .unset, .unset] [])) (fun t_ k_ => XS.istore X0.here hx rfl (hb hby at_11) rfl (l' := #[.val (.long u0), .second, .val (.int u1), .val (.int u2), .val (.long u3), .second, .val (.int (1 : Int32)), .unset, .unset, .unset, .unset, .unset, .unset, .unset]) rfl k_) ?_
    refine own_st (B := s₁.setTop (mkF m 14 #[.val (.long u0), .second, .val (.int u1), .val (.int u2), .val (.long u3), .second, .val (.int (1 : Int32)), .unset, .unset, .unset, .unset, .unset, .unset, .unset] [(.int u1)])) (fun t_ k_ => XS.iloadN X0.here hx rfl (hb hby at_13) rfl k_) ?_
    refine own_st (B := s₁.setTop (mkF m 15 #[.val (.long u0), .second, .val (.int u1), .val (.int u2), .val (.long u3), .second, .val (.int (1 : Int32)), .unset, .unset, .unset, .unset, .unset, .unset, .unset] [(.int (2 : Int32)), (.int u1)])) (fun t_ k_ => XS.iconst X0.here hx rfl (hb hby at_14) k_) ?_
    refine own_st (B := s₁.setTop (mkF m 16 #[.val (.long u0), .second, .val (.int u1), .val (.int u2), .val (.long u3), .second, .val (.int (1 : Int32)), .unset, .unset, .unset, .unset, .unset, .unset, .unset] [(.int (u1 &&& (2 : Int32)))])) (fun t_ k_ => XS.iand X0.here hx rfl (hb hby at_15) rfl k_) ?_
    by_cases hc41 : (u1 &&& (2 : Int32)) = (0 : Int32)
    · have hd41 := own_eq32 hc41
      rw [show (0 : Int32).toInt = 0 from rfl] at hd41
      refine own_st (B := s₁.setTop (mkF m 23 #[.val (.long u0), .second, .val (.int u1), .val (.int u2), .val (.long u3), .second, .val (.int (1 : Int32)), .unset, .unset, .unset, .unset, .unset, .unset, .unset] [])) (fun t_ k_ => XS.ifYes X0.here hx rfl (pc0 := 16) (pc' := 23) rfl (hb hby at_16) rfl ((if0 _ _).trans (teq hc41).1) (by decide) (by decide) k_) ?_
      refine own_st (B := s₁.setTop (mkF m 24 #[.val (.long u0), .second, .val (.int u1), .val (.int u2), .val (.long u3), .second, .val (.int (1 : Int32)), .unset, .unset, .unset, .unset, .unset, .unset, .unset] [(.int (0 : Int32))])) (fun t_ k_ => XS.iconst X0.here hx rfl (hb hby at_23) k_) ?_
      refine own_st (B := s₁.setTop (mkF m 26 #[.val (.long u0), .second, .val (.int u1), .val (.int u2), .val (.long u3), .second, .val (.int (1 : Int32)), .val (.int (0 : Int32)), .unset, .unset, .unset, .unset, .unset, .unset] [])) (fun t_ k_ => XS.istore X0.here hx rfl (hb hby at_24) rfl (l' := #[.val (.long u0), .second, .val (.int u1), .val (.int u2), .val (.long u3), .second, .val (.int (1 : Int32)), .val (.int (0 : Int32)), .unset, .unset, .unset, .unset, .unset, .unset]) rfl k_) ?_
      refine own_st (B := s₁.setTop (mkF m 28 #[.val (.long u0), .second, .val (.int u1), .val (.int u2), .val (.long u3), .second, .val (.int (1 : Int32)), .val (.int (0 : Int32)), .unset, .unset, .unset, .unset, .unset, .unset] [(.int (0 : Int32))])) (fun t_ k_ => XS.iload X0.here hx rfl (hb hby at_26) rfl k_) ?_
      refine own_st (B := s₁.setTop (mkF m 37 #[.val (.long u0), .second, .val (.int u1), .val (.int u2), .val (.long u3), .second, .val (.int (1 : Int32)), .val (.int (0 : Int32)), .unset, .unset, .unset, .unset, .unset, .unset] [])) (fun t_ k_ => XS.ifYes X0.here hx rfl (pc0 := 28) (pc' := 37) rfl (hb hby at_28) rfl ((if0 _ _).trans (teq (by decide : (0 : Int32) = (0 : Int32))).1) (by decide) (by decide) k_) ?_
      refine own_st (B := s₁.setTop (mkF m 39 #[.val (.long u0), .second, .val (.int u1), .val (.int u2), .val (.long u3), .second, .val (.int (1 : Int32)), .val (.int (0 : Int32)), .unset, .unset, .unset, .unset, .unset, .unset] [(.long u3)])) (fun t_ k_ => XS.lload X0.here hx rfl (hb hby at_37) rfl k_) ?_
      refine own_st (B := s₁.setTop (mkF m 41 #[.val (.long u0), .second, .val (.int u1), .val (.int u2), .val (.long u3), .second, .val (.int (1 : Int32)), .val (.int (0 : Int32)), .val (.long u3), .second, .unset, .unset, .unset, .unset] [])) (fun t_ k_ => XS.lstore X0.here hx rfl (hb hby at_39) rfl (l' := #[.val (.long u0), .second, .val (.int u1), .val (.int u2), .val (.long u3), .second, .val (.int (1 : Int32)), .val (.int (0 : Int32)), .val (.long u3), .second, .unset, .unset, .unset, .unset]) rfl k_) ?_
      refine own_st (B := s₁.setTop (mkF m 43 #[.val (.long u0), .second, .val (.int u1), .val (.int u2), .val (.long u3), .second, .val (.int (1 : Int32)), .val (.int (0 : Int32)), .val (.long u3), .second, .unset, .unset, .unset, .unset] [(.int (1 : Int32))])) (fun t_ k_ => XS.iload X0.here hx rfl (hb hby at_41) rfl k_) ?_
      refine own_st (B := s₁.setTop (mkF m 46 #[.val (.long u0), .second, .val (.int u1), .val (.int u2), .val (.long u3), .second, .val (.int (1 : Int32)), .val (.int (0 : Int32)), .val (.long u3), .second, .unset, .unset, .unset, .unset] [])) (fun t_ k_ => XS.ifNo X0.here hx rfl (hb hby at_43) rfl ((if0 _ _).trans (feq (by decide : ¬ ((1 : Int32) = (0 : Int32)))).1) k_) ?_
      refine own_st (B := s₁.setTop (mkF m 47 #[.val (.long u0), .second, .val (.int u1), .val (.int u2), .val (.long u3), .second, .val (.int (1 : Int32)), .val (.int (0 : Int32)), .val (.long u3), .second, .unset, .unset, .unset, .unset] [.null])) (fun t_ k_ => XS.aconstNull X0.here hx rfl (hb hby at_46) k_) ?_
      refine own_st (B := s₁.setTop (mkF m 58 #[.val (.long u0), .second, .val (.int u1), .val (.int u2), .val (.long u3), .second, .val (.int (1 : Int32)), .val (.int (0 : Int32)), .val (.long u3), .second, .unset, .unset, .unset, .unset] [.null])) (fun t_ k_ => XS.goto X0.here hx rfl (pc0 := 47) (pc' := 58) rfl (hb hby at_47) (by decide) (by decide) k_) ?_
      refine own_st (B := s₁.setTop (mkF m 60 #[.val (.long u0), .second, .val (.int u1), .val (.int u2), .val (.long u3), .second, .val (.int (1 : Int32)), .val (.int (0 : Int32)), .val (.long u3), .second, .val .null, .unset, .unset, .unset] [])) (fun t_ k_ => XS.astore X0.here hx rfl (hb hby at_58) rfl rfl (l' := #[.val (.long u0), .second, .val (.int u1), .val (.int u2), .val (.long u3), .second, .val (.int (1 : Int32)), .val (.int (0 : Int32)), .val (.long u3), .second, .val .null, .unset, .unset, .unset]) rfl k_) ?_
      refine own_st (B := s₁.setTop (mkF m 61 #[.val (.long u0), .second, .val (.int u1), .val (.int u2), .val (.long u3), .second, .val (.int (1 : Int32)), .val (.int (0 : Int32)), .val (.long u3), .second, .val .null, .unset, .unset, .unset] [(.long u0)])) (fun t_ k_ => XS.lloadN X0.here hx rfl (hb hby at_60) rfl k_) ?_
      refine own_st (B := s₁.setTop (mkF m 63 #[.val (.long u0), .second, .val (.int u1), .val (.int u2), .val (.long u3), .second, .val (.int (1 : Int32)), .val (.int (0 : Int32)), .val (.long u3), .second, .val .null, .unset, .unset, .unset] [.null, (.long u0)])) (fun t_ k_ => XS.aload X0.here hx rfl (hb hby at_61) rfl rfl k_) ?_
      obtain ⟨_, _, ⟨T42, L42, k42, n42⟩, -, X42, ⟨Lc42, hQ42, l42, y42, z42⟩, st42⟩ := Jvm.LawKit.callS X0 hx (y := (⟨"com/example/serialine/serialine/Version", "uncommitted", "(J[B)Lcom/example/serialine/serialine/Version;"⟩ : MethodName)) hown (mvT hZ (hw _ (List.mem_of_getElem? (i := 2) rfl))) (mvT hZ (hw _ (List.mem_of_getElem? (i := 3) rfl))) (mvT hZ (hw _ (List.mem_of_getElem? (i := 4) rfl))) (mvT hZ (hw _ (List.mem_of_getElem? (i := 5) rfl))) (by decide) (backOf (W := 0) (rm1 l Z a0 hw [] u0 .null h0 n0 Z0 rfl) hZ (hw _ (List.mem_of_getElem? (i := 5) rfl)) (hw _ (List.mem_of_getElem? (i := 4) rfl)) (by decide) (by decide)) (g := (mkF m 63 #[.val (.long u0), .second, .val (.int u1), .val (.int u2), .val (.long u3), .second, .val (.int (1 : Int32)), .val (.int (0 : Int32)), .val (.long u3), .second, .val .null, .unset, .unset, .unset] [.null, (.long u0)])) rfl (by rw [hml]; rfl) (argsL := [(.long u0), .null]) (rest := []) (lenOf own_pd1 rfl) rfl (by show 2 * 0 + _ ≤ _; exact Nat.le_of_eq rfl) (hb hby at_63) (fun _ _ => ⟨rfl, e0, (by decide : 0 + 1 ≤ _), (by decide : 0 + 4 ≤ _)⟩)
      dsimp only [Pt.U, Pt.locs, Pt.cells, Pt.slots] at X42 l42 y42 z42 st42 hQ42
      subst l42 y42 z42
      obtain ⟨d42, rfl, N42q, K42, gb42, Eb42, Fb42_0, Fb42_1, Fb42_2, Fb42_3⟩ := hQ42
      have N42 := Fr.app N0 N42q
      have g43 : n0 ≤ d42 := Nat.le_trans Z0 gb42
      have Z44 := Nat.le_trans Z0 K42.1
      refine own_st (B := T42.setTop (mkF m 66 #[.val (.long u0), .second, .val (.int u1), .val (.int u2), .val (.long u3), .second, .val (.int (1 : Int32)), .val (.int (0 : Int32)), .val (.long u3), .second, .val .null, .unset, .unset, .unset] [(.ref d42)])) st42 ?_
      refine own_st (B := T42.setTop (mkF m 68 #[.val (.long u0), .second, .val (.int u1), .val (.int u2), .val (.long u3), .second, .val (.int (1 : Int32)), .val (.int (0 : Int32)), .val (.long u3), .second, .val .null, .val (.ref d42), .unset, .unset] [])) (fun t_ k_ => XS.astore X42.here hx rfl (hb hby at_66) rfl rfl (l' := #[.val (.long u0), .second, .val (.int u1), .val (.int u2), .val (.long u3), .second, .val (.int (1 : Int32)), .val (.int (0 : Int32)), .val (.long u3), .second, .val .null, .val (.ref d42), .unset, .unset]) rfl k_) ?_
      refine own_st (B := T42.setTop (mkF m 70 #[.val (.long u0), .second, .val (.int u1), .val (.int u2), .val (.long u3), .second, .val (.int (1 : Int32)), .val (.int (0 : Int32)), .val (.long u3), .second, .val .null, .val (.ref d42), .unset, .unset] [(.ref d42)])) (fun t_ k_ => XS.aload X42.here hx rfl (hb hby at_68) rfl rfl k_) ?_
      refine own_st (B := T42.setTop (mkF m 75 #[.val (.long u0), .second, .val (.int u1), .val (.int u2), .val (.long u3), .second, .val (.int (1 : Int32)), .val (.int (0 : Int32)), .val (.long u3), .second, .val .null, .val (.ref d42), .unset, .unset] [])) (fun t_ k_ => XT.ifnonnullYes X42.here hx rfl (pc0 := 70) (pc' := 75) rfl (hb hby at_70) rfl (by decide) (by decide) k_) ?_
      refine own_st (B := T42.setTop (mkF m 77 #[.val (.long u0), .second, .val (.int u1), .val (.int u2), .val (.long u3), .second, .val (.int (1 : Int32)), .val (.int (0 : Int32)), .val (.long u3), .second, .val .null, .val (.ref d42), .unset, .unset] [(.ref d42)])) (fun t_ k_ => XS.aload X42.here hx rfl (hb hby at_75) rfl rfl k_) ?_
      obtain ⟨cq45, kq45, q45a, q45b, q45c⟩ := isOf hZ rfl Eb42
      obtain ⟨_, _, ⟨T45, L45, k45, n45⟩, -, X45, ⟨Lc45, hQ45, l45, y45, z45⟩, st45⟩ := X42.virtualBack hx (y := (⟨"com/example/serialine/serialine/Version", "commit", "()J"⟩ : MethodName)) (z := (⟨"com/example/serialine/serialine/Version", "commit", "()J"⟩ : MethodName)) hown (mvT hZ (hw _ (List.mem_of_getElem? (i := 23) rfl))) (mvT hZ (hw _ (List.mem_of_getElem? (i := 24) rfl))) (notFace_of_selects (args := #[]) (mvT hZ (hw _ (List.mem_of_getElem? (i := 26) rfl)))) (mvT hZ (hw _ (List.mem_of_getElem? (i := 26) rfl))) (mvT hZ (hw _ (List.mem_of_getElem? (i := 25) rfl))) (by decide) (backOf (W := 0) (rm4 l Z a0 hw [] d42 (9223372036854775807 : Int64) T42.heap n0 Z44 Fb42_0) hZ (hw _ (List.mem_of_getElem? (i := 27) rfl)) (hw _ (List.mem_of_getElem? (i := 4) rfl)) (by decide) (by decide)) q45a q45c (g := (mkF m 77 #[.val (.long u0), .second, .val (.int u1), .val (.int u2), .val (.long u3), .second, .val (.int (1 : Int32)), .val (.int (0 : Int32)), .val (.long u3), .second, .val .null, .val (.ref d42), .unset, .unset] [(.ref d42)])) rfl (by rw [hml]; rfl) (Steps.refl _) (argsL := []) (rest := []) (lenOf own_pd2 rfl) rfl (by show 2 * 0 + _ ≤ _; exact Nat.le_of_eq rfl) (hb hby at_77) (fun _ _ => ⟨rfl, rfl, (by decide : 1 + 0 ≤ _), (by decide : 4 + 0 ≤ _)⟩)
      dsimp only [Pt.U, Pt.locs, Pt.cells, Pt.slots] at X45 l45 y45 z45 st45 hQ45
      subst l45 y45 z45
      obtain ⟨rfl, N45q, eh45⟩ := hQ45
      have N45 := Fr.app N42 N45q
      refine own_st (B := T45.setTop (mkF m 80 #[.val (.long u0), .second, .val (.int u1), .val (.int u2), .val (.long u3), .second, .val (.int (1 : Int32)), .val (.int (0 : Int32)), .val (.long u3), .second, .val .null, .val (.ref d42), .unset, .unset] [(.long (9223372036854775807 : Int64))])) (fun t_ k_ => st45.trans k_) ?_
      refine own_st (B := T45.setTop (mkF m 83 #[.val (.long u0), .second, .val (.int u1), .val (.int u2), .val (.long u3), .second, .val (.int (1 : Int32)), .val (.int (0 : Int32)), .val (.long u3), .second, .val .null, .val (.ref d42), .unset, .unset] [(.long (9223372036854775807 : Int64)), (.long (9223372036854775807 : Int64))])) (fun t_ k_ => X45.ldc2Long hx hown (mvT hZ (hw _ (List.mem_of_getElem? (i := 0) rfl))) (g := (mkF m 80 #[.val (.long u0), .second, .val (.int u1), .val (.int u2), .val (.long u3), .second, .val (.int (1 : Int32)), .val (.int (0 : Int32)), .val (.long u3), .second, .val .null, .val (.ref d42), .unset, .unset] [(.long (9223372036854775807 : Int64))])) rfl (hb hby at_80) t_ k_) ?_
      refine own_st (B := T45.setTop (mkF m 84 #[.val (.long u0), .second, .val (.int u1), .val (.int u2), .val (.long u3), .second, .val (.int (1 : Int32)), .val (.int (0 : Int32)), .val (.long u3), .second, .val .null, .val (.ref d42), .unset, .unset] [(.int (lcmpW (9223372036854775807 : Int64) (9223372036854775807 : Int64)))])) (fun t_ k_ => XS.lcmp X45.here hx rfl (hb hby at_83) rfl k_) ?_
      have hc46 : (9223372036854775807 : Int64) = (9223372036854775807 : Int64) := by decide
      refine own_st (B := T45.setTop (mkF m 89 #[.val (.long u0), .second, .val (.int u1), .val (.int u2), .val (.long u3), .second, .val (.int (1 : Int32)), .val (.int (0 : Int32)), .val (.long u3), .second, .val .null, .val (.ref d42), .unset, .unset] [])) (fun t_ k_ => XS.ifYes X45.here hx rfl (pc0 := 84) (pc' := 89) rfl (hb hby at_84) rfl ((if0 _ _).trans (teq ((lw_eq _ _).mpr hc46)).1) (by decide) (by decide) k_) ?_
      refine own_st (B := T45.setTop (mkF m 91 #[.val (.long u0), .second, .val (.int u1), .val (.int u2), .val (.long u3), .second, .val (.int (1 : Int32)), .val (.int (0 : Int32)), .val (.long u3), .second, .val .null, .val (.ref d42), .unset, .unset] [(.ref d42)])) (fun t_ k_ => XS.aload X45.here hx rfl (hb hby at_89) rfl rfl k_) ?_
      obtain ⟨cq47, kq47, q47a, q47b, q47c⟩ := isOf hZ eh45 Eb42
      obtain ⟨_, _, ⟨T47, L47, k47, n47⟩, -, X47, ⟨Lc47, hQ47, l47, y47, z47⟩, st47⟩ := X45.virtualBack hx (y := (⟨"com/example/serialine/serialine/Version", "writer", "()J"⟩ : MethodName)) (z := (⟨"com/example/serialine/serialine/Version", "writer", "()J"⟩ : MethodName)) hown (mvT hZ (hw _ (List.mem_of_getElem? (i := 28) rfl))) (mvT hZ (hw _ (List.mem_of_getElem? (i := 29) rfl))) (notFace_of_selects (args := #[]) (mvT hZ (hw _ (List.mem_of_getElem? (i := 31) rfl)))) (mvT hZ (hw _ (List.mem_of_getElem? (i := 31) rfl))) (mvT hZ (hw _ (List.mem_of_getElem? (i := 30) rfl))) (by decide) (backOf (W := 0) (rm5 l Z a0 hw [] d42 u0 T42.heap n0 Z44 Fb42_1) hZ (hw _ (List.mem_of_getElem? (i := 32) rfl)) (hw _ (List.mem_of_getElem? (i := 4) rfl)) (by decide) (by decide)) q47a q47c (g := (mkF m 91 #[.val (.long u0), .second, .val (.int u1), .val (.int u2), .val (.long u3), .second, .val (.int (1 : Int32)), .val (.int (0 : Int32)), .val (.long u3), .second, .val .null, .val (.ref d42), .unset, .unset] [(.ref d42)])) rfl (by rw [hml]; rfl) (Steps.refl _) (argsL := []) (rest := []) (lenOf own_pd2 rfl) rfl (by show 2 * 0 + _ ≤ _; exact Nat.le_of_eq rfl) (hb hby at_91) (fun _ _ => ⟨rfl, eh45, (by decide : 1 + 0 ≤ _), (by decide : 4 + 0 ≤ _)⟩)
      dsimp only [Pt.U, Pt.locs, Pt.cells, Pt.slots] at X47 l47 y47 z47 st47 hQ47
      subst l47 y47 z47
      obtain ⟨rfl, N47q, eh47⟩ := hQ47
      have N47 := Fr.app N45 N47q
      refine own_st (B := T47.setTop (mkF m 94 #[.val (.long u0), .second, .val (.int u1), .val (.int u2), .val (.long u3), .second, .val (.int (1 : Int32)), .val (.int (0 : Int32)), .val (.long u3), .second, .val .null, .val (.ref d42), .unset, .unset] [(.long u0)])) (fun t_ k_ => st47.trans k_) ?_
      refine own_st (B := T47.setTop (mkF m 95 #[.val (.long u0), .second, .val (.int u1), .val (.int u2), .val (.long u3), .second, .val (.int (1 : Int32)), .val (.int (0 : Int32)), .val (.long u3), .second, .val .null, .val (.ref d42), .unset, .unset] [(.long u0), (.long u0)])) (fun t_ k_ => XS.lloadN X47.here hx rfl (hb hby at_94) rfl k_) ?_
      refine own_st (B := T47.setTop (mkF m 96 #[.val (.long u0), .second, .val (.int u1), .val (.int u2), .val (.long u3), .second, .val (.int (1 : Int32)), .val (.int (0 : Int32)), .val (.long u3), .second, .val .null, .val (.ref d42), .unset, .unset] [(.int (lcmpW u0 u0))])) (fun t_ k_ => XS.lcmp X47.here hx rfl (hb hby at_95) rfl k_) ?_
      have hc48 : u0 = u0 := rfl
      have hd48 := own_eq64 hc48
      refine own_st (B := T47.setTop (mkF m 101 #[.val (.long u0), .second, .val (.int u1), .val (.int u2), .val (.long u3), .second, .val (.int (1 : Int32)), .val (.int (0 : Int32)), .val (.long u3), .second, .val .null, .val (.ref d42), .unset, .unset] [])) (fun t_ k_ => XS.ifYes X47.here hx rfl (pc0 := 96) (pc' := 101) rfl (hb hby at_96) rfl ((if0 _ _).trans (teq ((lw_eq _ _).mpr hc48)).1) (by decide) (by decide) k_) ?_
      refine own_st (B := T47.setTop (mkF m 103 #[.val (.long u0), .second, .val (.int u1), .val (.int u2), .val (.long u3), .second, .val (.int (1 : Int32)), .val (.int (0 : Int32)), .val (.long u3), .second, .val .null, .val (.ref d42), .unset, .unset] [(.ref d42)])) (fun t_ k_ => XS.aload X47.here hx rfl (hb hby at_101) rfl rfl k_) ?_
      obtain ⟨cq49, kq49, q49a, q49b, q49c⟩ := isOf hZ eh47 Eb42
      obtain ⟨_, _, ⟨T49, L49, k49, n49⟩, -, X49, ⟨Lc49, hQ49, l49, y49, z49⟩, st49⟩ := X47.virtualBack hx (y := (⟨"com/example/serialine/serialine/Version", "value", "()[B"⟩ : MethodName)) (z := (⟨"com/example/serialine/serialine/Version", "value", "()[B"⟩ : MethodName)) hown (mvT hZ (hw _ (List.mem_of_getElem? (i := 33) rfl))) (mvT hZ (hw _ (List.mem_of_getElem? (i := 34) rfl))) (notFace_of_selects (args := #[]) (mvT hZ (hw _ (List.mem_of_getElem? (i := 36) rfl)))) (mvT hZ (hw _ (List.mem_of_getElem? (i := 36) rfl))) (mvT hZ (hw _ (List.mem_of_getElem? (i := 35) rfl))) (by decide) (backOf (W := 0) (rm6 l Z a0 hw [] d42 .null T42.heap n0 Z44 rfl Fb42_2) hZ (hw _ (List.mem_of_getElem? (i := 37) rfl)) (hw _ (List.mem_of_getElem? (i := 4) rfl)) (by decide) (by decide)) q49a q49c (g := (mkF m 103 #[.val (.long u0), .second, .val (.int u1), .val (.int u2), .val (.long u3), .second, .val (.int (1 : Int32)), .val (.int (0 : Int32)), .val (.long u3), .second, .val .null, .val (.ref d42), .unset, .unset] [(.ref d42)])) rfl (by rw [hml]; rfl) (Steps.refl _) (argsL := []) (rest := []) (lenOf own_pd3 rfl) rfl (by show 2 * 0 + _ ≤ _; exact Nat.le_of_eq rfl) (hb hby at_103) (fun _ _ => ⟨rfl, eh47, (by decide : 1 + 0 ≤ _), (by decide : 4 + 0 ≤ _)⟩)
      dsimp only [Pt.U, Pt.locs, Pt.cells, Pt.slots] at X49 l49 y49 z49 st49 hQ49
      subst l49 y49 z49
      obtain ⟨rfl, N49q, eh49⟩ := hQ49
      have N49 := Fr.app N47 N49q
      refine own_st (B := T49.setTop (mkF m 106 #[.val (.long u0), .second, .val (.int u1), .val (.int u2), .val (.long u3), .second, .val (.int (1 : Int32)), .val (.int (0 : Int32)), .val (.long u3), .second, .val .null, .val (.ref d42), .unset, .unset] [.null])) (fun t_ k_ => st49.trans k_) ?_
      refine own_st (B := T49.setTop (mkF m 108 #[.val (.long u0), .second, .val (.int u1), .val (.int u2), .val (.long u3), .second, .val (.int (1 : Int32)), .val (.int (0 : Int32)), .val (.long u3), .second, .val .null, .val (.ref d42), .unset, .unset] [.null, .null])) (fun t_ k_ => XS.aload X49.here hx rfl (hb hby at_106) rfl rfl k_) ?_
      refine own_st (B := T49.setTop (mkF m 113 #[.val (.long u0), .second, .val (.int u1), .val (.int u2), .val (.long u3), .second, .val (.int (1 : Int32)), .val (.int (0 : Int32)), .val (.long u3), .second, .val .null, .val (.ref d42), .unset, .unset] [])) (fun t_ k_ => Jvm.RoadKit.acmp (g := (mkF m 108 #[.val (.long u0), .second, .val (.int u1), .val (.int u2), .val (.long u3), .second, .val (.int (1 : Int32)), .val (.int (0 : Int32)), .val (.long u3), .second, .val .null, .val (.ref d42), .unset, .unset] [.null, .null])) X49 hx rfl rfl rfl (pc0 := 108) (pc' := 113) (same := true) rfl (hb hby at_108) rfl (decide_eq_true rfl) (by decide) (by decide) k_) ?_
      refine own_st (B := T49.setTop (mkF m 115 #[.val (.long u0), .second, .val (.int u1), .val (.int u2), .val (.long u3), .second, .val (.int (1 : Int32)), .val (.int (0 : Int32)), .val (.long u3), .second, .val .null, .val (.ref d42), .unset, .unset] [(.int (1 : Int32))])) (fun t_ k_ => XS.iload X49.here hx rfl (hb hby at_113) rfl k_) ?_
      refine own_st (B := T49.setTop (mkF m 129 #[.val (.long u0), .second, .val (.int u1), .val (.int u2), .val (.long u3), .second, .val (.int (1 : Int32)), .val (.int (0 : Int32)), .val (.long u3), .second, .val .null, .val (.ref d42), .unset, .unset] [])) (fun t_ k_ => XS.ifYes X49.here hx rfl (pc0 := 115) (pc' := 129) rfl (hb hby at_115) rfl ((if0 _ _).trans (feq (by decide : ¬ ((1 : Int32) = (0 : Int32)))).2) (by decide) (by decide) k_) ?_
      refine own_st (B := T49.setTop (mkF m 131 #[.val (.long u0), .second, .val (.int u1), .val (.int u2), .val (.long u3), .second, .val (.int (1 : Int32)), .val (.int (0 : Int32)), .val (.long u3), .second, .val .null, .val (.ref d42), .unset, .unset] [(.ref d42)])) (fun t_ k_ => XS.aload X49.here hx rfl (hb hby at_129) rfl rfl k_) ?_
      obtain ⟨cq50, kq50, q50a, q50b, q50c⟩ := isOf hZ eh49 Eb42
      obtain ⟨_, _, ⟨T50, L50, k50, n50⟩, -, X50, ⟨Lc50, hQ50, l50, y50, z50⟩, st50⟩ := X49.virtualBack hx (y := (⟨"com/example/serialine/serialine/Version", "older", "()Lcom/example/serialine/serialine/Version;"⟩ : MethodName)) (z := (⟨"com/example/serialine/serialine/Version", "older", "()Lcom/example/serialine/serialine/Version;"⟩ : MethodName)) hown (mvT hZ (hw _ (List.mem_of_getElem? (i := 38) rfl))) (mvT hZ (hw _ (List.mem_of_getElem? (i := 39) rfl))) (notFace_of_selects (args := #[]) (mvT hZ (hw _ (List.mem_of_getElem? (i := 41) rfl)))) (mvT hZ (hw _ (List.mem_of_getElem? (i := 41) rfl))) (mvT hZ (hw _ (List.mem_of_getElem? (i := 40) rfl))) (by decide) (backOf (W := 0) (rm7 l Z a0 hw [] d42 .null T42.heap n0 Z44 rfl Fb42_3) hZ (hw _ (List.mem_of_getElem? (i := 42) rfl)) (hw _ (List.mem_of_getElem? (i := 4) rfl)) (by decide) (by decide)) q50a q50c (g := (mkF m 131 #[.val (.long u0), .second, .val (.int u1), .val (.int u2), .val (.long u3), .second, .val (.int (1 : Int32)), .val (.int (0 : Int32)), .val (.long u3), .second, .val .null, .val (.ref d42), .unset, .unset] [(.ref d42)])) rfl (by rw [hml]; rfl) (Steps.refl _) (argsL := []) (rest := []) (lenOf own_pd4 rfl) rfl (by show 2 * 0 + _ ≤ _; exact Nat.le_of_eq rfl) (hb hby at_131) (fun _ _ => ⟨rfl, eh49, (by decide : 1 + 0 ≤ _), (by decide : 4 + 0 ≤ _)⟩)
      dsimp only [Pt.U, Pt.locs, Pt.cells, Pt.slots] at X50 l50 y50 z50 st50 hQ50
      subst l50 y50 z50
      obtain ⟨rfl, N50q, eh50⟩ := hQ50
      have N50 := Fr.app N49 N50q
      refine own_st (B := T50.setTop (mkF m 134 #[.val (.long u0), .second, .val (.int u1), .val (.int u2), .val (.long u3), .second, .val (.int (1 : Int32)), .val (.int (0 : Int32)), .val (.long u3), .second, .val .null, .val (.ref d42), .unset, .unset] [.null])) (fun t_ k_ => st50.trans k_) ?_
      refine own_st (B := T50.setTop (mkF m 139 #[.val (.long u0), .second, .val (.int u1), .val (.int u2), .val (.long u3), .second, .val (.int (1 : Int32)), .val (.int (0 : Int32)), .val (.long u3), .second, .val .null, .val (.ref d42), .unset, .unset] [])) (fun t_ k_ => XS.ifnullYes X50.here hx rfl (pc0 := 134) (pc' := 139) rfl (hb hby at_134) rfl (by decide) (by decide) k_) ?_
      refine own_st (B := T50.setTop (mkF m 141 #[.val (.long u0), .second, .val (.int u1), .val (.int u2), .val (.long u3), .second, .val (.int (1 : Int32)), .val (.int (0 : Int32)), .val (.long u3), .second, .val .null, .val (.ref d42), .unset, .unset] [(.ref d42)])) (fun t_ k_ => XS.aload X50.here hx rfl (hb hby at_139) rfl rfl k_) ?_
      refine own_st (B := T50.setTop (mkF m 143 #[.val (.long u0), .second, .val (.int u1), .val (.int u2), .val (.long u3), .second, .val (.int (1 : Int32)), .val (.int (0 : Int32)), .val (.long u3), .second, .val .null, .val (.ref d42), .unset, .unset] [(.long u3), (.ref d42)])) (fun t_ k_ => XS.lload X50.here hx rfl (hb hby at_141) rfl k_) ?_
      obtain ⟨cq51, kq51, q51a, q51b, q51c⟩ := isOf hZ eh50 Eb42
      obtain ⟨_, _, ⟨T51, L51, k51, n51⟩, -, X51, ⟨Lc51, hQ51, l51, y51, z51⟩, st51⟩ := X50.virtualBack hx (y := (⟨"com/example/serialine/serialine/Version", "at", "(J)Lcom/example/serialine/serialine/Version;"⟩ : MethodName)) (z := (⟨"com/example/serialine/serialine/Version", "at", "(J)Lcom/example/serialine/serialine/Version;"⟩ : MethodName)) hown (mvT hZ (hw _ (List.mem_of_getElem? (i := 43) rfl))) (mvT hZ (hw _ (List.mem_of_getElem? (i := 44) rfl))) (notFace_of_selects (args := #[]) (mvT hZ (hw _ (List.mem_of_getElem? (i := 46) rfl)))) (mvT hZ (hw _ (List.mem_of_getElem? (i := 46) rfl))) (mvT hZ (hw _ (List.mem_of_getElem? (i := 45) rfl))) (by decide) (backOf (W := 0) (rm8 l Z a0 hw [] d42 (9223372036854775807 : Int64) u3 T42.heap n0 Z44 Fb42_0 Fb42_3) hZ (hw _ (List.mem_of_getElem? (i := 47) rfl)) (hw _ (List.mem_of_getElem? (i := 4) rfl)) (by decide) (by decide)) q51a q51c (g := (mkF m 143 #[.val (.long u0), .second, .val (.int u1), .val (.int u2), .val (.long u3), .second, .val (.int (1 : Int32)), .val (.int (0 : Int32)), .val (.long u3), .second, .val .null, .val (.ref d42), .unset, .unset] [(.long u3), (.ref d42)])) rfl (by rw [hml]; rfl) (Steps.refl _) (argsL := [(.long u3)]) (rest := []) (lenOf own_pd5 rfl) rfl (by show 2 * 0 + _ ≤ _; exact Nat.le_of_eq rfl) (hb hby at_143) (fun _ _ => ⟨rfl, eh50, (by decide : 1 + 0 ≤ _), (by decide : 4 + 0 ≤ _)⟩)
      dsimp only [Pt.U, Pt.locs, Pt.cells, Pt.slots] at X51 l51 y51 z51 st51 hQ51
      subst l51 y51 z51
      obtain ⟨rfl, N51q, eh51⟩ := hQ51
      have N51 := Fr.app N50 N51q
      refine own_st (B := T51.setTop (mkF m 146 #[.val (.long u0), .second, .val (.int u1), .val (.int u2), .val (.long u3), .second, .val (.int (1 : Int32)), .val (.int (0 : Int32)), .val (.long u3), .second, .val .null, .val (.ref d42), .unset, .unset] [(own_at d42 (9223372036854775807 : Int64) u3)])) (fun t_ k_ => st51.trans k_) ?_
      refine own_st (B := T51.setTop (mkF m 148 #[.val (.long u0), .second, .val (.int u1), .val (.int u2), .val (.long u3), .second, .val (.int (1 : Int32)), .val (.int (0 : Int32)), .val (.long u3), .second, .val .null, .val (.ref d42), .val (own_at d42 (9223372036854775807 : Int64) u3), .unset] [])) (fun t_ k_ => XS.astore X51.here hx rfl (hb hby at_146) rfl (own_atR _ _ _) (l' := #[.val (.long u0), .second, .val (.int u1), .val (.int u2), .val (.long u3), .second, .val (.int (1 : Int32)), .val (.int (0 : Int32)), .val (.long u3), .second, .val .null, .val (.ref d42), .val (own_at d42 (9223372036854775807 : Int64) u3), .unset]) (own_stV rfl (Or.inl rfl) (own_atC _ _ _)) k_) ?_
      refine own_st (B := T51.setTop (mkF m 150 #[.val (.long u0), .second, .val (.int u1), .val (.int u2), .val (.long u3), .second, .val (.int (1 : Int32)), .val (.int (0 : Int32)), .val (.long u3), .second, .val .null, .val (.ref d42), .val (own_at d42 (9223372036854775807 : Int64) u3), .unset] [(.long u3)])) (fun t_ k_ => XS.lload X51.here hx rfl (hb hby at_148) rfl k_) ?_
      refine own_st (B := T51.setTop (mkF m 153 #[.val (.long u0), .second, .val (.int u1), .val (.int u2), .val (.long u3), .second, .val (.int (1 : Int32)), .val (.int (0 : Int32)), .val (.long u3), .second, .val .null, .val (.ref d42), .val (own_at d42 (9223372036854775807 : Int64) u3), .unset] [(.long (9223372036854775807 : Int64)), (.long u3)])) (fun t_ k_ => X51.ldc2Long hx hown (mvT hZ (hw _ (List.mem_of_getElem? (i := 0) rfl))) (g := (mkF m 150 #[.val (.long u0), .second, .val (.int u1), .val (.int u2), .val (.long u3), .second, .val (.int (1 : Int32)), .val (.int (0 : Int32)), .val (.long u3), .second, .val .null, .val (.ref d42), .val (own_at d42 (9223372036854775807 : Int64) u3), .unset] [(.long u3)])) rfl (hb hby at_150) t_ k_) ?_
      refine own_st (B := T51.setTop (mkF m 154 #[.val (.long u0), .second, .val (.int u1), .val (.int u2), .val (.long u3), .second, .val (.int (1 : Int32)), .val (.int (0 : Int32)), .val (.long u3), .second, .val .null, .val (.ref d42), .val (own_at d42 (9223372036854775807 : Int64) u3), .unset] [(.int (lcmpW u3 (9223372036854775807 : Int64)))])) (fun t_ k_ => XS.lcmp X51.here hx rfl (hb hby at_153) rfl k_) ?_
      by_cases hc52 : u3 = (9223372036854775807 : Int64)
      · have hd52 := own_eq64 hc52
        rw [show (9223372036854775807 : Int64).toInt = 9223372036854775807 from rfl] at hd52
        refine own_st (B := T51.setTop (mkF m 157 #[.val (.long u0), .second, .val (.int u1), .val (.int u2), .val (.long u3), .second, .val (.int (1 : Int32)), .val (.int (0 : Int32)), .val (.long u3), .second, .val .null, .val (.ref d42), .val (own_at d42 (9223372036854775807 : Int64) u3), .unset] [])) (fun t_ k_ => XS.ifNo X51.here hx rfl (hb hby at_154) rfl ((if0 _ _).trans (teq ((lw_eq _ _).mpr hc52)).2) k_) ?_
        refine own_st (B := T51.setTop (mkF m 159 #[.val (.long u0), .second, .val (.int u1), .val (.int u2), .val (.long u3), .second, .val (.int (1 : Int32)), .val (.int (0 : Int32)), .val (.long u3), .second, .val .null, .val (.ref d42), .val (own_at d42 (9223372036854775807 : Int64) u3), .unset] [(.ref d42)])) (fun t_ k_ => XS.aload X51.here hx rfl (hb hby at_157) rfl rfl k_) ?_
        refine own_st (B := T51.setTop (mkF m 163 #[.val (.long u0), .second, .val (.int u1), .val (.int u2), .val (.long u3), .second, .val (.int (1 : Int32)), .val (.int (0 : Int32)), .val (.long u3), .second, .val .null, .val (.ref d42), .val (own_at d42 (9223372036854775807 : Int64) u3), .unset] [(.ref d42)])) (fun t_ k_ => XS.goto X51.here hx rfl (pc0 := 159) (pc' := 163) rfl (hb hby at_159) (by decide) (by decide) k_) ?_
        refine own_st (B := T51.setTop (mkF m 165 #[.val (.long u0), .second, .val (.int u1), .val (.int u2), .val (.long u3), .second, .val (.int (1 : Int32)), .val (.int (0 : Int32)), .val (.long u3), .second, .val .null, .val (.ref d42), .val (own_at d42 (9223372036854775807 : Int64) u3), .val (.ref d42)] [])) (fun t_ k_ => XS.astore X51.here hx rfl (hb hby at_163) rfl rfl (l' := #[.val (.long u0), .second, .val (.int u1), .val (.int u2), .val (.long u3), .second, .val (.int (1 : Int32)), .val (.int (0 : Int32)), .val (.long u3), .second, .val .null, .val (.ref d42), .val (own_at d42 (9223372036854775807 : Int64) u3), .val (.ref d42)]) rfl k_) ?_
        refine own_st (B := T51.setTop (mkF m 167 #[.val (.long u0), .second, .val (.int u1), .val (.int u2), .val (.long u3), .second, .val (.int (1 : Int32)), .val (.int (0 : Int32)), .val (.long u3), .second, .val .null, .val (.ref d42), .val (own_at d42 (9223372036854775807 : Int64) u3), .val (.ref d42)] [(own_at d42 (9223372036854775807 : Int64) u3)])) (fun t_ k_ => XS.aload X51.here hx rfl (hb hby at_165) rfl (own_atR _ _ _) k_) ?_
        refine own_st (B := T51.setTop (mkF m 169 #[.val (.long u0), .second, .val (.int u1), .val (.int u2), .val (.long u3), .second, .val (.int (1 : Int32)), .val (.int (0 : Int32)), .val (.long u3), .second, .val .null, .val (.ref d42), .val (own_at d42 (9223372036854775807 : Int64) u3), .val (.ref d42)] [(.ref d42), (own_at d42 (9223372036854775807 : Int64) u3)])) (fun t_ k_ => XS.aload X51.here hx rfl (hb hby at_167) rfl rfl k_) ?_
        refine own_st (B := T51.setTop (mkF m 172 #[.val (.long u0), .second, .val (.int u1), .val (.int u2), .val (.long u3), .second, .val (.int (1 : Int32)), .val (.int (0 : Int32)), .val (.long u3), .second, .val .null, .val (.ref d42), .val (own_at d42 (9223372036854775807 : Int64) u3), .val (.ref d42)] [])) (fun t_ k_ => Jvm.RoadKit.acmp (g := (mkF m 169 #[.val (.long u0), .second, .val (.int u1), .val (.int u2), .val (.long u3), .second, .val (.int (1 : Int32)), .val (.int (0 : Int32)), .val (.long u3), .second, .val .null, .val (.ref d42), .val (own_at d42 (9223372036854775807 : Int64) u3), .val (.ref d42)] [(.ref d42), (own_at d42 (9223372036854775807 : Int64) u3)])) X51 hx rfl (own_atR _ _ _) rfl (pc0 := 169) (pc' := 172) (same := true) rfl (hb hby at_169) rfl (decide_eq_true (by rw [own_at, hc52, if_neg (by decide)])) (by decide) (by decide) k_) ?_
        refine own_st (B := T51.setTop (mkF m 173 #[.val (.long u0), .second, .val (.int u1), .val (.int u2), .val (.long u3), .second, .val (.int (1 : Int32)), .val (.int (0 : Int32)), .val (.long u3), .second, .val .null, .val (.ref d42), .val (own_at d42 (9223372036854775807 : Int64) u3), .val (.ref d42)] [(.int (1 : Int32))])) (fun t_ k_ => XS.iconst X51.here hx rfl (hb hby at_172) k_) ?_
        refine own_st (B := T51.setTop (mkF m 177 #[.val (.long u0), .second, .val (.int u1), .val (.int u2), .val (.long u3), .second, .val (.int (1 : Int32)), .val (.int (0 : Int32)), .val (.long u3), .second, .val .null, .val (.ref d42), .val (own_at d42 (9223372036854775807 : Int64) u3), .val (.ref d42)] [(.int (1 : Int32))])) (fun t_ k_ => XS.goto X51.here hx rfl (pc0 := 173) (pc' := 177) rfl (hb hby at_173) (by decide) (by decide) k_) ?_
        refine own_retN X51 hx (t := .boolean) Bd.returns (by simp) hlk (hb hby at_177) (z' := (1 : Int32)) (by first | rfl | exact own_nb _ | exact own_nbb _) (by decide) (by decide) ?_
        show Q0 Z u0 u1 u2 u3 h0 n0 _ T51.heap _
        rw [eh51]
        exact ⟨rfl, N51⟩
      · have hd52 := own_neq64 hc52
        rw [show (9223372036854775807 : Int64).toInt = 9223372036854775807 from rfl] at hd52
        refine own_st (B := T51.setTop (mkF m 162 #[.val (.long u0), .second, .val (.int u1), .val (.int u2), .val (.long u3), .second, .val (.int (1 : Int32)), .val (.int (0 : Int32)), .val (.long u3), .second, .val .null, .val (.ref d42), .val (own_at d42 (9223372036854775807 : Int64) u3), .unset] [])) (fun t_ k_ => XS.ifYes X51.here hx rfl (pc0 := 154) (pc' := 162) rfl (hb hby at_154) rfl ((if0 _ _).trans (feq (fun q => hc52 ((lw_eq _ _).mp q))).2) (by decide) (by decide) k_) ?_
        refine own_st (B := T51.setTop (mkF m 163 #[.val (.long u0), .second, .val (.int u1), .val (.int u2), .val (.long u3), .second, .val (.int (1 : Int32)), .val (.int (0 : Int32)), .val (.long u3), .second, .val .null, .val (.ref d42), .val (own_at d42 (9223372036854775807 : Int64) u3), .unset] [.null])) (fun t_ k_ => XS.aconstNull X51.here hx rfl (hb hby at_162) k_) ?_
        refine own_st (B := T51.setTop (mkF m 165 #[.val (.long u0), .second, .val (.int u1), .val (.int u2), .val (.long u3), .second, .val (.int (1 : Int32)), .val (.int (0 : Int32)), .val (.long u3), .second, .val .null, .val (.ref d42), .val (own_at d42 (9223372036854775807 : Int64) u3), .val .null] [])) (fun t_ k_ => XS.astore X51.here hx rfl (hb hby at_163) rfl rfl (l' := #[.val (.long u0), .second, .val (.int u1), .val (.int u2), .val (.long u3), .second, .val (.int (1 : Int32)), .val (.int (0 : Int32)), .val (.long u3), .second, .val .null, .val (.ref d42), .val (own_at d42 (9223372036854775807 : Int64) u3), .val .null]) rfl k_) ?_
        refine own_st (B := T51.setTop (mkF m 167 #[.val (.long u0), .second, .val (.int u1), .val (.int u2), .val (.long u3), .second, .val (.int (1 : Int32)), .val (.int (0 : Int32)), .val (.long u3), .second, .val .null, .val (.ref d42), .val (own_at d42 (9223372036854775807 : Int64) u3), .val .null] [(own_at d42 (9223372036854775807 : Int64) u3)])) (fun t_ k_ => XS.aload X51.here hx rfl (hb hby at_165) rfl (own_atR _ _ _) k_) ?_
        refine own_st (B := T51.setTop (mkF m 169 #[.val (.long u0), .second, .val (.int u1), .val (.int u2), .val (.long u3), .second, .val (.int (1 : Int32)), .val (.int (0 : Int32)), .val (.long u3), .second, .val .null, .val (.ref d42), .val (own_at d42 (9223372036854775807 : Int64) u3), .val .null] [.null, (own_at d42 (9223372036854775807 : Int64) u3)])) (fun t_ k_ => XS.aload X51.here hx rfl (hb hby at_167) rfl rfl k_) ?_
        refine own_st (B := T51.setTop (mkF m 172 #[.val (.long u0), .second, .val (.int u1), .val (.int u2), .val (.long u3), .second, .val (.int (1 : Int32)), .val (.int (0 : Int32)), .val (.long u3), .second, .val .null, .val (.ref d42), .val (own_at d42 (9223372036854775807 : Int64) u3), .val .null] [])) (fun t_ k_ => Jvm.RoadKit.acmp (g := (mkF m 169 #[.val (.long u0), .second, .val (.int u1), .val (.int u2), .val (.long u3), .second, .val (.int (1 : Int32)), .val (.int (0 : Int32)), .val (.long u3), .second, .val .null, .val (.ref d42), .val (own_at d42 (9223372036854775807 : Int64) u3), .val .null] [.null, (own_at d42 (9223372036854775807 : Int64) u3)])) X51 hx rfl (own_atR _ _ _) rfl (pc0 := 169) (pc' := 172) (same := true) rfl (hb hby at_169) rfl (decide_eq_true (by rw [own_at, if_pos (own_lm hc52)])) (by decide) (by decide) k_) ?_
        refine own_st (B := T51.setTop (mkF m 173 #[.val (.long u0), .second, .val (.int u1), .val (.int u2), .val (.long u3), .second, .val (.int (1 : Int32)), .val (.int (0 : Int32)), .val (.long u3), .second, .val .null, .val (.ref d42), .val (own_at d42 (9223372036854775807 : Int64) u3), .val .null] [(.int (1 : Int32))])) (fun t_ k_ => XS.iconst X51.here hx rfl (hb hby at_172) k_) ?_
        refine own_st (B := T51.setTop (mkF m 177 #[.val (.long u0), .second, .val (.int u1), .val (.int u2), .val (.long u3), .second, .val (.int (1 : Int32)), .val (.int (0 : Int32)), .val (.long u3), .second, .val .null, .val (.ref d42), .val (own_at d42 (9223372036854775807 : Int64) u3), .val .null] [(.int (1 : Int32))])) (fun t_ k_ => XS.goto X51.here hx rfl (pc0 := 173) (pc' := 177) rfl (hb hby at_173) (by decide) (by decide) k_) ?_
        refine own_retN X51 hx (t := .boolean) Bd.returns (by simp) hlk (hb hby at_177) (z' := (1 : Int32)) (by first | rfl | exact own_nb _ | exact own_nbb _) (by decide) (by decide) ?_
        show Q0 Z u0 u1 u2 u3 h0 n0 _ T51.heap _
        rw [eh51]
        exact ⟨rfl, N51⟩
    · have hd41 := own_neq32 hc41
      rw [show (0 : Int32).toInt = 0 from rfl] at hd41
      refine own_st (B := s₁.setTop (mkF m 19 #[.val (.long u0), .second, .val (.int u1), .val (.int u2), .val (.long u3), .second, .val (.int (1 : Int32)), .unset, .unset, .unset, .unset, .unset, .unset, .unset] [])) (fun t_ k_ => XS.ifNo X0.here hx rfl (hb hby at_16) rfl ((if0 _ _).trans (feq hc41).1) k_) ?_
      refine own_st (B := s₁.setTop (mkF m 20 #[.val (.long u0), .second, .val (.int u1), .val (.int u2), .val (.long u3), .second, .val (.int (1 : Int32)), .unset, .unset, .unset, .unset, .unset, .unset, .unset] [(.int (1 : Int32))])) (fun t_ k_ => XS.iconst X0.here hx rfl (hb hby at_19) k_) ?_
      refine own_st (B := s₁.setTop (mkF m 24 #[.val (.long u0), .second, .val (.int u1), .val (.int u2), .val (.long u3), .second, .val (.int (1 : Int32)), .unset, .unset, .unset, .unset, .unset, .unset, .unset] [(.int (1 : Int32))])) (fun t_ k_ => XS.goto X0.here hx rfl (pc0 := 20) (pc' := 24) rfl (hb hby at_20) (by decide) (by decide) k_) ?_
      refine own_st (B := s₁.setTop (mkF m 26 #[.val (.long u0), .second, .val (.int u1), .val (.int u2), .val (.long u3), .second, .val (.int (1 : Int32)), .val (.int (1 : Int32)), .unset, .unset, .unset, .unset, .unset, .unset] [])) (fun t_ k_ => XS.istore X0.here hx rfl (hb hby at_24) rfl (l' := #[.val (.long u0), .second, .val (.int u1), .val (.int u2), .val (.long u3), .second, .val (.int (1 : Int32)), .val (.int (1 : Int32)), .unset, .unset, .unset, .unset, .unset, .unset]) rfl k_) ?_
      refine own_st (B := s₁.setTop (mkF m 28 #[.val (.long u0), .second, .val (.int u1), .val (.int u2), .val (.long u3), .second, .val (.int (1 : Int32)), .val (.int (1 : Int32)), .unset, .unset, .unset, .unset, .unset, .unset] [(.int (1 : Int32))])) (fun t_ k_ => XS.iload X0.here hx rfl (hb hby at_26) rfl k_) ?_
      refine own_st (B := s₁.setTop (mkF m 31 #[.val (.long u0), .second, .val (.int u1), .val (.int u2), .val (.long u3), .second, .val (.int (1 : Int32)), .val (.int (1 : Int32)), .unset, .unset, .unset, .unset, .unset, .unset] [])) (fun t_ k_ => XS.ifNo X0.here hx rfl (hb hby at_28) rfl ((if0 _ _).trans (feq (by decide : ¬ ((1 : Int32) = (0 : Int32)))).1) k_) ?_
      refine own_st (B := s₁.setTop (mkF m 34 #[.val (.long u0), .second, .val (.int u1), .val (.int u2), .val (.long u3), .second, .val (.int (1 : Int32)), .val (.int (1 : Int32)), .unset, .unset, .unset, .unset, .unset, .unset] [(.long (9223372036854775807 : Int64))])) (fun t_ k_ => X0.ldc2Long hx hown (mvT hZ (hw _ (List.mem_of_getElem? (i := 0) rfl))) (g := (mkF m 31 #[.val (.long u0), .second, .val (.int u1), .val (.int u2), .val (.long u3), .second, .val (.int (1 : Int32)), .val (.int (1 : Int32)), .unset, .unset, .unset, .unset, .unset, .unset] [])) rfl (hb hby at_31) t_ k_) ?_
      refine own_st (B := s₁.setTop (mkF m 39 #[.val (.long u0), .second, .val (.int u1), .val (.int u2), .val (.long u3), .second, .val (.int (1 : Int32)), .val (.int (1 : Int32)), .unset, .unset, .unset, .unset, .unset, .unset] [(.long (9223372036854775807 : Int64))])) (fun t_ k_ => XS.goto X0.here hx rfl (pc0 := 34) (pc' := 39) rfl (hb hby at_34) (by decide) (by decide) k_) ?_
      refine own_st (B := s₁.setTop (mkF m 41 #[.val (.long u0), .second, .val (.int u1), .val (.int u2), .val (.long u3), .second, .val (.int (1 : Int32)), .val (.int (1 : Int32)), .val (.long (9223372036854775807 : Int64)), .second, .unset, .unset, .unset, .unset] [])) (fun t_ k_ => XS.lstore X0.here hx rfl (hb hby at_39) rfl (l' := #[.val (.long u0), .second, .val (.int u1), .val (.int u2), .val (.long u3), .second, .val (.int (1 : Int32)), .val (.int (1 : Int32)), .val (.long (9223372036854775807 : Int64)), .second, .unset, .unset, .unset, .unset]) rfl k_) ?_
      refine own_st (B := s₁.setTop (mkF m 43 #[.val (.long u0), .second, .val (.int u1), .val (.int u2), .val (.long u3), .second, .val (.int (1 : Int32)), .val (.int (1 : Int32)), .val (.long (9223372036854775807 : Int64)), .second, .unset, .unset, .unset, .unset] [(.int (1 : Int32))])) (fun t_ k_ => XS.iload X0.here hx rfl (hb hby at_41) rfl k_) ?_
      refine own_st (B := s₁.setTop (mkF m 46 #[.val (.long u0), .second, .val (.int u1), .val (.int u2), .val (.long u3), .second, .val (.int (1 : Int32)), .val (.int (1 : Int32)), .val (.long (9223372036854775807 : Int64)), .second, .unset, .unset, .unset, .unset] [])) (fun t_ k_ => XS.ifNo X0.here hx rfl (hb hby at_43) rfl ((if0 _ _).trans (feq (by decide : ¬ ((1 : Int32) = (0 : Int32)))).1) k_) ?_
      refine own_st (B := s₁.setTop (mkF m 47 #[.val (.long u0), .second, .val (.int u1), .val (.int u2), .val (.long u3), .second, .val (.int (1 : Int32)), .val (.int (1 : Int32)), .val (.long (9223372036854775807 : Int64)), .second, .unset, .unset, .unset, .unset] [.null])) (fun t_ k_ => XS.aconstNull X0.here hx rfl (hb hby at_46) k_) ?_
      refine own_st (B := s₁.setTop (mkF m 58 #[.val (.long u0), .second, .val (.int u1), .val (.int u2), .val (.long u3), .second, .val (.int (1 : Int32)), .val (.int (1 : Int32)), .val (.long (9223372036854775807 : Int64)), .second, .unset, .unset, .unset, .unset] [.null])) (fun t_ k_ => XS.goto X0.here hx rfl (pc0 := 47) (pc' := 58) rfl (hb hby at_47) (by decide) (by decide) k_) ?_
      refine own_st (B := s₁.setTop (mkF m 60 #[.val (.long u0), .second, .val (.int u1), .val (.int u2), .val (.long u3), .second, .val (.int (1 : Int32)), .val (.int (1 : Int32)), .val (.long (9223372036854775807 : Int64)), .second, .val .null, .unset, .unset, .unset] [])) (fun t_ k_ => XS.astore X0.here hx rfl (hb hby at_58) rfl rfl (l' := #[.val (.long u0), .second, .val (.int u1), .val (.int u2), .val (.long u3), .second, .val (.int (1 : Int32)), .val (.int (1 : Int32)), .val (.long (9223372036854775807 : Int64)), .second, .val .null, .unset, .unset, .unset]) rfl k_) ?_
      refine own_st (B := s₁.setTop (mkF m 61 #[.val (.long u0), .second, .val (.int u1), .val (.int u2), .val (.long u3), .second, .val (.int (1 : Int32)), .val (.int (1 : Int32)), .val (.long (9223372036854775807 : Int64)), .second, .val .null, .unset, .unset, .unset] [(.long u0)])) (fun t_ k_ => XS.lloadN X0.here hx rfl (hb hby at_60) rfl k_) ?_
      refine own_st (B := s₁.setTop (mkF m 63 #[.val (.long u0), .second, .val (.int u1), .val (.int u2), .val (.long u3), .second, .val (.int (1 : Int32)), .val (.int (1 : Int32)), .val (.long (9223372036854775807 : Int64)), .second, .val .null, .unset, .unset, .unset] [.null, (.long u0)])) (fun t_ k_ => XS.aload X0.here hx rfl (hb hby at_61) rfl rfl k_) ?_
      obtain ⟨_, _, ⟨T53, L53, k53, n53⟩, -, X53, ⟨Lc53, hQ53, l53, y53, z53⟩, st53⟩ := Jvm.LawKit.callS X0 hx (y := (⟨"com/example/serialine/serialine/Version", "uncommitted", "(J[B)Lcom/example/serialine/serialine/Version;"⟩ : MethodName)) hown (mvT hZ (hw _ (List.mem_of_getElem? (i := 2) rfl))) (mvT hZ (hw _ (List.mem_of_getElem? (i := 3) rfl))) (mvT hZ (hw _ (List.mem_of_getElem? (i := 4) rfl))) (mvT hZ (hw _ (List.mem_of_getElem? (i := 5) rfl))) (by decide) (backOf (W := 0) (rm1 l Z a0 hw [] u0 .null h0 n0 Z0 rfl) hZ (hw _ (List.mem_of_getElem? (i := 5) rfl)) (hw _ (List.mem_of_getElem? (i := 4) rfl)) (by decide) (by decide)) (g := (mkF m 63 #[.val (.long u0), .second, .val (.int u1), .val (.int u2), .val (.long u3), .second, .val (.int (1 : Int32)), .val (.int (1 : Int32)), .val (.long (9223372036854775807 : Int64)), .second, .val .null, .unset, .unset, .unset] [.null, (.long u0)])) rfl (by rw [hml]; rfl) (argsL := [(.long u0), .null]) (rest := []) (lenOf own_pd1 rfl) rfl (by show 2 * 0 + _ ≤ _; exact Nat.le_of_eq rfl) (hb hby at_63) (fun _ _ => ⟨rfl, e0, (by decide : 0 + 1 ≤ _), (by decide : 0 + 4 ≤ _)⟩)
      dsimp only [Pt.U, Pt.locs, Pt.cells, Pt.slots] at X53 l53 y53 z53 st53 hQ53
      subst l53 y53 z53
      obtain ⟨d53, rfl, N53q, K53, gb53, Eb53, Fb53_0, Fb53_1, Fb53_2, Fb53_3⟩ := hQ53
      have N53 := Fr.app N0 N53q
      have g54 : n0 ≤ d53 := Nat.le_trans Z0 gb53
      have Z55 := Nat.le_trans Z0 K53.1
      refine own_st (B := T53.setTop (mkF m 66 #[.val (.long u0), .second, .val (.int u1), .val (.int u2), .val (.long u3), .second, .val (.int (1 : Int32)), .val (.int (1 : Int32)), .val (.long (9223372036854775807 : Int64)), .second, .val .null, .unset, .unset, .unset] [(.ref d53)])) st53 ?_
      refine own_st (B := T53.setTop (mkF m 68 #[.val (.long u0), .second, .val (.int u1), .val (.int u2), .val (.long u3), .second, .val (.int (1 : Int32)), .val (.int (1 : Int32)), .val (.long (9223372036854775807 : Int64)), .second, .val .null, .val (.ref d53), .unset, .unset] [])) (fun t_ k_ => XS.astore X53.here hx rfl (hb hby at_66) rfl rfl (l' := #[.val (.long u0), .second, .val (.int u1), .val (.int u2), .val (.long u3), .second, .val (.int (1 : Int32)), .val (.int (1 : Int32)), .val (.long (9223372036854775807 : Int64)), .second, .val .null, .val (.ref d53), .unset, .unset]) rfl k_) ?_
      refine own_st (B := T53.setTop (mkF m 70 #[.val (.long u0), .second, .val (.int u1), .val (.int u2), .val (.long u3), .second, .val (.int (1 : Int32)), .val (.int (1 : Int32)), .val (.long (9223372036854775807 : Int64)), .second, .val .null, .val (.ref d53), .unset, .unset] [(.ref d53)])) (fun t_ k_ => XS.aload X53.here hx rfl (hb hby at_68) rfl rfl k_) ?_
      refine own_st (B := T53.setTop (mkF m 75 #[.val (.long u0), .second, .val (.int u1), .val (.int u2), .val (.long u3), .second, .val (.int (1 : Int32)), .val (.int (1 : Int32)), .val (.long (9223372036854775807 : Int64)), .second, .val .null, .val (.ref d53), .unset, .unset] [])) (fun t_ k_ => XT.ifnonnullYes X53.here hx rfl (pc0 := 70) (pc' := 75) rfl (hb hby at_70) rfl (by decide) (by decide) k_) ?_
      refine own_st (B := T53.setTop (mkF m 77 #[.val (.long u0), .second, .val (.int u1), .val (.int u2), .val (.long u3), .second, .val (.int (1 : Int32)), .val (.int (1 : Int32)), .val (.long (9223372036854775807 : Int64)), .second, .val .null, .val (.ref d53), .unset, .unset] [(.ref d53)])) (fun t_ k_ => XS.aload X53.here hx rfl (hb hby at_75) rfl rfl k_) ?_
      obtain ⟨cq56, kq56, q56a, q56b, q56c⟩ := isOf hZ rfl Eb53
      obtain ⟨_, _, ⟨T56, L56, k56, n56⟩, -, X56, ⟨Lc56, hQ56, l56, y56, z56⟩, st56⟩ := X53.virtualBack hx (y := (⟨"com/example/serialine/serialine/Version", "commit", "()J"⟩ : MethodName)) (z := (⟨"com/example/serialine/serialine/Version", "commit", "()J"⟩ : MethodName)) hown (mvT hZ (hw _ (List.mem_of_getElem? (i := 23) rfl))) (mvT hZ (hw _ (List.mem_of_getElem? (i := 24) rfl))) (notFace_of_selects (args := #[]) (mvT hZ (hw _ (List.mem_of_getElem? (i := 26) rfl)))) (mvT hZ (hw _ (List.mem_of_getElem? (i := 26) rfl))) (mvT hZ (hw _ (List.mem_of_getElem? (i := 25) rfl))) (by decide) (backOf (W := 0) (rm4 l Z a0 hw [] d53 (9223372036854775807 : Int64) T53.heap n0 Z55 Fb53_0) hZ (hw _ (List.mem_of_getElem? (i := 27) rfl)) (hw _ (List.mem_of_getElem? (i := 4) rfl)) (by decide) (by decide)) q56a q56c (g := (mkF m 77 #[.val (.long u0), .second, .val (.int u1), .val (.int u2), .val (.long u3), .second, .val (.int (1 : Int32)), .val (.int (1 : Int32)), .val (.long (9223372036854775807 : Int64)), .second, .val .null, .val (.ref d53), .unset, .unset] [(.ref d53)])) rfl (by rw [hml]; rfl) (Steps.refl _) (argsL := []) (rest := []) (lenOf own_pd2 rfl) rfl (by show 2 * 0 + _ ≤ _; exact Nat.le_of_eq rfl) (hb hby at_77) (fun _ _ => ⟨rfl, rfl, (by decide : 1 + 0 ≤ _), (by decide : 4 + 0 ≤ _)⟩)
      dsimp only [Pt.U, Pt.locs, Pt.cells, Pt.slots] at X56 l56 y56 z56 st56 hQ56
      subst l56 y56 z56
      obtain ⟨rfl, N56q, eh56⟩ := hQ56
      have N56 := Fr.app N53 N56q
      refine own_st (B := T56.setTop (mkF m 80 #[.val (.long u0), .second, .val (.int u1), .val (.int u2), .val (.long u3), .second, .val (.int (1 : Int32)), .val (.int (1 : Int32)), .val (.long (9223372036854775807 : Int64)), .second, .val .null, .val (.ref d53), .unset, .unset] [(.long (9223372036854775807 : Int64))])) (fun t_ k_ => st56.trans k_) ?_
      refine own_st (B := T56.setTop (mkF m 83 #[.val (.long u0), .second, .val (.int u1), .val (.int u2), .val (.long u3), .second, .val (.int (1 : Int32)), .val (.int (1 : Int32)), .val (.long (9223372036854775807 : Int64)), .second, .val .null, .val (.ref d53), .unset, .unset] [(.long (9223372036854775807 : Int64)), (.long (9223372036854775807 : Int64))])) (fun t_ k_ => X56.ldc2Long hx hown (mvT hZ (hw _ (List.mem_of_getElem? (i := 0) rfl))) (g := (mkF m 80 #[.val (.long u0), .second, .val (.int u1), .val (.int u2), .val (.long u3), .second, .val (.int (1 : Int32)), .val (.int (1 : Int32)), .val (.long (9223372036854775807 : Int64)), .second, .val .null, .val (.ref d53), .unset, .unset] [(.long (9223372036854775807 : Int64))])) rfl (hb hby at_80) t_ k_) ?_
      refine own_st (B := T56.setTop (mkF m 84 #[.val (.long u0), .second, .val (.int u1), .val (.int u2), .val (.long u3), .second, .val (.int (1 : Int32)), .val (.int (1 : Int32)), .val (.long (9223372036854775807 : Int64)), .second, .val .null, .val (.ref d53), .unset, .unset] [(.int (lcmpW (9223372036854775807 : Int64) (9223372036854775807 : Int64)))])) (fun t_ k_ => XS.lcmp X56.here hx rfl (hb hby at_83) rfl k_) ?_
      have hc57 : (9223372036854775807 : Int64) = (9223372036854775807 : Int64) := by decide
      refine own_st (B := T56.setTop (mkF m 89 #[.val (.long u0), .second, .val (.int u1), .val (.int u2), .val (.long u3), .second, .val (.int (1 : Int32)), .val (.int (1 : Int32)), .val (.long (9223372036854775807 : Int64)), .second, .val .null, .val (.ref d53), .unset, .unset] [])) (fun t_ k_ => XS.ifYes X56.here hx rfl (pc0 := 84) (pc' := 89) rfl (hb hby at_84) rfl ((if0 _ _).trans (teq ((lw_eq _ _).mpr hc57)).1) (by decide) (by decide) k_) ?_
      refine own_st (B := T56.setTop (mkF m 91 #[.val (.long u0), .second, .val (.int u1), .val (.int u2), .val (.long u3), .second, .val (.int (1 : Int32)), .val (.int (1 : Int32)), .val (.long (9223372036854775807 : Int64)), .second, .val .null, .val (.ref d53), .unset, .unset] [(.ref d53)])) (fun t_ k_ => XS.aload X56.here hx rfl (hb hby at_89) rfl rfl k_) ?_
      obtain ⟨cq58, kq58, q58a, q58b, q58c⟩ := isOf hZ eh56 Eb53
      obtain ⟨_, _, ⟨T58, L58, k58, n58⟩, -, X58, ⟨Lc58, hQ58, l58, y58, z58⟩, st58⟩ := X56.virtualBack hx (y := (⟨"com/example/serialine/serialine/Version", "writer", "()J"⟩ : MethodName)) (z := (⟨"com/example/serialine/serialine/Version", "writer", "()J"⟩ : MethodName)) hown (mvT hZ (hw _ (List.mem_of_getElem? (i := 28) rfl))) (mvT hZ (hw _ (List.mem_of_getElem? (i := 29) rfl))) (notFace_of_selects (args := #[]) (mvT hZ (hw _ (List.mem_of_getElem? (i := 31) rfl)))) (mvT hZ (hw _ (List.mem_of_getElem? (i := 31) rfl))) (mvT hZ (hw _ (List.mem_of_getElem? (i := 30) rfl))) (by decide) (backOf (W := 0) (rm5 l Z a0 hw [] d53 u0 T53.heap n0 Z55 Fb53_1) hZ (hw _ (List.mem_of_getElem? (i := 32) rfl)) (hw _ (List.mem_of_getElem? (i := 4) rfl)) (by decide) (by decide)) q58a q58c (g := (mkF m 91 #[.val (.long u0), .second, .val (.int u1), .val (.int u2), .val (.long u3), .second, .val (.int (1 : Int32)), .val (.int (1 : Int32)), .val (.long (9223372036854775807 : Int64)), .second, .val .null, .val (.ref d53), .unset, .unset] [(.ref d53)])) rfl (by rw [hml]; rfl) (Steps.refl _) (argsL := []) (rest := []) (lenOf own_pd2 rfl) rfl (by show 2 * 0 + _ ≤ _; exact Nat.le_of_eq rfl) (hb hby at_91) (fun _ _ => ⟨rfl, eh56, (by decide : 1 + 0 ≤ _), (by decide : 4 + 0 ≤ _)⟩)
      dsimp only [Pt.U, Pt.locs, Pt.cells, Pt.slots] at X58 l58 y58 z58 st58 hQ58
      subst l58 y58 z58
      obtain ⟨rfl, N58q, eh58⟩ := hQ58
      have N58 := Fr.app N56 N58q
      refine own_st (B := T58.setTop (mkF m 94 #[.val (.long u0), .second, .val (.int u1), .val (.int u2), .val (.long u3), .second, .val (.int (1 : Int32)), .val (.int (1 : Int32)), .val (.long (9223372036854775807 : Int64)), .second, .val .null, .val (.ref d53), .unset, .unset] [(.long u0)])) (fun t_ k_ => st58.trans k_) ?_
      refine own_st (B := T58.setTop (mkF m 95 #[.val (.long u0), .second, .val (.int u1), .val (.int u2), .val (.long u3), .second, .val (.int (1 : Int32)), .val (.int (1 : Int32)), .val (.long (9223372036854775807 : Int64)), .second, .val .null, .val (.ref d53), .unset, .unset] [(.long u0), (.long u0)])) (fun t_ k_ => XS.lloadN X58.here hx rfl (hb hby at_94) rfl k_) ?_
      refine own_st (B := T58.setTop (mkF m 96 #[.val (.long u0), .second, .val (.int u1), .val (.int u2), .val (.long u3), .second, .val (.int (1 : Int32)), .val (.int (1 : Int32)), .val (.long (9223372036854775807 : Int64)), .second, .val .null, .val (.ref d53), .unset, .unset] [(.int (lcmpW u0 u0))])) (fun t_ k_ => XS.lcmp X58.here hx rfl (hb hby at_95) rfl k_) ?_
      have hc59 : u0 = u0 := rfl
      have hd59 := own_eq64 hc59
      refine own_st (B := T58.setTop (mkF m 101 #[.val (.long u0), .second, .val (.int u1), .val (.int u2), .val (.long u3), .second, .val (.int (1 : Int32)), .val (.int (1 : Int32)), .val (.long (9223372036854775807 : Int64)), .second, .val .null, .val (.ref d53), .unset, .unset] [])) (fun t_ k_ => XS.ifYes X58.here hx rfl (pc0 := 96) (pc' := 101) rfl (hb hby at_96) rfl ((if0 _ _).trans (teq ((lw_eq _ _).mpr hc59)).1) (by decide) (by decide) k_) ?_
      refine own_st (B := T58.setTop (mkF m 103 #[.val (.long u0), .second, .val (.int u1), .val (.int u2), .val (.long u3), .second, .val (.int (1 : Int32)), .val (.int (1 : Int32)), .val (.long (9223372036854775807 : Int64)), .second, .val .null, .val (.ref d53), .unset, .unset] [(.ref d53)])) (fun t_ k_ => XS.aload X58.here hx rfl (hb hby at_101) rfl rfl k_) ?_
      obtain ⟨cq60, kq60, q60a, q60b, q60c⟩ := isOf hZ eh58 Eb53
      obtain ⟨_, _, ⟨T60, L60, k60, n60⟩, -, X60, ⟨Lc60, hQ60, l60, y60, z60⟩, st60⟩ := X58.virtualBack hx (y := (⟨"com/example/serialine/serialine/Version", "value", "()[B"⟩ : MethodName)) (z := (⟨"com/example/serialine/serialine/Version", "value", "()[B"⟩ : MethodName)) hown (mvT hZ (hw _ (List.mem_of_getElem? (i := 33) rfl))) (mvT hZ (hw _ (List.mem_of_getElem? (i := 34) rfl))) (notFace_of_selects (args := #[]) (mvT hZ (hw _ (List.mem_of_getElem? (i := 36) rfl)))) (mvT hZ (hw _ (List.mem_of_getElem? (i := 36) rfl))) (mvT hZ (hw _ (List.mem_of_getElem? (i := 35) rfl))) (by decide) (backOf (W := 0) (rm6 l Z a0 hw [] d53 .null T53.heap n0 Z55 rfl Fb53_2) hZ (hw _ (List.mem_of_getElem? (i := 37) rfl)) (hw _ (List.mem_of_getElem? (i := 4) rfl)) (by decide) (by decide)) q60a q60c (g := (mkF m 103 #[.val (.long u0), .second, .val (.int u1), .val (.int u2), .val (.long u3), .second, .val (.int (1 : Int32)), .val (.int (1 : Int32)), .val (.long (9223372036854775807 : Int64)), .second, .val .null, .val (.ref d53), .unset, .unset] [(.ref d53)])) rfl (by rw [hml]; rfl) (Steps.refl _) (argsL := []) (rest := []) (lenOf own_pd3 rfl) rfl (by show 2 * 0 + _ ≤ _; exact Nat.le_of_eq rfl) (hb hby at_103) (fun _ _ => ⟨rfl, eh58, (by decide : 1 + 0 ≤ _), (by decide : 4 + 0 ≤ _)⟩)
      dsimp only [Pt.U, Pt.locs, Pt.cells, Pt.slots] at X60 l60 y60 z60 st60 hQ60
      subst l60 y60 z60
      obtain ⟨rfl, N60q, eh60⟩ := hQ60
      have N60 := Fr.app N58 N60q
      refine own_st (B := T60.setTop (mkF m 106 #[.val (.long u0), .second, .val (.int u1), .val (.int u2), .val (.long u3), .second, .val (.int (1 : Int32)), .val (.int (1 : Int32)), .val (.long (9223372036854775807 : Int64)), .second, .val .null, .val (.ref d53), .unset, .unset] [.null])) (fun t_ k_ => st60.trans k_) ?_
      refine own_st (B := T60.setTop (mkF m 108 #[.val (.long u0), .second, .val (.int u1), .val (.int u2), .val (.long u3), .second, .val (.int (1 : Int32)), .val (.int (1 : Int32)), .val (.long (9223372036854775807 : Int64)), .second, .val .null, .val (.ref d53), .unset, .unset] [.null, .null])) (fun t_ k_ => XS.aload X60.here hx rfl (hb hby at_106) rfl rfl k_) ?_
      refine own_st (B := T60.setTop (mkF m 113 #[.val (.long u0), .second, .val (.int u1), .val (.int u2), .val (.long u3), .second, .val (.int (1 : Int32)), .val (.int (1 : Int32)), .val (.long (9223372036854775807 : Int64)), .second, .val .null, .val (.ref d53), .unset, .unset] [])) (fun t_ k_ => Jvm.RoadKit.acmp (g := (mkF m 108 #[.val (.long u0), .second, .val (.int u1), .val (.int u2), .val (.long u3), .second, .val (.int (1 : Int32)), .val (.int (1 : Int32)), .val (.long (9223372036854775807 : Int64)), .second, .val .null, .val (.ref d53), .unset, .unset] [.null, .null])) X60 hx rfl rfl rfl (pc0 := 108) (pc' := 113) (same := true) rfl (hb hby at_108) rfl (decide_eq_true rfl) (by decide) (by decide) k_) ?_
      refine own_st (B := T60.setTop (mkF m 115 #[.val (.long u0), .second, .val (.int u1), .val (.int u2), .val (.long u3), .second, .val (.int (1 : Int32)), .val (.int (1 : Int32)), .val (.long (9223372036854775807 : Int64)), .second, .val .null, .val (.ref d53), .unset, .unset] [(.int (1 : Int32))])) (fun t_ k_ => XS.iload X60.here hx rfl (hb hby at_113) rfl k_) ?_
      refine own_st (B := T60.setTop (mkF m 129 #[.val (.long u0), .second, .val (.int u1), .val (.int u2), .val (.long u3), .second, .val (.int (1 : Int32)), .val (.int (1 : Int32)), .val (.long (9223372036854775807 : Int64)), .second, .val .null, .val (.ref d53), .unset, .unset] [])) (fun t_ k_ => XS.ifYes X60.here hx rfl (pc0 := 115) (pc' := 129) rfl (hb hby at_115) rfl ((if0 _ _).trans (feq (by decide : ¬ ((1 : Int32) = (0 : Int32)))).2) (by decide) (by decide) k_) ?_
      refine own_st (B := T60.setTop (mkF m 131 #[.val (.long u0), .second, .val (.int u1), .val (.int u2), .val (.long u3), .second, .val (.int (1 : Int32)), .val (.int (1 : Int32)), .val (.long (9223372036854775807 : Int64)), .second, .val .null, .val (.ref d53), .unset, .unset] [(.ref d53)])) (fun t_ k_ => XS.aload X60.here hx rfl (hb hby at_129) rfl rfl k_) ?_
      obtain ⟨cq61, kq61, q61a, q61b, q61c⟩ := isOf hZ eh60 Eb53
      obtain ⟨_, _, ⟨T61, L61, k61, n61⟩, -, X61, ⟨Lc61, hQ61, l61, y61, z61⟩, st61⟩ := X60.virtualBack hx (y := (⟨"com/example/serialine/serialine/Version", "older", "()Lcom/example/serialine/serialine/Version;"⟩ : MethodName)) (z := (⟨"com/example/serialine/serialine/Version", "older", "()Lcom/example/serialine/serialine/Version;"⟩ : MethodName)) hown (mvT hZ (hw _ (List.mem_of_getElem? (i := 38) rfl))) (mvT hZ (hw _ (List.mem_of_getElem? (i := 39) rfl))) (notFace_of_selects (args := #[]) (mvT hZ (hw _ (List.mem_of_getElem? (i := 41) rfl)))) (mvT hZ (hw _ (List.mem_of_getElem? (i := 41) rfl))) (mvT hZ (hw _ (List.mem_of_getElem? (i := 40) rfl))) (by decide) (backOf (W := 0) (rm7 l Z a0 hw [] d53 .null T53.heap n0 Z55 rfl Fb53_3) hZ (hw _ (List.mem_of_getElem? (i := 42) rfl)) (hw _ (List.mem_of_getElem? (i := 4) rfl)) (by decide) (by decide)) q61a q61c (g := (mkF m 131 #[.val (.long u0), .second, .val (.int u1), .val (.int u2), .val (.long u3), .second, .val (.int (1 : Int32)), .val (.int (1 : Int32)), .val (.long (9223372036854775807 : Int64)), .second, .val .null, .val (.ref d53), .unset, .unset] [(.ref d53)])) rfl (by rw [hml]; rfl) (Steps.refl _) (argsL := []) (rest := []) (lenOf own_pd4 rfl) rfl (by show 2 * 0 + _ ≤ _; exact Nat.le_of_eq rfl) (hb hby at_131) (fun _ _ => ⟨rfl, eh60, (by decide : 1 + 0 ≤ _), (by decide : 4 + 0 ≤ _)⟩)
      dsimp only [Pt.U, Pt.locs, Pt.cells, Pt.slots] at X61 l61 y61 z61 st61 hQ61
      subst l61 y61 z61
      obtain ⟨rfl, N61q, eh61⟩ := hQ61
      have N61 := Fr.app N60 N61q
      refine own_st (B := T61.setTop (mkF m 134 #[.val (.long u0), .second, .val (.int u1), .val (.int u2), .val (.long u3), .second, .val (.int (1 : Int32)), .val (.int (1 : Int32)), .val (.long (9223372036854775807 : Int64)), .second, .val .null, .val (.ref d53), .unset, .unset] [.null])) (fun t_ k_ => st61.trans k_) ?_
      refine own_st (B := T61.setTop (mkF m 139 #[.val (.long u0), .second, .val (.int u1), .val (.int u2), .val (.long u3), .second, .val (.int (1 : Int32)), .val (.int (1 : Int32)), .val (.long (9223372036854775807 : Int64)), .second, .val .null, .val (.ref d53), .unset, .unset] [])) (fun t_ k_ => XS.ifnullYes X61.here hx rfl (pc0 := 134) (pc' := 139) rfl (hb hby at_134) rfl (by decide) (by decide) k_) ?_
      refine own_st (B := T61.setTop (mkF m 141 #[.val (.long u0), .second, .val (.int u1), .val (.int u2), .val (.long u3), .second, .val (.int (1 : Int32)), .val (.int (1 : Int32)), .val (.long (9223372036854775807 : Int64)), .second, .val .null, .val (.ref d53), .unset, .unset] [(.ref d53)])) (fun t_ k_ => XS.aload X61.here hx rfl (hb hby at_139) rfl rfl k_) ?_
      refine own_st (B := T61.setTop (mkF m 143 #[.val (.long u0), .second, .val (.int u1), .val (.int u2), .val (.long u3), .second, .val (.int (1 : Int32)), .val (.int (1 : Int32)), .val (.long (9223372036854775807 : Int64)), .second, .val .null, .val (.ref d53), .unset, .unset] [(.long (9223372036854775807 : Int64)), (.ref d53)])) (fun t_ k_ => XS.lload X61.here hx rfl (hb hby at_141) rfl k_) ?_
      obtain ⟨cq62, kq62, q62a, q62b, q62c⟩ := isOf hZ eh61 Eb53
      obtain ⟨_, _, ⟨T62, L62, k62, n62⟩, -, X62, ⟨Lc62, hQ62, l62, y62, z62⟩, st62⟩ := X61.virtualBack hx (y := (⟨"com/example/serialine/serialine/Version", "at", "(J)Lcom/example/serialine/serialine/Version;"⟩ : MethodName)) (z := (⟨"com/example/serialine/serialine/Version", "at", "(J)Lcom/example/serialine/serialine/Version;"⟩ : MethodName)) hown (mvT hZ (hw _ (List.mem_of_getElem? (i := 43) rfl))) (mvT hZ (hw _ (List.mem_of_getElem? (i := 44) rfl))) (notFace_of_selects (args := #[]) (mvT hZ (hw _ (List.mem_of_getElem? (i := 46) rfl)))) (mvT hZ (hw _ (List.mem_of_getElem? (i := 46) rfl))) (mvT hZ (hw _ (List.mem_of_getElem? (i := 45) rfl))) (by decide) (backOf (W := 0) (rm8 l Z a0 hw [] d53 (9223372036854775807 : Int64) (9223372036854775807 : Int64) T53.heap n0 Z55 Fb53_0 Fb53_3) hZ (hw _ (List.mem_of_getElem? (i := 47) rfl)) (hw _ (List.mem_of_getElem? (i := 4) rfl)) (by decide) (by decide)) q62a q62c (g := (mkF m 143 #[.val (.long u0), .second, .val (.int u1), .val (.int u2), .val (.long u3), .second, .val (.int (1 : Int32)), .val (.int (1 : Int32)), .val (.long (9223372036854775807 : Int64)), .second, .val .null, .val (.ref d53), .unset, .unset] [(.long (9223372036854775807 : Int64)), (.ref d53)])) rfl (by rw [hml]; rfl) (Steps.refl _) (argsL := [(.long (9223372036854775807 : Int64))]) (rest := []) (lenOf own_pd5 rfl) rfl (by show 2 * 0 + _ ≤ _; exact Nat.le_of_eq rfl) (hb hby at_143) (fun _ _ => ⟨rfl, eh61, (by decide : 1 + 0 ≤ _), (by decide : 4 + 0 ≤ _)⟩)
      dsimp only [Pt.U, Pt.locs, Pt.cells, Pt.slots] at X62 l62 y62 z62 st62 hQ62
      subst l62 y62 z62
      obtain ⟨rfl, N62q, eh62⟩ := hQ62
      have N62 := Fr.app N61 N62q
      refine own_st (B := T62.setTop (mkF m 146 #[.val (.long u0), .second, .val (.int u1), .val (.int u2), .val (.long u3), .second, .val (.int (1 : Int32)), .val (.int (1 : Int32)), .val (.long (9223372036854775807 : Int64)), .second, .val .null, .val (.ref d53), .unset, .unset] [(own_at d53 (9223372036854775807 : Int64) (9223372036854775807 : Int64))])) (fun t_ k_ => st62.trans k_) ?_
      refine own_st (B := T62.setTop (mkF m 148 #[.val (.long u0), .second, .val (.int u1), .val (.int u2), .val (.long u3), .second, .val (.int (1 : Int32)), .val (.int (1 : Int32)), .val (.long (9223372036854775807 : Int64)), .second, .val .null, .val (.ref d53), .val (own_at d53 (9223372036854775807 : Int64) (9223372036854775807 : Int64)), .unset] [])) (fun t_ k_ => XS.astore X62.here hx rfl (hb hby at_146) rfl (own_atR _ _ _) (l' := #[.val (.long u0), .second, .val (.int u1), .val (.int u2), .val (.long u3), .second, .val (.int (1 : Int32)), .val (.int (1 : Int32)), .val (.long (9223372036854775807 : Int64)), .second, .val .null, .val (.ref d53), .val (own_at d53 (9223372036854775807 : Int64) (9223372036854775807 : Int64)), .unset]) (own_stV rfl (Or.inl rfl) (own_atC _ _ _)) k_) ?_
      refine own_st (B := T62.setTop (mkF m 150 #[.val (.long u0), .second, .val (.int u1), .val (.int u2), .val (.long u3), .second, .val (.int (1 : Int32)), .val (.int (1 : Int32)), .val (.long (9223372036854775807 : Int64)), .second, .val .null, .val (.ref d53), .val (own_at d53 (9223372036854775807 : Int64) (9223372036854775807 : Int64)), .unset] [(.long (9223372036854775807 : Int64))])) (fun t_ k_ => XS.lload X62.here hx rfl (hb hby at_148) rfl k_) ?_
      refine own_st (B := T62.setTop (mkF m 153 #[.val (.long u0), .second, .val (.int u1), .val (.int u2), .val (.long u3), .second, .val (.int (1 : Int32)), .val (.int (1 : Int32)), .val (.long (9223372036854775807 : Int64)), .second, .val .null, .val (.ref d53), .val (own_at d53 (9223372036854775807 : Int64) (9223372036854775807 : Int64)), .unset] [(.long (9223372036854775807 : Int64)), (.long (9223372036854775807 : Int64))])) (fun t_ k_ => X62.ldc2Long hx hown (mvT hZ (hw _ (List.mem_of_getElem? (i := 0) rfl))) (g := (mkF m 150 #[.val (.long u0), .second, .val (.int u1), .val (.int u2), .val (.long u3), .second, .val (.int (1 : Int32)), .val (.int (1 : Int32)), .val (.long (9223372036854775807 : Int64)), .second, .val .null, .val (.ref d53), .val (own_at d53 (9223372036854775807 : Int64) (9223372036854775807 : Int64)), .unset] [(.long (9223372036854775807 : Int64))])) rfl (hb hby at_150) t_ k_) ?_
      refine own_st (B := T62.setTop (mkF m 154 #[.val (.long u0), .second, .val (.int u1), .val (.int u2), .val (.long u3), .second, .val (.int (1 : Int32)), .val (.int (1 : Int32)), .val (.long (9223372036854775807 : Int64)), .second, .val .null, .val (.ref d53), .val (own_at d53 (9223372036854775807 : Int64) (9223372036854775807 : Int64)), .unset] [(.int (lcmpW (9223372036854775807 : Int64) (9223372036854775807 : Int64)))])) (fun t_ k_ => XS.lcmp X62.here hx rfl (hb hby at_153) rfl k_) ?_
      have hc63 : (9223372036854775807 : Int64) = (9223372036854775807 : Int64) := by decide
      refine own_st (B := T62.setTop (mkF m 157 #[.val (.long u0), .second, .val (.int u1), .val (.int u2), .val (.long u3), .second, .val (.int (1 : Int32)), .val (.int (1 : Int32)), .val (.long (9223372036854775807 : Int64)), .second, .val .null, .val (.ref d53), .val (own_at d53 (9223372036854775807 : Int64) (9223372036854775807 : Int64)), .unset] [])) (fun t_ k_ => XS.ifNo X62.here hx rfl (hb hby at_154) rfl ((if0 _ _).trans (teq ((lw_eq _ _).mpr hc63)).2) k_) ?_
      refine own_st (B := T62.setTop (mkF m 159 #[.val (.long u0), .second, .val (.int u1), .val (.int u2), .val (.long u3), .second, .val (.int (1 : Int32)), .val (.int (1 : Int32)), .val (.long (9223372036854775807 : Int64)), .second, .val .null, .val (.ref d53), .val (own_at d53 (9223372036854775807 : Int64) (9223372036854775807 : Int64)), .unset] [(.ref d53)])) (fun t_ k_ => XS.aload X62.here hx rfl (hb hby at_157) rfl rfl k_) ?_
      refine own_st (B := T62.setTop (mkF m 163 #[.val (.long u0), .second, .val (.int u1), .val (.int u2), .val (.long u3), .second, .val (.int (1 : Int32)), .val (.int (1 : Int32)), .val (.long (9223372036854775807 : Int64)), .second, .val .null, .val (.ref d53), .val (own_at d53 (9223372036854775807 : Int64) (9223372036854775807 : Int64)), .unset] [(.ref d53)])) (fun t_ k_ => XS.goto X62.here hx rfl (pc0 := 159) (pc' := 163) rfl (hb hby at_159) (by decide) (by decide) k_) ?_
      refine own_st (B := T62.setTop (mkF m 165 #[.val (.long u0), .second, .val (.int u1), .val (.int u2), .val (.long u3), .second, .val (.int (1 : Int32)), .val (.int (1 : Int32)), .val (.long (9223372036854775807 : Int64)), .second, .val .null, .val (.ref d53), .val (own_at d53 (9223372036854775807 : Int64) (9223372036854775807 : Int64)), .val (.ref d53)] [])) (fun t_ k_ => XS.astore X62.here hx rfl (hb hby at_163) rfl rfl (l' := #[.val (.long u0), .second, .val (.int u1), .val (.int u2), .val (.long u3), .second, .val (.int (1 : Int32)), .val (.int (1 : Int32)), .val (.long (9223372036854775807 : Int64)), .second, .val .null, .val (.ref d53), .val (own_at d53 (9223372036854775807 : Int64) (9223372036854775807 : Int64)), .val (.ref d53)]) rfl k_) ?_
      refine own_st (B := T62.setTop (mkF m 167 #[.val (.long u0), .second, .val (.int u1), .val (.int u2), .val (.long u3), .second, .val (.int (1 : Int32)), .val (.int (1 : Int32)), .val (.long (9223372036854775807 : Int64)), .second, .val .null, .val (.ref d53), .val (own_at d53 (9223372036854775807 : Int64) (9223372036854775807 : Int64)), .val (.ref d53)] [(own_at d53 (9223372036854775807 : Int64) (9223372036854775807 : Int64))])) (fun t_ k_ => XS.aload X62.here hx rfl (hb hby at_165) rfl (own_atR _ _ _) k_) ?_
      refine own_st (B := T62.setTop (mkF m 169 #[.val (.long u0), .second, .val (.int u1), .val (.int u2), .val (.long u3), .second, .val (.int (1 : Int32)), .val (.int (1 : Int32)), .val (.long (9223372036854775807 : Int64)), .second, .val .null, .val (.ref d53), .val (own_at d53 (9223372036854775807 : Int64) (9223372036854775807 : Int64)), .val (.ref d53)] [(.ref d53), (own_at d53 (9223372036854775807 : Int64) (9223372036854775807 : Int64))])) (fun t_ k_ => XS.aload X62.here hx rfl (hb hby at_167) rfl rfl k_) ?_
      refine own_st (B := T62.setTop (mkF m 172 #[.val (.long u0), .second, .val (.int u1), .val (.int u2), .val (.long u3), .second, .val (.int (1 : Int32)), .val (.int (1 : Int32)), .val (.long (9223372036854775807 : Int64)), .second, .val .null, .val (.ref d53), .val (own_at d53 (9223372036854775807 : Int64) (9223372036854775807 : Int64)), .val (.ref d53)] [])) (fun t_ k_ => Jvm.RoadKit.acmp (g := (mkF m 169 #[.val (.long u0), .second, .val (.int u1), .val (.int u2), .val (.long u3), .second, .val (.int (1 : Int32)), .val (.int (1 : Int32)), .val (.long (9223372036854775807 : Int64)), .second, .val .null, .val (.ref d53), .val (own_at d53 (9223372036854775807 : Int64) (9223372036854775807 : Int64)), .val (.ref d53)] [(.ref d53), (own_at d53 (9223372036854775807 : Int64) (9223372036854775807 : Int64))])) X62 hx rfl (own_atR _ _ _) rfl (pc0 := 169) (pc' := 172) (same := true) rfl (hb hby at_169) rfl (decide_eq_true (by rw [own_at, if_neg (by decide)])) (by decide) (by decide) k_) ?_
      refine own_st (B := T62.setTop (mkF m 173 #[.val (.long u0), .second, .val (.int u1), .val (.int u2), .val (.long u3), .second, .val (.int (1 : Int32)), .val (.int (1 : Int32)), .val (.long (9223372036854775807 : Int64)), .second, .val .null, .val (.ref d53), .val (own_at d53 (9223372036854775807 : Int64) (9223372036854775807 : Int64)), .val (.ref d53)] [(.int (1 : Int32))])) (fun t_ k_ => XS.iconst X62.here hx rfl (hb hby at_172) k_) ?_
      refine own_st (B := T62.setTop (mkF m 177 #[.val (.long u0), .second, .val (.int u1), .val (.int u2), .val (.long u3), .second, .val (.int (1 : Int32)), .val (.int (1 : Int32)), .val (.long (9223372036854775807 : Int64)), .second, .val .null, .val (.ref d53), .val (own_at d53 (9223372036854775807 : Int64) (9223372036854775807 : Int64)), .val (.ref d53)] [(.int (1 : Int32))])) (fun t_ k_ => XS.goto X62.here hx rfl (pc0 := 173) (pc' := 177) rfl (hb hby at_173) (by decide) (by decide) k_) ?_
      refine own_retN X62 hx (t := .boolean) Bd.returns (by simp) hlk (hb hby at_177) (z' := (1 : Int32)) (by first | rfl | exact own_nb _ | exact own_nbb _) (by decide) (by decide) ?_
      show Q0 Z u0 u1 u2 u3 h0 n0 _ T62.heap _
      rw [eh62]
      exact ⟨rfl, N62⟩
set_option maxRecDepth 65536 in
set_option maxHeartbeats 40000000 in
theorem comes_1 {Post : Tables → Env → Array Value → State → Outcome → State → Prop} (hpost : ∀ tb e args s v u, (limb_1_1.after args s (.returned v) u = true ∧ limb_1_2.after args s (.returned v) u = true ∧ True) → FrameEnd s (.returned v) u (Jvm.fieldLocs frame_1_writes args s ++ Jvm.arrayLocs frame_1_arrays args s ++ Jvm.staticLocs frame_1_statics s) 16 128 → Post tb e args s (.returned v) u) :
    ArmFor flags0 classFile x code maxLocals ret World_1 tables_1 room_1 Calls_1 rest_1 Pre_1 Post := by
  intro l hfl _ _ p e ha hc hk s m args below hf hA hF happ hP
  obtain ⟨hcalls, hrest, hpre⟩ := hP
  obtain ⟨-, -, -, hnamed, -, -, -, hat⟩ := (Spec.applies_iff hf).mp happ
  obtain ⟨hg, hn⟩ := and_e (Cond.before_iff.mp (show (Jvm.Cond.and given_1 narrow_1).before args s = true from hpre))
  obtain ⟨gg1, gg2⟩ := and_e hg
  obtain ⟨gg3, gg4⟩ := and_e gg2
  obtain ⟨gg5, gg6⟩ := and_e gg4
  obtain ⟨gg7, gg8⟩ := and_e gg6
  obtain ⟨w0, w1, w2, w3, rfl⟩ : ∃ w0 w1 w2 w3 : Value, args = #[w0, w1, w2, w3] := by
    have hs : args.size = 4 := by simpa [Cond.value, given_1] using gg1
    obtain ⟨L⟩ := args
    match L, hs with
    | [w0, w1, w2, w3], _ => exact ⟨w0, w1, w2, w3, rfl⟩
  have hw := fun d (hd : d ∈ tables_1) => atoms_spec (ws := Jvm.Cond.code x code maxLocals ret :: tables_1) hat d (List.mem_cons_of_mem _ hd)
  have hfit : Fit s := fun {y c} hc i hi => by
    obtain ⟨ha, rfl⟩ := Array.getElem?_eq_some_iff.mp hc
    have q := List.all_eq_true.mp ((Array.all_eq_true_iff_forall_mem.mp hF) _ (Array.getElem_mem ha)) i (List.mem_range.mpr hi)
    simpa [Array.getElem?_eq_getElem hi] using q
  obtain ⟨i0, ei0⟩ := isL_v gg3
  obtain rfl : w0 = (.long i0) := Option.some.inj ei0
  obtain ⟨i1, ei1⟩ := is_v gg5
  obtain rfl : w1 = (.int i1) := Option.some.inj ei1
  obtain ⟨i2, ei2⟩ := is_v gg7
  obtain rfl : w2 = (.int i2) := Option.some.inj ei2
  obtain ⟨i3, ei3⟩ := isL_v gg8
  obtain rfl : w3 = (.long i3) := Option.some.inj ei3
  obtain ⟨n, o, h1, h2, h3, _, L, rfl, ⟨rfl, N⟩, hq⟩ := rm0 l s _ hw tables_1 i0 i1 i2 i3 s.heap s.heap.size (Nat.le_refl _)  p e ha hc hk s m _ below hf ((Spec.applies_iff_loose hf).mp happ).1 ⟨rfl, State.Warmed39.refl s, rfl⟩ trivial
  refine ⟨n, _, h1, h2, h3, hpost _ _ _ _ _ _ ⟨Cond.after_iff.mpr rfl, Cond.after_iff.mpr (eq_i res_at (Term.int_eval (1)) rfl), trivial⟩ ⟨hq.1, hq.2.1, (hq.2.2.sift fun y hy => Or.inr (N y hy)).mono (by decide) (by decide)⟩⟩
theorem main_1_1 : Claimed_1_1 := comes_1 fun _ _ _ _ _ _ h hF => ⟨h.1, hF⟩
theorem main_1_2 : Claimed_1_2 := comes_1 fun _ _ _ _ _ _ h hF => ⟨h.2.1, hF⟩
end Jvm.Pilot.@@N@@
namespace Jvm.Pilot.@@N@@
open Jvm Jvm.ClassFile Sem Op Lib Jvm.Free Jvm.Stand Jvm.Pilot.@@N@@.Jvm.D
/-! MADE BY PROGRAM (witnessworld.py) out of the Statement's table words and the real class files: 9 classes; the members and pool entries that the words name. The judged class is class 1, her method 1. -/
namespace start1
open Jvm.ClassFile
def u (s : String) : CpInfo := .utf8 (stringToUtf16 s)
/-- a pool by its gaps: so many unusable entries, then the entry; so many at the end -/
def gap : Nat → List CpInfo → List CpInfo
  | 0, r => r
  | n + 1, r => .unusable :: gap n r
def poolList (es : List (Nat × CpInfo)) (last : Nat) : List CpInfo := es.foldr (fun e r => gap e.1 (e.2 :: r)) (gap last [])
def pool (es : List (Nat × CpInfo)) (last : Nat) : Array CpInfo := ⟨poolList es last⟩
def fileOf (pool : Array CpInfo) (this : Nat) (attrs : Array Attribute := #[]) (ms : Array MethodInfo := #[]) (fl : Nat := 33) (sup : Nat := 0) (ifs : Array Nat := #[]) (fds : Array FieldInfo := #[]) : ClassFile where
  minorVersion := 0
  majorVersion := 65
  constantPool := pool
  accessFlags := fl
  thisClass := this
  superClass := sup
  interfaces := ifs
  fields := fds
  methods := ms
  attributes := attrs
def plain (name : String) (sup : Option ClassId) : Class where
  name := name
  kind := .ordinary
  loader := none
  accessFlags := 33
  super := sup
  interfaces := #[]
  cf := none
  fields := #[]
  methods := #[]
  instanceTypes := #[]
  staticTypes := #[]
  resolved := #[]
  callSites := []
  init := .initialized
  statics := none
  mirror := none

def pool0 : Array CpInfo := pool [(5, u "<init>"), (0, u "()V"), (1, .class_ 10), (1, u "java/lang/Object")] 113

def k0c0 : Code := { maxStack := 0, maxLocals := 1, code := object_method_1_code, exceptionTable := #[], attributes := #[] }
def k0m0 : Method := { name := "<init>", desc := "()V", sig := { parameters := [], returnType := none }, accessFlags := 1, code := some k0c0 }
/-- java/lang/Object -/
def k0 : Class := { plain "java/lang/Object" none with
  accessFlags := 33
  interfaces := #[]
  cf := some (fileOf pool0 8 #[] #[{ accessFlags := 1, nameIndex := 5, descriptorIndex := 6, attributes := #[] }] 33 0 #[] #[])
  fields := #[]
  methods := #[k0m0]
  instanceTypes := #[]
  staticTypes := #[]
  resolved := Array.replicate 124 none
  statics := none }

def pool1 : Array CpInfo := pool [(2, .class_ 4), (1, u "java/lang/Object"), (0, u "<init>"), (0, u "()V"), (2, .long 9223372036854775807), (1, .methodref 12 13), (0, .class_ 14), (0, .nameAndType 15 16), (0, u "com/example/serialine/serialine/Version"), (0, u "uncommitted"), (0, u "(J[B)Lcom/example/serialine/serialine/Version;"), (0, .methodref 12 18), (0, .nameAndType 19 20), (0, u "commit"), (0, u "()J"), (0, .methodref 12 22), (0, .nameAndType 23 20), (0, u "writer"), (0, .methodref 12 25), (0, .nameAndType 26 27), (0, u "value"), (0, u "()[B"), (0, .methodref 12 29), (0, .nameAndType 30 31), (0, u "older"), (0, u "()Lcom/example/serialine/serialine/Version;"), (0, .methodref 12 33), (0, .nameAndType 34 35), (0, u "at"), (0, u "(J)Lcom/example/serialine/serialine/Version;"), (0, .class_ 37), (0, u "com/example/serialine/serialine/VersionUncommittedPinLaw"), (2, u "law"), (0, u "(JIIJ)Z")] 5

def k1m0 : Method := { name := "<init>", desc := "()V", sig := { parameters := [], returnType := none }, accessFlags := 1, code := none }
def k1c1 : Code := { maxStack := 4, maxLocals := 14, code := code, exceptionTable := #[], attributes := #[] }
def k1m1 : Method := { name := "law", desc := "(JIIJ)Z", sig := { parameters := [.long, .int, .int, .long], returnType := some .boolean }, accessFlags := 9, code := some k1c1 }
/-- com/example/serialine/serialine/VersionUncommittedPinLaw -/
def k1 : Class := { plain "com/example/serialine/serialine/VersionUncommittedPinLaw" (some 0) with
  accessFlags := 49
  interfaces := #[]
  cf := some (fileOf pool1 36 #[] #[{ accessFlags := 1, nameIndex := 5, descriptorIndex := 6, attributes := #[] }, { accessFlags := 9, nameIndex := 40, descriptorIndex := 41, attributes := #[] }] 49 2 #[] #[])
  fields := #[]
  methods := #[k1m0, k1m1]
  instanceTypes := #[]
  staticTypes := #[]
  resolved := Array.replicate 47 none
  statics := none }

def pool2 : Array CpInfo := pool [(3, .methodref 4 5), (0, .class_ 6), (0, .nameAndType 7 8), (0, u "java/lang/Object"), (0, u "<init>"), (0, u "()V"), (0, .fieldref 10 11), (0, .class_ 12), (0, .nameAndType 13 14), (0, u "com/example/serialine/serialine/Version"), (0, u "commit"), (0, u "J"), (0, .fieldref 10 16), (0, .nameAndType 17 14), (0, u "writer"), (0, .fieldref 10 19), (0, .nameAndType 20 21), (0, u "value"), (0, u "[B"), (0, .fieldref 10 23), (0, .nameAndType 24 25), (0, u "older"), (0, u "Lcom/example/serialine/serialine/Version;"), (0, .methodref 10 27), (0, .nameAndType 7 28), (0, u "(JJ[BLcom/example/serialine/serialine/Version;)V"), (0, .long 9223372036854775807), (1, u "INITIAL"), (3, u "UNCOMMITTED"), (4, u "uncommitted"), (0, u "(J[B)Lcom/example/serialine/serialine/Version;"), (2, u "()J"), (0, u "()[B"), (0, u "()Lcom/example/serialine/serialine/Version;"), (0, u "at"), (0, u "(J)Lcom/example/serialine/serialine/Version;")] 5

def k2c0 : Code := { maxStack := 3, maxLocals := 7, code := prog_17_method_1_code, exceptionTable := #[], attributes := #[] }
def k2m0 : Method := { name := "<init>", desc := "(JJ[BLcom/example/serialine/serialine/Version;)V", sig := { parameters := [.long, .long, (.array .byte), (.object "com/example/serialine/serialine/Version")], returnType := none }, accessFlags := 2, code := some k2c0 }
def k2c1 : Code := { maxStack := 8, maxLocals := 3, code := prog_17_method_3_code, exceptionTable := #[], attributes := #[] }
def k2m1 : Method := { name := "uncommitted", desc := "(J[B)Lcom/example/serialine/serialine/Version;", sig := { parameters := [.long, (.array .byte)], returnType := some (.object "com/example/serialine/serialine/Version") }, accessFlags := 8, code := some k2c1 }
def k2c2 : Code := { maxStack := 2, maxLocals := 1, code := prog_17_method_5_code, exceptionTable := #[], attributes := #[] }
def k2m2 : Method := { name := "commit", desc := "()J", sig := { parameters := [], returnType := some .long }, accessFlags := 0, code := some k2c2 }
def k2c3 : Code := { maxStack := 2, maxLocals := 1, code := prog_17_method_6_code, exceptionTable := #[], attributes := #[] }
def k2m3 : Method := { name := "writer", desc := "()J", sig := { parameters := [], returnType := some .long }, accessFlags := 0, code := some k2c3 }
def k2c4 : Code := { maxStack := 1, maxLocals := 1, code := prog_17_method_7_code, exceptionTable := #[], attributes := #[] }
def k2m4 : Method := { name := "value", desc := "()[B", sig := { parameters := [], returnType := some (.array .byte) }, accessFlags := 0, code := some k2c4 }
def k2c5 : Code := { maxStack := 1, maxLocals := 1, code := prog_17_method_8_code, exceptionTable := #[], attributes := #[] }
def k2m5 : Method := { name := "older", desc := "()Lcom/example/serialine/serialine/Version;", sig := { parameters := [], returnType := some (.object "com/example/serialine/serialine/Version") }, accessFlags := 0, code := some k2c5 }
def k2c6 : Code := { maxStack := 4, maxLocals := 4, code := prog_17_method_9_code, exceptionTable := #[], attributes := #[] }
def k2m6 : Method := { name := "at", desc := "(J)Lcom/example/serialine/serialine/Version;", sig := { parameters := [.long], returnType := some (.object "com/example/serialine/serialine/Version") }, accessFlags := 0, code := some k2c6 }
/-- com/example/serialine/serialine/Version -/
def k2 : Class := { plain "com/example/serialine/serialine/Version" (some 0) with
  accessFlags := 48
  interfaces := #[]
  cf := some (fileOf pool2 10 #[] #[{ accessFlags := 2, nameIndex := 7, descriptorIndex := 28, attributes := #[] }, { accessFlags := 8, nameIndex := 40, descriptorIndex := 41, attributes := #[] }, { accessFlags := 0, nameIndex := 13, descriptorIndex := 44, attributes := #[] }, { accessFlags := 0, nameIndex := 17, descriptorIndex := 44, attributes := #[] }, { accessFlags := 0, nameIndex := 20, descriptorIndex := 45, attributes := #[] }, { accessFlags := 0, nameIndex := 24, descriptorIndex := 46, attributes := #[] }, { accessFlags := 0, nameIndex := 47, descriptorIndex := 48, attributes := #[] }] 48 4 #[] #[{ accessFlags := 24, nameIndex := 31, descriptorIndex := 14, attributes := #[] }, { accessFlags := 24, nameIndex := 35, descriptorIndex := 14, attributes := #[] }, { accessFlags := 2, nameIndex := 13, descriptorIndex := 14, attributes := #[] }, { accessFlags := 18, nameIndex := 17, descriptorIndex := 14, attributes := #[] }, { accessFlags := 18, nameIndex := 20, descriptorIndex := 21, attributes := #[] }, { accessFlags := 2, nameIndex := 24, descriptorIndex := 25, attributes := #[] }])
  fields := #[{ name := "INITIAL", type := .long, accessFlags := 24, slot := 0, constantValue := 0 }, { name := "UNCOMMITTED", type := .long, accessFlags := 24, slot := 1, constantValue := 0 }, { name := "commit", type := .long, accessFlags := 2, slot := 0, constantValue := 0 }, { name := "writer", type := .long, accessFlags := 18, slot := 1, constantValue := 0 }, { name := "value", type := (.array .byte), accessFlags := 18, slot := 2, constantValue := 0 }, { name := "older", type := (.object "com/example/serialine/serialine/Version"), accessFlags := 2, slot := 3, constantValue := 0 }]
  methods := #[k2m0, k2m1, k2m2, k2m3, k2m4, k2m5, k2m6]
  instanceTypes := #[.long, .long, (.array .byte), (.object "com/example/serialine/serialine/Version")]
  staticTypes := #[.long, .long]
  resolved := Array.replicate 54 none
  statics := none }

def pool3 : Array CpInfo := pool [(1, u "java/lang/Cloneable"), (0, .class_ 1), (0, u "java/lang/Object"), (0, .class_ 3)] 3

/-- java/lang/Cloneable -/
def k3 : Class := { plain "java/lang/Cloneable" (some 0) with
  accessFlags := 1537
  interfaces := #[]
  cf := some (fileOf pool3 2 #[] #[] 1537 4 #[] #[])
  fields := #[]
  methods := #[]
  instanceTypes := #[]
  staticTypes := #[]
  resolved := Array.replicate 8 none
  statics := none }

def pool4 : Array CpInfo := pool [(1, u "java/io/Serializable"), (0, .class_ 1), (0, u "java/lang/Object"), (0, .class_ 3)] 3

/-- java/io/Serializable -/
def k4 : Class := { plain "java/io/Serializable" (some 0) with
  accessFlags := 1537
  interfaces := #[]
  cf := some (fileOf pool4 2 #[] #[] 1537 4 #[] #[])
  fields := #[]
  methods := #[]
  instanceTypes := #[]
  staticTypes := #[]
  resolved := Array.replicate 8 none
  statics := none }

/-- the primitive byte -/
def k5 : Class := { plain "byte" none with kind := .primitive 'B', accessFlags := 0x411 }
/-- [B -/
def k6 : Class := { plain "[B" (some 0) with kind := .array 5 .byte, interfaces := #[3, 4], accessFlags := 1041 }

/-- the primitive int -/
def k7 : Class := { plain "int" none with kind := .primitive 'I', accessFlags := 0x411 }
/-- [I -/
def k8 : Class := { plain "[I" (some 0) with kind := .array 7 .int, interfaces := #[3, 4], accessFlags := 1041 }

def heap : Heap := #[]
def classes : Array Class := #[k0, k1, k2, k3, k4, k5, k6, k7, k8]
def interned : List (Array UInt16 × Addr) := []
def slotsUsed : Nat := 0
def theMethod : MethodId := ⟨1, 1⟩
def args0 : Array Value := #[.long 5, .int 6, .int 7, .long 8]
def aboutOver (below : List Frame) : State where
  vm := { classes := classes, interned := interned.toArray }
  heap := heap
  slotsUsed := slotsUsed
  threads := #[{ frames := .invoking theMethod args0 :: below }]
def below0 : List Frame := [.native { method := ⟨0, 0⟩, args := #[] }]
def about1 : State := aboutOver below0
def p0 : Program := .bare "" "" ""
def e0 : Env := launch0.env 0 0 0
theorem w_frames : about1.frames = Frame.invoking theMethod args0 :: below0 := rfl
set_option maxRecDepth 65536 in
theorem w_args : argsFit about1.vm theMethod args0 = true := by decide +kernel
set_option maxRecDepth 65536 in
theorem w_heap : heapFits about1 = true := by decide +kernel
set_option maxRecDepth 65536 in
theorem w_runnable : about1.curStatus? = some .runnable := by decide +kernel
set_option maxRecDepth 65536 in
theorem w_alone : about1.alone = true := by decide +kernel
set_option maxRecDepth 65536 in
theorem w_named : about1.methodNamed? x = some theMethod := by decide +kernel
set_option maxRecDepth 65536 in
theorem w_hears : about1.hears theMethod below0 = true := by decide +kernel
set_option maxRecDepth 65536 in
theorem w_ripe : about1.ripe theMethod args0 below0 = true := by decide +kernel
theorem w_running : about1.status = .running := rfl
set_option maxRecDepth 65536 in
theorem w_room : about1.hasRoom e0.platform room_1 = true :=
  launch0.hasRoom_least _ room_1 (by decide +kernel) (by decide +kernel) (by decide +kernel) (by decide +kernel) (by decide +kernel) (by decide +kernel)
theorem allAtoms_all (ts : List Jvm.Cond) (a : Array Jvm.Value) (st : Jvm.State) : (allAtoms ts).before a st = ts.all (fun c => c.before a st) := by
  induction ts with
  | nil => rfl
  | cons c t ih =>
    show (Jvm.Cond.and c (allAtoms t)).before a st = _
    rw [Jvm.Cond.before_and, ih, List.all_cons]
def words1 : List Jvm.Cond := Jvm.Cond.code x code maxLocals ret :: tables_1
/-- a 'code' word, met by the world's own term for the bytes: nothing is compared byte by byte -/
theorem code_word {y : MethodName} {bytes : ByteArray} {mx : Nat} {rt : Option FieldType} {a : Array Value} {s : State} {m : MethodId} {meth : Method} {c : Code} (h1 : s.methodNamed? y = some m) (h2 : s.vm.method? m = some meth) (h3 : meth.code = some c) (h4 : c.code = bytes)
    (h5 : (c.maxLocals == mx && c.exceptionTable.isEmpty && decide (c.maxStack ≤ mostOperands) && decide (meth.sig.returnType = rt) && !meth.locks && decide (parseMethodDescriptor y.desc = some meth.sig)) = true) : (Jvm.Cond.code y bytes mx rt).before a s = true := by
  simp only [Bool.and_eq_true, beq_iff_eq, Bool.not_eq_true', decide_eq_true_eq] at h5
  obtain ⟨⟨⟨⟨⟨g1, g2⟩, g3⟩, g4⟩, g5⟩, g6⟩ := h5
  simp [Cond.before, Cond.holds, Cond.value, h1, h2, h3, h4, g1, g2, g3, g4, g5, g6]
def isCode : Jvm.Cond → Bool
  | .code _ _ _ _ => true
  | _ => false
theorem all_split {L : List Jvm.Cond} {P : Jvm.Cond → Bool} (h1 : L.all (fun c => isCode c || P c) = true) (h2 : ∀ c ∈ L.filter isCode, P c = true) : L.all P = true := by
  refine List.all_eq_true.mpr fun c hc => ?_
  have h := List.all_eq_true.mp h1 c hc
  rcases Bool.eq_false_or_eq_true (isCode c) with hi | hi
  · exact h2 c (List.mem_filter.mpr ⟨hc, hi⟩)
  · simpa [hi] using h
set_option maxRecDepth 65536 in
theorem w_c0 : (Jvm.Cond.code x code maxLocals ret).before args0 about1 = true := code_word (m := ⟨1, 1⟩) (meth := k1m1) (c := k1c1) (by decide +kernel) rfl rfl rfl (by decide +kernel)
set_option maxRecDepth 65536 in
theorem w_c1 : (Jvm.Cond.code ({ cls := "com/example/serialine/serialine/Version", name := "uncommitted", desc := "(J[B)Lcom/example/serialine/serialine/Version;" } : Jvm.MethodName) prog_17_method_3_code (3 : Nat) (Option.some (Jvm.ClassFile.FieldType.object "com/example/serialine/serialine/Version"))).before args0 about1 = true := code_word (m := ⟨2, 1⟩) (meth := k2m1) (c := k2c1) (by decide +kernel) rfl rfl rfl (by decide +kernel)
set_option maxRecDepth 65536 in
theorem w_c2 : (Jvm.Cond.code ({ cls := "com/example/serialine/serialine/Version", name := "<init>", desc := "(JJ[BLcom/example/serialine/serialine/Version;)V" } : Jvm.MethodName) prog_17_method_1_code (7 : Nat) (Option.none : Option Jvm.ClassFile.FieldType)).before args0 about1 = true := code_word (m := ⟨2, 0⟩) (meth := k2m0) (c := k2c0) (by decide +kernel) rfl rfl rfl (by decide +kernel)
set_option maxRecDepth 65536 in
theorem w_c3 : (Jvm.Cond.code ({ cls := "java/lang/Object", name := "<init>", desc := "()V" } : Jvm.MethodName) object_method_1_code (1 : Nat) (Option.none : Option Jvm.ClassFile.FieldType)).before args0 about1 = true := code_word (m := ⟨0, 0⟩) (meth := k0m0) (c := k0c0) (by decide +kernel) rfl rfl rfl (by decide +kernel)
set_option maxRecDepth 65536 in
theorem w_c4 : (Jvm.Cond.code ({ cls := "com/example/serialine/serialine/Version", name := "commit", desc := "()J" } : Jvm.MethodName) prog_17_method_5_code (1 : Nat) (Option.some Jvm.ClassFile.FieldType.long)).before args0 about1 = true := code_word (m := ⟨2, 2⟩) (meth := k2m2) (c := k2c2) (by decide +kernel) rfl rfl rfl (by decide +kernel)
set_option maxRecDepth 65536 in
theorem w_c5 : (Jvm.Cond.code ({ cls := "com/example/serialine/serialine/Version", name := "writer", desc := "()J" } : Jvm.MethodName) prog_17_method_6_code (1 : Nat) (Option.some Jvm.ClassFile.FieldType.long)).before args0 about1 = true := code_word (m := ⟨2, 3⟩) (meth := k2m3) (c := k2c3) (by decide +kernel) rfl rfl rfl (by decide +kernel)
set_option maxRecDepth 65536 in
theorem w_c6 : (Jvm.Cond.code ({ cls := "com/example/serialine/serialine/Version", name := "value", desc := "()[B" } : Jvm.MethodName) prog_17_method_7_code (1 : Nat) (Option.some (Jvm.ClassFile.FieldType.array Jvm.ClassFile.FieldType.byte))).before args0 about1 = true := code_word (m := ⟨2, 4⟩) (meth := k2m4) (c := k2c4) (by decide +kernel) rfl rfl rfl (by decide +kernel)
set_option maxRecDepth 65536 in
theorem w_c7 : (Jvm.Cond.code ({ cls := "com/example/serialine/serialine/Version", name := "older", desc := "()Lcom/example/serialine/serialine/Version;" } : Jvm.MethodName) prog_17_method_8_code (1 : Nat) (Option.some (Jvm.ClassFile.FieldType.object "com/example/serialine/serialine/Version"))).before args0 about1 = true := code_word (m := ⟨2, 5⟩) (meth := k2m5) (c := k2c5) (by decide +kernel) rfl rfl rfl (by decide +kernel)
set_option maxRecDepth 65536 in
theorem w_c8 : (Jvm.Cond.code ({ cls := "com/example/serialine/serialine/Version", name := "at", desc := "(J)Lcom/example/serialine/serialine/Version;" } : Jvm.MethodName) prog_17_method_9_code (4 : Nat) (Option.some (Jvm.ClassFile.FieldType.object "com/example/serialine/serialine/Version"))).before args0 about1 = true := code_word (m := ⟨2, 6⟩) (meth := k2m6) (c := k2c6) (by decide +kernel) rfl rfl rfl (by decide +kernel)
def codes1 : List Jvm.Cond := [Jvm.Cond.code x code maxLocals ret, Jvm.Cond.code ({ cls := "com/example/serialine/serialine/Version", name := "uncommitted", desc := "(J[B)Lcom/example/serialine/serialine/Version;" } : Jvm.MethodName) prog_17_method_3_code (3 : Nat) (Option.some (Jvm.ClassFile.FieldType.object "com/example/serialine/serialine/Version")), Jvm.Cond.code ({ cls := "com/example/serialine/serialine/Version", name := "<init>", desc := "(JJ[BLcom/example/serialine/serialine/Version;)V" } : Jvm.MethodName) prog_17_method_1_code (7 : Nat) (Option.none : Option Jvm.ClassFile.FieldType), Jvm.Cond.code ({ cls := "java/lang/Object", name := "<init>", desc := "()V" } : Jvm.MethodName) object_method_1_code (1 : Nat) (Option.none : Option Jvm.ClassFile.FieldType), Jvm.Cond.code ({ cls := "com/example/serialine/serialine/Version", name := "commit", desc := "()J" } : Jvm.MethodName) prog_17_method_5_code (1 : Nat) (Option.some Jvm.ClassFile.FieldType.long), Jvm.Cond.code ({ cls := "com/example/serialine/serialine/Version", name := "writer", desc := "()J" } : Jvm.MethodName) prog_17_method_6_code (1 : Nat) (Option.some Jvm.ClassFile.FieldType.long), Jvm.Cond.code ({ cls := "com/example/serialine/serialine/Version", name := "value", desc := "()[B" } : Jvm.MethodName) prog_17_method_7_code (1 : Nat) (Option.some (Jvm.ClassFile.FieldType.array Jvm.ClassFile.FieldType.byte)), Jvm.Cond.code ({ cls := "com/example/serialine/serialine/Version", name := "older", desc := "()Lcom/example/serialine/serialine/Version;" } : Jvm.MethodName) prog_17_method_8_code (1 : Nat) (Option.some (Jvm.ClassFile.FieldType.object "com/example/serialine/serialine/Version")), Jvm.Cond.code ({ cls := "com/example/serialine/serialine/Version", name := "at", desc := "(J)Lcom/example/serialine/serialine/Version;" } : Jvm.MethodName) prog_17_method_9_code (4 : Nat) (Option.some (Jvm.ClassFile.FieldType.object "com/example/serialine/serialine/Version"))]
set_option maxRecDepth 65536 in
theorem codes_eq : words1.filter isCode = codes1 := rfl
theorem w_codes : ∀ c ∈ words1.filter isCode, c.before args0 about1 = true := by
  rw [codes_eq]
  intro c hc
  simp only [codes1, List.mem_cons, List.not_mem_nil, or_false] at hc
  rcases hc with rfl | rfl | rfl | rfl | rfl | rfl | rfl | rfl | rfl
  · exact w_c0
  · exact w_c1
  · exact w_c2
  · exact w_c3
  · exact w_c4
  · exact w_c5
  · exact w_c6
  · exact w_c7
  · exact w_c8
set_option maxRecDepth 65536 in
theorem w_t1 : (words1.take 24).all (fun c => isCode c || c.before args0 about1) = true := by decide +kernel
set_option maxRecDepth 65536 in
theorem w_t2 : ((words1.drop 24).take 24).all (fun c => isCode c || c.before args0 about1) = true := by decide +kernel
set_option maxRecDepth 65536 in
theorem w_t3 : ((words1.drop 24).drop 24).all (fun c => isCode c || c.before args0 about1) = true := by decide +kernel
theorem w_tables : (allAtoms (Jvm.Cond.code x code maxLocals ret :: tables_1)).before args0 about1 = true := by
  rw [allAtoms_all]
  show words1.all (fun c => c.before args0 about1) = true
  refine all_split ?_ w_codes
  rw [← List.take_append_drop 24 words1, List.all_append, w_t1, ← List.take_append_drop 24 (words1.drop 24), List.all_append, w_t2, w_t3]
  rfl
set_option maxRecDepth 65536 in
theorem w_case : (Jvm.Cond.and given_1 narrow_1).before args0 about1 = true := by decide +kernel
theorem w_applies : (headSpec (Jvm.Cond.code x code maxLocals ret :: tables_1) room_1).applies x e0.platform about1 = true :=
  (Spec.applies_iff w_frames).mpr ⟨w_running, w_runnable, w_alone, w_named, w_hears, w_ripe, w_room, w_tables⟩
theorem atStart : AtStart classFile x code maxLocals ret World_1 tables_1 room_1 Calls_1 rest_1 Pre_1 launch0 p0 e0 about1 theMethod args0 below0 :=
  ⟨lists_1, trivial, launch0.admits_env _ _ _, launch0.least_env, fairChoices_fair.cas, fairChoices_fair.clock, w_frames, w_args, w_heap, w_applies, trivial, trivial, w_case⟩
end start1
theorem witness_1 : WitnessClaimed_1 := ⟨start1.p0, start1.e0, start1.about1, start1.theMethod, start1.args0, start1.below0, start1.atStart⟩
end Jvm.Pilot.@@N@@
