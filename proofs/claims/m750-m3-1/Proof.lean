import JvmDerived
import JvmDerived.Pilot.@@N@@Statement
import JvmDerived.Pilot.@@N@@Code
set_option linter.unusedVariables false
set_option linter.unusedSimpArgs false

namespace Jvm.Pilot.@@N@@
open Jvm Jvm.ClassFile Sem Op Lib Jvm.Free Jvm.Stand Jvm.LawKit Jvm.RoadKit Bundle Jvm.Pilot.@@N@@.Jvm.D
section Own
variable {p : Program} {l : Launch} {e : Env} {R : Room} {s : State} {m : MethodId} {args : Array Value} {below : List Frame} {meth : Method} {c : Code} {T : State} {locs : List Loc} {cells slots : Nat} {Z : State} {h h' : Heap}
/-- the run from A comes to the method's end as Q says, with at most kc new cells and ks new slots -/
def own_E (p : Program) (e : Env) (below : List Frame) (s : State) (Q : Option Value → Heap → List Loc → Prop) (kc ks : Nat) (A : State) : Prop :=
  ∃ s₂ o, Steps p.tables e below A s₂ ∧ s₂.status = .running ∧ Ended s₂ below o ∧ ∃ v L, o = .returned v ∧ Q v s₂.heap L ∧ FrameEnd s o s₂ L kc ks
variable {Q : Option Value → Heap → List Loc → Prop} {kc ks : Nat} {A B : State}
theorem own_st (k : ∀ t, Steps p.tables e below B t → Steps p.tables e below A t) (h : own_E p e below s Q kc ks B) : own_E p e below s Q kc ks A := by
  obtain ⟨t, o, h1, h2⟩ := h
  exact ⟨t, o, k t h1, h2⟩
theorem own_end (X : Stand p l e R s m args below meth c T locs cells slots) {v : Option Value} (hv : meth.sig.returnType = none → v = none) (hlk : meth.locks = false)
    (hk : ∀ fs, (∀ (f : JFrame) (acts : List Action), f.method = m → f.locked = none → f.entered = [] → (doReturn e (T.setTop f) acts v).1 = T.setFrames fs) → Steps p.tables e below A (T.setFrames fs)) (hc : cells ≤ kc) (hs : slots ≤ ks) (hQ : Q v T.heap locs) : own_E p e below s Q kc ks A := by
  obtain ⟨fs, hr, hrun, hended, hW, hsame⟩ := X.leave (v := v) hv hlk
  exact ⟨_, _, hk fs hr, hrun, hended, _, _, rfl, hQ, ⟨_, rfl⟩, hW, hsame.mono hc hs⟩
theorem own_retN (X : Stand p l e R s m args below meth c T locs cells slots) (hx : p.tables.exec = Jvm.exec) {pc : Nat} {Ls : Array Slot} {z z' : Int32} {t : FieldType} {rest : List Value} (hret : meth.sig.returnType = some t) (ht : t = .boolean ∨ t = .byte ∨ t = .char ∨ t = .short) (hlk : meth.locks = false)
    (hd : decode c.code pc = .ok (.ireturn, 1)) (hz : nar t z = z') (hc : cells ≤ kc) (hs : slots ≤ ks) (hQ : Q (some (.int z')) T.heap locs) : own_E p e below s Q kc ks (T.setTop (mkF m pc Ls (.int z :: rest))) := by
  subst hz
  exact own_end X (fun q => by rw [hret] at q; cases q) hlk (fun fs hr => retN X hx hret ht hd hr) hc hs hQ
theorem own_retI (X : Stand p l e R s m args below meth c T locs cells slots) (hx : p.tables.exec = Jvm.exec) {pc : Nat} {Ls : Array Slot} {z : Int32} {rest : List Value} (hret : meth.sig.returnType = some .int) (hlk : meth.locks = false)
    (hd : decode c.code pc = .ok (.ireturn, 1)) (hc : cells ≤ kc) (hs : slots ≤ ks) (hQ : Q (some (.int z)) T.heap locs) : own_E p e below s Q kc ks (T.setTop (mkF m pc Ls (.int z :: rest))) := by
  refine own_end X (fun q => by rw [hret] at q; cases q) hlk (fun fs hr => ?_) hc hs hQ
  have hm' : T.vm.method? m = some meth := X.method'
  have hn : narrow .int (.int z) = .int z := rfl
  show Steps p.tables e below (T.setTop { method := m, pc := pc, locals := Ls, stack := _ :: rest, locked := none }) _
  jvm_step X.here [X.here.top, hx, hd, hm', hret, hn]
  first | (intro acts; rw [hr _ acts rfl rfl rfl]) | rw [hr _ _ rfl rfl rfl]
  exact Steps.refl _
theorem own_retJ (X : Stand p l e R s m args below meth c T locs cells slots) (hx : p.tables.exec = Jvm.exec) {pc : Nat} {Ls : Array Slot} {z : Int64} (hret : meth.sig.returnType = some .long) (hlk : meth.locks = false)
    (hd : decode c.code pc = .ok (.lreturn, 1)) (hc : cells ≤ kc) (hs : slots ≤ ks) (hQ : Q (some (.long z)) T.heap locs) : own_E p e below s Q kc ks (T.setTop (mkF m pc Ls [.long z])) :=
  own_end X (fun q => by rw [hret] at q; cases q) hlk (fun fs hr => X.lreturnOut hx hret hd hr) hc hs hQ
theorem own_retR (X : Stand p l e R s m args below meth c T locs cells slots) (hx : p.tables.exec = Jvm.exec) {pc : Nat} {Ls : Array Slot} {w : Value} {t : FieldType} (hw : w.isRef = true) (hret : meth.sig.returnType = some t) (ht : t.isReference = true) (hlk : meth.locks = false)
    (hd : decode c.code pc = .ok (.areturn, 1)) (hc : cells ≤ kc) (hs : slots ≤ ks) (hQ : Q (some w) T.heap locs) : own_E p e below s Q kc ks (T.setTop (mkF m pc Ls [w])) :=
  own_end X (fun q => by rw [hret] at q; cases q) hlk (fun fs hr => X.areturnOut hx hw hret ht hd hr) hc hs hQ
theorem own_retV (X : Stand p l e R s m args below meth c T locs cells slots) (hx : p.tables.exec = Jvm.exec) {pc : Nat} {Ls : Array Slot} (hret : meth.sig.returnType = none) (hlk : meth.locks = false)
    (hd : decode c.code pc = .ok (.return_, 1)) (hc : cells ≤ kc) (hs : slots ≤ ks) (hQ : Q none T.heap locs) : own_E p e below s Q kc ks (T.setTop (mkF m pc Ls [])) :=
  own_end X (fun _ => rfl) hlk (fun fs hr => X.returnOut hx hret hd hr) hc hs hQ
/-- a boolean as the machine holds it -/
def own_b (b : Bool) : Int32 := if b then 1 else 0
theorem own_b1 {P : Prop} [Decidable P] (h : P) : own_b (decide P) = 1 := by simp [own_b, h]
theorem own_bz {P : Prop} [Decidable P] (h : ¬ P) : own_b (decide P) = 0 := by simp [own_b, h]
theorem own_lt32 {x y : Int32} (h : x < y) : x.toInt < y.toInt := Int32.lt_iff_toInt_lt.mp h
theorem own_nlt32 {x y : Int32} (h : ¬ x < y) : ¬ x.toInt < y.toInt := fun q => h (Int32.lt_iff_toInt_lt.mpr q)
theorem own_eq32 {x y : Int32} (h : x = y) : x.toInt = y.toInt := congrArg _ h
theorem own_neq32 {x y : Int32} (h : ¬ x = y) : ¬ x.toInt = y.toInt := fun q => h (Int32.toInt_inj.mp q)
theorem own_lt64 {x y : Int64} (h : x < y) : x.toInt < y.toInt := Int64.lt_iff_toInt_lt.mp h
theorem own_nlt64 {x y : Int64} (h : ¬ x < y) : ¬ x.toInt < y.toInt := fun q => h (Int64.lt_iff_toInt_lt.mpr q)
theorem own_eq64 {x y : Int64} (h : x = y) : x.toInt = y.toInt := congrArg _ h
theorem own_neq64 {x y : Int64} (h : ¬ x = y) : ¬ x.toInt = y.toInt := fun q => h (Int64.toInt_inj.mp q)
theorem own_b0 {b : Bool} : own_b b = 0 ↔ b = false := by cases b <;> decide
theorem own_nb (b : Bool) : nar .boolean (own_b b) = own_b b := by cases b <;> rfl
theorem own_nbb (x : Int32) : nar .byte (x.toInt8.toInt32) = x.toInt8.toInt32 := by
  show x.toInt8.toInt32.toInt8.toInt32 = x.toInt8.toInt32
  rw [Int8.toInt8_toInt32]
theorem own_stV {l : Array Slot} {i : Nat} {v : Value} {o : Slot} (hold : l[i]? = some o) (ho : o = .unset ∨ ∃ w, o = .val w ∧ w.category = 1) (hv : v.category = 1) : storeLocals l i v = some (l.setIfInBounds i (.val v)) := XS.store1 hold ho hv
theorem own_narV {ty : FieldType} {v : Value} (hv : v.isRef = true) : narrow ty v = v := by
  rcases ref_cases hv with rfl | ⟨a, rfl⟩ <;> cases ty <;> rfl
theorem own_fitV {ty : FieldType} {v : Value} (ht : ty.isReference = true) (hv : v.isRef = true) : fits ty v = true := by
  rcases ref_cases hv with rfl | ⟨a, rfl⟩ <;> cases ty <;> first | rfl | (cases ht; done)
/-- an array of n places, whose place j holds f j -/
def own_A (Z : State) (h : Heap) (a : Addr) (ty : FieldType) (n : Nat) (f : Nat → Int32) : Prop := ∃ c : Cell, Arr Z h a c ty ∧ c.slots.size = n ∧ n < 2 ^ 31 ∧ (∀ j, j < n → c.slots[j]? = some (.int (f j))) ∧ ∀ j, j < n → fits ty (.int (f j)) = true
def own_up (f : Nat → Int32) (i : Nat) (v : Int32) (k : Nat) : Int32 := if k = i then v else f k
theorem own_up_same (f : Nat → Int32) (i : Nat) (v : Int32) : own_up f i v i = v := if_pos rfl
theorem own_up_ne (f : Nat → Int32) {i k : Nat} (v : Int32) (h : ¬ k = i) : own_up f i v k = f k := if_neg h
theorem own_catV {v : Value} (h : v.isRef = true) : v.category = 1 := by rcases ref_cases h with rfl | ⟨a, rfl⟩ <;> rfl
abbrev own_ix (j : Int32) (i : Nat) : Prop := ¬ j < 0 ∧ j.toNatClampNeg = i
variable {a b : Addr} {ty : FieldType} {n i : Nat} {f : Nat → Int32} {j x : Int32} {pc : Nat} {Ls : Array Slot} {rest : List Value} {sl : Nat} {v : Value} {ws : List Addr}
theorem own_A.lt (F : own_A Z h a ty n f) : a < h.size := by obtain ⟨c, A, -⟩ := F; exact A.lt
theorem own_A.ext (F : own_A Z h a ty n f) (E : Ext h h') : own_A Z h' a ty n f := by obtain ⟨c, A, r⟩ := F; exact ⟨c, A.ext E, r⟩
theorem own_A.other (F : own_A Z h b ty n f) (W : Wr h h' a sl v) (q : b ≠ a) : own_A Z h' b ty n f := by obtain ⟨c, A, r⟩ := F; exact ⟨c, A.other W q, r⟩
theorem own_A.keep (F : own_A Z h a ty n f) (K : Keep h h' ws) (q : a ∉ ws) : own_A Z h' a ty n f := by obtain ⟨c, A, r⟩ := F; exact ⟨c, ⟨K.2.1 a c A.1 q, A.2⟩, r⟩
theorem own_A.congr {g : Nat → Int32} (F : own_A Z h a ty n f) (q : ∀ j, j < n → f j = g j) : own_A Z h a ty n g := by obtain ⟨c, A, r1, r2, r3, r4⟩ := F; exact ⟨c, A, r1, r2, fun j hj => by rw [← q j hj]; exact r3 j hj, fun j hj => by rw [← q j hj]; exact r4 j hj⟩
theorem own_A.new {k : ClassId} {z : Int32} (A : Arr Z h a (newA k ty z) ty) (q : ¬ z < 0) (hz : z.toNatClampNeg = n) (hd : defaultValue ty = .int 0 := by rfl) : own_A Z h a ty n (fun _ => 0) := by
  subst hz
  exact ⟨_, A, sz_new _ _ _, (back32 q).2, fun j hj => by simp [newA, hj, hd], fun j hj => by rw [← hd]; cases ty <;> rfl⟩
theorem own_A.set (F : own_A Z h a ty n f) (hj : own_ix j i) (W : Wr h h' a j.toNatClampNeg (.int x)) (hf : fits ty (.int x) = true) : own_A Z h' a ty n (own_up f i x) := by
  obtain ⟨c, A, r1, r2, r3, r4⟩ := F
  obtain ⟨hj1, rfl⟩ := hj
  refine ⟨_, A.same W, by rw [sz_set]; exact r1, r2, fun k hk => ?_, fun k hk => ?_⟩ <;> by_cases q : k = j.toNatClampNeg
  · subst q; simp [Cell.setSlot, own_up, r1, hk]
  · simp only [Cell.setSlot, own_up, if_neg q]; rw [Array.getElem?_setIfInBounds_ne (Ne.symm q)]; exact r3 k hk
  · simp only [own_up, if_pos q]; exact hf
  · simp only [own_up, if_neg q]; exact r4 k hk
theorem own_in (hj : own_ix j i) (hi : i < n) {c : Cell} (hc : c.slots.size = n) : ¬ (j < 0 ∨ c.slots.size ≤ j.toNatClampNeg) := by
  rintro (q | q)
  · exact hj.1 q
  · rw [hj.2, hc] at q; omega
theorem own_stB (X : Stand p l e R s m args below meth c T locs cells slots) (hx : p.tables.exec = Jvm.exec) (hZ : Z.Warmed39 s.vm) (eT : T.heap = h) (A : own_A Z h a .byte n f) (hj : own_ix j i) (hi : i < n) (hd : decode c.code pc = .ok (.bastore, 1)) :
    ∃ T' h', Stand p l e R s m args below meth c T' (locs ++ [⟨a, j.toNatClampNeg⟩]) cells slots ∧ T'.heap = h' ∧ Wr h h' a j.toNatClampNeg (.int (nar .byte x)) ∧ own_A Z h' a .byte n (own_up f i (nar .byte x)) ∧ ∀ t, Steps p.tables e below (T'.setTop (mkF m (pc + 1) Ls rest)) t → Steps p.tables e below (T.setTop (mkF m pc Ls (.int x :: .int j :: .ref a :: rest))) t := by
  have A0 := A
  obtain ⟨cl, A1, r1, r2, r3, r4⟩ := A
  obtain ⟨T', h', X', e', W, st⟩ := stB X hx hZ eT A1 (j := j) (x := x) (own_in hj hi r1) (g := mkF m pc Ls (.int x :: .int j :: .ref a :: rest)) rfl rfl hd
  exact ⟨T', h', X', e', W, A0.set hj W (fits_nar_byte x), st⟩
theorem own_stI (X : Stand p l e R s m args below meth c T locs cells slots) (hx : p.tables.exec = Jvm.exec) (hZ : Z.Warmed39 s.vm) (eT : T.heap = h) (A : own_A Z h a .int n f) (hj : own_ix j i) (hi : i < n) (hd : decode c.code pc = .ok (.iastore, 1)) :
    ∃ T' h', Stand p l e R s m args below meth c T' (locs ++ [⟨a, j.toNatClampNeg⟩]) cells slots ∧ T'.heap = h' ∧ Wr h h' a j.toNatClampNeg (.int x) ∧ own_A Z h' a .int n (own_up f i x) ∧ ∀ t, Steps p.tables e below (T'.setTop (mkF m (pc + 1) Ls rest)) t → Steps p.tables e below (T.setTop (mkF m pc Ls (.int x :: .int j :: .ref a :: rest))) t := by
  have A0 := A
  obtain ⟨cl, A1, r1, r2, r3, r4⟩ := A
  obtain ⟨T', h', X', e', W, st⟩ := stI X hx hZ eT A1 (j := j) (x := x) (own_in hj hi r1) (g := mkF m pc Ls (.int x :: .int j :: .ref a :: rest)) rfl rfl hd
  exact ⟨T', h', X', e', W, A0.set hj W rfl, st⟩
theorem own_ldB (X : Stand p l e R s m args below meth c T locs cells slots) (hx : p.tables.exec = Jvm.exec) (hZ : Z.Warmed39 s.vm) (eT : T.heap = h) (A : own_A Z h a .byte n f) (hj : own_ix j i) (hi : i < n) (hd : decode c.code pc = .ok (.baload, 1)) (t : State)
    (k : Steps p.tables e below (T.setTop (mkF m (pc + 1) Ls (.int (f i) :: rest))) t) : Steps p.tables e below (T.setTop (mkF m pc Ls (.int j :: .ref a :: rest))) t := by
  obtain ⟨cl, A1, r1, r2, r3, r4⟩ := A
  exact X.baloadBytes hx (j := j) (v := .int (f i)) (by rw [eT]; exact A1.1) (State.isArrayOf_alike hZ.alike A1.2.1) A1.2.2 (own_in hj hi r1) (by rw [hj.2]; exact r3 i hi) (g := mkF m pc Ls (.int j :: .ref a :: rest)) rfl rfl hd t k
theorem own_ldI (X : Stand p l e R s m args below meth c T locs cells slots) (hx : p.tables.exec = Jvm.exec) (hZ : Z.Warmed39 s.vm) (eT : T.heap = h) (A : own_A Z h a .int n f) (hj : own_ix j i) (hi : i < n) (hd : decode c.code pc = .ok (.iaload, 1)) (t : State)
    (k : Steps p.tables e below (T.setTop (mkF m (pc + 1) Ls (.int (f i) :: rest))) t) : Steps p.tables e below (T.setTop (mkF m pc Ls (.int j :: .ref a :: rest))) t := by
  obtain ⟨cl, A1, r1, r2, r3, r4⟩ := A
  exact X.iaload hx (j := j) (v := .int (f i)) (by rw [eT]; exact A1.1) (State.isArrayOf_alike hZ.alike A1.2.1) A1.2.2 (own_in hj hi r1) (by rw [hj.2]; exact r3 i hi) (g := mkF m pc Ls (.int j :: .ref a :: rest)) rfl rfl hd t k
theorem own_len {z : Int32} (X : Stand p l e R s m args below meth c T locs cells slots) (hx : p.tables.exec = Jvm.exec) (hZ : Z.Warmed39 s.vm) (eT : T.heap = h) (A : own_A Z h a ty n f) (hz : n.toInt32 = z) (hd : decode c.code pc = .ok (.arraylength, 1)) (t : State)
    (k : Steps p.tables e below (T.setTop (mkF m (pc + 1) Ls (.int z :: rest))) t) : Steps p.tables e below (T.setTop (mkF m pc Ls (.ref a :: rest))) t := by
  obtain ⟨cl, A1, r1, r2, r3, r4⟩ := A
  subst hz
  refine X.arraylength hx (by rw [eT]; exact A1.1) (State.isArrayOf_alike hZ.alike A1.2.1) (g := mkF m pc Ls (.ref a :: rest)) rfl rfl hd t ?_
  rw [r1]; exact k
theorem own_clone (X : Stand p l e R s m args below meth c T locs cells slots) (hx : p.tables.exec = Jvm.exec) (hZ : Z.Warmed39 s.vm) {a0 : Array Value} {own ad : String} {index : Nat} (hown : s.vm.findClass own = some m.cls)
    (w1 : (Cond.methodLink own index ⟨ad, "clone", "()Ljava/lang/Object;"⟩).before a0 Z = true) (w2 : (Cond.sameMethod ad "java/lang/Object" "clone" "()Ljava/lang/Object;").before a0 Z = true) (w3 : (Cond.native ⟨"java/lang/Object", "clone", "()Ljava/lang/Object;"⟩).before a0 Z = true)
    (w4 : (Cond.instanceMethod ⟨"java/lang/Object", "clone", "()Ljava/lang/Object;"⟩).before a0 Z = true) (w5 : (Cond.selects ad ⟨ad, "clone", "()Ljava/lang/Object;"⟩ ⟨"java/lang/Object", "clone", "()Ljava/lang/Object;"⟩).before a0 Z = true) (w6 : (Cond.castable ad "java/lang/Cloneable").before a0 Z = true)
    (eT : T.heap = h) (A : own_A Z h a ty n f) (E : Exa Z h a ad) (hsize : Ls.size = c.maxLocals) (hd : decode c.code pc = .ok (.invokevirtual index, 3))
    (hf : 1 ≤ R.frames) {W cap : Nat} (hW : 2 * 0 + (rest.map fun v => v.category).sum ≤ W) (hl : W + 14 ≤ R.locals) (hcap : n ≤ cap) (hc : cells + 1 ≤ R.cells) (hsl : slots + cap ≤ R.slots) :
    ∃ T' h', Stand p l e R s m args below meth c T' locs (cells + 1) (slots + cap) ∧ T'.heap = h' ∧ Ext h h' ∧ own_A Z h' h.size ty n f ∧ Exa Z h' h.size ad ∧
      ∀ t, Steps p.tables e below (T'.setTop (mkF m (pc + 3) Ls (.ref h.size :: rest))) t → Steps p.tables e below (T.setTop (mkF m pc Ls (.ref a :: rest))) t := by
  obtain ⟨cl, A1, r1, r2, r3, r4⟩ := A
  have FC : FitC Z cl := fitC_of A1 fun i hi v hv => by rw [r1] at hi; rw [r3 i hi] at hv; cases hv; exact r4 i hi
  obtain ⟨T', h', X', e', ex, A', E', st⟩ := cloneA X hx hZ hown w1 w2 w3 w4 w5 w6 eT A1 E FC (g := mkF m pc Ls (.ref a :: rest)) rfl hsize rfl hd hf hW hl (by rw [r1]; exact hcap) hc hsl
  exact ⟨T', h', X', e', ex, ⟨cloneOf cl, A', r1, r2, r3, r4⟩, E', st⟩
theorem own_selP {s : State} {args : Array Value} {y : MethodName} {n : Nat} (hin : (Cond.instantiable y.cls n).before args s = true) (hpriv : s.PrivateAt y) (hinst : (Cond.instanceMethod y).before args s = true) (hy : y.cls ≠ "java/lang/invoke/MethodHandle" ∧ y.cls ≠ "java/lang/invoke/VarHandle") : (Cond.selects y.cls y y).before args s = true := by
  obtain ⟨c, k, h1, h2, -, h4, -⟩ := Cond.instantiable_spec hin
  exact selects_self_of_private h1 h2 (Bool.or_eq_false_iff.mp h4).1 hpriv hinst hy
theorem own_ixa (h : own_ix j i) (k : Nat) (hi : i + k < 2 ^ 31) : own_ix (j + Int32.ofNat k) (i + k) := by
  obtain ⟨h1, h2⟩ := h
  have e0 : (0 : Int32).toInt = 0 := rfl
  have e1 : (Int32.ofNat k).toInt = k := Int32.toInt_ofNat_of_lt (by omega)
  rw [Int32.lt_iff_toInt_lt, e0] at h1
  simp only [Int32.toNatClampNeg] at h2
  have h3 := c_iadd j (Int32.ofNat k); have h4 := rng32 (j + Int32.ofNat k)
  rw [e1] at h3
  refine ⟨by rw [Int32.lt_iff_toInt_lt, e0]; omega, ?_⟩
  simp only [Int32.toNatClampNeg]; omega
theorem own_ixI (h : own_ix j i) : j.toInt = i := by
  obtain ⟨h1, h2⟩ := h
  have e0 : (0 : Int32).toInt = 0 := rfl
  rw [Int32.lt_iff_toInt_lt, e0] at h1
  simp only [Int32.toNatClampNeg] at h2; omega
theorem own_ixof (h : j.toInt = i) : own_ix j i := by
  have e0 : (0 : Int32).toInt = 0 := rfl
  refine ⟨by rw [Int32.lt_iff_toInt_lt, e0]; omega, ?_⟩
  simp only [Int32.toNatClampNeg]; omega
theorem own_ixs (h : ¬ j < 0) : own_ix j j.toNatClampNeg := ⟨h, rfl⟩
theorem own_and3 (x : Int32) (k : Nat) (hk : k < 2 ^ 31) : ¬ (x &&& Int32.ofNat k) < 0 ∧ (x &&& Int32.ofNat k).toNatClampNeg ≤ k := by
  have h0 : 0 ≤ (Int32.ofNat k).toInt := by rw [Int32.toInt_ofNat_of_lt hk]; omega
  have h1 := (c_andS x (Int32.ofNat k)).2.2 h0
  have e0 : (0 : Int32).toInt = 0 := rfl
  refine ⟨by rw [Int32.lt_iff_toInt_lt, e0]; omega, ?_⟩
  have hb : (x &&& Int32.ofNat k).toBitVec.toNat ≤ k := by
    have : (x &&& Int32.ofNat k).toBitVec.toNat = x.toBitVec.toNat &&& (Int32.ofNat k).toBitVec.toNat := by rw [Int32.toBitVec_and, BitVec.toNat_and]
    rw [this]
    refine Nat.le_trans Nat.and_le_right ?_
    show (BitVec.ofNat 32 k).toNat ≤ k
    rw [BitVec.toNat_ofNat]; exact Nat.mod_le _ _
  have e : (x &&& Int32.ofNat k).toInt = ((x &&& Int32.ofNat k).toBitVec.toNat : Int) := by
    show (x &&& Int32.ofNat k).toBitVec.toInt = _
    rw [BitVec.toInt_eq_toNat_cond]; split
    · rfl
    · omega
  simp only [Int32.toNatClampNeg, e]; omega
end Own

def own_at (a : Addr) (x0 x1 : Int64) : Value := if x1 < x0 then .null else .ref a
theorem own_atR (a : Addr) (x0 x1 : Int64) : (own_at a x0 x1).isRef = true := by unfold own_at; split <;> rfl
theorem own_atC (a : Addr) (x0 x1 : Int64) : (own_at a x0 x1).category = 1 := own_catV (own_atR a x0 x1)
theorem own_b2_d0 : decode prog_17_method_1_code 0 = .ok (.aload_n 0, 1) := by decide +kernel
theorem own_b2_d1 : decode prog_17_method_1_code 1 = .ok (.invokespecial 3, 3) := by decide +kernel
theorem own_b2_d4 : decode prog_17_method_1_code 4 = .ok (.aload_n 0, 1) := by decide +kernel
theorem own_b2_d5 : decode prog_17_method_1_code 5 = .ok (.lload_n 1, 1) := by decide +kernel
theorem own_b2_d6 : decode prog_17_method_1_code 6 = .ok (.putfield 9, 3) := by decide +kernel
theorem own_b2_d9 : decode prog_17_method_1_code 9 = .ok (.aload_n 0, 1) := by decide +kernel
theorem own_b2_d10 : decode prog_17_method_1_code 10 = .ok (.lload_n 3, 1) := by decide +kernel
theorem own_b2_d11 : decode prog_17_method_1_code 11 = .ok (.putfield 15, 3) := by decide +kernel
theorem own_b2_d14 : decode prog_17_method_1_code 14 = .ok (.aload_n 0, 1) := by decide +kernel
theorem own_b2_d15 : decode prog_17_method_1_code 15 = .ok (.aload 5, 2) := by decide +kernel
theorem own_b2_d17 : decode prog_17_method_1_code 17 = .ok (.putfield 18, 3) := by decide +kernel
theorem own_b2_d20 : decode prog_17_method_1_code 20 = .ok (.aload_n 0, 1) := by decide +kernel
theorem own_b2_d21 : decode prog_17_method_1_code 21 = .ok (.aload 6, 2) := by decide +kernel
theorem own_b2_d23 : decode prog_17_method_1_code 23 = .ok (.putfield 22, 3) := by decide +kernel
theorem own_b2_d26 : decode prog_17_method_1_code 26 = .ok (.return_, 1) := by decide +kernel
theorem own_pn0 : plainName "com/example/serialine/serialine/Version" = true := by first | (simp [plainName, overriddenIn]; done) | decide +kernel
theorem own_ef_rm2 (m : MethodId) (x0 : Addr) (x1 : Int64) (x2 : Int64) (x3 : Value) (q3 : x3.isRef = true) : entryFrame m #[(.ref x0), (.long x1), (.long x2), x3, .null] 7 = mkF m 0 #[.val (.ref x0), .val (.long x1), .second, .val (.long x2), .second, .val x3, .val .null] [] := by rcases ref_cases q3 with rfl | ⟨_, rfl⟩ <;> first | (simp [entryFrame, mkF, argsToLocals, Value.category]; done) | rfl
def Q2 (Z : State) (a : Addr) (x0 : Int64) (x1 : Int64) (x2 : Value) (h0 : Heap) (n0 : Nat) (v : Option Value) (h : Heap) (L : List Loc) : Prop := v = none ∧ Fr n0 L ∧ Keep h0 h [a] ∧ Fld Z h a "com/example/serialine/serialine/Version" "commit" "J" (.long x0) ∧ Fld Z h a "com/example/serialine/serialine/Version" "writer" "J" (.long x1) ∧ Fld Z h a "com/example/serialine/serialine/Version" "value" "[B" x2 ∧ Fld Z h a "com/example/serialine/serialine/Version" "older" "Lcom/example/serialine/serialine/Version;" .null
set_option maxRecDepth 65536 in
set_option maxHeartbeats 40000000 in
theorem rm2 (l : Launch) (Z : State) (a0 : Array Value) (hw : ∀ d ∈ tables_1, d.before a0 Z = true) (ws : List Jvm.Cond) (a : Addr) (x0 : Int64) (x1 : Int64) (x2 : Value) (h0 : Heap) (n0 : Nat) (Z0 : n0 ≤ h0.size) (hx2 : x2.isRef = true) (E : Exa Z h0 a "com/example/serialine/serialine/Version") (F0 : Fld Z h0 a "com/example/serialine/serialine/Version" "commit" "J" (.long (0 : Int64))) (F1 : Fld Z h0 a "com/example/serialine/serialine/Version" "writer" "J" (.long (0 : Int64))) (F2 : Fld Z h0 a "com/example/serialine/serialine/Version" "value" "[B" .null) (F3 : Fld Z h0 a "com/example/serialine/serialine/Version" "older" "Lcom/example/serialine/serialine/Version;" .null) (ga : n0 ≤ a) :
    MetFree l (⟨"com/example/serialine/serialine/Version", "<init>", "(JJ[BLcom/example/serialine/serialine/Version;)V"⟩ : MethodName) (head1 (Jvm.Cond.code (⟨"com/example/serialine/serialine/Version", "<init>", "(JJ[BLcom/example/serialine/serialine/Version;)V"⟩ : MethodName) prog_17_method_1_code 7 none :: ws) ({ frames := 1, cells := 0, slots := 0, locals := 12 } : Room)) (fun aa_ U_ => aa_ = #[(.ref a), (.long x0), (.long x1), x2, .null] ∧ Z.Warmed39 U_.vm ∧ U_.heap = h0) (fun _ _ _ _ _ => True) (fun _ U_ o_ U1_ => ∃ v_ L_, o_ = .returned v_ ∧ Q2 Z a x0 x1 x2 h0 n0 v_ U1_.heap L_ ∧ FrameEnd U_ o_ U1_ L_ ({ frames := 1, cells := 0, slots := 0, locals := 12 } : Room).cells ({ frames := 1, cells := 0, slots := 0, locals := 12 } : Room).slots) := by
  refine MetFree.of_bodySF (plainFor_of_name own_pn0) hisR ?_
  intro p e s m args below meth c s₁ Bd hml0 hP hK
  obtain ⟨rfl, hZ, hh⟩ := hP
  have hx := Bd.exec
  have hby := Bd.bytes
  have hlk := Bd.notSynchronized
  have hml : c.maxLocals = 7 := hml0
  have hown : s.vm.findClass "com/example/serialine/serialine/Version" = some m.cls := findClass_of_methodNamed Bd.named
  have hnm := (name_of_methodNamed Bd.named Bd.method).1
  have X0 : Stand p l e ({ frames := 1, cells := 0, slots := 0, locals := 12 } : Room) s m #[(.ref a), (.long x0), (.long x1), x2, .null] below meth c s₁ [] 0 0 := Stand.of_body Bd
  have e0 : s₁.heap = h0 := by rw [← hh, Bd.state]; rfl
  have N0 := Fr.nil n0
  show own_E p e below s (Q2 Z a x0 x1 x2 h0 n0) ({ frames := 1, cells := 0, slots := 0, locals := 12 } : Room).cells ({ frames := 1, cells := 0, slots := 0, locals := 12 } : Room).slots (s₁.setTop (entryFrame m #[(.ref a), (.long x0), (.long x1), x2, .null] 7))
  refine own_st (B := s₁.setTop (mkF m 0 #[.val (.ref a), .val (.long x0), .second, .val (.long x1), .second, .val x2, .val .null] [])) (fun t_ k_ => castTop (own_ef_rm2 m a x0 x1 x2 hx2) k_) ?_
  have K0 : Keep h0 h0 [a] := Keep.refl _ _
  refine own_st (B := s₁.setTop (mkF m 1 #[.val (.ref a), .val (.long x0), .second, .val (.long x1), .second, .val x2, .val .null] [(.ref a)])) (fun t_ k_ => XS.aloadN X0.here hx rfl (hb hby own_b2_d0) rfl rfl k_) ?_
  obtain ⟨T1, X1, e1, st1⟩ := initO X0 hx hZ hown (hw _ (List.mem_of_getElem? (i := 9) rfl)) (hw _ (List.mem_of_getElem? (i := 10) rfl)) (hw _ (List.mem_of_getElem? (i := 11) rfl)) e0 (g := (mkF m 1 #[.val (.ref a), .val (.long x0), .second, .val (.long x1), .second, .val x2, .val .null] [(.ref a)])) rfl (by rw [hml]; rfl) rfl (hb hby own_b2_d1) (by decide) (W := 0) (by show 2 * 0 + _ ≤ _; exact Nat.le_of_eq rfl) (by decide)
  refine own_st (B := T1.setTop (mkF m 4 #[.val (.ref a), .val (.long x0), .second, .val (.long x1), .second, .val x2, .val .null] [])) st1 ?_
  refine own_st (B := T1.setTop (mkF m 5 #[.val (.ref a), .val (.long x0), .second, .val (.long x1), .second, .val x2, .val .null] [(.ref a)])) (fun t_ k_ => XS.aloadN X1.here hx rfl (hb hby own_b2_d4) rfl rfl k_) ?_
  refine own_st (B := T1.setTop (mkF m 6 #[.val (.ref a), .val (.long x0), .second, .val (.long x1), .second, .val x2, .val .null] [(.long x0), (.ref a)])) (fun t_ k_ => XS.lloadN X1.here hx rfl (hb hby own_b2_d5) rfl k_) ?_
  obtain ⟨T2, h2, X2, e2, W2, st2⟩ := putF X1 hx hZ hown (host := "") (Or.inl (hw _ (List.mem_of_getElem? (i := 12) rfl))) Via.refl e1 F0 E (Or.inl (hw _ (List.mem_of_getElem? (i := 13) rfl))) (hw _ (List.mem_of_getElem? (i := 5) rfl)) (ty := .long) (by decide) rfl rfl (g := (mkF m 6 #[.val (.ref a), .val (.long x0), .second, .val (.long x1), .second, .val x2, .val .null] [(.long x0), (.ref a)])) rfl rfl (hb hby own_b2_d6)
  have Fw2 := F0.same W2
  have N2 := Fr.snoc X2 N0 ga
  have Z3 := Nat.le_trans Z0 (Keep.of_wr W2).1
  have K4 := K0.wr W2 (Or.inl (List.mem_of_getElem? (i := 0) rfl))
  refine own_st (B := T2.setTop (mkF m 9 #[.val (.ref a), .val (.long x0), .second, .val (.long x1), .second, .val x2, .val .null] [])) st2 ?_
  refine own_st (B := T2.setTop (mkF m 10 #[.val (.ref a), .val (.long x0), .second, .val (.long x1), .second, .val x2, .val .null] [(.ref a)])) (fun t_ k_ => XS.aloadN X2.here hx rfl (hb hby own_b2_d9) rfl rfl k_) ?_
  refine own_st (B := T2.setTop (mkF m 11 #[.val (.ref a), .val (.long x0), .second, .val (.long x1), .second, .val x2, .val .null] [(.long x1), (.ref a)])) (fun t_ k_ => XS.lloadN X2.here hx rfl (hb hby own_b2_d10) rfl k_) ?_
  have u5 := E.wr W2
  have u6 := F1.other W2 (Or.inr (slot_ne (Or.inr (hw _ (List.mem_of_getElem? (i := 15) rfl))) (Or.inl (hw _ (List.mem_of_getElem? (i := 13) rfl))) (by decide) (t := .long) (t' := .long) (by decide) (by decide)))
  obtain ⟨T7, h7, X7, e7, W7, st7⟩ := putF X2 hx hZ hown (host := "") (Or.inl (hw _ (List.mem_of_getElem? (i := 14) rfl))) Via.refl e2 u6 u5 (Or.inr ⟨(hw _ (List.mem_of_getElem? (i := 15) rfl)), rfl, hnm⟩) (hw _ (List.mem_of_getElem? (i := 5) rfl)) (ty := .long) (by decide) rfl rfl (g := (mkF m 11 #[.val (.ref a), .val (.long x0), .second, .val (.long x1), .second, .val x2, .val .null] [(.long x1), (.ref a)])) rfl rfl (hb hby own_b2_d11)
  have Fw7 := u6.same W7
  have N7 := Fr.snoc X7 N2 ga
  have Z8 := Nat.le_trans Z3 (Keep.of_wr W7).1
  have K9 := K4.wr W7 (Or.inl (List.mem_of_getElem? (i := 0) rfl))
  refine own_st (B := T7.setTop (mkF m 14 #[.val (.ref a), .val (.long x0), .second, .val (.long x1), .second, .val x2, .val .null] [])) st7 ?_
  refine own_st (B := T7.setTop (mkF m 15 #[.val (.ref a), .val (.long x0), .second, .val (.long x1), .second, .val x2, .val .null] [(.ref a)])) (fun t_ k_ => XS.aloadN X7.here hx rfl (hb hby own_b2_d14) rfl rfl k_) ?_
  refine own_st (B := T7.setTop (mkF m 17 #[.val (.ref a), .val (.long x0), .second, .val (.long x1), .second, .val x2, .val .null] [x2, (.ref a)])) (fun t_ k_ => XS.aload X7.here hx rfl (hb hby own_b2_d15) rfl hx2 k_) ?_
  have u10 := u5.wr W7
  have u11 := F2.other W2 (Or.inr (slot_ne (Or.inr (hw _ (List.mem_of_getElem? (i := 17) rfl))) (Or.inl (hw _ (List.mem_of_getElem? (i := 13) rfl))) (by decide) (t := (.array .byte)) (t' := .long) (by decide) (by decide)))
  have u12 := u11.other W7 (Or.inr (slot_ne (Or.inr (hw _ (List.mem_of_getElem? (i := 17) rfl))) (Or.inr (hw _ (List.mem_of_getElem? (i := 15) rfl))) (by decide) (t := (.array .byte)) (t' := .long) (by decide) (by decide)))
  obtain ⟨T13, h13, X13, e13, W13, st13⟩ := putF X7 hx hZ hown (host := "") (Or.inl (hw _ (List.mem_of_getElem? (i := 16) rfl))) Via.refl e7 u12 u10 (Or.inr ⟨(hw _ (List.mem_of_getElem? (i := 17) rfl)), rfl, hnm⟩) (hw _ (List.mem_of_getElem? (i := 5) rfl)) (ty := (.array .byte)) (by decide) (own_narV hx2) (own_fitV (by decide) hx2) (g := (mkF m 17 #[.val (.ref a), .val (.long x0), .second, .val (.long x1), .second, .val x2, .val .null] [x2, (.ref a)])) rfl rfl (hb hby own_b2_d17)
  have Fw13 := u12.same W13
  have N13 := Fr.snoc X13 N7 ga
  have Z14 := Nat.le_trans Z8 (Keep.of_wr W13).1
  have K15 := K9.wr W13 (Or.inl (List.mem_of_getElem? (i := 0) rfl))
  refine own_st (B := T13.setTop (mkF m 20 #[.val (.ref a), .val (.long x0), .second, .val (.long x1), .second, .val x2, .val .null] [])) st13 ?_
  refine own_st (B := T13.setTop (mkF m 21 #[.val (.ref a), .val (.long x0), .second, .val (.long x1), .second, .val x2, .val .null] [(.ref a)])) (fun t_ k_ => XS.aloadN X13.here hx rfl (hb hby own_b2_d20) rfl rfl k_) ?_
  refine own_st (B := T13.setTop (mkF m 23 #[.val (.ref a), .val (.long x0), .second, .val (.long x1), .second, .val x2, .val .null] [.null, (.ref a)])) (fun t_ k_ => XS.aload X13.here hx rfl (hb hby own_b2_d21) rfl rfl k_) ?_
  have u16 := u10.wr W13
  have u17 := F3.other W2 (Or.inr (slot_ne (Or.inl (hw _ (List.mem_of_getElem? (i := 19) rfl))) (Or.inl (hw _ (List.mem_of_getElem? (i := 13) rfl))) (by decide) (t := (.object "com/example/serialine/serialine/Version")) (t' := .long) (by decide) (by decide)))
  have u18 := u17.other W7 (Or.inr (slot_ne (Or.inl (hw _ (List.mem_of_getElem? (i := 19) rfl))) (Or.inr (hw _ (List.mem_of_getElem? (i := 15) rfl))) (by decide) (t := (.object "com/example/serialine/serialine/Version")) (t' := .long) (by decide) (by decide)))
  have u19 := u18.other W13 (Or.inr (slot_ne (Or.inl (hw _ (List.mem_of_getElem? (i := 19) rfl))) (Or.inr (hw _ (List.mem_of_getElem? (i := 17) rfl))) (by decide) (t := (.object "com/example/serialine/serialine/Version")) (t' := (.array .byte)) (by decide) (by decide)))
  obtain ⟨T20, h20, X20, e20, W20, st20⟩ := putF X13 hx hZ hown (host := "") (Or.inl (hw _ (List.mem_of_getElem? (i := 18) rfl))) Via.refl e13 u19 u16 (Or.inl (hw _ (List.mem_of_getElem? (i := 19) rfl))) (hw _ (List.mem_of_getElem? (i := 5) rfl)) (ty := (.object "com/example/serialine/serialine/Version")) (by decide) rfl rfl (g := (mkF m 23 #[.val (.ref a), .val (.long x0), .second, .val (.long x1), .second, .val x2, .val .null] [.null, (.ref a)])) rfl rfl (hb hby own_b2_d23)
  have Fw20 := u19.same W20
  have N20 := Fr.snoc X20 N13 ga
  have Z21 := Nat.le_trans Z14 (Keep.of_wr W20).1
  have K22 := K15.wr W20 (Or.inl (List.mem_of_getElem? (i := 0) rfl))
  refine own_st (B := T20.setTop (mkF m 26 #[.val (.ref a), .val (.long x0), .second, .val (.long x1), .second, .val x2, .val .null] [])) st20 ?_
  refine own_retV X20 hx Bd.returns hlk (hb hby own_b2_d26) (by decide) (by decide) ?_
  show Q2 Z a x0 x1 x2 h0 n0 _ T20.heap _
  rw [e20]
  have u23 := Fw2.other W7 (Or.inr (slot_ne (Or.inl (hw _ (List.mem_of_getElem? (i := 13) rfl))) (Or.inr (hw _ (List.mem_of_getElem? (i := 15) rfl))) (by decide) (t := .long) (t' := .long) (by decide) (by decide)))
  have u24 := u23.other W13 (Or.inr (slot_ne (Or.inl (hw _ (List.mem_of_getElem? (i := 13) rfl))) (Or.inr (hw _ (List.mem_of_getElem? (i := 17) rfl))) (by decide) (t := .long) (t' := (.array .byte)) (by decide) (by decide)))
  have u25 := u24.other W20 (Or.inr (slot_ne (Or.inl (hw _ (List.mem_of_getElem? (i := 13) rfl))) (Or.inl (hw _ (List.mem_of_getElem? (i := 19) rfl))) (by decide) (t := .long) (t' := (.object "com/example/serialine/serialine/Version")) (by decide) (by decide)))
  have u26 := Fw7.other W13 (Or.inr (slot_ne (Or.inr (hw _ (List.mem_of_getElem? (i := 15) rfl))) (Or.inr (hw _ (List.mem_of_getElem? (i := 17) rfl))) (by decide) (t := .long) (t' := (.array .byte)) (by decide) (by decide)))
  have u27 := u26.other W20 (Or.inr (slot_ne (Or.inr (hw _ (List.mem_of_getElem? (i := 15) rfl))) (Or.inl (hw _ (List.mem_of_getElem? (i := 19) rfl))) (by decide) (t := .long) (t' := (.object "com/example/serialine/serialine/Version")) (by decide) (by decide)))
  have u28 := Fw13.other W20 (Or.inr (slot_ne (Or.inr (hw _ (List.mem_of_getElem? (i := 17) rfl))) (Or.inl (hw _ (List.mem_of_getElem? (i := 19) rfl))) (by decide) (t := (.array .byte)) (t' := (.object "com/example/serialine/serialine/Version")) (by decide) (by decide)))
  exact ⟨rfl, N20, K22, u25, u27, u28, Fw20⟩
theorem own_pd0 : parseMethodDescriptor "(JJ[BLcom/example/serialine/serialine/Version;)V" = some ⟨[.long, .long, (.array .byte), (.object "com/example/serialine/serialine/Version")], none⟩ := by decide +kernel
theorem own_b1_d0 : decode prog_17_method_2_code 0 = .ok (.new 10, 3) := by decide +kernel
theorem own_b1_d3 : decode prog_17_method_2_code 3 = .ok (.dup, 1) := by decide +kernel
theorem own_b1_d4 : decode prog_17_method_2_code 4 = .ok (.lconst 0, 1) := by decide +kernel
theorem own_b1_d5 : decode prog_17_method_2_code 5 = .ok (.lconst 0, 1) := by decide +kernel
theorem own_b1_d6 : decode prog_17_method_2_code 6 = .ok (.aload_n 0, 1) := by decide +kernel
theorem own_b1_d7 : decode prog_17_method_2_code 7 = .ok (.aconst_null, 1) := by decide +kernel
theorem own_b1_d8 : decode prog_17_method_2_code 8 = .ok (.invokespecial 26, 3) := by decide +kernel
theorem own_b1_d11 : decode prog_17_method_2_code 11 = .ok (.areturn, 1) := by decide +kernel
theorem own_ef_rm1 (m : MethodId) (x0 : Value) (q0 : x0.isRef = true) : entryFrame m #[x0] 1 = mkF m 0 #[.val x0] [] := by rcases ref_cases q0 with rfl | ⟨_, rfl⟩ <;> first | (simp [entryFrame, mkF, argsToLocals, Value.category]; done) | rfl
def Q1 (Z : State) (x2 : Value) (h0 : Heap) (n0 : Nat) (v : Option Value) (h : Heap) (L : List Loc) : Prop := ∃ b : Addr, v = some (.ref b) ∧ Fr n0 L ∧ Keep h0 h [] ∧ h0.size ≤ b ∧ Exa Z h b "com/example/serialine/serialine/Version" ∧ Fld Z h b "com/example/serialine/serialine/Version" "commit" "J" (.long (0 : Int64)) ∧ Fld Z h b "com/example/serialine/serialine/Version" "writer" "J" (.long (0 : Int64)) ∧ Fld Z h b "com/example/serialine/serialine/Version" "value" "[B" x2 ∧ Fld Z h b "com/example/serialine/serialine/Version" "older" "Lcom/example/serialine/serialine/Version;" .null
set_option maxRecDepth 65536 in
set_option maxHeartbeats 40000000 in
theorem rm1 (l : Launch) (Z : State) (a0 : Array Value) (hw : ∀ d ∈ tables_1, d.before a0 Z = true) (ws : List Jvm.Cond) (x2 : Value) (h0 : Heap) (n0 : Nat) (Z0 : n0 ≤ h0.size) (hx2 : x2.isRef = true) :
    MetFree l (⟨"com/example/serialine/serialine/Version", "initial", "([B)Lcom/example/serialine/serialine/Version;"⟩ : MethodName) (head1 (Jvm.Cond.code (⟨"com/example/serialine/serialine/Version", "initial", "([B)Lcom/example/serialine/serialine/Version;"⟩ : MethodName) prog_17_method_2_code 1 (some (.object "com/example/serialine/serialine/Version")) :: ws) ({ frames := 2, cells := 1, slots := 4, locals := 31 } : Room)) (fun aa_ U_ => aa_ = #[x2] ∧ Z.Warmed39 U_.vm ∧ U_.heap = h0) (fun _ _ _ _ _ => True) (fun _ U_ o_ U1_ => ∃ v_ L_, o_ = .returned v_ ∧ Q1 Z x2 h0 n0 v_ U1_.heap L_ ∧ FrameEnd U_ o_ U1_ L_ ({ frames := 2, cells := 1, slots := 4, locals := 31 } : Room).cells ({ frames := 2, cells := 1, slots := 4, locals := 31 } : Room).slots) := by
  refine MetFree.of_bodySF (plainFor_of_name own_pn0) hisR ?_
  intro p e s m args below meth c s₁ Bd hml0 hP hK
  obtain ⟨rfl, hZ, hh⟩ := hP
  have hx := Bd.exec
  have hby := Bd.bytes
  have hlk := Bd.notSynchronized
  have hml : c.maxLocals = 1 := hml0
  have hown : s.vm.findClass "com/example/serialine/serialine/Version" = some m.cls := findClass_of_methodNamed Bd.named
  have hnm := (name_of_methodNamed Bd.named Bd.method).1
  have X0 : Stand p l e ({ frames := 2, cells := 1, slots := 4, locals := 31 } : Room) s m #[x2] below meth c s₁ [] 0 0 := Stand.of_body Bd
  have e0 : s₁.heap = h0 := by rw [← hh, Bd.state]; rfl
  have N0 := Fr.nil n0
  show own_E p e below s (Q1 Z x2 h0 n0) ({ frames := 2, cells := 1, slots := 4, locals := 31 } : Room).cells ({ frames := 2, cells := 1, slots := 4, locals := 31 } : Room).slots (s₁.setTop (entryFrame m #[x2] 1))
  refine own_st (B := s₁.setTop (mkF m 0 #[.val x2] [])) (fun t_ k_ => castTop (own_ef_rm1 m x2 hx2) k_) ?_
  have K0 : Keep h0 h0 [] := Keep.refl _ _
  obtain ⟨T1, h1, X1, e1, E1, A1, D1, -, st1⟩ := newO X0 hx hZ hown (hw _ (List.mem_of_getElem? (i := 4) rfl)) (hw _ (List.mem_of_getElem? (i := 5) rfl)) (hw _ (List.mem_of_getElem? (i := 2) rfl)) e0 (g := (mkF m 0 #[.val x2] [])) rfl (hb hby own_b1_d0) (by decide) (by decide)
  obtain ⟨b1, g1⟩ : ∃ z, z = h0.size := ⟨_, rfl⟩
  rw [← g1] at A1 D1 st1
  have g2 : n0 ≤ b1 := Nat.le_trans Z0 (Nat.le_of_eq g1.symm)
  have sz3 : h0.size ≤ b1 := Nat.le_trans K0.1 (Nat.le_of_eq g1.symm)
  have Z4 := Nat.le_trans Z0 E1.1
  have K5 := K0.ext E1
  have F1_commit : Fld Z h1 b1 "com/example/serialine/serialine/Version" "commit" "J" (.long (0 : Int64)) := D1 (Or.inl (hw _ (List.mem_of_getElem? (i := 13) rfl))) (ty := .long) (by decide)
  have F1_writer : Fld Z h1 b1 "com/example/serialine/serialine/Version" "writer" "J" (.long (0 : Int64)) := D1 (Or.inr (hw _ (List.mem_of_getElem? (i := 15) rfl))) (ty := .long) (by decide)
  have F1_value : Fld Z h1 b1 "com/example/serialine/serialine/Version" "value" "[B" .null := D1 (Or.inr (hw _ (List.mem_of_getElem? (i := 17) rfl))) (ty := (.array .byte)) (by decide)
  have F1_older : Fld Z h1 b1 "com/example/serialine/serialine/Version" "older" "Lcom/example/serialine/serialine/Version;" .null := D1 (Or.inl (hw _ (List.mem_of_getElem? (i := 19) rfl))) (ty := (.object "com/example/serialine/serialine/Version")) (by decide)
  refine own_st (B := T1.setTop (mkF m 3 #[.val x2] [(.ref b1)])) st1 ?_
  refine own_st (B := T1.setTop (mkF m 4 #[.val x2] [(.ref b1), (.ref b1)])) (fun t_ k_ => XS.dup X1.here hx rfl (hb hby own_b1_d3) rfl rfl k_) ?_
  refine own_st (B := T1.setTop (mkF m 5 #[.val x2] [(.long (0 : Int64)), (.ref b1), (.ref b1)])) (fun t_ k_ => XS.lconst X1.here hx rfl (hb hby own_b1_d4) k_) ?_
  refine own_st (B := T1.setTop (mkF m 6 #[.val x2] [(.long (0 : Int64)), (.long (0 : Int64)), (.ref b1), (.ref b1)])) (fun t_ k_ => XS.lconst X1.here hx rfl (hb hby own_b1_d5) k_) ?_
  refine own_st (B := T1.setTop (mkF m 7 #[.val x2] [x2, (.long (0 : Int64)), (.long (0 : Int64)), (.ref b1), (.ref b1)])) (fun t_ k_ => XS.aloadN X1.here hx rfl (hb hby own_b1_d6) rfl hx2 k_) ?_
  refine own_st (B := T1.setTop (mkF m 8 #[.val x2] [.null, x2, (.long (0 : Int64)), (.long (0 : Int64)), (.ref b1), (.ref b1)])) (fun t_ k_ => XS.aconstNull X1.here hx rfl (hb hby own_b1_d7) k_) ?_
  obtain ⟨_, _, ⟨T6, L6, k6, n6⟩, -, X6, ⟨Lc6, hQ6, l6, y6, z6⟩, st6⟩ := X1.specialBack hx (y := (⟨"com/example/serialine/serialine/Version", "<init>", "(JJ[BLcom/example/serialine/serialine/Version;)V"⟩ : MethodName)) rfl hown (mvT hZ (hw _ (List.mem_of_getElem? (i := 6) rfl))) (mvT hZ (hw _ (List.mem_of_getElem? (i := 7) rfl))) (mvT hZ (hw _ (List.mem_of_getElem? (i := 8) rfl))) (by decide) (backOf (W := 1) (rm2 l Z a0 hw [] b1 (0 : Int64) (0 : Int64) x2 h1 n0 Z4 hx2 A1 F1_commit F1_writer F1_value F1_older g2) hZ (hw _ (List.mem_of_getElem? (i := 8) rfl)) (hw _ (List.mem_of_getElem? (i := 2) rfl)) (by decide) (by decide)) (g := (mkF m 8 #[.val x2] [.null, x2, (.long (0 : Int64)), (.long (0 : Int64)), (.ref b1), (.ref b1)])) rfl (by rw [hml]; rfl) (Steps.refl _) (a := b1) (argsL := [(.long (0 : Int64)), (.long (0 : Int64)), x2, .null]) (rest := [(.ref b1)]) (lenOf own_pd0 rfl) rfl (by show 2 * 0 + _ ≤ _; exact Nat.le_of_eq rfl) (hb hby own_b1_d8) (fun _ _ => ⟨rfl, e1, (by decide : 1 + 0 ≤ _), (by decide : 4 + 0 ≤ _)⟩)
  dsimp only [Pt.U, Pt.locs, Pt.cells, Pt.slots] at X6 l6 y6 z6 st6 hQ6
  subst l6 y6 z6
  obtain ⟨rfl, N6q, K6, Fc6_0, Fc6_1, Fc6_2, Fc6_3⟩ := hQ6
  have N6 := Fr.app N0 N6q
  have Z7 := Nat.le_trans Z4 K6.1
  have K8 := K5.trans K6 (allS (Or.inr sz3) all0)
  refine own_st (B := T6.setTop (mkF m 11 #[.val x2] [(.ref b1)])) (fun t_ k_ => st6.trans k_) ?_
  refine own_retR X6 hx rfl Bd.returns rfl hlk (hb hby own_b1_d11) (by decide) (by decide) ?_
  show Q1 Z x2 h0 n0 _ T6.heap _
  have u9 := A1.keep K6
  exact ⟨b1, rfl, N6, K8, sz3, u9, Fc6_0, Fc6_1, Fc6_2, Fc6_3⟩
theorem own_b4_d0 : decode prog_17_method_5_code 0 = .ok (.aload_n 0, 1) := by decide +kernel
theorem own_b4_d1 : decode prog_17_method_5_code 1 = .ok (.getfield 9, 3) := by decide +kernel
theorem own_b4_d4 : decode prog_17_method_5_code 4 = .ok (.lreturn, 1) := by decide +kernel
theorem own_ef_rm4 (m : MethodId) (x0 : Addr) : entryFrame m #[(.ref x0)] 1 = mkF m 0 #[.val (.ref x0)] [] := by first | (simp [entryFrame, mkF, argsToLocals, Value.category]; done) | rfl
def Q4 (Z : State) (a : Addr) (u : Int64) (h0 : Heap) (n0 : Nat) (v : Option Value) (h : Heap) (L : List Loc) : Prop := v = some (.long u) ∧ Fr n0 L ∧ h = h0
set_option maxRecDepth 65536 in
set_option maxHeartbeats 40000000 in
theorem rm4 (l : Launch) (Z : State) (a0 : Array Value) (hw : ∀ d ∈ tables_1, d.before a0 Z = true) (ws : List Jvm.Cond) (a : Addr) (u : Int64) (h0 : Heap) (n0 : Nat) (Z0 : n0 ≤ h0.size) (F : Fld Z h0 a "com/example/serialine/serialine/Version" "commit" "J" (.long u)) :
    MetFree l (⟨"com/example/serialine/serialine/Version", "commit", "()J"⟩ : MethodName) (head1 (Jvm.Cond.code (⟨"com/example/serialine/serialine/Version", "commit", "()J"⟩ : MethodName) prog_17_method_5_code 1 (some .long) :: ws) ({ frames := 0, cells := 0, slots := 0, locals := 0 } : Room)) (fun aa_ U_ => aa_ = #[(.ref a)] ∧ Z.Warmed39 U_.vm ∧ U_.heap = h0) (fun _ _ _ _ _ => True) (fun _ U_ o_ U1_ => ∃ v_ L_, o_ = .returned v_ ∧ Q4 Z a u h0 n0 v_ U1_.heap L_ ∧ FrameEnd U_ o_ U1_ L_ ({ frames := 0, cells := 0, slots := 0, locals := 0 } : Room).cells ({ frames := 0, cells := 0, slots := 0, locals := 0 } : Room).slots) := by
  refine MetFree.of_bodySF (plainFor_of_name own_pn0) hisR ?_
  intro p e s m args below meth c s₁ Bd hml0 hP hK
  obtain ⟨rfl, hZ, hh⟩ := hP
  have hx := Bd.exec
  have hby := Bd.bytes
  have hlk := Bd.notSynchronized
  have hml : c.maxLocals = 1 := hml0
  have hown : s.vm.findClass "com/example/serialine/serialine/Version" = some m.cls := findClass_of_methodNamed Bd.named
  have hnm := (name_of_methodNamed Bd.named Bd.method).1
  have X0 : Stand p l e ({ frames := 0, cells := 0, slots := 0, locals := 0 } : Room) s m #[(.ref a)] below meth c s₁ [] 0 0 := Stand.of_body Bd
  have e0 : s₁.heap = h0 := by rw [← hh, Bd.state]; rfl
  have N0 := Fr.nil n0
  show own_E p e below s (Q4 Z a u h0 n0) ({ frames := 0, cells := 0, slots := 0, locals := 0 } : Room).cells ({ frames := 0, cells := 0, slots := 0, locals := 0 } : Room).slots (s₁.setTop (entryFrame m #[(.ref a)] 1))
  refine own_st (B := s₁.setTop (mkF m 0 #[.val (.ref a)] [])) (fun t_ k_ => castTop (own_ef_rm4 m a) k_) ?_
  refine own_st (B := s₁.setTop (mkF m 1 #[.val (.ref a)] [(.ref a)])) (fun t_ k_ => XS.aloadN X0.here hx rfl (hb hby own_b4_d0) rfl rfl k_) ?_
  obtain ⟨T1, X1, e1, st1⟩ := getF X0 hx hZ hown (host := "") (Or.inl (hw _ (List.mem_of_getElem? (i := 12) rfl))) Via.refl e0 F (g := (mkF m 1 #[.val (.ref a)] [(.ref a)])) rfl rfl (hb hby own_b4_d1)
  refine own_st (B := T1.setTop (mkF m 4 #[.val (.ref a)] [(.long u)])) st1 ?_
  refine own_retJ X1 hx Bd.returns hlk (hb hby own_b4_d4) (by decide) (by decide) ?_
  show Q4 Z a u h0 n0 _ T1.heap _
  rw [e1]
  exact ⟨rfl, N0, rfl⟩
theorem own_b5_d0 : decode prog_17_method_6_code 0 = .ok (.aload_n 0, 1) := by decide +kernel
theorem own_b5_d1 : decode prog_17_method_6_code 1 = .ok (.getfield 15, 3) := by decide +kernel
theorem own_b5_d4 : decode prog_17_method_6_code 4 = .ok (.lreturn, 1) := by decide +kernel
theorem own_ef_rm5 (m : MethodId) (x0 : Addr) : entryFrame m #[(.ref x0)] 1 = mkF m 0 #[.val (.ref x0)] [] := by first | (simp [entryFrame, mkF, argsToLocals, Value.category]; done) | rfl
def Q5 (Z : State) (a : Addr) (u : Int64) (h0 : Heap) (n0 : Nat) (v : Option Value) (h : Heap) (L : List Loc) : Prop := v = some (.long u) ∧ Fr n0 L ∧ h = h0
set_option maxRecDepth 65536 in
set_option maxHeartbeats 40000000 in
theorem rm5 (l : Launch) (Z : State) (a0 : Array Value) (hw : ∀ d ∈ tables_1, d.before a0 Z = true) (ws : List Jvm.Cond) (a : Addr) (u : Int64) (h0 : Heap) (n0 : Nat) (Z0 : n0 ≤ h0.size) (F : Fld Z h0 a "com/example/serialine/serialine/Version" "writer" "J" (.long u)) :
    MetFree l (⟨"com/example/serialine/serialine/Version", "writer", "()J"⟩ : MethodName) (head1 (Jvm.Cond.code (⟨"com/example/serialine/serialine/Version", "writer", "()J"⟩ : MethodName) prog_17_method_6_code 1 (some .long) :: ws) ({ frames := 0, cells := 0, slots := 0, locals := 0 } : Room)) (fun aa_ U_ => aa_ = #[(.ref a)] ∧ Z.Warmed39 U_.vm ∧ U_.heap = h0) (fun _ _ _ _ _ => True) (fun _ U_ o_ U1_ => ∃ v_ L_, o_ = .returned v_ ∧ Q5 Z a u h0 n0 v_ U1_.heap L_ ∧ FrameEnd U_ o_ U1_ L_ ({ frames := 0, cells := 0, slots := 0, locals := 0 } : Room).cells ({ frames := 0, cells := 0, slots := 0, locals := 0 } : Room).slots) := by
  refine MetFree.of_bodySF (plainFor_of_name own_pn0) hisR ?_
  intro p e s m args below meth c s₁ Bd hml0 hP hK
  obtain ⟨rfl, hZ, hh⟩ := hP
  have hx := Bd.exec
  have hby := Bd.bytes
  have hlk := Bd.notSynchronized
  have hml : c.maxLocals = 1 := hml0
  have hown : s.vm.findClass "com/example/serialine/serialine/Version" = some m.cls := findClass_of_methodNamed Bd.named
  have hnm := (name_of_methodNamed Bd.named Bd.method).1
  have X0 : Stand p l e ({ frames := 0, cells := 0, slots := 0, locals := 0 } : Room) s m #[(.ref a)] below meth c s₁ [] 0 0 := Stand.of_body Bd
  have e0 : s₁.heap = h0 := by rw [← hh, Bd.state]; rfl
  have N0 := Fr.nil n0
  show own_E p e below s (Q5 Z a u h0 n0) ({ frames := 0, cells := 0, slots := 0, locals := 0 } : Room).cells ({ frames := 0, cells := 0, slots := 0, locals := 0 } : Room).slots (s₁.setTop (entryFrame m #[(.ref a)] 1))
  refine own_st (B := s₁.setTop (mkF m 0 #[.val (.ref a)] [])) (fun t_ k_ => castTop (own_ef_rm5 m a) k_) ?_
  refine own_st (B := s₁.setTop (mkF m 1 #[.val (.ref a)] [(.ref a)])) (fun t_ k_ => XS.aloadN X0.here hx rfl (hb hby own_b5_d0) rfl rfl k_) ?_
  obtain ⟨T1, X1, e1, st1⟩ := getF X0 hx hZ hown (host := "") (Or.inl (hw _ (List.mem_of_getElem? (i := 14) rfl))) Via.refl e0 F (g := (mkF m 1 #[.val (.ref a)] [(.ref a)])) rfl rfl (hb hby own_b5_d1)
  refine own_st (B := T1.setTop (mkF m 4 #[.val (.ref a)] [(.long u)])) st1 ?_
  refine own_retJ X1 hx Bd.returns hlk (hb hby own_b5_d4) (by decide) (by decide) ?_
  show Q5 Z a u h0 n0 _ T1.heap _
  rw [e1]
  exact ⟨rfl, N0, rfl⟩
theorem own_b6_d0 : decode prog_17_method_7_code 0 = .ok (.aload_n 0, 1) := by decide +kernel
theorem own_b6_d1 : decode prog_17_method_7_code 1 = .ok (.getfield 18, 3) := by decide +kernel
theorem own_b6_d4 : decode prog_17_method_7_code 4 = .ok (.areturn, 1) := by decide +kernel
theorem own_ef_rm6 (m : MethodId) (x0 : Addr) : entryFrame m #[(.ref x0)] 1 = mkF m 0 #[.val (.ref x0)] [] := by first | (simp [entryFrame, mkF, argsToLocals, Value.category]; done) | rfl
def Q6 (Z : State) (a : Addr) (u : Value) (h0 : Heap) (n0 : Nat) (v : Option Value) (h : Heap) (L : List Loc) : Prop := v = some u ∧ Fr n0 L ∧ h = h0
set_option maxRecDepth 65536 in
set_option maxHeartbeats 40000000 in
theorem rm6 (l : Launch) (Z : State) (a0 : Array Value) (hw : ∀ d ∈ tables_1, d.before a0 Z = true) (ws : List Jvm.Cond) (a : Addr) (u : Value) (h0 : Heap) (n0 : Nat) (Z0 : n0 ≤ h0.size) (hu : u.isRef = true) (F : Fld Z h0 a "com/example/serialine/serialine/Version" "value" "[B" u) :
    MetFree l (⟨"com/example/serialine/serialine/Version", "value", "()[B"⟩ : MethodName) (head1 (Jvm.Cond.code (⟨"com/example/serialine/serialine/Version", "value", "()[B"⟩ : MethodName) prog_17_method_7_code 1 (some (.array .byte)) :: ws) ({ frames := 0, cells := 0, slots := 0, locals := 0 } : Room)) (fun aa_ U_ => aa_ = #[(.ref a)] ∧ Z.Warmed39 U_.vm ∧ U_.heap = h0) (fun _ _ _ _ _ => True) (fun _ U_ o_ U1_ => ∃ v_ L_, o_ = .returned v_ ∧ Q6 Z a u h0 n0 v_ U1_.heap L_ ∧ FrameEnd U_ o_ U1_ L_ ({ frames := 0, cells := 0, slots := 0, locals := 0 } : Room).cells ({ frames := 0, cells := 0, slots := 0, locals := 0 } : Room).slots) := by
  refine MetFree.of_bodySF (plainFor_of_name own_pn0) hisR ?_
  intro p e s m args below meth c s₁ Bd hml0 hP hK
  obtain ⟨rfl, hZ, hh⟩ := hP
  have hx := Bd.exec
  have hby := Bd.bytes
  have hlk := Bd.notSynchronized
  have hml : c.maxLocals = 1 := hml0
  have hown : s.vm.findClass "com/example/serialine/serialine/Version" = some m.cls := findClass_of_methodNamed Bd.named
  have hnm := (name_of_methodNamed Bd.named Bd.method).1
  have X0 : Stand p l e ({ frames := 0, cells := 0, slots := 0, locals := 0 } : Room) s m #[(.ref a)] below meth c s₁ [] 0 0 := Stand.of_body Bd
  have e0 : s₁.heap = h0 := by rw [← hh, Bd.state]; rfl
  have N0 := Fr.nil n0
  show own_E p e below s (Q6 Z a u h0 n0) ({ frames := 0, cells := 0, slots := 0, locals := 0 } : Room).cells ({ frames := 0, cells := 0, slots := 0, locals := 0 } : Room).slots (s₁.setTop (entryFrame m #[(.ref a)] 1))
  refine own_st (B := s₁.setTop (mkF m 0 #[.val (.ref a)] [])) (fun t_ k_ => castTop (own_ef_rm6 m a) k_) ?_
  refine own_st (B := s₁.setTop (mkF m 1 #[.val (.ref a)] [(.ref a)])) (fun t_ k_ => XS.aloadN X0.here hx rfl (hb hby own_b6_d0) rfl rfl k_) ?_
  obtain ⟨T1, X1, e1, st1⟩ := getF X0 hx hZ hown (host := "") (Or.inl (hw _ (List.mem_of_getElem? (i := 16) rfl))) Via.refl e0 F (g := (mkF m 1 #[.val (.ref a)] [(.ref a)])) rfl rfl (hb hby own_b6_d1)
  refine own_st (B := T1.setTop (mkF m 4 #[.val (.ref a)] [u])) st1 ?_
  refine own_retR X1 hx hu Bd.returns rfl hlk (hb hby own_b6_d4) (by decide) (by decide) ?_
  show Q6 Z a u h0 n0 _ T1.heap _
  rw [e1]
  exact ⟨rfl, N0, rfl⟩
theorem own_b7_d0 : decode prog_17_method_8_code 0 = .ok (.aload_n 0, 1) := by decide +kernel
theorem own_b7_d1 : decode prog_17_method_8_code 1 = .ok (.getfield 22, 3) := by decide +kernel
theorem own_b7_d4 : decode prog_17_method_8_code 4 = .ok (.areturn, 1) := by decide +kernel
theorem own_ef_rm7 (m : MethodId) (x0 : Addr) : entryFrame m #[(.ref x0)] 1 = mkF m 0 #[.val (.ref x0)] [] := by first | (simp [entryFrame, mkF, argsToLocals, Value.category]; done) | rfl
def Q7 (Z : State) (a : Addr) (u : Value) (h0 : Heap) (n0 : Nat) (v : Option Value) (h : Heap) (L : List Loc) : Prop := v = some u ∧ Fr n0 L ∧ h = h0
set_option maxRecDepth 65536 in
set_option maxHeartbeats 40000000 in
theorem rm7 (l : Launch) (Z : State) (a0 : Array Value) (hw : ∀ d ∈ tables_1, d.before a0 Z = true) (ws : List Jvm.Cond) (a : Addr) (u : Value) (h0 : Heap) (n0 : Nat) (Z0 : n0 ≤ h0.size) (hu : u.isRef = true) (F : Fld Z h0 a "com/example/serialine/serialine/Version" "older" "Lcom/example/serialine/serialine/Version;" u) :
    MetFree l (⟨"com/example/serialine/serialine/Version", "older", "()Lcom/example/serialine/serialine/Version;"⟩ : MethodName) (head1 (Jvm.Cond.code (⟨"com/example/serialine/serialine/Version", "older", "()Lcom/example/serialine/serialine/Version;"⟩ : MethodName) prog_17_method_8_code 1 (some (.object "com/example/serialine/serialine/Version")) :: ws) ({ frames := 0, cells := 0, slots := 0, locals := 0 } : Room)) (fun aa_ U_ => aa_ = #[(.ref a)] ∧ Z.Warmed39 U_.vm ∧ U_.heap = h0) (fun _ _ _ _ _ => True) (fun _ U_ o_ U1_ => ∃ v_ L_, o_ = .returned v_ ∧ Q7 Z a u h0 n0 v_ U1_.heap L_ ∧ FrameEnd U_ o_ U1_ L_ ({ frames := 0, cells := 0, slots := 0, locals := 0 } : Room).cells ({ frames := 0, cells := 0, slots := 0, locals := 0 } : Room).slots) := by
  refine MetFree.of_bodySF (plainFor_of_name own_pn0) hisR ?_
  intro p e s m args below meth c s₁ Bd hml0 hP hK
  obtain ⟨rfl, hZ, hh⟩ := hP
  have hx := Bd.exec
  have hby := Bd.bytes
  have hlk := Bd.notSynchronized
  have hml : c.maxLocals = 1 := hml0
  have hown : s.vm.findClass "com/example/serialine/serialine/Version" = some m.cls := findClass_of_methodNamed Bd.named
  have hnm := (name_of_methodNamed Bd.named Bd.method).1
  have X0 : Stand p l e ({ frames := 0, cells := 0, slots := 0, locals := 0 } : Room) s m #[(.ref a)] below meth c s₁ [] 0 0 := Stand.of_body Bd
  have e0 : s₁.heap = h0 := by rw [← hh, Bd.state]; rfl
  have N0 := Fr.nil n0
  show own_E p e below s (Q7 Z a u h0 n0) ({ frames := 0, cells := 0, slots := 0, locals := 0 } : Room).cells ({ frames := 0, cells := 0, slots := 0, locals := 0 } : Room).slots (s₁.setTop (entryFrame m #[(.ref a)] 1))
  refine own_st (B := s₁.setTop (mkF m 0 #[.val (.ref a)] [])) (fun t_ k_ => castTop (own_ef_rm7 m a) k_) ?_
  refine own_st (B := s₁.setTop (mkF m 1 #[.val (.ref a)] [(.ref a)])) (fun t_ k_ => XS.aloadN X0.here hx rfl (hb hby own_b7_d0) rfl rfl k_) ?_
  obtain ⟨T1, X1, e1, st1⟩ := getF X0 hx hZ hown (host := "") (Or.inl (hw _ (List.mem_of_getElem? (i := 18) rfl))) Via.refl e0 F (g := (mkF m 1 #[.val (.ref a)] [(.ref a)])) rfl rfl (hb hby own_b7_d1)
  refine own_st (B := T1.setTop (mkF m 4 #[.val (.ref a)] [u])) st1 ?_
  refine own_retR X1 hx hu Bd.returns rfl hlk (hb hby own_b7_d4) (by decide) (by decide) ?_
  show Q7 Z a u h0 n0 _ T1.heap _
  rw [e1]
  exact ⟨rfl, N0, rfl⟩
theorem own_b8_d0 : decode prog_17_method_9_code 0 = .ok (.aload_n 0, 1) := by decide +kernel
theorem own_b8_d1 : decode prog_17_method_9_code 1 = .ok (.astore_n 3, 1) := by decide +kernel
theorem own_b8_d2 : decode prog_17_method_9_code 2 = .ok (.aload_n 3, 1) := by decide +kernel
theorem own_b8_d3 : decode prog_17_method_9_code 3 = .ok (.ifnull 20, 3) := by decide +kernel
theorem own_b8_d6 : decode prog_17_method_9_code 6 = .ok (.aload_n 3, 1) := by decide +kernel
theorem own_b8_d7 : decode prog_17_method_9_code 7 = .ok (.getfield 9, 3) := by decide +kernel
theorem own_b8_d10 : decode prog_17_method_9_code 10 = .ok (.lload_n 1, 1) := by decide +kernel
theorem own_b8_d11 : decode prog_17_method_9_code 11 = .ok (.lcmp, 1) := by decide +kernel
theorem own_b8_d12 : decode prog_17_method_9_code 12 = .ok (.ifCond .le 11, 3) := by decide +kernel
theorem own_b8_d15 : decode prog_17_method_9_code 15 = .ok (.aload_n 3, 1) := by decide +kernel
theorem own_b8_d16 : decode prog_17_method_9_code 16 = .ok (.getfield 22, 3) := by decide +kernel
theorem own_b8_d19 : decode prog_17_method_9_code 19 = .ok (.astore_n 3, 1) := by decide +kernel
theorem own_b8_d20 : decode prog_17_method_9_code 20 = .ok (.goto (-18), 3) := by decide +kernel
theorem own_b8_d23 : decode prog_17_method_9_code 23 = .ok (.aload_n 3, 1) := by decide +kernel
theorem own_b8_d24 : decode prog_17_method_9_code 24 = .ok (.areturn, 1) := by decide +kernel
theorem own_ef_rm8 (m : MethodId) (x0 : Addr) (x1 : Int64) : entryFrame m #[(.ref x0), (.long x1)] 4 = mkF m 0 #[.val (.ref x0), .val (.long x1), .second, .unset] [] := by first | (simp [entryFrame, mkF, argsToLocals, Value.category]; done) | rfl
def Q8 (Z : State) (a : Addr) (x0 : Int64) (x1 : Int64) (h0 : Heap) (n0 : Nat) (v : Option Value) (h : Heap) (L : List Loc) : Prop := v = some (own_at a x0 x1) ∧ Fr n0 L ∧ h = h0
set_option maxRecDepth 65536 in
set_option maxHeartbeats 40000000 in
theorem rm8 (l : Launch) (Z : State) (a0 : Array Value) (hw : ∀ d ∈ tables_1, d.before a0 Z = true) (ws : List Jvm.Cond) (a : Addr) (x0 : Int64) (x1 : Int64) (h0 : Heap) (n0 : Nat) (Z0 : n0 ≤ h0.size) (F0 : Fld Z h0 a "com/example/serialine/serialine/Version" "commit" "J" (.long x0)) (F1 : Fld Z h0 a "com/example/serialine/serialine/Version" "older" "Lcom/example/serialine/serialine/Version;" .null) :
    MetFree l (⟨"com/example/serialine/serialine/Version", "at", "(J)Lcom/example/serialine/serialine/Version;"⟩ : MethodName) (head1 (Jvm.Cond.code (⟨"com/example/serialine/serialine/Version", "at", "(J)Lcom/example/serialine/serialine/Version;"⟩ : MethodName) prog_17_method_9_code 4 (some (.object "com/example/serialine/serialine/Version")) :: ws) ({ frames := 0, cells := 0, slots := 0, locals := 0 } : Room)) (fun aa_ U_ => aa_ = #[(.ref a), (.long x1)] ∧ Z.Warmed39 U_.vm ∧ U_.heap = h0) (fun _ _ _ _ _ => True) (fun _ U_ o_ U1_ => ∃ v_ L_, o_ = .returned v_ ∧ Q8 Z a x0 x1 h0 n0 v_ U1_.heap L_ ∧ FrameEnd U_ o_ U1_ L_ ({ frames := 0, cells := 0, slots := 0, locals := 0 } : Room).cells ({ frames := 0, cells := 0, slots := 0, locals := 0 } : Room).slots) := by
  refine MetFree.of_bodySF (plainFor_of_name own_pn0) hisR ?_
  intro p e s m args below meth c s₁ Bd hml0 hP hK
  obtain ⟨rfl, hZ, hh⟩ := hP
  have hx := Bd.exec
  have hby := Bd.bytes
  have hlk := Bd.notSynchronized
  have hml : c.maxLocals = 4 := hml0
  have hown : s.vm.findClass "com/example/serialine/serialine/Version" = some m.cls := findClass_of_methodNamed Bd.named
  have hnm := (name_of_methodNamed Bd.named Bd.method).1
  have X0 : Stand p l e ({ frames := 0, cells := 0, slots := 0, locals := 0 } : Room) s m #[(.ref a), (.long x1)] below meth c s₁ [] 0 0 := Stand.of_body Bd
  have e0 : s₁.heap = h0 := by rw [← hh, Bd.state]; rfl
  have N0 := Fr.nil n0
  show own_E p e below s (Q8 Z a x0 x1 h0 n0) ({ frames := 0, cells := 0, slots := 0, locals := 0 } : Room).cells ({ frames := 0, cells := 0, slots := 0, locals := 0 } : Room).slots (s₁.setTop (entryFrame m #[(.ref a), (.long x1)] 4))
  refine own_st (B := s₁.setTop (mkF m 0 #[.val (.ref a), .val (.long x1), .second, .unset] [])) (fun t_ k_ => castTop (own_ef_rm8 m a x1) k_) ?_
  refine own_st (B := s₁.setTop (mkF m 1 #[.val (.ref a), .val (.long x1), .second, .unset] [(.ref a)])) (fun t_ k_ => XS.aloadN X0.here hx rfl (hb hby own_b8_d0) rfl rfl k_) ?_
  refine own_st (B := s₁.setTop (mkF m 2 #[.val (.ref a), .val (.long x1), .second, .val (.ref a)] [])) (fun t_ k_ => XS.astoreN X0.here hx rfl (hb hby own_b8_d1) rfl rfl (l' := #[.val (.ref a), .val (.long x1), .second, .val (.ref a)]) rfl k_) ?_
  refine own_st (B := s₁.setTop (mkF m 3 #[.val (.ref a), .val (.long x1), .second, .val (.ref a)] [(.ref a)])) (fun t_ k_ => XS.aloadN X0.here hx rfl (hb hby own_b8_d2) rfl rfl k_) ?_
  refine own_st (B := s₁.setTop (mkF m 6 #[.val (.ref a), .val (.long x1), .second, .val (.ref a)] [])) (fun t_ k_ => XS.ifnullNo X0.here hx rfl (hb hby own_b8_d3) rfl k_) ?_
  refine own_st (B := s₁.setTop (mkF m 7 #[.val (.ref a), .val (.long x1), .second, .val (.ref a)] [(.ref a)])) (fun t_ k_ => XS.aloadN X0.here hx rfl (hb hby own_b8_d6) rfl rfl k_) ?_
  obtain ⟨T1, X1, e1, st1⟩ := getF X0 hx hZ hown (host := "") (Or.inl (hw _ (List.mem_of_getElem? (i := 12) rfl))) Via.refl e0 F0 (g := (mkF m 7 #[.val (.ref a), .val (.long x1), .second, .val (.ref a)] [(.ref a)])) rfl rfl (hb hby own_b8_d7)
  refine own_st (B := T1.setTop (mkF m 10 #[.val (.ref a), .val (.long x1), .second, .val (.ref a)] [(.long x0)])) st1 ?_
  refine own_st (B := T1.setTop (mkF m 11 #[.val (.ref a), .val (.long x1), .second, .val (.ref a)] [(.long x1), (.long x0)])) (fun t_ k_ => XS.lloadN X1.here hx rfl (hb hby own_b8_d10) rfl k_) ?_
  refine own_st (B := T1.setTop (mkF m 12 #[.val (.ref a), .val (.long x1), .second, .val (.ref a)] [(.int (lcmpW x0 x1))])) (fun t_ k_ => XS.lcmp X1.here hx rfl (hb hby own_b8_d11) rfl k_) ?_
  by_cases hc2 : x1 < x0
  · have hd2 := own_lt64 hc2
    refine own_st (B := T1.setTop (mkF m 15 #[.val (.ref a), .val (.long x1), .second, .val (.ref a)] [])) (fun t_ k_ => XS.ifNo X1.here hx rfl (hb hby own_b8_d12) rfl ((if0 _ _).trans (tlt ((lw_gt _ _).mpr hc2)).2.2.2) k_) ?_
    refine own_st (B := T1.setTop (mkF m 16 #[.val (.ref a), .val (.long x1), .second, .val (.ref a)] [(.ref a)])) (fun t_ k_ => XS.aloadN X1.here hx rfl (hb hby own_b8_d15) rfl rfl k_) ?_
    obtain ⟨T3, X3, e3, st3⟩ := getF X1 hx hZ hown (host := "") (Or.inl (hw _ (List.mem_of_getElem? (i := 18) rfl))) Via.refl e1 F1 (g := (mkF m 16 #[.val (.ref a), .val (.long x1), .second, .val (.ref a)] [(.ref a)])) rfl rfl (hb hby own_b8_d16)
    refine own_st (B := T3.setTop (mkF m 19 #[.val (.ref a), .val (.long x1), .second, .val (.ref a)] [.null])) st3 ?_
    refine own_st (B := T3.setTop (mkF m 20 #[.val (.ref a), .val (.long x1), .second, .val .null] [])) (fun t_ k_ => XS.astoreN X3.here hx rfl (hb hby own_b8_d19) rfl rfl (l' := #[.val (.ref a), .val (.long x1), .second, .val .null]) rfl k_) ?_
    refine own_st (B := T3.setTop (mkF m 2 #[.val (.ref a), .val (.long x1), .second, .val .null] [])) (fun t_ k_ => XS.goto X3.here hx rfl (pc0 := 20) (pc' := 2) rfl (hb hby own_b8_d20) (by decide) (by decide) k_) ?_
    refine own_st (B := T3.setTop (mkF m 3 #[.val (.ref a), .val (.long x1), .second, .val .null] [.null])) (fun t_ k_ => XS.aloadN X3.here hx rfl (hb hby own_b8_d2) rfl rfl k_) ?_
    refine own_st (B := T3.setTop (mkF m 23 #[.val (.ref a), .val (.long x1), .second, .val .null] [])) (fun t_ k_ => XS.ifnullYes X3.here hx rfl (pc0 := 3) (pc' := 23) rfl (hb hby own_b8_d3) rfl (by decide) (by decide) k_) ?_
    refine own_st (B := T3.setTop (mkF m 24 #[.val (.ref a), .val (.long x1), .second, .val .null] [.null])) (fun t_ k_ => XS.aloadN X3.here hx rfl (hb hby own_b8_d23) rfl rfl k_) ?_
    refine own_retR X3 hx rfl Bd.returns rfl hlk (hb hby own_b8_d24) (by decide) (by decide) ?_
    show Q8 Z a x0 x1 h0 n0 _ T3.heap _
    rw [e3]
    exact ⟨by simp [own_at, hc2], N0, rfl⟩
  · have hd2 := own_nlt64 hc2
    refine own_st (B := T1.setTop (mkF m 23 #[.val (.ref a), .val (.long x1), .second, .val (.ref a)] [])) (fun t_ k_ => XS.ifYes X1.here hx rfl (pc0 := 12) (pc' := 23) rfl (hb hby own_b8_d12) rfl ((if0 _ _).trans (flt (fun q => hc2 ((lw_gt _ _).mp q))).2.2.2) (by decide) (by decide) k_) ?_
    refine own_st (B := T1.setTop (mkF m 24 #[.val (.ref a), .val (.long x1), .second, .val (.ref a)] [(.ref a)])) (fun t_ k_ => XS.aloadN X1.here hx rfl (hb hby own_b8_d23) rfl rfl k_) ?_
    refine own_retR X1 hx rfl Bd.returns rfl hlk (hb hby own_b8_d24) (by decide) (by decide) ?_
    show Q8 Z a x0 x1 h0 n0 _ T1.heap _
    rw [e1]
    exact ⟨by simp [own_at, hc2], N0, rfl⟩
theorem own_pd1 : parseMethodDescriptor "([B)Lcom/example/serialine/serialine/Version;" = some ⟨[(.array .byte)], some (.object "com/example/serialine/serialine/Version")⟩ := by decide +kernel
theorem own_pd2 : parseMethodDescriptor "()J" = some ⟨[], some .long⟩ := by decide +kernel
theorem own_pd3 : parseMethodDescriptor "()[B" = some ⟨[], some (.array .byte)⟩ := by decide +kernel
theorem own_pd4 : parseMethodDescriptor "()Lcom/example/serialine/serialine/Version;" = some ⟨[], some (.object "com/example/serialine/serialine/Version")⟩ := by decide +kernel
theorem own_pd5 : parseMethodDescriptor "(J)Lcom/example/serialine/serialine/Version;" = some ⟨[.long], some (.object "com/example/serialine/serialine/Version")⟩ := by decide +kernel
theorem own_pn1 : plainName "com/example/serialine/serialine/VersionInitialPinLaw" = true := by first | (simp [plainName, overriddenIn]; done) | decide +kernel
theorem own_ef_rm0 (m : MethodId) (x0 : Int32) (x1 : Int32) (x2 : Int64) (x3 : Int32) : entryFrame m #[(.int x0), (.int x1), (.long x2), (.int x3)] maxLocals = mkF m 0 #[.val (.int x0), .val (.int x1), .val (.long x2), .second, .val (.int x3), .unset, .unset, .unset, .unset] [] := by first | (simp [entryFrame, mkF, argsToLocals, Value.category, maxLocals]; done) | rfl
def Q0 (Z : State) (u0 : Int32) (u1 : Int32) (u2 : Int64) (u3 : Int32) (h0 : Heap) (n0 : Nat) (v : Option Value) (h : Heap) (L : List Loc) : Prop := v = some (.int 1) ∧ Fr n0 L
set_option maxRecDepth 65536 in
set_option maxHeartbeats 40000000 in
theorem rm0 (l : Launch) (Z : State) (a0 : Array Value) (hw : ∀ d ∈ tables_1, d.before a0 Z = true) (ws : List Jvm.Cond) (u0 : Int32) (u1 : Int32) (u2 : Int64) (u3 : Int32) (h0 : Heap) (n0 : Nat) (Z0 : n0 ≤ h0.size) :
    MetFree l x (head1 (Jvm.Cond.code x code maxLocals ret :: ws) room_1) (fun aa_ U_ => aa_ = #[(.int u0), (.int u1), (.long u2), (.int u3)] ∧ Z.Warmed39 U_.vm ∧ U_.heap = h0) (fun _ _ _ _ _ => True) (fun _ U_ o_ U1_ => ∃ v_ L_, o_ = .returned v_ ∧ Q0 Z u0 u1 u2 u3 h0 n0 v_ U1_.heap L_ ∧ FrameEnd U_ o_ U1_ L_ 2 6) := by
  refine MetFree.of_bodySF (plainFor_of_name own_pn1) hisR ?_
  intro p e s m args below meth c s₁ Bd hml0 hP hK
  obtain ⟨rfl, hZ, hh⟩ := hP
  have hx := Bd.exec
  have hby := Bd.bytes
  have hlk := Bd.notSynchronized
  have hml : c.maxLocals = 9 := hml0
  have hown : s.vm.findClass "com/example/serialine/serialine/VersionInitialPinLaw" = some m.cls := findClass_of_methodNamed Bd.named
  have hnm := (name_of_methodNamed Bd.named Bd.method).1
  have X0 : Stand p l e room_1 s m #[(.int u0), (.int u1), (.long u2), (.int u3)] below meth c s₁ [] 0 0 := Stand.of_body Bd
  have e0 : s₁.heap = h0 := by rw [← hh, Bd.state]; rfl
  have N0 := Fr.nil n0
  show own_E p e below s (Q0 Z u0 u1 u2 u3 h0 n0) 2 6 (s₁.setTop (entryFrame m #[(.int u0), (.int u1), (.long u2), (.int u3)] maxLocals))
  refine own_st (B := s₁.setTop (mkF m 0 #[.val (.int u0), .val (.int u1), .val (.long u2), .second, .val (.int u3), .unset, .unset, .unset, .unset] [])) (fun t_ k_ => castTop (own_ef_rm0 m u0 u1 u2 u3) k_) ?_
  refine own_st (B := s₁.setTop (mkF m 1 #[.val (.int u0), .val (.int u1), .val (.long u2), .second, .val (.int u3), .unset, .unset, .unset, .unset] [.null])) (fun t_ k_ => XS.aconstNull X0.here hx rfl (hb hby at_0) k_) ?_
  refine own_st (B := s₁.setTop (mkF m 3 #[.val (.int u0), .val (.int u1), .val (.long u2), .second, .val (.int u3), .val .null, .unset, .unset, .unset] [])) (fun t_ k_ => XS.astore X0.here hx rfl (hb hby at_1) rfl rfl (l' := #[.val (.int u0), .val (.int u1), .val (.long u2), .second, .val (.int u3), .val .null, .unset, .unset, .unset]) rfl k_) ?_
  refine own_st (B := s₁.setTop (mkF m 5 #[.val (.int u0), .val (.int u1), .val (.long u2), .second, .val (.int u3), .val .null, .unset, .unset, .unset] [(.int u3)])) (fun t_ k_ => XS.iload X0.here hx rfl (hb hby at_3) rfl k_) ?_
  refine own_st (B := s₁.setTop (mkF m 6 #[.val (.int u0), .val (.int u1), .val (.long u2), .second, .val (.int u3), .val .null, .unset, .unset, .unset] [(.int (1 : Int32)), (.int u3)])) (fun t_ k_ => XS.iconst X0.here hx rfl (hb hby at_5) k_) ?_
  refine own_st (B := s₁.setTop (mkF m 7 #[.val (.int u0), .val (.int u1), .val (.long u2), .second, .val (.int u3), .val .null, .unset, .unset, .unset] [(.int (u3 &&& (1 : Int32)))])) (fun t_ k_ => XS.iand X0.here hx rfl (hb hby at_6) rfl k_) ?_
  by_cases hc1 : (u3 &&& (1 : Int32)) = (0 : Int32)
  · have hd1 := own_eq32 hc1
    rw [show (0 : Int32).toInt = 0 from rfl] at hd1
    refine own_st (B := s₁.setTop (mkF m 27 #[.val (.int u0), .val (.int u1), .val (.long u2), .second, .val (.int u3), .val .null, .unset, .unset, .unset] [])) (fun t_ k_ => XS.ifYes X0.here hx rfl (pc0 := 7) (pc' := 27) rfl (hb hby at_7) rfl ((if0 _ _).trans (teq hc1).1) (by decide) (by decide) k_) ?_
    refine own_st (B := s₁.setTop (mkF m 29 #[.val (.int u0), .val (.int u1), .val (.long u2), .second, .val (.int u3), .val .null, .unset, .unset, .unset] [.null])) (fun t_ k_ => XS.aload X0.here hx rfl (hb hby at_27) rfl rfl k_) ?_
    obtain ⟨_, _, ⟨T2, L2, k2, n2⟩, -, X2, ⟨Lc2, hQ2, l2, y2, z2⟩, st2⟩ := Jvm.LawKit.callS X0 hx (y := (⟨"com/example/serialine/serialine/Version", "initial", "([B)Lcom/example/serialine/serialine/Version;"⟩ : MethodName)) hown (mvT hZ (hw _ (List.mem_of_getElem? (i := 0) rfl))) (mvT hZ (hw _ (List.mem_of_getElem? (i := 1) rfl))) (mvT hZ (hw _ (List.mem_of_getElem? (i := 2) rfl))) (mvT hZ (hw _ (List.mem_of_getElem? (i := 3) rfl))) (by decide) (backOf (W := 0) (rm1 l Z a0 hw [] .null h0 n0 Z0 rfl) hZ (hw _ (List.mem_of_getElem? (i := 3) rfl)) (hw _ (List.mem_of_getElem? (i := 2) rfl)) (by decide) (by decide)) (g := (mkF m 29 #[.val (.int u0), .val (.int u1), .val (.long u2), .second, .val (.int u3), .val .null, .unset, .unset, .unset] [.null])) rfl (by rw [hml]; rfl) (argsL := [.null]) (rest := []) (lenOf own_pd1 rfl) rfl (by show 2 * 0 + _ ≤ _; exact Nat.le_of_eq rfl) (hb hby at_29) (fun _ _ => ⟨rfl, e0, (by decide : 0 + 1 ≤ _), (by decide : 0 + 4 ≤ _)⟩)
    dsimp only [Pt.U, Pt.locs, Pt.cells, Pt.slots] at X2 l2 y2 z2 st2 hQ2
    subst l2 y2 z2
    obtain ⟨d2, rfl, N2q, K2, gb2, Eb2, Fb2_0, Fb2_1, Fb2_2, Fb2_3⟩ := hQ2
    have N2 := Fr.app N0 N2q
    have g3 : n0 ≤ d2 := Nat.le_trans Z0 gb2
    have Z4 := Nat.le_trans Z0 K2.1
    refine own_st (B := T2.setTop (mkF m 32 #[.val (.int u0), .val (.int u1), .val (.long u2), .second, .val (.int u3), .val .null, .unset, .unset, .unset] [(.ref d2)])) st2 ?_
    refine own_st (B := T2.setTop (mkF m 34 #[.val (.int u0), .val (.int u1), .val (.long u2), .second, .val (.int u3), .val .null, .val (.ref d2), .unset, .unset] [])) (fun t_ k_ => XS.astore X2.here hx rfl (hb hby at_32) rfl rfl (l' := #[.val (.int u0), .val (.int u1), .val (.long u2), .second, .val (.int u3), .val .null, .val (.ref d2), .unset, .unset]) rfl k_) ?_
    refine own_st (B := T2.setTop (mkF m 36 #[.val (.int u0), .val (.int u1), .val (.long u2), .second, .val (.int u3), .val .null, .val (.ref d2), .unset, .unset] [(.ref d2)])) (fun t_ k_ => XS.aload X2.here hx rfl (hb hby at_34) rfl rfl k_) ?_
    refine own_st (B := T2.setTop (mkF m 41 #[.val (.int u0), .val (.int u1), .val (.long u2), .second, .val (.int u3), .val .null, .val (.ref d2), .unset, .unset] [])) (fun t_ k_ => XT.ifnonnullYes X2.here hx rfl (pc0 := 36) (pc' := 41) rfl (hb hby at_36) rfl (by decide) (by decide) k_) ?_
    refine own_st (B := T2.setTop (mkF m 43 #[.val (.int u0), .val (.int u1), .val (.long u2), .second, .val (.int u3), .val .null, .val (.ref d2), .unset, .unset] [(.ref d2)])) (fun t_ k_ => XS.aload X2.here hx rfl (hb hby at_41) rfl rfl k_) ?_
    obtain ⟨cq5, kq5, q5a, q5b, q5c⟩ := isOf hZ rfl Eb2
    obtain ⟨_, _, ⟨T5, L5, k5, n5⟩, -, X5, ⟨Lc5, hQ5, l5, y5, z5⟩, st5⟩ := X2.virtualBack hx (y := (⟨"com/example/serialine/serialine/Version", "commit", "()J"⟩ : MethodName)) (z := (⟨"com/example/serialine/serialine/Version", "commit", "()J"⟩ : MethodName)) hown (mvT hZ (hw _ (List.mem_of_getElem? (i := 20) rfl))) (mvT hZ (hw _ (List.mem_of_getElem? (i := 21) rfl))) (notFace_of_selects (args := #[]) (mvT hZ (hw _ (List.mem_of_getElem? (i := 23) rfl)))) (mvT hZ (hw _ (List.mem_of_getElem? (i := 23) rfl))) (mvT hZ (hw _ (List.mem_of_getElem? (i := 22) rfl))) (by decide) (backOf (W := 0) (rm4 l Z a0 hw [] d2 (0 : Int64) T2.heap n0 Z4 Fb2_0) hZ (hw _ (List.mem_of_getElem? (i := 24) rfl)) (hw _ (List.mem_of_getElem? (i := 2) rfl)) (by decide) (by decide)) q5a q5c (g := (mkF m 43 #[.val (.int u0), .val (.int u1), .val (.long u2), .second, .val (.int u3), .val .null, .val (.ref d2), .unset, .unset] [(.ref d2)])) rfl (by rw [hml]; rfl) (Steps.refl _) (argsL := []) (rest := []) (lenOf own_pd2 rfl) rfl (by show 2 * 0 + _ ≤ _; exact Nat.le_of_eq rfl) (hb hby at_43) (fun _ _ => ⟨rfl, rfl, (by decide : 1 + 0 ≤ _), (by decide : 4 + 0 ≤ _)⟩)
    dsimp only [Pt.U, Pt.locs, Pt.cells, Pt.slots] at X5 l5 y5 z5 st5 hQ5
    subst l5 y5 z5
    obtain ⟨rfl, N5q, eh5⟩ := hQ5
    have N5 := Fr.app N2 N5q
    refine own_st (B := T5.setTop (mkF m 46 #[.val (.int u0), .val (.int u1), .val (.long u2), .second, .val (.int u3), .val .null, .val (.ref d2), .unset, .unset] [(.long (0 : Int64))])) (fun t_ k_ => st5.trans k_) ?_
    refine own_st (B := T5.setTop (mkF m 47 #[.val (.int u0), .val (.int u1), .val (.long u2), .second, .val (.int u3), .val .null, .val (.ref d2), .unset, .unset] [(.long (0 : Int64)), (.long (0 : Int64))])) (fun t_ k_ => XS.lconst X5.here hx rfl (hb hby at_46) k_) ?_
    refine own_st (B := T5.setTop (mkF m 48 #[.val (.int u0), .val (.int u1), .val (.long u2), .second, .val (.int u3), .val .null, .val (.ref d2), .unset, .unset] [(.int (lcmpW (0 : Int64) (0 : Int64)))])) (fun t_ k_ => XS.lcmp X5.here hx rfl (hb hby at_47) rfl k_) ?_
    have hc6 : (0 : Int64) = (0 : Int64) := by decide
    refine own_st (B := T5.setTop (mkF m 51 #[.val (.int u0), .val (.int u1), .val (.long u2), .second, .val (.int u3), .val .null, .val (.ref d2), .unset, .unset] [])) (fun t_ k_ => XS.ifNo X5.here hx rfl (hb hby at_48) rfl ((if0 _ _).trans (teq ((lw_eq _ _).mpr hc6)).2) k_) ?_
    refine own_st (B := T5.setTop (mkF m 53 #[.val (.int u0), .val (.int u1), .val (.long u2), .second, .val (.int u3), .val .null, .val (.ref d2), .unset, .unset] [(.ref d2)])) (fun t_ k_ => XS.aload X5.here hx rfl (hb hby at_51) rfl rfl k_) ?_
    obtain ⟨cq7, kq7, q7a, q7b, q7c⟩ := isOf hZ eh5 Eb2
    obtain ⟨_, _, ⟨T7, L7, k7, n7⟩, -, X7, ⟨Lc7, hQ7, l7, y7, z7⟩, st7⟩ := X5.virtualBack hx (y := (⟨"com/example/serialine/serialine/Version", "writer", "()J"⟩ : MethodName)) (z := (⟨"com/example/serialine/serialine/Version", "writer", "()J"⟩ : MethodName)) hown (mvT hZ (hw _ (List.mem_of_getElem? (i := 25) rfl))) (mvT hZ (hw _ (List.mem_of_getElem? (i := 26) rfl))) (notFace_of_selects (args := #[]) (mvT hZ (hw _ (List.mem_of_getElem? (i := 28) rfl)))) (mvT hZ (hw _ (List.mem_of_getElem? (i := 28) rfl))) (mvT hZ (hw _ (List.mem_of_getElem? (i := 27) rfl))) (by decide) (backOf (W := 0) (rm5 l Z a0 hw [] d2 (0 : Int64) T2.heap n0 Z4 Fb2_1) hZ (hw _ (List.mem_of_getElem? (i := 29) rfl)) (hw _ (List.mem_of_getElem? (i := 2) rfl)) (by decide) (by decide)) q7a q7c (g := (mkF m 53 #[.val (.int u0), .val (.int u1), .val (.long u2), .second, .val (.int u3), .val .null, .val (.ref d2), .unset, .unset] [(.ref d2)])) rfl (by rw [hml]; rfl) (Steps.refl _) (argsL := []) (rest := []) (lenOf own_pd2 rfl) rfl (by show 2 * 0 + _ ≤ _; exact Nat.le_of_eq rfl) (hb hby at_53) (fun _ _ => ⟨rfl, eh5, (by decide : 1 + 0 ≤ _), (by decide : 4 + 0 ≤ _)⟩)
    dsimp only [Pt.U, Pt.locs, Pt.cells, Pt.slots] at X7 l7 y7 z7 st7 hQ7
    subst l7 y7 z7
    obtain ⟨rfl, N7q, eh7⟩ := hQ7
    have N7 := Fr.app N5 N7q
    refine own_st (B := T7.setTop (mkF m 56 #[.val (.int u0), .val (.int u1), .val (.long u2), .second, .val (.int u3), .val .null, .val (.ref d2), .unset, .unset] [(.long (0 : Int64))])) (fun t_ k_ => st7.trans k_) ?_
    refine own_st (B := T7.setTop (mkF m 57 #[.val (.int u0), .val (.int u1), .val (.long u2), .second, .val (.int u3), .val .null, .val (.ref d2), .unset, .unset] [(.long (0 : Int64)), (.long (0 : Int64))])) (fun t_ k_ => XS.lconst X7.here hx rfl (hb hby at_56) k_) ?_
    refine own_st (B := T7.setTop (mkF m 58 #[.val (.int u0), .val (.int u1), .val (.long u2), .second, .val (.int u3), .val .null, .val (.ref d2), .unset, .unset] [(.int (lcmpW (0 : Int64) (0 : Int64)))])) (fun t_ k_ => XS.lcmp X7.here hx rfl (hb hby at_57) rfl k_) ?_
    have hc8 : (0 : Int64) = (0 : Int64) := by decide
    refine own_st (B := T7.setTop (mkF m 61 #[.val (.int u0), .val (.int u1), .val (.long u2), .second, .val (.int u3), .val .null, .val (.ref d2), .unset, .unset] [])) (fun t_ k_ => XS.ifNo X7.here hx rfl (hb hby at_58) rfl ((if0 _ _).trans (teq ((lw_eq _ _).mpr hc8)).2) k_) ?_
    refine own_st (B := T7.setTop (mkF m 63 #[.val (.int u0), .val (.int u1), .val (.long u2), .second, .val (.int u3), .val .null, .val (.ref d2), .unset, .unset] [(.ref d2)])) (fun t_ k_ => XS.aload X7.here hx rfl (hb hby at_61) rfl rfl k_) ?_
    obtain ⟨cq9, kq9, q9a, q9b, q9c⟩ := isOf hZ eh7 Eb2
    obtain ⟨_, _, ⟨T9, L9, k9, n9⟩, -, X9, ⟨Lc9, hQ9, l9, y9, z9⟩, st9⟩ := X7.virtualBack hx (y := (⟨"com/example/serialine/serialine/Version", "value", "()[B"⟩ : MethodName)) (z := (⟨"com/example/serialine/serialine/Version", "value", "()[B"⟩ : MethodName)) hown (mvT hZ (hw _ (List.mem_of_getElem? (i := 30) rfl))) (mvT hZ (hw _ (List.mem_of_getElem? (i := 31) rfl))) (notFace_of_selects (args := #[]) (mvT hZ (hw _ (List.mem_of_getElem? (i := 33) rfl)))) (mvT hZ (hw _ (List.mem_of_getElem? (i := 33) rfl))) (mvT hZ (hw _ (List.mem_of_getElem? (i := 32) rfl))) (by decide) (backOf (W := 0) (rm6 l Z a0 hw [] d2 .null T2.heap n0 Z4 rfl Fb2_2) hZ (hw _ (List.mem_of_getElem? (i := 34) rfl)) (hw _ (List.mem_of_getElem? (i := 2) rfl)) (by decide) (by decide)) q9a q9c (g := (mkF m 63 #[.val (.int u0), .val (.int u1), .val (.long u2), .second, .val (.int u3), .val .null, .val (.ref d2), .unset, .unset] [(.ref d2)])) rfl (by rw [hml]; rfl) (Steps.refl _) (argsL := []) (rest := []) (lenOf own_pd3 rfl) rfl (by show 2 * 0 + _ ≤ _; exact Nat.le_of_eq rfl) (hb hby at_63) (fun _ _ => ⟨rfl, eh7, (by decide : 1 + 0 ≤ _), (by decide : 4 + 0 ≤ _)⟩)
    dsimp only [Pt.U, Pt.locs, Pt.cells, Pt.slots] at X9 l9 y9 z9 st9 hQ9
    subst l9 y9 z9
    obtain ⟨rfl, N9q, eh9⟩ := hQ9
    have N9 := Fr.app N7 N9q
    refine own_st (B := T9.setTop (mkF m 66 #[.val (.int u0), .val (.int u1), .val (.long u2), .second, .val (.int u3), .val .null, .val (.ref d2), .unset, .unset] [.null])) (fun t_ k_ => st9.trans k_) ?_
    refine own_st (B := T9.setTop (mkF m 68 #[.val (.int u0), .val (.int u1), .val (.long u2), .second, .val (.int u3), .val .null, .val (.ref d2), .unset, .unset] [.null, .null])) (fun t_ k_ => XS.aload X9.here hx rfl (hb hby at_66) rfl rfl k_) ?_
    refine own_st (B := T9.setTop (mkF m 71 #[.val (.int u0), .val (.int u1), .val (.long u2), .second, .val (.int u3), .val .null, .val (.ref d2), .unset, .unset] [])) (fun t_ k_ => Jvm.RoadKit.acmp (g := (mkF m 68 #[.val (.int u0), .val (.int u1), .val (.long u2), .second, .val (.int u3), .val .null, .val (.ref d2), .unset, .unset] [.null, .null])) X9 hx rfl rfl rfl (pc0 := 68) (pc' := 71) (same := true) rfl (hb hby at_68) rfl (decide_eq_true rfl) (by decide) (by decide) k_) ?_
    refine own_st (B := T9.setTop (mkF m 73 #[.val (.int u0), .val (.int u1), .val (.long u2), .second, .val (.int u3), .val .null, .val (.ref d2), .unset, .unset] [(.ref d2)])) (fun t_ k_ => XS.aload X9.here hx rfl (hb hby at_71) rfl rfl k_) ?_
    obtain ⟨cq10, kq10, q10a, q10b, q10c⟩ := isOf hZ eh9 Eb2
    obtain ⟨_, _, ⟨T10, L10, k10, n10⟩, -, X10, ⟨Lc10, hQ10, l10, y10, z10⟩, st10⟩ := X9.virtualBack hx (y := (⟨"com/example/serialine/serialine/Version", "older", "()Lcom/example/serialine/serialine/Version;"⟩ : MethodName)) (z := (⟨"com/example/serialine/serialine/Version", "older", "()Lcom/example/serialine/serialine/Version;"⟩ : MethodName)) hown (mvT hZ (hw _ (List.mem_of_getElem? (i := 35) rfl))) (mvT hZ (hw _ (List.mem_of_getElem? (i := 36) rfl))) (notFace_of_selects (args := #[]) (mvT hZ (hw _ (List.mem_of_getElem? (i := 38) rfl)))) (mvT hZ (hw _ (List.mem_of_getElem? (i := 38) rfl))) (mvT hZ (hw _ (List.mem_of_getElem? (i := 37) rfl))) (by decide) (backOf (W := 0) (rm7 l Z a0 hw [] d2 .null T2.heap n0 Z4 rfl Fb2_3) hZ (hw _ (List.mem_of_getElem? (i := 39) rfl)) (hw _ (List.mem_of_getElem? (i := 2) rfl)) (by decide) (by decide)) q10a q10c (g := (mkF m 73 #[.val (.int u0), .val (.int u1), .val (.long u2), .second, .val (.int u3), .val .null, .val (.ref d2), .unset, .unset] [(.ref d2)])) rfl (by rw [hml]; rfl) (Steps.refl _) (argsL := []) (rest := []) (lenOf own_pd4 rfl) rfl (by show 2 * 0 + _ ≤ _; exact Nat.le_of_eq rfl) (hb hby at_73) (fun _ _ => ⟨rfl, eh9, (by decide : 1 + 0 ≤ _), (by decide : 4 + 0 ≤ _)⟩)
    dsimp only [Pt.U, Pt.locs, Pt.cells, Pt.slots] at X10 l10 y10 z10 st10 hQ10
    subst l10 y10 z10
    obtain ⟨rfl, N10q, eh10⟩ := hQ10
    have N10 := Fr.app N9 N10q
    refine own_st (B := T10.setTop (mkF m 76 #[.val (.int u0), .val (.int u1), .val (.long u2), .second, .val (.int u3), .val .null, .val (.ref d2), .unset, .unset] [.null])) (fun t_ k_ => st10.trans k_) ?_
    refine own_st (B := T10.setTop (mkF m 79 #[.val (.int u0), .val (.int u1), .val (.long u2), .second, .val (.int u3), .val .null, .val (.ref d2), .unset, .unset] [])) (fun t_ k_ => XT.ifnonnullNo X10.here hx rfl (hb hby at_76) rfl k_) ?_
    refine own_st (B := T10.setTop (mkF m 80 #[.val (.int u0), .val (.int u1), .val (.long u2), .second, .val (.int u3), .val .null, .val (.ref d2), .unset, .unset] [(.int (1 : Int32))])) (fun t_ k_ => XS.iconst X10.here hx rfl (hb hby at_79) k_) ?_
    refine own_st (B := T10.setTop (mkF m 84 #[.val (.int u0), .val (.int u1), .val (.long u2), .second, .val (.int u3), .val .null, .val (.ref d2), .unset, .unset] [(.int (1 : Int32))])) (fun t_ k_ => XS.goto X10.here hx rfl (pc0 := 80) (pc' := 84) rfl (hb hby at_80) (by decide) (by decide) k_) ?_
    refine own_st (B := T10.setTop (mkF m 86 #[.val (.int u0), .val (.int u1), .val (.long u2), .second, .val (.int u3), .val .null, .val (.ref d2), .val (.int (1 : Int32)), .unset] [])) (fun t_ k_ => XS.istore X10.here hx rfl (hb hby at_84) rfl (l' := #[.val (.int u0), .val (.int u1), .val (.long u2), .second, .val (.int u3), .val .null, .val (.ref d2), .val (.int (1 : Int32)), .unset]) rfl k_) ?_
    refine own_st (B := T10.setTop (mkF m 88 #[.val (.int u0), .val (.int u1), .val (.long u2), .second, .val (.int u3), .val .null, .val (.ref d2), .val (.int (1 : Int32)), .unset] [.null])) (fun t_ k_ => XS.aload X10.here hx rfl (hb hby at_86) rfl rfl k_) ?_
    refine own_st (B := T10.setTop (mkF m 121 #[.val (.int u0), .val (.int u1), .val (.long u2), .second, .val (.int u3), .val .null, .val (.ref d2), .val (.int (1 : Int32)), .unset] [])) (fun t_ k_ => XS.ifnullYes X10.here hx rfl (pc0 := 88) (pc' := 121) rfl (hb hby at_88) rfl (by decide) (by decide) k_) ?_
    refine own_st (B := T10.setTop (mkF m 123 #[.val (.int u0), .val (.int u1), .val (.long u2), .second, .val (.int u3), .val .null, .val (.ref d2), .val (.int (1 : Int32)), .unset] [(.ref d2)])) (fun t_ k_ => XS.aload X10.here hx rfl (hb hby at_121) rfl rfl k_) ?_
    refine own_st (B := T10.setTop (mkF m 124 #[.val (.int u0), .val (.int u1), .val (.long u2), .second, .val (.int u3), .val .null, .val (.ref d2), .val (.int (1 : Int32)), .unset] [(.long u2), (.ref d2)])) (fun t_ k_ => XS.lloadN X10.here hx rfl (hb hby at_123) rfl k_) ?_
    obtain ⟨cq11, kq11, q11a, q11b, q11c⟩ := isOf hZ eh10 Eb2
    obtain ⟨_, _, ⟨T11, L11, k11, n11⟩, -, X11, ⟨Lc11, hQ11, l11, y11, z11⟩, st11⟩ := X10.virtualBack hx (y := (⟨"com/example/serialine/serialine/Version", "at", "(J)Lcom/example/serialine/serialine/Version;"⟩ : MethodName)) (z := (⟨"com/example/serialine/serialine/Version", "at", "(J)Lcom/example/serialine/serialine/Version;"⟩ : MethodName)) hown (mvT hZ (hw _ (List.mem_of_getElem? (i := 40) rfl))) (mvT hZ (hw _ (List.mem_of_getElem? (i := 41) rfl))) (notFace_of_selects (args := #[]) (mvT hZ (hw _ (List.mem_of_getElem? (i := 43) rfl)))) (mvT hZ (hw _ (List.mem_of_getElem? (i := 43) rfl))) (mvT hZ (hw _ (List.mem_of_getElem? (i := 42) rfl))) (by decide) (backOf (W := 0) (rm8 l Z a0 hw [] d2 (0 : Int64) u2 T2.heap n0 Z4 Fb2_0 Fb2_3) hZ (hw _ (List.mem_of_getElem? (i := 44) rfl)) (hw _ (List.mem_of_getElem? (i := 2) rfl)) (by decide) (by decide)) q11a q11c (g := (mkF m 124 #[.val (.int u0), .val (.int u1), .val (.long u2), .second, .val (.int u3), .val .null, .val (.ref d2), .val (.int (1 : Int32)), .unset] [(.long u2), (.ref d2)])) rfl (by rw [hml]; rfl) (Steps.refl _) (argsL := [(.long u2)]) (rest := []) (lenOf own_pd5 rfl) rfl (by show 2 * 0 + _ ≤ _; exact Nat.le_of_eq rfl) (hb hby at_124) (fun _ _ => ⟨rfl, eh10, (by decide : 1 + 0 ≤ _), (by decide : 4 + 0 ≤ _)⟩)
    dsimp only [Pt.U, Pt.locs, Pt.cells, Pt.slots] at X11 l11 y11 z11 st11 hQ11
    subst l11 y11 z11
    obtain ⟨rfl, N11q, eh11⟩ := hQ11
    have N11 := Fr.app N10 N11q
    refine own_st (B := T11.setTop (mkF m 127 #[.val (.int u0), .val (.int u1), .val (.long u2), .second, .val (.int u3), .val .null, .val (.ref d2), .val (.int (1 : Int32)), .unset] [(own_at d2 (0 : Int64) u2)])) (fun t_ k_ => st11.trans k_) ?_
    refine own_st (B := T11.setTop (mkF m 129 #[.val (.int u0), .val (.int u1), .val (.long u2), .second, .val (.int u3), .val .null, .val (.ref d2), .val (.int (1 : Int32)), .val (own_at d2 (0 : Int64) u2)] [])) (fun t_ k_ => XS.astore X11.here hx rfl (hb hby at_127) rfl (own_atR _ _ _) (l' := #[.val (.int u0), .val (.int u1), .val (.long u2), .second, .val (.int u3), .val .null, .val (.ref d2), .val (.int (1 : Int32)), .val (own_at d2 (0 : Int64) u2)]) (own_stV rfl (Or.inl rfl) (own_atC _ _ _)) k_) ?_
    refine own_st (B := T11.setTop (mkF m 130 #[.val (.int u0), .val (.int u1), .val (.long u2), .second, .val (.int u3), .val .null, .val (.ref d2), .val (.int (1 : Int32)), .val (own_at d2 (0 : Int64) u2)] [(.long u2)])) (fun t_ k_ => XS.lloadN X11.here hx rfl (hb hby at_129) rfl k_) ?_
    refine own_st (B := T11.setTop (mkF m 131 #[.val (.int u0), .val (.int u1), .val (.long u2), .second, .val (.int u3), .val .null, .val (.ref d2), .val (.int (1 : Int32)), .val (own_at d2 (0 : Int64) u2)] [(.long (0 : Int64)), (.long u2)])) (fun t_ k_ => XS.lconst X11.here hx rfl (hb hby at_130) k_) ?_
    refine own_st (B := T11.setTop (mkF m 132 #[.val (.int u0), .val (.int u1), .val (.long u2), .second, .val (.int u3), .val .null, .val (.ref d2), .val (.int (1 : Int32)), .val (own_at d2 (0 : Int64) u2)] [(.int (lcmpW u2 (0 : Int64)))])) (fun t_ k_ => XS.lcmp X11.here hx rfl (hb hby at_131) rfl k_) ?_
    by_cases hc12 : u2 < (0 : Int64)
    · have hd12 := own_lt64 hc12
      rw [show (0 : Int64).toInt = 0 from rfl] at hd12
      refine own_st (B := T11.setTop (mkF m 157 #[.val (.int u0), .val (.int u1), .val (.long u2), .second, .val (.int u3), .val .null, .val (.ref d2), .val (.int (1 : Int32)), .val (own_at d2 (0 : Int64) u2)] [])) (fun t_ k_ => XS.ifYes X11.here hx rfl (pc0 := 132) (pc' := 157) rfl (hb hby at_132) rfl ((if0 _ _).trans (tlt ((lw_lt _ _).mpr hc12)).1) (by decide) (by decide) k_) ?_
      refine own_st (B := T11.setTop (mkF m 159 #[.val (.int u0), .val (.int u1), .val (.long u2), .second, .val (.int u3), .val .null, .val (.ref d2), .val (.int (1 : Int32)), .val (own_at d2 (0 : Int64) u2)] [(.int (1 : Int32))])) (fun t_ k_ => XS.iload X11.here hx rfl (hb hby at_157) rfl k_) ?_
      refine own_st (B := T11.setTop (mkF m 162 #[.val (.int u0), .val (.int u1), .val (.long u2), .second, .val (.int u3), .val .null, .val (.ref d2), .val (.int (1 : Int32)), .val (own_at d2 (0 : Int64) u2)] [])) (fun t_ k_ => XS.ifNo X11.here hx rfl (hb hby at_159) rfl ((if0 _ _).trans (feq (by decide : ¬ ((1 : Int32) = (0 : Int32)))).1) k_) ?_
      rw [show (own_at d2 (0 : Int64) u2) = Value.null from if_pos hc12]
      refine own_st (B := T11.setTop (mkF m 164 #[.val (.int u0), .val (.int u1), .val (.long u2), .second, .val (.int u3), .val .null, .val (.ref d2), .val (.int (1 : Int32)), .val .null] [.null])) (fun t_ k_ => XS.aload X11.here hx rfl (hb hby at_162) rfl rfl k_) ?_
      refine own_st (B := T11.setTop (mkF m 167 #[.val (.int u0), .val (.int u1), .val (.long u2), .second, .val (.int u3), .val .null, .val (.ref d2), .val (.int (1 : Int32)), .val .null] [])) (fun t_ k_ => XT.ifnonnullNo X11.here hx rfl (hb hby at_164) rfl k_) ?_
      refine own_st (B := T11.setTop (mkF m 168 #[.val (.int u0), .val (.int u1), .val (.long u2), .second, .val (.int u3), .val .null, .val (.ref d2), .val (.int (1 : Int32)), .val .null] [(.int (1 : Int32))])) (fun t_ k_ => XS.iconst X11.here hx rfl (hb hby at_167) k_) ?_
      refine own_st (B := T11.setTop (mkF m 172 #[.val (.int u0), .val (.int u1), .val (.long u2), .second, .val (.int u3), .val .null, .val (.ref d2), .val (.int (1 : Int32)), .val .null] [(.int (1 : Int32))])) (fun t_ k_ => XS.goto X11.here hx rfl (pc0 := 168) (pc' := 172) rfl (hb hby at_168) (by decide) (by decide) k_) ?_
      refine own_st (B := T11.setTop (mkF m 174 #[.val (.int u0), .val (.int u1), .val (.long u2), .second, .val (.int u3), .val .null, .val (.ref d2), .val (.int (1 : Int32)), .val .null] [])) (fun t_ k_ => XS.istore X11.here hx rfl (hb hby at_172) rfl (l' := #[.val (.int u0), .val (.int u1), .val (.long u2), .second, .val (.int u3), .val .null, .val (.ref d2), .val (.int (1 : Int32)), .val .null]) rfl k_) ?_
      refine own_st (B := T11.setTop (mkF m 176 #[.val (.int u0), .val (.int u1), .val (.long u2), .second, .val (.int u3), .val .null, .val (.ref d2), .val (.int (1 : Int32)), .val .null] [(.int (1 : Int32))])) (fun t_ k_ => XS.iload X11.here hx rfl (hb hby at_174) rfl k_) ?_
      refine own_retN X11 hx (t := .boolean) Bd.returns (by simp) hlk (hb hby at_176) (z' := (1 : Int32)) (by first | rfl | exact own_nb _ | exact own_nbb _) (by decide) (by decide) ?_
      show Q0 Z u0 u1 u2 u3 h0 n0 _ T11.heap _
      rw [eh11]
      exact ⟨rfl, N11⟩
    · have hd12 := own_nlt64 hc12
      rw [show (0 : Int64).toInt = 0 from rfl] at hd12
      refine own_st (B := T11.setTop (mkF m 135 #[.val (.int u0), .val (.int u1), .val (.long u2), .second, .val (.int u3), .val .null, .val (.ref d2), .val (.int (1 : Int32)), .val (own_at d2 (0 : Int64) u2)] [])) (fun t_ k_ => XS.ifNo X11.here hx rfl (hb hby at_132) rfl ((if0 _ _).trans (flt (fun q => hc12 ((lw_lt _ _).mp q))).1) k_) ?_
      refine own_st (B := T11.setTop (mkF m 137 #[.val (.int u0), .val (.int u1), .val (.long u2), .second, .val (.int u3), .val .null, .val (.ref d2), .val (.int (1 : Int32)), .val (own_at d2 (0 : Int64) u2)] [(.int (1 : Int32))])) (fun t_ k_ => XS.iload X11.here hx rfl (hb hby at_135) rfl k_) ?_
      refine own_st (B := T11.setTop (mkF m 140 #[.val (.int u0), .val (.int u1), .val (.long u2), .second, .val (.int u3), .val .null, .val (.ref d2), .val (.int (1 : Int32)), .val (own_at d2 (0 : Int64) u2)] [])) (fun t_ k_ => XS.ifNo X11.here hx rfl (hb hby at_137) rfl ((if0 _ _).trans (feq (by decide : ¬ ((1 : Int32) = (0 : Int32)))).1) k_) ?_
      refine own_st (B := T11.setTop (mkF m 142 #[.val (.int u0), .val (.int u1), .val (.long u2), .second, .val (.int u3), .val .null, .val (.ref d2), .val (.int (1 : Int32)), .val (own_at d2 (0 : Int64) u2)] [(own_at d2 (0 : Int64) u2)])) (fun t_ k_ => XS.aload X11.here hx rfl (hb hby at_140) rfl (own_atR _ _ _) k_) ?_
      refine own_st (B := T11.setTop (mkF m 144 #[.val (.int u0), .val (.int u1), .val (.long u2), .second, .val (.int u3), .val .null, .val (.ref d2), .val (.int (1 : Int32)), .val (own_at d2 (0 : Int64) u2)] [(.ref d2), (own_at d2 (0 : Int64) u2)])) (fun t_ k_ => XS.aload X11.here hx rfl (hb hby at_142) rfl rfl k_) ?_
      refine own_st (B := T11.setTop (mkF m 147 #[.val (.int u0), .val (.int u1), .val (.long u2), .second, .val (.int u3), .val .null, .val (.ref d2), .val (.int (1 : Int32)), .val (own_at d2 (0 : Int64) u2)] [])) (fun t_ k_ => Jvm.RoadKit.acmp (g := (mkF m 144 #[.val (.int u0), .val (.int u1), .val (.long u2), .second, .val (.int u3), .val .null, .val (.ref d2), .val (.int (1 : Int32)), .val (own_at d2 (0 : Int64) u2)] [(.ref d2), (own_at d2 (0 : Int64) u2)])) X11 hx rfl (own_atR _ _ _) rfl (pc0 := 144) (pc' := 147) (same := true) rfl (hb hby at_144) rfl (decide_eq_true (by rw [own_at, if_neg hc12])) (by decide) (by decide) k_) ?_
      refine own_st (B := T11.setTop (mkF m 148 #[.val (.int u0), .val (.int u1), .val (.long u2), .second, .val (.int u3), .val .null, .val (.ref d2), .val (.int (1 : Int32)), .val (own_at d2 (0 : Int64) u2)] [(.int (1 : Int32))])) (fun t_ k_ => XS.iconst X11.here hx rfl (hb hby at_147) k_) ?_
      refine own_st (B := T11.setTop (mkF m 152 #[.val (.int u0), .val (.int u1), .val (.long u2), .second, .val (.int u3), .val .null, .val (.ref d2), .val (.int (1 : Int32)), .val (own_at d2 (0 : Int64) u2)] [(.int (1 : Int32))])) (fun t_ k_ => XS.goto X11.here hx rfl (pc0 := 148) (pc' := 152) rfl (hb hby at_148) (by decide) (by decide) k_) ?_
      refine own_st (B := T11.setTop (mkF m 154 #[.val (.int u0), .val (.int u1), .val (.long u2), .second, .val (.int u3), .val .null, .val (.ref d2), .val (.int (1 : Int32)), .val (own_at d2 (0 : Int64) u2)] [])) (fun t_ k_ => XS.istore X11.here hx rfl (hb hby at_152) rfl (l' := #[.val (.int u0), .val (.int u1), .val (.long u2), .second, .val (.int u3), .val .null, .val (.ref d2), .val (.int (1 : Int32)), .val (own_at d2 (0 : Int64) u2)]) rfl k_) ?_
      refine own_st (B := T11.setTop (mkF m 174 #[.val (.int u0), .val (.int u1), .val (.long u2), .second, .val (.int u3), .val .null, .val (.ref d2), .val (.int (1 : Int32)), .val (own_at d2 (0 : Int64) u2)] [])) (fun t_ k_ => XS.goto X11.here hx rfl (pc0 := 154) (pc' := 174) rfl (hb hby at_154) (by decide) (by decide) k_) ?_
      refine own_st (B := T11.setTop (mkF m 176 #[.val (.int u0), .val (.int u1), .val (.long u2), .second, .val (.int u3), .val .null, .val (.ref d2), .val (.int (1 : Int32)), .val (own_at d2 (0 : Int64) u2)] [(.int (1 : Int32))])) (fun t_ k_ => XS.iload X11.here hx rfl (hb hby at_174) rfl k_) ?_
      refine own_retN X11 hx (t := .boolean) Bd.returns (by simp) hlk (hb hby at_176) (z' := (1 : Int32)) (by first | rfl | exact own_nb _ | exact own_nbb _) (by decide) (by decide) ?_
      show Q0 Z u0 u1 u2 u3 h0 n0 _ T11.heap _
      rw [eh11]
      exact ⟨rfl, N11⟩
  · have hd1 := own_neq32 hc1
    rw [show (0 : Int32).toInt = 0 from rfl] at hd1
    refine own_st (B := s₁.setTop (mkF m 10 #[.val (.int u0), .val (.int u1), .val (.long u2), .second, .val (.int u3), .val .null, .unset, .unset, .unset] [])) (fun t_ k_ => XS.ifNo X0.here hx rfl (hb hby at_7) rfl ((if0 _ _).trans (feq hc1).1) k_) ?_
    refine own_st (B := s₁.setTop (mkF m 11 #[.val (.int u0), .val (.int u1), .val (.long u2), .second, .val (.int u3), .val .null, .unset, .unset, .unset] [(.int (2 : Int32))])) (fun t_ k_ => XS.iconst X0.here hx rfl (hb hby at_10) k_) ?_
    obtain ⟨T13, h13, k13, X13, e13, E13, A13, G13, st13⟩ := newPE X0 hx hZ (hw _ (List.mem_of_getElem? (i := 45) rfl)) e0 (g := (mkF m 11 #[.val (.int u0), .val (.int u1), .val (.long u2), .second, .val (.int u3), .val .null, .unset, .unset, .unset] [(.int (2 : Int32))])) rfl (hb hby at_11) rfl (by decide) (cap := 2) (by decide) (by decide) (by decide) (by decide) (ad := "[B") (by decide)
    obtain ⟨b13, g13⟩ : ∃ z, z = h0.size := ⟨_, rfl⟩
    rw [← g13] at A13 G13 st13
    have g14 : n0 ≤ b13 := Nat.le_trans Z0 (Nat.le_of_eq g13.symm)
    have Z15 := Nat.le_trans Z0 E13.1
    have a13 : own_A Z h13 b13 .byte 2 (fun _ => 0) := own_A.new A13 (by decide) rfl
    refine own_st (B := T13.setTop (mkF m 13 #[.val (.int u0), .val (.int u1), .val (.long u2), .second, .val (.int u3), .val .null, .unset, .unset, .unset] [(.ref b13)])) st13 ?_
    refine own_st (B := T13.setTop (mkF m 15 #[.val (.int u0), .val (.int u1), .val (.long u2), .second, .val (.int u3), .val (.ref b13), .unset, .unset, .unset] [])) (fun t_ k_ => XS.astore X13.here hx rfl (hb hby at_13) rfl rfl (l' := #[.val (.int u0), .val (.int u1), .val (.long u2), .second, .val (.int u3), .val (.ref b13), .unset, .unset, .unset]) rfl k_) ?_
    refine own_st (B := T13.setTop (mkF m 17 #[.val (.int u0), .val (.int u1), .val (.long u2), .second, .val (.int u3), .val (.ref b13), .unset, .unset, .unset] [(.ref b13)])) (fun t_ k_ => XS.aload X13.here hx rfl (hb hby at_15) rfl rfl k_) ?_
    refine own_st (B := T13.setTop (mkF m 18 #[.val (.int u0), .val (.int u1), .val (.long u2), .second, .val (.int u3), .val (.ref b13), .unset, .unset, .unset] [(.int (0 : Int32)), (.ref b13)])) (fun t_ k_ => XS.iconst X13.here hx rfl (hb hby at_17) k_) ?_
    refine own_st (B := T13.setTop (mkF m 19 #[.val (.int u0), .val (.int u1), .val (.long u2), .second, .val (.int u3), .val (.ref b13), .unset, .unset, .unset] [(.int u0), (.int (0 : Int32)), (.ref b13)])) (fun t_ k_ => XS.iloadN X13.here hx rfl (hb hby at_18) rfl k_) ?_
    refine own_st (B := T13.setTop (mkF m 20 #[.val (.int u0), .val (.int u1), .val (.long u2), .second, .val (.int u3), .val (.ref b13), .unset, .unset, .unset] [(.int (u0.toInt8.toInt32)), (.int (0 : Int32)), (.ref b13)])) (fun t_ k_ => XS.i2b X13.here hx rfl (hb hby at_19) rfl k_) ?_
    obtain ⟨T16, h16, X16, e16, W16, a16, st16⟩ := own_stB X13 hx hZ e13 a13 (i := 0) (j := (0 : Int32)) (by decide) (by decide) (pc := 20) (x := (u0.toInt8.toInt32)) (Ls := #[.val (.int u0), .val (.int u1), .val (.long u2), .second, .val (.int u3), .val (.ref b13), .unset, .unset, .unset]) (rest := []) (hb hby at_20)
    have N16 := Fr.snoc X16 N0 g14
    have Z17 := Nat.le_trans Z15 (Keep.of_wr W16).1
    refine own_st (B := T16.setTop (mkF m 21 #[.val (.int u0), .val (.int u1), .val (.long u2), .second, .val (.int u3), .val (.ref b13), .unset, .unset, .unset] [])) st16 ?_
    refine own_st (B := T16.setTop (mkF m 23 #[.val (.int u0), .val (.int u1), .val (.long u2), .second, .val (.int u3), .val (.ref b13), .unset, .unset, .unset] [(.ref b13)])) (fun t_ k_ => XS.aload X16.here hx rfl (hb hby at_21) rfl rfl k_) ?_
    refine own_st (B := T16.setTop (mkF m 24 #[.val (.int u0), .val (.int u1), .val (.long u2), .second, .val (.int u3), .val (.ref b13), .unset, .unset, .unset] [(.int (1 : Int32)), (.ref b13)])) (fun t_ k_ => XS.iconst X16.here hx rfl (hb hby at_23) k_) ?_
    refine own_st (B := T16.setTop (mkF m 25 #[.val (.int u0), .val (.int u1), .val (.long u2), .second, .val (.int u3), .val (.ref b13), .unset, .unset, .unset] [(.int u1), (.int (1 : Int32)), (.ref b13)])) (fun t_ k_ => XS.iloadN X16.here hx rfl (hb hby at_24) rfl k_) ?_
    refine own_st (B := T16.setTop (mkF m 26 #[.val (.int u0), .val (.int u1), .val (.long u2), .second, .val (.int u3), .val (.ref b13), .unset, .unset, .unset] [(.int (u1.toInt8.toInt32)), (.int (1 : Int32)), (.ref b13)])) (fun t_ k_ => XS.i2b X16.here hx rfl (hb hby at_25) rfl k_) ?_
    obtain ⟨T18, h18, X18, e18, W18, a18, st18⟩ := own_stB X16 hx hZ e16 a16 (i := 1) (j := (1 : Int32)) (by decide) (by decide) (pc := 26) (x := (u1.toInt8.toInt32)) (Ls := #[.val (.int u0), .val (.int u1), .val (.long u2), .second, .val (.int u3), .val (.ref b13), .unset, .unset, .unset]) (rest := []) (hb hby at_26)
    have N18 := Fr.snoc X18 N16 g14
    have Z19 := Nat.le_trans Z17 (Keep.of_wr W18).1
    refine own_st (B := T18.setTop (mkF m 27 #[.val (.int u0), .val (.int u1), .val (.long u2), .second, .val (.int u3), .val (.ref b13), .unset, .unset, .unset] [])) st18 ?_
    refine own_st (B := T18.setTop (mkF m 29 #[.val (.int u0), .val (.int u1), .val (.long u2), .second, .val (.int u3), .val (.ref b13), .unset, .unset, .unset] [(.ref b13)])) (fun t_ k_ => XS.aload X18.here hx rfl (hb hby at_27) rfl rfl k_) ?_
    obtain ⟨_, _, ⟨T20, L20, k20, n20⟩, -, X20, ⟨Lc20, hQ20, l20, y20, z20⟩, st20⟩ := Jvm.LawKit.callS X18 hx (y := (⟨"com/example/serialine/serialine/Version", "initial", "([B)Lcom/example/serialine/serialine/Version;"⟩ : MethodName)) hown (mvT hZ (hw _ (List.mem_of_getElem? (i := 0) rfl))) (mvT hZ (hw _ (List.mem_of_getElem? (i := 1) rfl))) (mvT hZ (hw _ (List.mem_of_getElem? (i := 2) rfl))) (mvT hZ (hw _ (List.mem_of_getElem? (i := 3) rfl))) (by decide) (backOf (W := 0) (rm1 l Z a0 hw [] (.ref b13) h18 n0 Z19 rfl) hZ (hw _ (List.mem_of_getElem? (i := 3) rfl)) (hw _ (List.mem_of_getElem? (i := 2) rfl)) (by decide) (by decide)) (g := (mkF m 29 #[.val (.int u0), .val (.int u1), .val (.long u2), .second, .val (.int u3), .val (.ref b13), .unset, .unset, .unset] [(.ref b13)])) rfl (by rw [hml]; rfl) (argsL := [(.ref b13)]) (rest := []) (lenOf own_pd1 rfl) rfl (by show 2 * 0 + _ ≤ _; exact Nat.le_of_eq rfl) (hb hby at_29) (fun _ _ => ⟨rfl, e18, (by decide : 1 + 1 ≤ _), (by decide : 2 + 4 ≤ _)⟩)
    dsimp only [Pt.U, Pt.locs, Pt.cells, Pt.slots] at X20 l20 y20 z20 st20 hQ20
    subst l20 y20 z20
    obtain ⟨d20, rfl, N20q, K20, gb20, Eb20, Fb20_0, Fb20_1, Fb20_2, Fb20_3⟩ := hQ20
    have N20 := Fr.app N18 N20q
    have ne21 : b13 ≠ d20 := Nat.ne_of_lt (Nat.lt_of_lt_of_le a18.lt gb20)
    have g22 : n0 ≤ d20 := Nat.le_trans Z19 gb20
    have Z23 := Nat.le_trans Z19 K20.1
    refine own_st (B := T20.setTop (mkF m 32 #[.val (.int u0), .val (.int u1), .val (.long u2), .second, .val (.int u3), .val (.ref b13), .unset, .unset, .unset] [(.ref d20)])) st20 ?_
    refine own_st (B := T20.setTop (mkF m 34 #[.val (.int u0), .val (.int u1), .val (.long u2), .second, .val (.int u3), .val (.ref b13), .val (.ref d20), .unset, .unset] [])) (fun t_ k_ => XS.astore X20.here hx rfl (hb hby at_32) rfl rfl (l' := #[.val (.int u0), .val (.int u1), .val (.long u2), .second, .val (.int u3), .val (.ref b13), .val (.ref d20), .unset, .unset]) rfl k_) ?_
    refine own_st (B := T20.setTop (mkF m 36 #[.val (.int u0), .val (.int u1), .val (.long u2), .second, .val (.int u3), .val (.ref b13), .val (.ref d20), .unset, .unset] [(.ref d20)])) (fun t_ k_ => XS.aload X20.here hx rfl (hb hby at_34) rfl rfl k_) ?_
    refine own_st (B := T20.setTop (mkF m 41 #[.val (.int u0), .val (.int u1), .val (.long u2), .second, .val (.int u3), .val (.ref b13), .val (.ref d20), .unset, .unset] [])) (fun t_ k_ => XT.ifnonnullYes X20.here hx rfl (pc0 := 36) (pc' := 41) rfl (hb hby at_36) rfl (by decide) (by decide) k_) ?_
    refine own_st (B := T20.setTop (mkF m 43 #[.val (.int u0), .val (.int u1), .val (.long u2), .second, .val (.int u3), .val (.ref b13), .val (.ref d20), .unset, .unset] [(.ref d20)])) (fun t_ k_ => XS.aload X20.here hx rfl (hb hby at_41) rfl rfl k_) ?_
    obtain ⟨cq24, kq24, q24a, q24b, q24c⟩ := isOf hZ rfl Eb20
    obtain ⟨_, _, ⟨T24, L24, k24, n24⟩, -, X24, ⟨Lc24, hQ24, l24, y24, z24⟩, st24⟩ := X20.virtualBack hx (y := (⟨"com/example/serialine/serialine/Version", "commit", "()J"⟩ : MethodName)) (z := (⟨"com/example/serialine/serialine/Version", "commit", "()J"⟩ : MethodName)) hown (mvT hZ (hw _ (List.mem_of_getElem? (i := 20) rfl))) (mvT hZ (hw _ (List.mem_of_getElem? (i := 21) rfl))) (notFace_of_selects (args := #[]) (mvT hZ (hw _ (List.mem_of_getElem? (i := 23) rfl)))) (mvT hZ (hw _ (List.mem_of_getElem? (i := 23) rfl))) (mvT hZ (hw _ (List.mem_of_getElem? (i := 22) rfl))) (by decide) (backOf (W := 0) (rm4 l Z a0 hw [] d20 (0 : Int64) T20.heap n0 Z23 Fb20_0) hZ (hw _ (List.mem_of_getElem? (i := 24) rfl)) (hw _ (List.mem_of_getElem? (i := 2) rfl)) (by decide) (by decide)) q24a q24c (g := (mkF m 43 #[.val (.int u0), .val (.int u1), .val (.long u2), .second, .val (.int u3), .val (.ref b13), .val (.ref d20), .unset, .unset] [(.ref d20)])) rfl (by rw [hml]; rfl) (Steps.refl _) (argsL := []) (rest := []) (lenOf own_pd2 rfl) rfl (by show 2 * 0 + _ ≤ _; exact Nat.le_of_eq rfl) (hb hby at_43) (fun _ _ => ⟨rfl, rfl, (by decide : 2 + 0 ≤ _), (by decide : 6 + 0 ≤ _)⟩)
    dsimp only [Pt.U, Pt.locs, Pt.cells, Pt.slots] at X24 l24 y24 z24 st24 hQ24
    subst l24 y24 z24
    obtain ⟨rfl, N24q, eh24⟩ := hQ24
    have N24 := Fr.app N20 N24q
    refine own_st (B := T24.setTop (mkF m 46 #[.val (.int u0), .val (.int u1), .val (.long u2), .second, .val (.int u3), .val (.ref b13), .val (.ref d20), .unset, .unset] [(.long (0 : Int64))])) (fun t_ k_ => st24.trans k_) ?_
    refine own_st (B := T24.setTop (mkF m 47 #[.val (.int u0), .val (.int u1), .val (.long u2), .second, .val (.int u3), .val (.ref b13), .val (.ref d20), .unset, .unset] [(.long (0 : Int64)), (.long (0 : Int64))])) (fun t_ k_ => XS.lconst X24.here hx rfl (hb hby at_46) k_) ?_
    refine own_st (B := T24.setTop (mkF m 48 #[.val (.int u0), .val (.int u1), .val (.long u2), .second, .val (.int u3), .val (.ref b13), .val (.ref d20), .unset, .unset] [(.int (lcmpW (0 : Int64) (0 : Int64)))])) (fun t_ k_ => XS.lcmp X24.here hx rfl (hb hby at_47) rfl k_) ?_
    have hc25 : (0 : Int64) = (0 : Int64) := by decide
    refine own_st (B := T24.setTop (mkF m 51 #[.val (.int u0), .val (.int u1), .val (.long u2), .second, .val (.int u3), .val (.ref b13), .val (.ref d20), .unset, .unset] [])) (fun t_ k_ => XS.ifNo X24.here hx rfl (hb hby at_48) rfl ((if0 _ _).trans (teq ((lw_eq _ _).mpr hc25)).2) k_) ?_
    refine own_st (B := T24.setTop (mkF m 53 #[.val (.int u0), .val (.int u1), .val (.long u2), .second, .val (.int u3), .val (.ref b13), .val (.ref d20), .unset, .unset] [(.ref d20)])) (fun t_ k_ => XS.aload X24.here hx rfl (hb hby at_51) rfl rfl k_) ?_
    obtain ⟨cq26, kq26, q26a, q26b, q26c⟩ := isOf hZ eh24 Eb20
    obtain ⟨_, _, ⟨T26, L26, k26, n26⟩, -, X26, ⟨Lc26, hQ26, l26, y26, z26⟩, st26⟩ := X24.virtualBack hx (y := (⟨"com/example/serialine/serialine/Version", "writer", "()J"⟩ : MethodName)) (z := (⟨"com/example/serialine/serialine/Version", "writer", "()J"⟩ : MethodName)) hown (mvT hZ (hw _ (List.mem_of_getElem? (i := 25) rfl))) (mvT hZ (hw _ (List.mem_of_getElem? (i := 26) rfl))) (notFace_of_selects (args := #[]) (mvT hZ (hw _ (List.mem_of_getElem? (i := 28) rfl)))) (mvT hZ (hw _ (List.mem_of_getElem? (i := 28) rfl))) (mvT hZ (hw _ (List.mem_of_getElem? (i := 27) rfl))) (by decide) (backOf (W := 0) (rm5 l Z a0 hw [] d20 (0 : Int64) T20.heap n0 Z23 Fb20_1) hZ (hw _ (List.mem_of_getElem? (i := 29) rfl)) (hw _ (List.mem_of_getElem? (i := 2) rfl)) (by decide) (by decide)) q26a q26c (g := (mkF m 53 #[.val (.int u0), .val (.int u1), .val (.long u2), .second, .val (.int u3), .val (.ref b13), .val (.ref d20), .unset, .unset] [(.ref d20)])) rfl (by rw [hml]; rfl) (Steps.refl _) (argsL := []) (rest := []) (lenOf own_pd2 rfl) rfl (by show 2 * 0 + _ ≤ _; exact Nat.le_of_eq rfl) (hb hby at_53) (fun _ _ => ⟨rfl, eh24, (by decide : 2 + 0 ≤ _), (by decide : 6 + 0 ≤ _)⟩)
    dsimp only [Pt.U, Pt.locs, Pt.cells, Pt.slots] at X26 l26 y26 z26 st26 hQ26
    subst l26 y26 z26
    obtain ⟨rfl, N26q, eh26⟩ := hQ26
    have N26 := Fr.app N24 N26q
    refine own_st (B := T26.setTop (mkF m 56 #[.val (.int u0), .val (.int u1), .val (.long u2), .second, .val (.int u3), .val (.ref b13), .val (.ref d20), .unset, .unset] [(.long (0 : Int64))])) (fun t_ k_ => st26.trans k_) ?_
    refine own_st (B := T26.setTop (mkF m 57 #[.val (.int u0), .val (.int u1), .val (.long u2), .second, .val (.int u3), .val (.ref b13), .val (.ref d20), .unset, .unset] [(.long (0 : Int64)), (.long (0 : Int64))])) (fun t_ k_ => XS.lconst X26.here hx rfl (hb hby at_56) k_) ?_
    refine own_st (B := T26.setTop (mkF m 58 #[.val (.int u0), .val (.int u1), .val (.long u2), .second, .val (.int u3), .val (.ref b13), .val (.ref d20), .unset, .unset] [(.int (lcmpW (0 : Int64) (0 : Int64)))])) (fun t_ k_ => XS.lcmp X26.here hx rfl (hb hby at_57) rfl k_) ?_
    have hc27 : (0 : Int64) = (0 : Int64) := by decide
    refine own_st (B := T26.setTop (mkF m 61 #[.val (.int u0), .val (.int u1), .val (.long u2), .second, .val (.int u3), .val (.ref b13), .val (.ref d20), .unset, .unset] [])) (fun t_ k_ => XS.ifNo X26.here hx rfl (hb hby at_58) rfl ((if0 _ _).trans (teq ((lw_eq _ _).mpr hc27)).2) k_) ?_
    refine own_st (B := T26.setTop (mkF m 63 #[.val (.int u0), .val (.int u1), .val (.long u2), .second, .val (.int u3), .val (.ref b13), .val (.ref d20), .unset, .unset] [(.ref d20)])) (fun t_ k_ => XS.aload X26.here hx rfl (hb hby at_61) rfl rfl k_) ?_
    obtain ⟨cq28, kq28, q28a, q28b, q28c⟩ := isOf hZ eh26 Eb20
    obtain ⟨_, _, ⟨T28, L28, k28, n28⟩, -, X28, ⟨Lc28, hQ28, l28, y28, z28⟩, st28⟩ := X26.virtualBack hx (y := (⟨"com/example/serialine/serialine/Version", "value", "()[B"⟩ : MethodName)) (z := (⟨"com/example/serialine/serialine/Version", "value", "()[B"⟩ : MethodName)) hown (mvT hZ (hw _ (List.mem_of_getElem? (i := 30) rfl))) (mvT hZ (hw _ (List.mem_of_getElem? (i := 31) rfl))) (notFace_of_selects (args := #[]) (mvT hZ (hw _ (List.mem_of_getElem? (i := 33) rfl)))) (mvT hZ (hw _ (List.mem_of_getElem? (i := 33) rfl))) (mvT hZ (hw _ (List.mem_of_getElem? (i := 32) rfl))) (by decide) (backOf (W := 0) (rm6 l Z a0 hw [] d20 (.ref b13) T20.heap n0 Z23 rfl Fb20_2) hZ (hw _ (List.mem_of_getElem? (i := 34) rfl)) (hw _ (List.mem_of_getElem? (i := 2) rfl)) (by decide) (by decide)) q28a q28c (g := (mkF m 63 #[.val (.int u0), .val (.int u1), .val (.long u2), .second, .val (.int u3), .val (.ref b13), .val (.ref d20), .unset, .unset] [(.ref d20)])) rfl (by rw [hml]; rfl) (Steps.refl _) (argsL := []) (rest := []) (lenOf own_pd3 rfl) rfl (by show 2 * 0 + _ ≤ _; exact Nat.le_of_eq rfl) (hb hby at_63) (fun _ _ => ⟨rfl, eh26, (by decide : 2 + 0 ≤ _), (by decide : 6 + 0 ≤ _)⟩)
    dsimp only [Pt.U, Pt.locs, Pt.cells, Pt.slots] at X28 l28 y28 z28 st28 hQ28
    subst l28 y28 z28
    obtain ⟨rfl, N28q, eh28⟩ := hQ28
    have N28 := Fr.app N26 N28q
    refine own_st (B := T28.setTop (mkF m 66 #[.val (.int u0), .val (.int u1), .val (.long u2), .second, .val (.int u3), .val (.ref b13), .val (.ref d20), .unset, .unset] [(.ref b13)])) (fun t_ k_ => st28.trans k_) ?_
    refine own_st (B := T28.setTop (mkF m 68 #[.val (.int u0), .val (.int u1), .val (.long u2), .second, .val (.int u3), .val (.ref b13), .val (.ref d20), .unset, .unset] [(.ref b13), (.ref b13)])) (fun t_ k_ => XS.aload X28.here hx rfl (hb hby at_66) rfl rfl k_) ?_
    refine own_st (B := T28.setTop (mkF m 71 #[.val (.int u0), .val (.int u1), .val (.long u2), .second, .val (.int u3), .val (.ref b13), .val (.ref d20), .unset, .unset] [])) (fun t_ k_ => Jvm.RoadKit.acmp (g := (mkF m 68 #[.val (.int u0), .val (.int u1), .val (.long u2), .second, .val (.int u3), .val (.ref b13), .val (.ref d20), .unset, .unset] [(.ref b13), (.ref b13)])) X28 hx rfl rfl rfl (pc0 := 68) (pc' := 71) (same := true) rfl (hb hby at_68) rfl (decide_eq_true rfl) (by decide) (by decide) k_) ?_
    refine own_st (B := T28.setTop (mkF m 73 #[.val (.int u0), .val (.int u1), .val (.long u2), .second, .val (.int u3), .val (.ref b13), .val (.ref d20), .unset, .unset] [(.ref d20)])) (fun t_ k_ => XS.aload X28.here hx rfl (hb hby at_71) rfl rfl k_) ?_
    obtain ⟨cq29, kq29, q29a, q29b, q29c⟩ := isOf hZ eh28 Eb20
    obtain ⟨_, _, ⟨T29, L29, k29, n29⟩, -, X29, ⟨Lc29, hQ29, l29, y29, z29⟩, st29⟩ := X28.virtualBack hx (y := (⟨"com/example/serialine/serialine/Version", "older", "()Lcom/example/serialine/serialine/Version;"⟩ : MethodName)) (z := (⟨"com/example/serialine/serialine/Version", "older", "()Lcom/example/serialine/serialine/Version;"⟩ : MethodName)) hown (mvT hZ (hw _ (List.mem_of_getElem? (i := 35) rfl))) (mvT hZ (hw _ (List.mem_of_getElem? (i := 36) rfl))) (notFace_of_selects (args := #[]) (mvT hZ (hw _ (List.mem_of_getElem? (i := 38) rfl)))) (mvT hZ (hw _ (List.mem_of_getElem? (i := 38) rfl))) (mvT hZ (hw _ (List.mem_of_getElem? (i := 37) rfl))) (by decide) (backOf (W := 0) (rm7 l Z a0 hw [] d20 .null T20.heap n0 Z23 rfl Fb20_3) hZ (hw _ (List.mem_of_getElem? (i := 39) rfl)) (hw _ (List.mem_of_getElem? (i := 2) rfl)) (by decide) (by decide)) q29a q29c (g := (mkF m 73 #[.val (.int u0), .val (.int u1), .val (.long u2), .second, .val (.int u3), .val (.ref b13), .val (.ref d20), .unset, .unset] [(.ref d20)])) rfl (by rw [hml]; rfl) (Steps.refl _) (argsL := []) (rest := []) (lenOf own_pd4 rfl) rfl (by show 2 * 0 + _ ≤ _; exact Nat.le_of_eq rfl) (hb hby at_73) (fun _ _ => ⟨rfl, eh28, (by decide : 2 + 0 ≤ _), (by decide : 6 + 0 ≤ _)⟩)
    dsimp only [Pt.U, Pt.locs, Pt.cells, Pt.slots] at X29 l29 y29 z29 st29 hQ29
    subst l29 y29 z29
    obtain ⟨rfl, N29q, eh29⟩ := hQ29
    have N29 := Fr.app N28 N29q
    refine own_st (B := T29.setTop (mkF m 76 #[.val (.int u0), .val (.int u1), .val (.long u2), .second, .val (.int u3), .val (.ref b13), .val (.ref d20), .unset, .unset] [.null])) (fun t_ k_ => st29.trans k_) ?_
    refine own_st (B := T29.setTop (mkF m 79 #[.val (.int u0), .val (.int u1), .val (.long u2), .second, .val (.int u3), .val (.ref b13), .val (.ref d20), .unset, .unset] [])) (fun t_ k_ => XT.ifnonnullNo X29.here hx rfl (hb hby at_76) rfl k_) ?_
    refine own_st (B := T29.setTop (mkF m 80 #[.val (.int u0), .val (.int u1), .val (.long u2), .second, .val (.int u3), .val (.ref b13), .val (.ref d20), .unset, .unset] [(.int (1 : Int32))])) (fun t_ k_ => XS.iconst X29.here hx rfl (hb hby at_79) k_) ?_
    refine own_st (B := T29.setTop (mkF m 84 #[.val (.int u0), .val (.int u1), .val (.long u2), .second, .val (.int u3), .val (.ref b13), .val (.ref d20), .unset, .unset] [(.int (1 : Int32))])) (fun t_ k_ => XS.goto X29.here hx rfl (pc0 := 80) (pc' := 84) rfl (hb hby at_80) (by decide) (by decide) k_) ?_
    refine own_st (B := T29.setTop (mkF m 86 #[.val (.int u0), .val (.int u1), .val (.long u2), .second, .val (.int u3), .val (.ref b13), .val (.ref d20), .val (.int (1 : Int32)), .unset] [])) (fun t_ k_ => XS.istore X29.here hx rfl (hb hby at_84) rfl (l' := #[.val (.int u0), .val (.int u1), .val (.long u2), .second, .val (.int u3), .val (.ref b13), .val (.ref d20), .val (.int (1 : Int32)), .unset]) rfl k_) ?_
    refine own_st (B := T29.setTop (mkF m 88 #[.val (.int u0), .val (.int u1), .val (.long u2), .second, .val (.int u3), .val (.ref b13), .val (.ref d20), .val (.int (1 : Int32)), .unset] [(.ref b13)])) (fun t_ k_ => XS.aload X29.here hx rfl (hb hby at_86) rfl rfl k_) ?_
    refine own_st (B := T29.setTop (mkF m 91 #[.val (.int u0), .val (.int u1), .val (.long u2), .second, .val (.int u3), .val (.ref b13), .val (.ref d20), .val (.int (1 : Int32)), .unset] [])) (fun t_ k_ => XS.ifnullNo X29.here hx rfl (hb hby at_88) rfl k_) ?_
    refine own_st (B := T29.setTop (mkF m 93 #[.val (.int u0), .val (.int u1), .val (.long u2), .second, .val (.int u3), .val (.ref b13), .val (.ref d20), .val (.int (1 : Int32)), .unset] [(.int (1 : Int32))])) (fun t_ k_ => XS.iload X29.here hx rfl (hb hby at_91) rfl k_) ?_
    refine own_st (B := T29.setTop (mkF m 96 #[.val (.int u0), .val (.int u1), .val (.long u2), .second, .val (.int u3), .val (.ref b13), .val (.ref d20), .val (.int (1 : Int32)), .unset] [])) (fun t_ k_ => XS.ifNo X29.here hx rfl (hb hby at_93) rfl ((if0 _ _).trans (feq (by decide : ¬ ((1 : Int32) = (0 : Int32)))).1) k_) ?_
    refine own_st (B := T29.setTop (mkF m 98 #[.val (.int u0), .val (.int u1), .val (.long u2), .second, .val (.int u3), .val (.ref b13), .val (.ref d20), .val (.int (1 : Int32)), .unset] [(.ref b13)])) (fun t_ k_ => XS.aload X29.here hx rfl (hb hby at_96) rfl rfl k_) ?_
    refine own_st (B := T29.setTop (mkF m 99 #[.val (.int u0), .val (.int u1), .val (.long u2), .second, .val (.int u3), .val (.ref b13), .val (.ref d20), .val (.int (1 : Int32)), .unset] [(.int (0 : Int32)), (.ref b13)])) (fun t_ k_ => XS.iconst X29.here hx rfl (hb hby at_98) k_) ?_
    have u30 := a18.keep K20 nin0
    refine own_st (B := T29.setTop (mkF m 100 #[.val (.int u0), .val (.int u1), .val (.long u2), .second, .val (.int u3), .val (.ref b13), .val (.ref d20), .val (.int (1 : Int32)), .unset] [(.int ((own_up (own_up (fun _ => 0) 0 (nar .byte (u0.toInt8.toInt32))) 1 (nar .byte (u1.toInt8.toInt32))) 0))])) (fun t_ k_ => own_ldB X29 hx hZ eh29 u30 (i := 0) (by decide) (by decide) (hb hby at_99) t_ k_) ?_
    refine own_st (B := T29.setTop (mkF m 101 #[.val (.int u0), .val (.int u1), .val (.long u2), .second, .val (.int u3), .val (.ref b13), .val (.ref d20), .val (.int (1 : Int32)), .unset] [(.int u0), (.int ((own_up (own_up (fun _ => 0) 0 (nar .byte (u0.toInt8.toInt32))) 1 (nar .byte (u1.toInt8.toInt32))) 0))])) (fun t_ k_ => XS.iloadN X29.here hx rfl (hb hby at_100) rfl k_) ?_
    refine own_st (B := T29.setTop (mkF m 102 #[.val (.int u0), .val (.int u1), .val (.long u2), .second, .val (.int u3), .val (.ref b13), .val (.ref d20), .val (.int (1 : Int32)), .unset] [(.int (u0.toInt8.toInt32)), (.int ((own_up (own_up (fun _ => 0) 0 (nar .byte (u0.toInt8.toInt32))) 1 (nar .byte (u1.toInt8.toInt32))) 0))])) (fun t_ k_ => XS.i2b X29.here hx rfl (hb hby at_101) rfl k_) ?_
    have hc31 : ((own_up (own_up (fun _ => 0) 0 (nar .byte (u0.toInt8.toInt32))) 1 (nar .byte (u1.toInt8.toInt32))) 0) = (u0.toInt8.toInt32) := (own_up_ne _ _ (by decide)).trans ((own_up_same _ _ _).trans (own_nbb _))
    have hd31 := own_eq32 hc31
    refine own_st (B := T29.setTop (mkF m 105 #[.val (.int u0), .val (.int u1), .val (.long u2), .second, .val (.int u3), .val (.ref b13), .val (.ref d20), .val (.int (1 : Int32)), .unset] [])) (fun t_ k_ => XS.icmpNo X29.here hx rfl (hb hby at_102) rfl (teq hc31).2 k_) ?_
    refine own_st (B := T29.setTop (mkF m 107 #[.val (.int u0), .val (.int u1), .val (.long u2), .second, .val (.int u3), .val (.ref b13), .val (.ref d20), .val (.int (1 : Int32)), .unset] [(.ref b13)])) (fun t_ k_ => XS.aload X29.here hx rfl (hb hby at_105) rfl rfl k_) ?_
    refine own_st (B := T29.setTop (mkF m 108 #[.val (.int u0), .val (.int u1), .val (.long u2), .second, .val (.int u3), .val (.ref b13), .val (.ref d20), .val (.int (1 : Int32)), .unset] [(.int (1 : Int32)), (.ref b13)])) (fun t_ k_ => XS.iconst X29.here hx rfl (hb hby at_107) k_) ?_
    refine own_st (B := T29.setTop (mkF m 109 #[.val (.int u0), .val (.int u1), .val (.long u2), .second, .val (.int u3), .val (.ref b13), .val (.ref d20), .val (.int (1 : Int32)), .unset] [(.int ((own_up (own_up (fun _ => 0) 0 (nar .byte (u0.toInt8.toInt32))) 1 (nar .byte (u1.toInt8.toInt32))) 1))])) (fun t_ k_ => own_ldB X29 hx hZ eh29 u30 (i := 1) (by decide) (by decide) (hb hby at_108) t_ k_) ?_
    refine own_st (B := T29.setTop (mkF m 110 #[.val (.int u0), .val (.int u1), .val (.long u2), .second, .val (.int u3), .val (.ref b13), .val (.ref d20), .val (.int (1 : Int32)), .unset] [(.int u1), (.int ((own_up (own_up (fun _ => 0) 0 (nar .byte (u0.toInt8.toInt32))) 1 (nar .byte (u1.toInt8.toInt32))) 1))])) (fun t_ k_ => XS.iloadN X29.here hx rfl (hb hby at_109) rfl k_) ?_
    refine own_st (B := T29.setTop (mkF m 111 #[.val (.int u0), .val (.int u1), .val (.long u2), .second, .val (.int u3), .val (.ref b13), .val (.ref d20), .val (.int (1 : Int32)), .unset] [(.int (u1.toInt8.toInt32)), (.int ((own_up (own_up (fun _ => 0) 0 (nar .byte (u0.toInt8.toInt32))) 1 (nar .byte (u1.toInt8.toInt32))) 1))])) (fun t_ k_ => XS.i2b X29.here hx rfl (hb hby at_110) rfl k_) ?_
    have hc32 : ((own_up (own_up (fun _ => 0) 0 (nar .byte (u0.toInt8.toInt32))) 1 (nar .byte (u1.toInt8.toInt32))) 1) = (u1.toInt8.toInt32) := (own_up_same _ _ _).trans (own_nbb _)
    have hd32 := own_eq32 hc32
    refine own_st (B := T29.setTop (mkF m 114 #[.val (.int u0), .val (.int u1), .val (.long u2), .second, .val (.int u3), .val (.ref b13), .val (.ref d20), .val (.int (1 : Int32)), .unset] [])) (fun t_ k_ => XS.icmpNo X29.here hx rfl (hb hby at_111) rfl (teq hc32).2 k_) ?_
    refine own_st (B := T29.setTop (mkF m 115 #[.val (.int u0), .val (.int u1), .val (.long u2), .second, .val (.int u3), .val (.ref b13), .val (.ref d20), .val (.int (1 : Int32)), .unset] [(.int (1 : Int32))])) (fun t_ k_ => XS.iconst X29.here hx rfl (hb hby at_114) k_) ?_
    refine own_st (B := T29.setTop (mkF m 119 #[.val (.int u0), .val (.int u1), .val (.long u2), .second, .val (.int u3), .val (.ref b13), .val (.ref d20), .val (.int (1 : Int32)), .unset] [(.int (1 : Int32))])) (fun t_ k_ => XS.goto X29.here hx rfl (pc0 := 115) (pc' := 119) rfl (hb hby at_115) (by decide) (by decide) k_) ?_
    refine own_st (B := T29.setTop (mkF m 121 #[.val (.int u0), .val (.int u1), .val (.long u2), .second, .val (.int u3), .val (.ref b13), .val (.ref d20), .val (.int (1 : Int32)), .unset] [])) (fun t_ k_ => XS.istore X29.here hx rfl (hb hby at_119) rfl (l' := #[.val (.int u0), .val (.int u1), .val (.long u2), .second, .val (.int u3), .val (.ref b13), .val (.ref d20), .val (.int (1 : Int32)), .unset]) rfl k_) ?_
    refine own_st (B := T29.setTop (mkF m 123 #[.val (.int u0), .val (.int u1), .val (.long u2), .second, .val (.int u3), .val (.ref b13), .val (.ref d20), .val (.int (1 : Int32)), .unset] [(.ref d20)])) (fun t_ k_ => XS.aload X29.here hx rfl (hb hby at_121) rfl rfl k_) ?_
    refine own_st (B := T29.setTop (mkF m 124 #[.val (.int u0), .val (.int u1), .val (.long u2), .second, .val (.int u3), .val (.ref b13), .val (.ref d20), .val (.int (1 : Int32)), .unset] [(.long u2), (.ref d20)])) (fun t_ k_ => XS.lloadN X29.here hx rfl (hb hby at_123) rfl k_) ?_
    obtain ⟨cq33, kq33, q33a, q33b, q33c⟩ := isOf hZ eh29 Eb20
    obtain ⟨_, _, ⟨T33, L33, k33, n33⟩, -, X33, ⟨Lc33, hQ33, l33, y33, z33⟩, st33⟩ := X29.virtualBack hx (y := (⟨"com/example/serialine/serialine/Version", "at", "(J)Lcom/example/serialine/serialine/Version;"⟩ : MethodName)) (z := (⟨"com/example/serialine/serialine/Version", "at", "(J)Lcom/example/serialine/serialine/Version;"⟩ : MethodName)) hown (mvT hZ (hw _ (List.mem_of_getElem? (i := 40) rfl))) (mvT hZ (hw _ (List.mem_of_getElem? (i := 41) rfl))) (notFace_of_selects (args := #[]) (mvT hZ (hw _ (List.mem_of_getElem? (i := 43) rfl)))) (mvT hZ (hw _ (List.mem_of_getElem? (i := 43) rfl))) (mvT hZ (hw _ (List.mem_of_getElem? (i := 42) rfl))) (by decide) (backOf (W := 0) (rm8 l Z a0 hw [] d20 (0 : Int64) u2 T20.heap n0 Z23 Fb20_0 Fb20_3) hZ (hw _ (List.mem_of_getElem? (i := 44) rfl)) (hw _ (List.mem_of_getElem? (i := 2) rfl)) (by decide) (by decide)) q33a q33c (g := (mkF m 124 #[.val (.int u0), .val (.int u1), .val (.long u2), .second, .val (.int u3), .val (.ref b13), .val (.ref d20), .val (.int (1 : Int32)), .unset] [(.long u2), (.ref d20)])) rfl (by rw [hml]; rfl) (Steps.refl _) (argsL := [(.long u2)]) (rest := []) (lenOf own_pd5 rfl) rfl (by show 2 * 0 + _ ≤ _; exact Nat.le_of_eq rfl) (hb hby at_124) (fun _ _ => ⟨rfl, eh29, (by decide : 2 + 0 ≤ _), (by decide : 6 + 0 ≤ _)⟩)
    dsimp only [Pt.U, Pt.locs, Pt.cells, Pt.slots] at X33 l33 y33 z33 st33 hQ33
    subst l33 y33 z33
    obtain ⟨rfl, N33q, eh33⟩ := hQ33
    have N33 := Fr.app N29 N33q
    refine own_st (B := T33.setTop (mkF m 127 #[.val (.int u0), .val (.int u1), .val (.long u2), .second, .val (.int u3), .val (.ref b13), .val (.ref d20), .val (.int (1 : Int32)), .unset] [(own_at d20 (0 : Int64) u2)])) (fun t_ k_ => st33.trans k_) ?_
    refine own_st (B := T33.setTop (mkF m 129 #[.val (.int u0), .val (.int u1), .val (.long u2), .second, .val (.int u3), .val (.ref b13), .val (.ref d20), .val (.int (1 : Int32)), .val (own_at d20 (0 : Int64) u2)] [])) (fun t_ k_ => XS.astore X33.here hx rfl (hb hby at_127) rfl (own_atR _ _ _) (l' := #[.val (.int u0), .val (.int u1), .val (.long u2), .second, .val (.int u3), .val (.ref b13), .val (.ref d20), .val (.int (1 : Int32)), .val (own_at d20 (0 : Int64) u2)]) (own_stV rfl (Or.inl rfl) (own_atC _ _ _)) k_) ?_
    refine own_st (B := T33.setTop (mkF m 130 #[.val (.int u0), .val (.int u1), .val (.long u2), .second, .val (.int u3), .val (.ref b13), .val (.ref d20), .val (.int (1 : Int32)), .val (own_at d20 (0 : Int64) u2)] [(.long u2)])) (fun t_ k_ => XS.lloadN X33.here hx rfl (hb hby at_129) rfl k_) ?_
    refine own_st (B := T33.setTop (mkF m 131 #[.val (.int u0), .val (.int u1), .val (.long u2), .second, .val (.int u3), .val (.ref b13), .val (.ref d20), .val (.int (1 : Int32)), .val (own_at d20 (0 : Int64) u2)] [(.long (0 : Int64)), (.long u2)])) (fun t_ k_ => XS.lconst X33.here hx rfl (hb hby at_130) k_) ?_
    refine own_st (B := T33.setTop (mkF m 132 #[.val (.int u0), .val (.int u1), .val (.long u2), .second, .val (.int u3), .val (.ref b13), .val (.ref d20), .val (.int (1 : Int32)), .val (own_at d20 (0 : Int64) u2)] [(.int (lcmpW u2 (0 : Int64)))])) (fun t_ k_ => XS.lcmp X33.here hx rfl (hb hby at_131) rfl k_) ?_
    by_cases hc34 : u2 < (0 : Int64)
    · have hd34 := own_lt64 hc34
      rw [show (0 : Int64).toInt = 0 from rfl] at hd34
      refine own_st (B := T33.setTop (mkF m 157 #[.val (.int u0), .val (.int u1), .val (.long u2), .second, .val (.int u3), .val (.ref b13), .val (.ref d20), .val (.int (1 : Int32)), .val (own_at d20 (0 : Int64) u2)] [])) (fun t_ k_ => XS.ifYes X33.here hx rfl (pc0 := 132) (pc' := 157) rfl (hb hby at_132) rfl ((if0 _ _).trans (tlt ((lw_lt _ _).mpr hc34)).1) (by decide) (by decide) k_) ?_
      refine own_st (B := T33.setTop (mkF m 159 #[.val (.int u0), .val (.int u1), .val (.long u2), .second, .val (.int u3), .val (.ref b13), .val (.ref d20), .val (.int (1 : Int32)), .val (own_at d20 (0 : Int64) u2)] [(.int (1 : Int32))])) (fun t_ k_ => XS.iload X33.here hx rfl (hb hby at_157) rfl k_) ?_
      refine own_st (B := T33.setTop (mkF m 162 #[.val (.int u0), .val (.int u1), .val (.long u2), .second, .val (.int u3), .val (.ref b13), .val (.ref d20), .val (.int (1 : Int32)), .val (own_at d20 (0 : Int64) u2)] [])) (fun t_ k_ => XS.ifNo X33.here hx rfl (hb hby at_159) rfl ((if0 _ _).trans (feq (by decide : ¬ ((1 : Int32) = (0 : Int32)))).1) k_) ?_
      rw [show (own_at d20 (0 : Int64) u2) = Value.null from if_pos hc34]
      refine own_st (B := T33.setTop (mkF m 164 #[.val (.int u0), .val (.int u1), .val (.long u2), .second, .val (.int u3), .val (.ref b13), .val (.ref d20), .val (.int (1 : Int32)), .val .null] [.null])) (fun t_ k_ => XS.aload X33.here hx rfl (hb hby at_162) rfl rfl k_) ?_
      refine own_st (B := T33.setTop (mkF m 167 #[.val (.int u0), .val (.int u1), .val (.long u2), .second, .val (.int u3), .val (.ref b13), .val (.ref d20), .val (.int (1 : Int32)), .val .null] [])) (fun t_ k_ => XT.ifnonnullNo X33.here hx rfl (hb hby at_164) rfl k_) ?_
      refine own_st (B := T33.setTop (mkF m 168 #[.val (.int u0), .val (.int u1), .val (.long u2), .second, .val (.int u3), .val (.ref b13), .val (.ref d20), .val (.int (1 : Int32)), .val .null] [(.int (1 : Int32))])) (fun t_ k_ => XS.iconst X33.here hx rfl (hb hby at_167) k_) ?_
      refine own_st (B := T33.setTop (mkF m 172 #[.val (.int u0), .val (.int u1), .val (.long u2), .second, .val (.int u3), .val (.ref b13), .val (.ref d20), .val (.int (1 : Int32)), .val .null] [(.int (1 : Int32))])) (fun t_ k_ => XS.goto X33.here hx rfl (pc0 := 168) (pc' := 172) rfl (hb hby at_168) (by decide) (by decide) k_) ?_
      refine own_st (B := T33.setTop (mkF m 174 #[.val (.int u0), .val (.int u1), .val (.long u2), .second, .val (.int u3), .val (.ref b13), .val (.ref d20), .val (.int (1 : Int32)), .val .null] [])) (fun t_ k_ => XS.istore X33.here hx rfl (hb hby at_172) rfl (l' := #[.val (.int u0), .val (.int u1), .val (.long u2), .second, .val (.int u3), .val (.ref b13), .val (.ref d20), .val (.int (1 : Int32)), .val .null]) rfl k_) ?_
      refine own_st (B := T33.setTop (mkF m 176 #[.val (.int u0), .val (.int u1), .val (.long u2), .second, .val (.int u3), .val (.ref b13), .val (.ref d20), .val (.int (1 : Int32)), .val .null] [(.int (1 : Int32))])) (fun t_ k_ => XS.iload X33.here hx rfl (hb hby at_174) rfl k_) ?_
      refine own_retN X33 hx (t := .boolean) Bd.returns (by simp) hlk (hb hby at_176) (z' := (1 : Int32)) (by first | rfl | exact own_nb _ | exact own_nbb _) (by decide) (by decide) ?_
      show Q0 Z u0 u1 u2 u3 h0 n0 _ T33.heap _
      rw [eh33]
      exact ⟨rfl, N33⟩
    · have hd34 := own_nlt64 hc34
      rw [show (0 : Int64).toInt = 0 from rfl] at hd34
      refine own_st (B := T33.setTop (mkF m 135 #[.val (.int u0), .val (.int u1), .val (.long u2), .second, .val (.int u3), .val (.ref b13), .val (.ref d20), .val (.int (1 : Int32)), .val (own_at d20 (0 : Int64) u2)] [])) (fun t_ k_ => XS.ifNo X33.here hx rfl (hb hby at_132) rfl ((if0 _ _).trans (flt (fun q => hc34 ((lw_lt _ _).mp q))).1) k_) ?_
      refine own_st (B := T33.setTop (mkF m 137 #[.val (.int u0), .val (.int u1), .val (.long u2), .second, .val (.int u3), .val (.ref b13), .val (.ref d20), .val (.int (1 : Int32)), .val (own_at d20 (0 : Int64) u2)] [(.int (1 : Int32))])) (fun t_ k_ => XS.iload X33.here hx rfl (hb hby at_135) rfl k_) ?_
      refine own_st (B := T33.setTop (mkF m 140 #[.val (.int u0), .val (.int u1), .val (.long u2), .second, .val (.int u3), .val (.ref b13), .val (.ref d20), .val (.int (1 : Int32)), .val (own_at d20 (0 : Int64) u2)] [])) (fun t_ k_ => XS.ifNo X33.here hx rfl (hb hby at_137) rfl ((if0 _ _).trans (feq (by decide : ¬ ((1 : Int32) = (0 : Int32)))).1) k_) ?_
      refine own_st (B := T33.setTop (mkF m 142 #[.val (.int u0), .val (.int u1), .val (.long u2), .second, .val (.int u3), .val (.ref b13), .val (.ref d20), .val (.int (1 : Int32)), .val (own_at d20 (0 : Int64) u2)] [(own_at d20 (0 : Int64) u2)])) (fun t_ k_ => XS.aload X33.here hx rfl (hb hby at_140) rfl (own_atR _ _ _) k_) ?_
      refine own_st (B := T33.setTop (mkF m 144 #[.val (.int u0), .val (.int u1), .val (.long u2), .second, .val (.int u3), .val (.ref b13), .val (.ref d20), .val (.int (1 : Int32)), .val (own_at d20 (0 : Int64) u2)] [(.ref d20), (own_at d20 (0 : Int64) u2)])) (fun t_ k_ => XS.aload X33.here hx rfl (hb hby at_142) rfl rfl k_) ?_
      refine own_st (B := T33.setTop (mkF m 147 #[.val (.int u0), .val (.int u1), .val (.long u2), .second, .val (.int u3), .val (.ref b13), .val (.ref d20), .val (.int (1 : Int32)), .val (own_at d20 (0 : Int64) u2)] [])) (fun t_ k_ => Jvm.RoadKit.acmp (g := (mkF m 144 #[.val (.int u0), .val (.int u1), .val (.long u2), .second, .val (.int u3), .val (.ref b13), .val (.ref d20), .val (.int (1 : Int32)), .val (own_at d20 (0 : Int64) u2)] [(.ref d20), (own_at d20 (0 : Int64) u2)])) X33 hx rfl (own_atR _ _ _) rfl (pc0 := 144) (pc' := 147) (same := true) rfl (hb hby at_144) rfl (decide_eq_true (by rw [own_at, if_neg hc34])) (by decide) (by decide) k_) ?_
      refine own_st (B := T33.setTop (mkF m 148 #[.val (.int u0), .val (.int u1), .val (.long u2), .second, .val (.int u3), .val (.ref b13), .val (.ref d20), .val (.int (1 : Int32)), .val (own_at d20 (0 : Int64) u2)] [(.int (1 : Int32))])) (fun t_ k_ => XS.iconst X33.here hx rfl (hb hby at_147) k_) ?_
      refine own_st (B := T33.setTop (mkF m 152 #[.val (.int u0), .val (.int u1), .val (.long u2), .second, .val (.int u3), .val (.ref b13), .val (.ref d20), .val (.int (1 : Int32)), .val (own_at d20 (0 : Int64) u2)] [(.int (1 : Int32))])) (fun t_ k_ => XS.goto X33.here hx rfl (pc0 := 148) (pc' := 152) rfl (hb hby at_148) (by decide) (by decide) k_) ?_
      refine own_st (B := T33.setTop (mkF m 154 #[.val (.int u0), .val (.int u1), .val (.long u2), .second, .val (.int u3), .val (.ref b13), .val (.ref d20), .val (.int (1 : Int32)), .val (own_at d20 (0 : Int64) u2)] [])) (fun t_ k_ => XS.istore X33.here hx rfl (hb hby at_152) rfl (l' := #[.val (.int u0), .val (.int u1), .val (.long u2), .second, .val (.int u3), .val (.ref b13), .val (.ref d20), .val (.int (1 : Int32)), .val (own_at d20 (0 : Int64) u2)]) rfl k_) ?_
      refine own_st (B := T33.setTop (mkF m 174 #[.val (.int u0), .val (.int u1), .val (.long u2), .second, .val (.int u3), .val (.ref b13), .val (.ref d20), .val (.int (1 : Int32)), .val (own_at d20 (0 : Int64) u2)] [])) (fun t_ k_ => XS.goto X33.here hx rfl (pc0 := 154) (pc' := 174) rfl (hb hby at_154) (by decide) (by decide) k_) ?_
      refine own_st (B := T33.setTop (mkF m 176 #[.val (.int u0), .val (.int u1), .val (.long u2), .second, .val (.int u3), .val (.ref b13), .val (.ref d20), .val (.int (1 : Int32)), .val (own_at d20 (0 : Int64) u2)] [(.int (1 : Int32))])) (fun t_ k_ => XS.iload X33.here hx rfl (hb hby at_174) rfl k_) ?_
      refine own_retN X33 hx (t := .boolean) Bd.returns (by simp) hlk (hb hby at_176) (z' := (1 : Int32)) (by first | rfl | exact own_nb _ | exact own_nbb _) (by decide) (by decide) ?_
      show Q0 Z u0 u1 u2 u3 h0 n0 _ T33.heap _
      rw [eh33]
      exact ⟨rfl, N33⟩
set_option maxRecDepth 65536 in
set_option maxHeartbeats 40000000 in
theorem comes_1 {Post : Tables → Env → Array Value → State → Outcome → State → Prop} (hpost : ∀ tb e args s v u, (limb_1_1.after args s (.returned v) u = true ∧ limb_1_2.after args s (.returned v) u = true ∧ True) → FrameEnd s (.returned v) u (Jvm.fieldLocs frame_1_writes args s ++ Jvm.arrayLocs frame_1_arrays args s ++ Jvm.staticLocs frame_1_statics s) 16 128 → Post tb e args s (.returned v) u) :
    ArmFor flags0 classFile x code maxLocals ret World_1 tables_1 room_1 Calls_1 rest_1 Pre_1 Post := by
  intro l hfl _ _ p e ha hc hk s m args below hf hA hF happ hP
  obtain ⟨hcalls, hrest, hpre⟩ := hP
  obtain ⟨-, -, -, hnamed, -, -, -, hat⟩ := (Spec.applies_iff hf).mp happ
  obtain ⟨hg, hn⟩ := and_e (Cond.before_iff.mp (show (Jvm.Cond.and given_1 narrow_1).before args s = true from hpre))
  obtain ⟨gg1, gg2⟩ := and_e hg
  obtain ⟨gg3, gg4⟩ := and_e gg2
  obtain ⟨gg5, gg6⟩ := and_e gg4
  obtain ⟨gg7, gg8⟩ := and_e gg6
  obtain ⟨w0, w1, w2, w3, rfl⟩ : ∃ w0 w1 w2 w3 : Value, args = #[w0, w1, w2, w3] := by
    have hs : args.size = 4 := by simpa [Cond.value, given_1] using gg1
    obtain ⟨L⟩ := args
    match L, hs with
    | [w0, w1, w2, w3], _ => exact ⟨w0, w1, w2, w3, rfl⟩
  have hw := fun d (hd : d ∈ tables_1) => atoms_spec (ws := Jvm.Cond.code x code maxLocals ret :: tables_1) hat d (List.mem_cons_of_mem _ hd)
  have hfit : Fit s := fun {y c} hc i hi => by
    obtain ⟨ha, rfl⟩ := Array.getElem?_eq_some_iff.mp hc
    have q := List.all_eq_true.mp ((Array.all_eq_true_iff_forall_mem.mp hF) _ (Array.getElem_mem ha)) i (List.mem_range.mpr hi)
    simpa [Array.getElem?_eq_getElem hi] using q
  obtain ⟨i0, ei0⟩ := is_v gg3
  obtain rfl : w0 = (.int i0) := Option.some.inj ei0
  obtain ⟨i1, ei1⟩ := is_v gg5
  obtain rfl : w1 = (.int i1) := Option.some.inj ei1
  obtain ⟨i2, ei2⟩ := isL_v gg7
  obtain rfl : w2 = (.long i2) := Option.some.inj ei2
  obtain ⟨i3, ei3⟩ := is_v gg8
  obtain rfl : w3 = (.int i3) := Option.some.inj ei3
  obtain ⟨n, o, h1, h2, h3, _, L, rfl, ⟨rfl, N⟩, hq⟩ := rm0 l s _ hw tables_1 i0 i1 i2 i3 s.heap s.heap.size (Nat.le_refl _)  p e ha hc hk s m _ below hf ((Spec.applies_iff_loose hf).mp happ).1 ⟨rfl, State.Warmed39.refl s, rfl⟩ trivial
  refine ⟨n, _, h1, h2, h3, hpost _ _ _ _ _ _ ⟨Cond.after_iff.mpr rfl, Cond.after_iff.mpr (eq_i res_at (Term.int_eval (1)) rfl), trivial⟩ ⟨hq.1, hq.2.1, (hq.2.2.sift fun y hy => Or.inr (N y hy)).mono (by decide) (by decide)⟩⟩
theorem main_1_1 : Claimed_1_1 := comes_1 fun _ _ _ _ _ _ h hF => ⟨h.1, hF⟩
theorem main_1_2 : Claimed_1_2 := comes_1 fun _ _ _ _ _ _ h hF => ⟨h.2.1, hF⟩
end Jvm.Pilot.@@N@@
namespace Jvm.Pilot.@@N@@
open Jvm Jvm.ClassFile Sem Op Lib Jvm.Free Jvm.Stand Jvm.Pilot.@@N@@.Jvm.D
/-! MADE BY PROGRAM (witnessworld.py) out of the Statement's table words and the real class files: 9 classes; the members and pool entries that the words name. The judged class is class 1, her method 1. -/
namespace start1
open Jvm.ClassFile
def u (s : String) : CpInfo := .utf8 (stringToUtf16 s)
/-- a pool by its gaps: so many unusable entries, then the entry; so many at the end -/
def gap : Nat → List CpInfo → List CpInfo
  | 0, r => r
  | n + 1, r => .unusable :: gap n r
def poolList (es : List (Nat × CpInfo)) (last : Nat) : List CpInfo := es.foldr (fun e r => gap e.1 (e.2 :: r)) (gap last [])
def pool (es : List (Nat × CpInfo)) (last : Nat) : Array CpInfo := ⟨poolList es last⟩
def fileOf (pool : Array CpInfo) (this : Nat) (attrs : Array Attribute := #[]) (ms : Array MethodInfo := #[]) (fl : Nat := 33) (sup : Nat := 0) (ifs : Array Nat := #[]) (fds : Array FieldInfo := #[]) : ClassFile where
  minorVersion := 0
  majorVersion := 65
  constantPool := pool
  accessFlags := fl
  thisClass := this
  superClass := sup
  interfaces := ifs
  fields := fds
  methods := ms
  attributes := attrs
def plain (name : String) (sup : Option ClassId) : Class where
  name := name
  kind := .ordinary
  loader := none
  accessFlags := 33
  super := sup
  interfaces := #[]
  cf := none
  fields := #[]
  methods := #[]
  instanceTypes := #[]
  staticTypes := #[]
  resolved := #[]
  callSites := []
  init := .initialized
  statics := none
  mirror := none

def pool0 : Array CpInfo := pool [(5, u "<init>"), (0, u "()V"), (1, .class_ 10), (1, u "java/lang/Object")] 113

def k0c0 : Code := { maxStack := 0, maxLocals := 1, code := object_method_1_code, exceptionTable := #[], attributes := #[] }
def k0m0 : Method := { name := "<init>", desc := "()V", sig := { parameters := [], returnType := none }, accessFlags := 1, code := some k0c0 }
/-- java/lang/Object -/
def k0 : Class := { plain "java/lang/Object" none with
  accessFlags := 33
  interfaces := #[]
  cf := some (fileOf pool0 8 #[] #[{ accessFlags := 1, nameIndex := 5, descriptorIndex := 6, attributes := #[] }] 33 0 #[] #[])
  fields := #[]
  methods := #[k0m0]
  instanceTypes := #[]
  staticTypes := #[]
  resolved := Array.replicate 124 none
  statics := none }

def pool1 : Array CpInfo := pool [(2, .class_ 4), (1, u "java/lang/Object"), (0, u "<init>"), (0, u "()V"), (0, .methodref 8 9), (0, .class_ 10), (0, .nameAndType 11 12), (0, u "com/example/serialine/serialine/Version"), (0, u "initial"), (0, u "([B)Lcom/example/serialine/serialine/Version;"), (0, .methodref 8 14), (0, .nameAndType 15 16), (0, u "commit"), (0, u "()J"), (0, .methodref 8 18), (0, .nameAndType 19 16), (0, u "writer"), (0, .methodref 8 21), (0, .nameAndType 22 23), (0, u "value"), (0, u "()[B"), (0, .methodref 8 25), (0, .nameAndType 26 27), (0, u "older"), (0, u "()Lcom/example/serialine/serialine/Version;"), (0, .methodref 8 29), (0, .nameAndType 30 31), (0, u "at"), (0, u "(J)Lcom/example/serialine/serialine/Version;"), (0, .class_ 33), (0, u "com/example/serialine/serialine/VersionInitialPinLaw"), (2, u "law"), (0, u "(IIJI)Z")] 5

def k1m0 : Method := { name := "<init>", desc := "()V", sig := { parameters := [], returnType := none }, accessFlags := 1, code := none }
def k1c1 : Code := { maxStack := 4, maxLocals := 9, code := code, exceptionTable := #[], attributes := #[] }
def k1m1 : Method := { name := "law", desc := "(IIJI)Z", sig := { parameters := [.int, .int, .long, .int], returnType := some .boolean }, accessFlags := 9, code := some k1c1 }
/-- com/example/serialine/serialine/VersionInitialPinLaw -/
def k1 : Class := { plain "com/example/serialine/serialine/VersionInitialPinLaw" (some 0) with
  accessFlags := 49
  interfaces := #[]
  cf := some (fileOf pool1 32 #[] #[{ accessFlags := 1, nameIndex := 5, descriptorIndex := 6, attributes := #[] }, { accessFlags := 9, nameIndex := 36, descriptorIndex := 37, attributes := #[] }] 49 2 #[] #[])
  fields := #[]
  methods := #[k1m0, k1m1]
  instanceTypes := #[]
  staticTypes := #[]
  resolved := Array.replicate 43 none
  statics := none }

def pool2 : Array CpInfo := pool [(3, .methodref 4 5), (0, .class_ 6), (0, .nameAndType 7 8), (0, u "java/lang/Object"), (0, u "<init>"), (0, u "()V"), (0, .fieldref 10 11), (0, .class_ 12), (0, .nameAndType 13 14), (0, u "com/example/serialine/serialine/Version"), (0, u "commit"), (0, u "J"), (0, .fieldref 10 16), (0, .nameAndType 17 14), (0, u "writer"), (0, .fieldref 10 19), (0, .nameAndType 20 21), (0, u "value"), (0, u "[B"), (0, .fieldref 10 23), (0, .nameAndType 24 25), (0, u "older"), (0, u "Lcom/example/serialine/serialine/Version;"), (0, .methodref 10 27), (0, .nameAndType 7 28), (0, u "(JJ[BLcom/example/serialine/serialine/Version;)V"), (2, u "INITIAL"), (3, u "UNCOMMITTED"), (2, u "initial"), (0, u "([B)Lcom/example/serialine/serialine/Version;"), (4, u "()J"), (0, u "()[B"), (0, u "()Lcom/example/serialine/serialine/Version;"), (0, u "at"), (0, u "(J)Lcom/example/serialine/serialine/Version;")] 5

def k2c0 : Code := { maxStack := 3, maxLocals := 7, code := prog_17_method_1_code, exceptionTable := #[], attributes := #[] }
def k2m0 : Method := { name := "<init>", desc := "(JJ[BLcom/example/serialine/serialine/Version;)V", sig := { parameters := [.long, .long, (.array .byte), (.object "com/example/serialine/serialine/Version")], returnType := none }, accessFlags := 2, code := some k2c0 }
def k2c1 : Code := { maxStack := 8, maxLocals := 1, code := prog_17_method_2_code, exceptionTable := #[], attributes := #[] }
def k2m1 : Method := { name := "initial", desc := "([B)Lcom/example/serialine/serialine/Version;", sig := { parameters := [(.array .byte)], returnType := some (.object "com/example/serialine/serialine/Version") }, accessFlags := 8, code := some k2c1 }
def k2c2 : Code := { maxStack := 2, maxLocals := 1, code := prog_17_method_5_code, exceptionTable := #[], attributes := #[] }
def k2m2 : Method := { name := "commit", desc := "()J", sig := { parameters := [], returnType := some .long }, accessFlags := 0, code := some k2c2 }
def k2c3 : Code := { maxStack := 2, maxLocals := 1, code := prog_17_method_6_code, exceptionTable := #[], attributes := #[] }
def k2m3 : Method := { name := "writer", desc := "()J", sig := { parameters := [], returnType := some .long }, accessFlags := 0, code := some k2c3 }
def k2c4 : Code := { maxStack := 1, maxLocals := 1, code := prog_17_method_7_code, exceptionTable := #[], attributes := #[] }
def k2m4 : Method := { name := "value", desc := "()[B", sig := { parameters := [], returnType := some (.array .byte) }, accessFlags := 0, code := some k2c4 }
def k2c5 : Code := { maxStack := 1, maxLocals := 1, code := prog_17_method_8_code, exceptionTable := #[], attributes := #[] }
def k2m5 : Method := { name := "older", desc := "()Lcom/example/serialine/serialine/Version;", sig := { parameters := [], returnType := some (.object "com/example/serialine/serialine/Version") }, accessFlags := 0, code := some k2c5 }
def k2c6 : Code := { maxStack := 4, maxLocals := 4, code := prog_17_method_9_code, exceptionTable := #[], attributes := #[] }
def k2m6 : Method := { name := "at", desc := "(J)Lcom/example/serialine/serialine/Version;", sig := { parameters := [.long], returnType := some (.object "com/example/serialine/serialine/Version") }, accessFlags := 0, code := some k2c6 }
/-- com/example/serialine/serialine/Version -/
def k2 : Class := { plain "com/example/serialine/serialine/Version" (some 0) with
  accessFlags := 48
  interfaces := #[]
  cf := some (fileOf pool2 10 #[] #[{ accessFlags := 2, nameIndex := 7, descriptorIndex := 28, attributes := #[] }, { accessFlags := 8, nameIndex := 38, descriptorIndex := 39, attributes := #[] }, { accessFlags := 0, nameIndex := 13, descriptorIndex := 44, attributes := #[] }, { accessFlags := 0, nameIndex := 17, descriptorIndex := 44, attributes := #[] }, { accessFlags := 0, nameIndex := 20, descriptorIndex := 45, attributes := #[] }, { accessFlags := 0, nameIndex := 24, descriptorIndex := 46, attributes := #[] }, { accessFlags := 0, nameIndex := 47, descriptorIndex := 48, attributes := #[] }] 48 4 #[] #[{ accessFlags := 24, nameIndex := 31, descriptorIndex := 14, attributes := #[] }, { accessFlags := 24, nameIndex := 35, descriptorIndex := 14, attributes := #[] }, { accessFlags := 2, nameIndex := 13, descriptorIndex := 14, attributes := #[] }, { accessFlags := 18, nameIndex := 17, descriptorIndex := 14, attributes := #[] }, { accessFlags := 18, nameIndex := 20, descriptorIndex := 21, attributes := #[] }, { accessFlags := 2, nameIndex := 24, descriptorIndex := 25, attributes := #[] }])
  fields := #[{ name := "INITIAL", type := .long, accessFlags := 24, slot := 0, constantValue := 0 }, { name := "UNCOMMITTED", type := .long, accessFlags := 24, slot := 1, constantValue := 0 }, { name := "commit", type := .long, accessFlags := 2, slot := 0, constantValue := 0 }, { name := "writer", type := .long, accessFlags := 18, slot := 1, constantValue := 0 }, { name := "value", type := (.array .byte), accessFlags := 18, slot := 2, constantValue := 0 }, { name := "older", type := (.object "com/example/serialine/serialine/Version"), accessFlags := 2, slot := 3, constantValue := 0 }]
  methods := #[k2m0, k2m1, k2m2, k2m3, k2m4, k2m5, k2m6]
  instanceTypes := #[.long, .long, (.array .byte), (.object "com/example/serialine/serialine/Version")]
  staticTypes := #[.long, .long]
  resolved := Array.replicate 54 none
  statics := none }

def pool3 : Array CpInfo := pool [(1, u "java/lang/Cloneable"), (0, .class_ 1), (0, u "java/lang/Object"), (0, .class_ 3)] 3

/-- java/lang/Cloneable -/
def k3 : Class := { plain "java/lang/Cloneable" (some 0) with
  accessFlags := 1537
  interfaces := #[]
  cf := some (fileOf pool3 2 #[] #[] 1537 4 #[] #[])
  fields := #[]
  methods := #[]
  instanceTypes := #[]
  staticTypes := #[]
  resolved := Array.replicate 8 none
  statics := none }

def pool4 : Array CpInfo := pool [(1, u "java/io/Serializable"), (0, .class_ 1), (0, u "java/lang/Object"), (0, .class_ 3)] 3

/-- java/io/Serializable -/
def k4 : Class := { plain "java/io/Serializable" (some 0) with
  accessFlags := 1537
  interfaces := #[]
  cf := some (fileOf pool4 2 #[] #[] 1537 4 #[] #[])
  fields := #[]
  methods := #[]
  instanceTypes := #[]
  staticTypes := #[]
  resolved := Array.replicate 8 none
  statics := none }

/-- the primitive byte -/
def k5 : Class := { plain "byte" none with kind := .primitive 'B', accessFlags := 0x411 }
/-- [B -/
def k6 : Class := { plain "[B" (some 0) with kind := .array 5 .byte, interfaces := #[3, 4], accessFlags := 1041 }

/-- the primitive int -/
def k7 : Class := { plain "int" none with kind := .primitive 'I', accessFlags := 0x411 }
/-- [I -/
def k8 : Class := { plain "[I" (some 0) with kind := .array 7 .int, interfaces := #[3, 4], accessFlags := 1041 }

def heap : Heap := #[]
def classes : Array Class := #[k0, k1, k2, k3, k4, k5, k6, k7, k8]
def interned : List (Array UInt16 × Addr) := []
def slotsUsed : Nat := 0
def theMethod : MethodId := ⟨1, 1⟩
def args0 : Array Value := #[.int 5, .int 6, .long 7, .int 8]
def aboutOver (below : List Frame) : State where
  vm := { classes := classes, interned := interned.toArray }
  heap := heap
  slotsUsed := slotsUsed
  threads := #[{ frames := .invoking theMethod args0 :: below }]
def below0 : List Frame := [.native { method := ⟨0, 0⟩, args := #[] }]
def about1 : State := aboutOver below0
def p0 : Program := .bare "" "" ""
def e0 : Env := launch0.env 0 0 0
theorem w_frames : about1.frames = Frame.invoking theMethod args0 :: below0 := rfl
set_option maxRecDepth 65536 in
theorem w_args : argsFit about1.vm theMethod args0 = true := by decide +kernel
set_option maxRecDepth 65536 in
theorem w_heap : heapFits about1 = true := by decide +kernel
set_option maxRecDepth 65536 in
theorem w_runnable : about1.curStatus? = some .runnable := by decide +kernel
set_option maxRecDepth 65536 in
theorem w_alone : about1.alone = true := by decide +kernel
set_option maxRecDepth 65536 in
theorem w_named : about1.methodNamed? x = some theMethod := by decide +kernel
set_option maxRecDepth 65536 in
theorem w_hears : about1.hears theMethod below0 = true := by decide +kernel
set_option maxRecDepth 65536 in
theorem w_ripe : about1.ripe theMethod args0 below0 = true := by decide +kernel
theorem w_running : about1.status = .running := rfl
set_option maxRecDepth 65536 in
theorem w_room : about1.hasRoom e0.platform room_1 = true :=
  launch0.hasRoom_least _ room_1 (by decide +kernel) (by decide +kernel) (by decide +kernel) (by decide +kernel) (by decide +kernel) (by decide +kernel)
theorem allAtoms_all (ts : List Jvm.Cond) (a : Array Jvm.Value) (st : Jvm.State) : (allAtoms ts).before a st = ts.all (fun c => c.before a st) := by
  induction ts with
  | nil => rfl
  | cons c t ih =>
    show (Jvm.Cond.and c (allAtoms t)).before a st = _
    rw [Jvm.Cond.before_and, ih, List.all_cons]
def words1 : List Jvm.Cond := Jvm.Cond.code x code maxLocals ret :: tables_1
/-- a 'code' word, met by the world's own term for the bytes: nothing is compared byte by byte -/
theorem code_word {y : MethodName} {bytes : ByteArray} {mx : Nat} {rt : Option FieldType} {a : Array Value} {s : State} {m : MethodId} {meth : Method} {c : Code} (h1 : s.methodNamed? y = some m) (h2 : s.vm.method? m = some meth) (h3 : meth.code = some c) (h4 : c.code = bytes)
    (h5 : (c.maxLocals == mx && c.exceptionTable.isEmpty && decide (c.maxStack ≤ mostOperands) && decide (meth.sig.returnType = rt) && !meth.locks && decide (parseMethodDescriptor y.desc = some meth.sig)) = true) : (Jvm.Cond.code y bytes mx rt).before a s = true := by
  simp only [Bool.and_eq_true, beq_iff_eq, Bool.not_eq_true', decide_eq_true_eq] at h5
  obtain ⟨⟨⟨⟨⟨g1, g2⟩, g3⟩, g4⟩, g5⟩, g6⟩ := h5
  simp [Cond.before, Cond.holds, Cond.value, h1, h2, h3, h4, g1, g2, g3, g4, g5, g6]
def isCode : Jvm.Cond → Bool
  | .code _ _ _ _ => true
  | _ => false
theorem all_split {L : List Jvm.Cond} {P : Jvm.Cond → Bool} (h1 : L.all (fun c => isCode c || P c) = true) (h2 : ∀ c ∈ L.filter isCode, P c = true) : L.all P = true := by
  refine List.all_eq_true.mpr fun c hc => ?_
  have h := List.all_eq_true.mp h1 c hc
  rcases Bool.eq_false_or_eq_true (isCode c) with hi | hi
  · exact h2 c (List.mem_filter.mpr ⟨hc, hi⟩)
  · simpa [hi] using h
set_option maxRecDepth 65536 in
theorem w_c0 : (Jvm.Cond.code x code maxLocals ret).before args0 about1 = true := code_word (m := ⟨1, 1⟩) (meth := k1m1) (c := k1c1) (by decide +kernel) rfl rfl rfl (by decide +kernel)
set_option maxRecDepth 65536 in
theorem w_c1 : (Jvm.Cond.code ({ cls := "com/example/serialine/serialine/Version", name := "initial", desc := "([B)Lcom/example/serialine/serialine/Version;" } : Jvm.MethodName) prog_17_method_2_code (1 : Nat) (Option.some (Jvm.ClassFile.FieldType.object "com/example/serialine/serialine/Version"))).before args0 about1 = true := code_word (m := ⟨2, 1⟩) (meth := k2m1) (c := k2c1) (by decide +kernel) rfl rfl rfl (by decide +kernel)
set_option maxRecDepth 65536 in
theorem w_c2 : (Jvm.Cond.code ({ cls := "com/example/serialine/serialine/Version", name := "<init>", desc := "(JJ[BLcom/example/serialine/serialine/Version;)V" } : Jvm.MethodName) prog_17_method_1_code (7 : Nat) (Option.none : Option Jvm.ClassFile.FieldType)).before args0 about1 = true := code_word (m := ⟨2, 0⟩) (meth := k2m0) (c := k2c0) (by decide +kernel) rfl rfl rfl (by decide +kernel)
set_option maxRecDepth 65536 in
theorem w_c3 : (Jvm.Cond.code ({ cls := "java/lang/Object", name := "<init>", desc := "()V" } : Jvm.MethodName) object_method_1_code (1 : Nat) (Option.none : Option Jvm.ClassFile.FieldType)).before args0 about1 = true := code_word (m := ⟨0, 0⟩) (meth := k0m0) (c := k0c0) (by decide +kernel) rfl rfl rfl (by decide +kernel)
set_option maxRecDepth 65536 in
theorem w_c4 : (Jvm.Cond.code ({ cls := "com/example/serialine/serialine/Version", name := "commit", desc := "()J" } : Jvm.MethodName) prog_17_method_5_code (1 : Nat) (Option.some Jvm.ClassFile.FieldType.long)).before args0 about1 = true := code_word (m := ⟨2, 2⟩) (meth := k2m2) (c := k2c2) (by decide +kernel) rfl rfl rfl (by decide +kernel)
set_option maxRecDepth 65536 in
theorem w_c5 : (Jvm.Cond.code ({ cls := "com/example/serialine/serialine/Version", name := "writer", desc := "()J" } : Jvm.MethodName) prog_17_method_6_code (1 : Nat) (Option.some Jvm.ClassFile.FieldType.long)).before args0 about1 = true := code_word (m := ⟨2, 3⟩) (meth := k2m3) (c := k2c3) (by decide +kernel) rfl rfl rfl (by decide +kernel)
set_option maxRecDepth 65536 in
theorem w_c6 : (Jvm.Cond.code ({ cls := "com/example/serialine/serialine/Version", name := "value", desc := "()[B" } : Jvm.MethodName) prog_17_method_7_code (1 : Nat) (Option.some (Jvm.ClassFile.FieldType.array Jvm.ClassFile.FieldType.byte))).before args0 about1 = true := code_word (m := ⟨2, 4⟩) (meth := k2m4) (c := k2c4) (by decide +kernel) rfl rfl rfl (by decide +kernel)
set_option maxRecDepth 65536 in
theorem w_c7 : (Jvm.Cond.code ({ cls := "com/example/serialine/serialine/Version", name := "older", desc := "()Lcom/example/serialine/serialine/Version;" } : Jvm.MethodName) prog_17_method_8_code (1 : Nat) (Option.some (Jvm.ClassFile.FieldType.object "com/example/serialine/serialine/Version"))).before args0 about1 = true := code_word (m := ⟨2, 5⟩) (meth := k2m5) (c := k2c5) (by decide +kernel) rfl rfl rfl (by decide +kernel)
set_option maxRecDepth 65536 in
theorem w_c8 : (Jvm.Cond.code ({ cls := "com/example/serialine/serialine/Version", name := "at", desc := "(J)Lcom/example/serialine/serialine/Version;" } : Jvm.MethodName) prog_17_method_9_code (4 : Nat) (Option.some (Jvm.ClassFile.FieldType.object "com/example/serialine/serialine/Version"))).before args0 about1 = true := code_word (m := ⟨2, 6⟩) (meth := k2m6) (c := k2c6) (by decide +kernel) rfl rfl rfl (by decide +kernel)
def codes1 : List Jvm.Cond := [Jvm.Cond.code x code maxLocals ret, Jvm.Cond.code ({ cls := "com/example/serialine/serialine/Version", name := "initial", desc := "([B)Lcom/example/serialine/serialine/Version;" } : Jvm.MethodName) prog_17_method_2_code (1 : Nat) (Option.some (Jvm.ClassFile.FieldType.object "com/example/serialine/serialine/Version")), Jvm.Cond.code ({ cls := "com/example/serialine/serialine/Version", name := "<init>", desc := "(JJ[BLcom/example/serialine/serialine/Version;)V" } : Jvm.MethodName) prog_17_method_1_code (7 : Nat) (Option.none : Option Jvm.ClassFile.FieldType), Jvm.Cond.code ({ cls := "java/lang/Object", name := "<init>", desc := "()V" } : Jvm.MethodName) object_method_1_code (1 : Nat) (Option.none : Option Jvm.ClassFile.FieldType), Jvm.Cond.code ({ cls := "com/example/serialine/serialine/Version", name := "commit", desc := "()J" } : Jvm.MethodName) prog_17_method_5_code (1 : Nat) (Option.some Jvm.ClassFile.FieldType.long), Jvm.Cond.code ({ cls := "com/example/serialine/serialine/Version", name := "writer", desc := "()J" } : Jvm.MethodName) prog_17_method_6_code (1 : Nat) (Option.some Jvm.ClassFile.FieldType.long), Jvm.Cond.code ({ cls := "com/example/serialine/serialine/Version", name := "value", desc := "()[B" } : Jvm.MethodName) prog_17_method_7_code (1 : Nat) (Option.some (Jvm.ClassFile.FieldType.array Jvm.ClassFile.FieldType.byte)), Jvm.Cond.code ({ cls := "com/example/serialine/serialine/Version", name := "older", desc := "()Lcom/example/serialine/serialine/Version;" } : Jvm.MethodName) prog_17_method_8_code (1 : Nat) (Option.some (Jvm.ClassFile.FieldType.object "com/example/serialine/serialine/Version")), Jvm.Cond.code ({ cls := "com/example/serialine/serialine/Version", name := "at", desc := "(J)Lcom/example/serialine/serialine/Version;" } : Jvm.MethodName) prog_17_method_9_code (4 : Nat) (Option.some (Jvm.ClassFile.FieldType.object "com/example/serialine/serialine/Version"))]
set_option maxRecDepth 65536 in
theorem codes_eq : words1.filter isCode = codes1 := rfl
theorem w_codes : ∀ c ∈ words1.filter isCode, c.before args0 about1 = true := by
  rw [codes_eq]
  intro c hc
  simp only [codes1, List.mem_cons, List.not_mem_nil, or_false] at hc
  rcases hc with rfl | rfl | rfl | rfl | rfl | rfl | rfl | rfl | rfl
  · exact w_c0
  · exact w_c1
  · exact w_c2
  · exact w_c3
  · exact w_c4
  · exact w_c5
  · exact w_c6
  · exact w_c7
  · exact w_c8
set_option maxRecDepth 65536 in
theorem w_t1 : (words1.take 24).all (fun c => isCode c || c.before args0 about1) = true := by decide +kernel
set_option maxRecDepth 65536 in
theorem w_t2 : (words1.drop 24).all (fun c => isCode c || c.before args0 about1) = true := by decide +kernel
theorem w_tables : (allAtoms (Jvm.Cond.code x code maxLocals ret :: tables_1)).before args0 about1 = true := by
  rw [allAtoms_all]
  show words1.all (fun c => c.before args0 about1) = true
  refine all_split ?_ w_codes
  rw [← List.take_append_drop 24 words1, List.all_append, w_t1, w_t2]
  rfl
set_option maxRecDepth 65536 in
theorem w_case : (Jvm.Cond.and given_1 narrow_1).before args0 about1 = true := by decide +kernel
theorem w_applies : (headSpec (Jvm.Cond.code x code maxLocals ret :: tables_1) room_1).applies x e0.platform about1 = true :=
  (Spec.applies_iff w_frames).mpr ⟨w_running, w_runnable, w_alone, w_named, w_hears, w_ripe, w_room, w_tables⟩
theorem atStart : AtStart classFile x code maxLocals ret World_1 tables_1 room_1 Calls_1 rest_1 Pre_1 launch0 p0 e0 about1 theMethod args0 below0 :=
  ⟨lists_1, trivial, launch0.admits_env _ _ _, launch0.least_env, fairChoices_fair.cas, fairChoices_fair.clock, w_frames, w_args, w_heap, w_applies, trivial, trivial, w_case⟩
end start1
theorem witness_1 : WitnessClaimed_1 := ⟨start1.p0, start1.e0, start1.about1, start1.theMethod, start1.args0, start1.below0, start1.atStart⟩
end Jvm.Pilot.@@N@@
