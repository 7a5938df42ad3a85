import JvmDerived
import JvmDerived.Pilot.@@N@@Statement
import JvmDerived.Pilot.@@N@@Code
set_option linter.unusedVariables false
set_option linter.unusedSimpArgs false

namespace Jvm.Pilot.@@N@@
open Jvm Jvm.ClassFile Sem Op Lib Jvm.Free Jvm.Stand Jvm.LawKit Jvm.RoadKit Bundle Jvm.Pilot.@@N@@.Jvm.D
section Own
variable {p : Program} {l : Launch} {e : Env} {R : Room} {s : State} {m : MethodId} {args : Array Value} {below : List Frame} {meth : Method} {c : Code} {T : State} {locs : List Loc} {cells slots : Nat} {Z : State} {h h' : Heap}
/-- the run from A comes to the method's end as Q says, with at most kc new cells and ks new slots -/
def own_E (p : Program) (e : Env) (below : List Frame) (s : State) (Q : Option Value → Heap → List Loc → Prop) (kc ks : Nat) (A : State) : Prop :=
  ∃ s₂ o, Steps p.tables e below A s₂ ∧ s₂.status = .running ∧ Ended s₂ below o ∧ ∃ v L, o = .returned v ∧ Q v s₂.heap L ∧ FrameEnd s o s₂ L kc ks
variable {Q : Option Value → Heap → List Loc → Prop} {kc ks : Nat} {A B : State}
theorem own_st (k : ∀ t, Steps p.tables e below B t → Steps p.tables e below A t) (h : own_E p e below s Q kc ks B) : own_E p e below s Q kc ks A := by
  obtain ⟨t, o, h1, h2⟩ := h
  exact ⟨t, o, k t h1, h2⟩
theorem own_end (X : Stand p l e R s m args below meth c T locs cells slots) {v : Option Value} (hv : meth.sig.returnType = none → v = none) (hlk : meth.locks = false)
    (hk : ∀ fs, (∀ (f : JFrame) (acts : List Action), f.method = m → f.locked = none → f.entered = [] → (doReturn e (T.setTop f) acts v).1 = T.setFrames fs) → Steps p.tables e below A (T.setFrames fs)) (hc : cells ≤ kc) (hs : slots ≤ ks) (hQ : Q v T.heap locs) : own_E p e below s Q kc ks A := by
  obtain ⟨fs, hr, hrun, hended, hW, hsame⟩ := X.leave (v := v) hv hlk
  exact ⟨_, _, hk fs hr, hrun, hended, _, _, rfl, hQ, ⟨_, rfl⟩, hW, hsame.mono hc hs⟩
theorem own_retN (X : Stand p l e R s m args below meth c T locs cells slots) (hx : p.tables.exec = Jvm.exec) {pc : Nat} {Ls : Array Slot} {z z' : Int32} {t : FieldType} {rest : List Value} (hret : meth.sig.returnType = some t) (ht : t = .boolean ∨ t = .byte ∨ t = .char ∨ t = .short) (hlk : meth.locks = false)
    (hd : decode c.code pc = .ok (.ireturn, 1)) (hz : nar t z = z') (hc : cells ≤ kc) (hs : slots ≤ ks) (hQ : Q (some (.int z')) T.heap locs) : own_E p e below s Q kc ks (T.setTop (mkF m pc Ls (.int z :: rest))) := by
  subst hz
  exact own_end X (fun q => by rw [hret] at q; cases q) hlk (fun fs hr => retN X hx hret ht hd hr) hc hs hQ
theorem own_retI (X : Stand p l e R s m args below meth c T locs cells slots) (hx : p.tables.exec = Jvm.exec) {pc : Nat} {Ls : Array Slot} {z : Int32} {rest : List Value} (hret : meth.sig.returnType = some .int) (hlk : meth.locks = false)
    (hd : decode c.code pc = .ok (.ireturn, 1)) (hc : cells ≤ kc) (hs : slots ≤ ks) (hQ : Q (some (.int z)) T.heap locs) : own_E p e below s Q kc ks (T.setTop (mkF m pc Ls (.int z :: rest))) := by
  refine own_end X (fun q => by rw [hret] at q; cases q) hlk (fun fs hr => ?_) hc hs hQ
  have hm' : T.vm.method? m = some meth := X.method'
  have hn : narrow .int (.int z) = .int z := rfl
  show Steps p.tables e below (T.setTop { method := m, pc := pc, locals := Ls, stack := _ :: rest, locked := none }) _
  jvm_step X.here [X.here.top, hx, hd, hm', hret, hn]
  first | (intro acts; rw [hr _ acts rfl rfl rfl]) | rw [hr _ _ rfl rfl rfl]
  exact Steps.refl _
theorem own_retJ (X : Stand p l e R s m args below meth c T locs cells slots) (hx : p.tables.exec = Jvm.exec) {pc : Nat} {Ls : Array Slot} {z : Int64} (hret : meth.sig.returnType = some .long) (hlk : meth.locks = false)
    (hd : decode c.code pc = .ok (.lreturn, 1)) (hc : cells ≤ kc) (hs : slots ≤ ks) (hQ : Q (some (.long z)) T.heap locs) : own_E p e below s Q kc ks (T.setTop (mkF m pc Ls [.long z])) :=
  own_end X (fun q => by rw [hret] at q; cases q) hlk (fun fs hr => X.lreturnOut hx hret hd hr) hc hs hQ
theorem own_retR (X : Stand p l e R s m args below meth c T locs cells slots) (hx : p.tables.exec = Jvm.exec) {pc : Nat} {Ls : Array Slot} {w : Value} {t : FieldType} (hw : w.isRef = true) (hret : meth.sig.returnType = some t) (ht : t.isReference = true) (hlk : meth.locks = false)
    (hd : decode c.code pc = .ok (.areturn, 1)) (hc : cells ≤ kc) (hs : slots ≤ ks) (hQ : Q (some w) T.heap locs) : own_E p e below s Q kc ks (T.setTop (mkF m pc Ls [w])) :=
  own_end X (fun q => by rw [hret] at q; cases q) hlk (fun fs hr => X.areturnOut hx hw hret ht hd hr) hc hs hQ
theorem own_retV (X : Stand p l e R s m args below meth c T locs cells slots) (hx : p.tables.exec = Jvm.exec) {pc : Nat} {Ls : Array Slot} (hret : meth.sig.returnType = none) (hlk : meth.locks = false)
    (hd : decode c.code pc = .ok (.return_, 1)) (hc : cells ≤ kc) (hs : slots ≤ ks) (hQ : Q none T.heap locs) : own_E p e below s Q kc ks (T.setTop (mkF m pc Ls [])) :=
  own_end X (fun _ => rfl) hlk (fun fs hr => X.returnOut hx hret hd hr) hc hs hQ
/-- a boolean as the machine holds it -/
def own_b (b : Bool) : Int32 := if b then 1 else 0
theorem own_b1 {P : Prop} [Decidable P] (h : P) : own_b (decide P) = 1 := by simp [own_b, h]
theorem own_bz {P : Prop} [Decidable P] (h : ¬ P) : own_b (decide P) = 0 := by simp [own_b, h]
theorem own_lt32 {x y : Int32} (h : x < y) : x.toInt < y.toInt := Int32.lt_iff_toInt_lt.mp h
theorem own_nlt32 {x y : Int32} (h : ¬ x < y) : ¬ x.toInt < y.toInt := fun q => h (Int32.lt_iff_toInt_lt.mpr q)
theorem own_eq32 {x y : Int32} (h : x = y) : x.toInt = y.toInt := congrArg _ h
theorem own_neq32 {x y : Int32} (h : ¬ x = y) : ¬ x.toInt = y.toInt := fun q => h (Int32.toInt_inj.mp q)
theorem own_lt64 {x y : Int64} (h : x < y) : x.toInt < y.toInt := Int64.lt_iff_toInt_lt.mp h
theorem own_nlt64 {x y : Int64} (h : ¬ x < y) : ¬ x.toInt < y.toInt := fun q => h (Int64.lt_iff_toInt_lt.mpr q)
theorem own_eq64 {x y : Int64} (h : x = y) : x.toInt = y.toInt := congrArg _ h
theorem own_neq64 {x y : Int64} (h : ¬ x = y) : ¬ x.toInt = y.toInt := fun q => h (Int64.toInt_inj.mp q)
theorem own_b0 {b : Bool} : own_b b = 0 ↔ b = false := by cases b <;> decide
theorem own_nb (b : Bool) : nar .boolean (own_b b) = own_b b := by cases b <;> rfl
theorem own_nbb (x : Int32) : nar .byte (x.toInt8.toInt32) = x.toInt8.toInt32 := by
  show x.toInt8.toInt32.toInt8.toInt32 = x.toInt8.toInt32
  rw [Int8.toInt8_toInt32]
theorem own_stV {l : Array Slot} {i : Nat} {v : Value} {o : Slot} (hold : l[i]? = some o) (ho : o = .unset ∨ ∃ w, o = .val w ∧ w.category = 1) (hv : v.category = 1) : storeLocals l i v = some (l.setIfInBounds i (.val v)) := XS.store1 hold ho hv
theorem own_narV {ty : FieldType} {v : Value} (hv : v.isRef = true) : narrow ty v = v := by
  rcases ref_cases hv with rfl | ⟨a, rfl⟩ <;> cases ty <;> rfl
theorem own_fitV {ty : FieldType} {v : Value} (ht : ty.isReference = true) (hv : v.isRef = true) : fits ty v = true := by
  rcases ref_cases hv with rfl | ⟨a, rfl⟩ <;> cases ty <;> first | rfl | (cases ht; done)
/-- an array of n places, whose place j holds f j -/
def own_A (Z : State) (h : Heap) (a : Addr) (ty : FieldType) (n : Nat) (f : Nat → Int32) : Prop := ∃ c : Cell, Arr Z h a c ty ∧ c.slots.size = n ∧ n < 2 ^ 31 ∧ (∀ j, j < n → c.slots[j]? = some (.int (f j))) ∧ ∀ j, j < n → fits ty (.int (f j)) = true
def own_up (f : Nat → Int32) (i : Nat) (v : Int32) (k : Nat) : Int32 := if k = i then v else f k
theorem own_up_same (f : Nat → Int32) (i : Nat) (v : Int32) : own_up f i v i = v := if_pos rfl
theorem own_up_ne (f : Nat → Int32) {i k : Nat} (v : Int32) (h : ¬ k = i) : own_up f i v k = f k := if_neg h
theorem own_catV {v : Value} (h : v.isRef = true) : v.category = 1 := by rcases ref_cases h with rfl | ⟨a, rfl⟩ <;> rfl
abbrev own_ix (j : Int32) (i : Nat) : Prop := ¬ j < 0 ∧ j.toNatClampNeg = i
variable {a b : Addr} {ty : FieldType} {n i : Nat} {f : Nat → Int32} {j x : Int32} {pc : Nat} {Ls : Array Slot} {rest : List Value} {sl : Nat} {v : Value} {ws : List Addr}
theorem own_A.lt (F : own_A Z h a ty n f) : a < h.size := by obtain ⟨c, A, -⟩ := F; exact A.lt
theorem own_A.ext (F : own_A Z h a ty n f) (E : Ext h h') : own_A Z h' a ty n f := by obtain ⟨c, A, r⟩ := F; exact ⟨c, A.ext E, r⟩
theorem own_A.other (F : own_A Z h b ty n f) (W : Wr h h' a sl v) (q : b ≠ a) : own_A Z h' b ty n f := by obtain ⟨c, A, r⟩ := F; exact ⟨c, A.other W q, r⟩
theorem own_A.keep (F : own_A Z h a ty n f) (K : Keep h h' ws) (q : a ∉ ws) : own_A Z h' a ty n f := by obtain ⟨c, A, r⟩ := F; exact ⟨c, ⟨K.2.1 a c A.1 q, A.2⟩, r⟩
theorem own_A.congr {g : Nat → Int32} (F : own_A Z h a ty n f) (q : ∀ j, j < n → f j = g j) : own_A Z h a ty n g := by obtain ⟨c, A, r1, r2, r3, r4⟩ := F; exact ⟨c, A, r1, r2, fun j hj => by rw [← q j hj]; exact r3 j hj, fun j hj => by rw [← q j hj]; exact r4 j hj⟩
theorem own_A.new {k : ClassId} {z : Int32} (A : Arr Z h a (newA k ty z) ty) (q : ¬ z < 0) (hz : z.toNatClampNeg = n) (hd : defaultValue ty = .int 0 := by rfl) : own_A Z h a ty n (fun _ => 0) := by
  subst hz
  exact ⟨_, A, sz_new _ _ _, (back32 q).2, fun j hj => by simp [newA, hj, hd], fun j hj => by rw [← hd]; cases ty <;> rfl⟩
theorem own_A.set (F : own_A Z h a ty n f) (hj : own_ix j i) (W : Wr h h' a j.toNatClampNeg (.int x)) (hf : fits ty (.int x) = true) : own_A Z h' a ty n (own_up f i x) := by
  obtain ⟨c, A, r1, r2, r3, r4⟩ := F
  obtain ⟨hj1, rfl⟩ := hj
  refine ⟨_, A.same W, by rw [sz_set]; exact r1, r2, fun k hk => ?_, fun k hk => ?_⟩ <;> by_cases q : k = j.toNatClampNeg
  · subst q; simp [Cell.setSlot, own_up, r1, hk]
  · simp only [Cell.setSlot, own_up, if_neg q]; rw [Array.getElem?_setIfInBounds_ne (Ne.symm q)]; exact r3 k hk
  · simp only [own_up, if_pos q]; exact hf
  · simp only [own_up, if_neg q]; exact r4 k hk
theorem own_in (hj : own_ix j i) (hi : i < n) {c : Cell} (hc : c.slots.size = n) : ¬ (j < 0 ∨ c.slots.size ≤ j.toNatClampNeg) := by
  rintro (q | q)
  · exact hj.1 q
  · rw [hj.2, hc] at q; omega
theorem own_stB (X : Stand p l e R s m args below meth c T locs cells slots) (hx : p.tables.exec = Jvm.exec) (hZ : Z.Warmed39 s.vm) (eT : T.heap = h) (A : own_A Z h a .byte n f) (hj : own_ix j i) (hi : i < n) (hd : decode c.code pc = .ok (.bastore, 1)) :
    ∃ T' h', Stand p l e R s m args below meth c T' (locs ++ [⟨a, j.toNatClampNeg⟩]) cells slots ∧ T'.heap = h' ∧ Wr h h' a j.toNatClampNeg (.int (nar .byte x)) ∧ own_A Z h' a .byte n (own_up f i (nar .byte x)) ∧ ∀ t, Steps p.tables e below (T'.setTop (mkF m (pc + 1) Ls rest)) t → Steps p.tables e below (T.setTop (mkF m pc Ls (.int x :: .int j :: .ref a :: rest))) t := by
  have A0 := A
  obtain ⟨cl, A1, r1, r2, r3, r4⟩ := A
  obtain ⟨T', h', X', e', W, st⟩ := stB X hx hZ eT A1 (j := j) (x := x) (own_in hj hi r1) (g := mkF m pc Ls (.int x :: .int j :: .ref a :: rest)) rfl rfl hd
  exact ⟨T', h', X', e', W, A0.set hj W (fits_nar_byte x), st⟩
theorem own_stI (X : Stand p l e R s m args below meth c T locs cells slots) (hx : p.tables.exec = Jvm.exec) (hZ : Z.Warmed39 s.vm) (eT : T.heap = h) (A : own_A Z h a .int n f) (hj : own_ix j i) (hi : i < n) (hd : decode c.code pc = .ok (.iastore, 1)) :
    ∃ T' h', Stand p l e R s m args below meth c T' (locs ++ [⟨a, j.toNatClampNeg⟩]) cells slots ∧ T'.heap = h' ∧ Wr h h' a j.toNatClampNeg (.int x) ∧ own_A Z h' a .int n (own_up f i x) ∧ ∀ t, Steps p.tables e below (T'.setTop (mkF m (pc + 1) Ls rest)) t → Steps p.tables e below (T.setTop (mkF m pc Ls (.int x :: .int j :: .ref a :: rest))) t := by
  have A0 := A
  obtain ⟨cl, A1, r1, r2, r3, r4⟩ := A
  obtain ⟨T', h', X', e', W, st⟩ := stI X hx hZ eT A1 (j := j) (x := x) (own_in hj hi r1) (g := mkF m pc Ls (.int x :: .int j :: .ref a :: rest)) rfl rfl hd
  exact ⟨T', h', X', e', W, A0.set hj W rfl, st⟩
theorem own_ldB (X : Stand p l e R s m args below meth c T locs cells slots) (hx : p.tables.exec = Jvm.exec) (hZ : Z.Warmed39 s.vm) (eT : T.heap = h) (A : own_A Z h a .byte n f) (hj : own_ix j i) (hi : i < n) (hd : decode c.code pc = .ok (.baload, 1)) (t : State)
    (k : Steps p.tables e below (T.setTop (mkF m (pc + 1) Ls (.int (f i) :: rest))) t) : Steps p.tables e below (T.setTop (mkF m pc Ls (.int j :: .ref a :: rest))) t := by
  obtain ⟨cl, A1, r1, r2, r3, r4⟩ := A
  exact X.baloadBytes hx (j := j) (v := .int (f i)) (by rw [eT]; exact A1.1) (State.isArrayOf_alike hZ.alike A1.2.1) A1.2.2 (own_in hj hi r1) (by rw [hj.2]; exact r3 i hi) (g := mkF m pc Ls (.int j :: .ref a :: rest)) rfl rfl hd t k
theorem own_ldI (X : Stand p l e R s m args below meth c T locs cells slots) (hx : p.tables.exec = Jvm.exec) (hZ : Z.Warmed39 s.vm) (eT : T.heap = h) (A : own_A Z h a .int n f) (hj : own_ix j i) (hi : i < n) (hd : decode c.code pc = .ok (.iaload, 1)) (t : State)
    (k : Steps p.tables e below (T.setTop (mkF m (pc + 1) Ls (.int (f i) :: rest))) t) : Steps p.tables e below (T.setTop (mkF m pc Ls (.int j :: .ref a :: rest))) t := by
  obtain ⟨cl, A1, r1, r2, r3, r4⟩ := A
  exact X.iaload hx (j := j) (v := .int (f i)) (by rw [eT]; exact A1.1) (State.isArrayOf_alike hZ.alike A1.2.1) A1.2.2 (own_in hj hi r1) (by rw [hj.2]; exact r3 i hi) (g := mkF m pc Ls (.int j :: .ref a :: rest)) rfl rfl hd t k
theorem own_len {z : Int32} (X : Stand p l e R s m args below meth c T locs cells slots) (hx : p.tables.exec = Jvm.exec) (hZ : Z.Warmed39 s.vm) (eT : T.heap = h) (A : own_A Z h a ty n f) (hz : n.toInt32 = z) (hd : decode c.code pc = .ok (.arraylength, 1)) (t : State)
    (k : Steps p.tables e below (T.setTop (mkF m (pc + 1) Ls (.int z :: rest))) t) : Steps p.tables e below (T.setTop (mkF m pc Ls (.ref a :: rest))) t := by
  obtain ⟨cl, A1, r1, r2, r3, r4⟩ := A
  subst hz
  refine X.arraylength hx (by rw [eT]; exact A1.1) (State.isArrayOf_alike hZ.alike A1.2.1) (g := mkF m pc Ls (.ref a :: rest)) rfl rfl hd t ?_
  rw [r1]; exact k
theorem own_clone (X : Stand p l e R s m args below meth c T locs cells slots) (hx : p.tables.exec = Jvm.exec) (hZ : Z.Warmed39 s.vm) {a0 : Array Value} {own ad : String} {index : Nat} (hown : s.vm.findClass own = some m.cls)
    (w1 : (Cond.methodLink own index ⟨ad, "clone", "()Ljava/lang/Object;"⟩).before a0 Z = true) (w2 : (Cond.sameMethod ad "java/lang/Object" "clone" "()Ljava/lang/Object;").before a0 Z = true) (w3 : (Cond.native ⟨"java/lang/Object", "clone", "()Ljava/lang/Object;"⟩).before a0 Z = true)
    (w4 : (Cond.instanceMethod ⟨"java/lang/Object", "clone", "()Ljava/lang/Object;"⟩).before a0 Z = true) (w5 : (Cond.selects ad ⟨ad, "clone", "()Ljava/lang/Object;"⟩ ⟨"java/lang/Object", "clone", "()Ljava/lang/Object;"⟩).before a0 Z = true) (w6 : (Cond.castable ad "java/lang/Cloneable").before a0 Z = true)
    (eT : T.heap = h) (A : own_A Z h a ty n f) (E : Exa Z h a ad) (hsize : Ls.size = c.maxLocals) (hd : decode c.code pc = .ok (.invokevirtual index, 3))
    (hf : 1 ≤ R.frames) {W cap : Nat} (hW : 2 * 0 + (rest.map fun v => v.category).sum ≤ W) (hl : W + 14 ≤ R.locals) (hcap : n ≤ cap) (hc : cells + 1 ≤ R.cells) (hsl : slots + cap ≤ R.slots) :
    ∃ T' h', Stand p l e R s m args below meth c T' locs (cells + 1) (slots + cap) ∧ T'.heap = h' ∧ Ext h h' ∧ own_A Z h' h.size ty n f ∧ Exa Z h' h.size ad ∧
      ∀ t, Steps p.tables e below (T'.setTop (mkF m (pc + 3) Ls (.ref h.size :: rest))) t → Steps p.tables e below (T.setTop (mkF m pc Ls (.ref a :: rest))) t := by
  obtain ⟨cl, A1, r1, r2, r3, r4⟩ := A
  have FC : FitC Z cl := fitC_of A1 fun i hi v hv => by rw [r1] at hi; rw [r3 i hi] at hv; cases hv; exact r4 i hi
  obtain ⟨T', h', X', e', ex, A', E', st⟩ := cloneA X hx hZ hown w1 w2 w3 w4 w5 w6 eT A1 E FC (g := mkF m pc Ls (.ref a :: rest)) rfl hsize rfl hd hf hW hl (by rw [r1]; exact hcap) hc hsl
  exact ⟨T', h', X', e', ex, ⟨cloneOf cl, A', r1, r2, r3, r4⟩, E', st⟩
theorem own_selP {s : State} {args : Array Value} {y : MethodName} {n : Nat} (hin : (Cond.instantiable y.cls n).before args s = true) (hpriv : s.PrivateAt y) (hinst : (Cond.instanceMethod y).before args s = true) (hy : y.cls ≠ "java/lang/invoke/MethodHandle" ∧ y.cls ≠ "java/lang/invoke/VarHandle") : (Cond.selects y.cls y y).before args s = true := by
  obtain ⟨c, k, h1, h2, -, h4, -⟩ := Cond.instantiable_spec hin
  exact selects_self_of_private h1 h2 (Bool.or_eq_false_iff.mp h4).1 hpriv hinst hy
theorem own_ixa (h : own_ix j i) (k : Nat) (hi : i + k < 2 ^ 31) : own_ix (j + Int32.ofNat k) (i + k) := by
  obtain ⟨h1, h2⟩ := h
  have e0 : (0 : Int32).toInt = 0 := rfl
  have e1 : (Int32.ofNat k).toInt = k := Int32.toInt_ofNat_of_lt (by omega)
  rw [Int32.lt_iff_toInt_lt, e0] at h1
  simp only [Int32.toNatClampNeg] at h2
  have h3 := c_iadd j (Int32.ofNat k); have h4 := rng32 (j + Int32.ofNat k)
  rw [e1] at h3
  refine ⟨by rw [Int32.lt_iff_toInt_lt, e0]; omega, ?_⟩
  simp only [Int32.toNatClampNeg]; omega
theorem own_ixI (h : own_ix j i) : j.toInt = i := by
  obtain ⟨h1, h2⟩ := h
  have e0 : (0 : Int32).toInt = 0 := rfl
  rw [Int32.lt_iff_toInt_lt, e0] at h1
  simp only [Int32.toNatClampNeg] at h2; omega
theorem own_ixof (h : j.toInt = i) : own_ix j i := by
  have e0 : (0 : Int32).toInt = 0 := rfl
  refine ⟨by rw [Int32.lt_iff_toInt_lt, e0]; omega, ?_⟩
  simp only [Int32.toNatClampNeg]; omega
theorem own_ixs (h : ¬ j < 0) : own_ix j j.toNatClampNeg := ⟨h, rfl⟩
theorem own_and3 (x : Int32) (k : Nat) (hk : k < 2 ^ 31) : ¬ (x &&& Int32.ofNat k) < 0 ∧ (x &&& Int32.ofNat k).toNatClampNeg ≤ k := by
  have h0 : 0 ≤ (Int32.ofNat k).toInt := by rw [Int32.toInt_ofNat_of_lt hk]; omega
  have h1 := (c_andS x (Int32.ofNat k)).2.2 h0
  have e0 : (0 : Int32).toInt = 0 := rfl
  refine ⟨by rw [Int32.lt_iff_toInt_lt, e0]; omega, ?_⟩
  have hb : (x &&& Int32.ofNat k).toBitVec.toNat ≤ k := by
    have : (x &&& Int32.ofNat k).toBitVec.toNat = x.toBitVec.toNat &&& (Int32.ofNat k).toBitVec.toNat := by rw [Int32.toBitVec_and, BitVec.toNat_and]
    rw [this]
    refine Nat.le_trans Nat.and_le_right ?_
    show (BitVec.ofNat 32 k).toNat ≤ k
    rw [BitVec.toNat_ofNat]; exact Nat.mod_le _ _
  have e : (x &&& Int32.ofNat k).toInt = ((x &&& Int32.ofNat k).toBitVec.toNat : Int) := by
    show (x &&& Int32.ofNat k).toBitVec.toInt = _
    rw [BitVec.toInt_eq_toNat_cond]; split
    · rfl
    · omega
  simp only [Int32.toNatClampNeg, e]; omega
end Own

def own_wh (b : Int32) : Bool := decide (b = 32 ∨ b = 9 ∨ b = 10 ∨ b = 13)
def own_e (ka kt : Nat) (f : Nat → Int32) (k : Nat) (y : Int32) : Int32 := if ka ≤ k ∧ k < kt ∧ own_wh (f k) = false then Int32.ofNat k else y
theorem own_r5 (x : Int32) : 0 ≤ ((x &&& (2147483647 : Int32)) % (5 : Int32)).toInt ∧ ((x &&& (2147483647 : Int32)) % (5 : Int32)).toInt < 5 := by
  have h1 := c_and x 2147483647 (by decide)
  have h2 := (c_irem (x &&& 2147483647) 5 5 rfl).1 h1.1
  omega
theorem own_rv (x y : Int32) (hy : 0 ≤ y.toInt) (hy5 : y.toInt < 5) : ¬ (y + (1 : Int32) = 0) ∧ 0 ≤ ((x &&& (2147483647 : Int32)) % (y + (1 : Int32))).toInt ∧ ((x &&& (2147483647 : Int32)) % (y + (1 : Int32))).toInt ≤ y.toInt := by
  have h1 := c_and x 2147483647 (by decide)
  have h0 := c_iadd y 1; have hr := rng32 (y + 1)
  rw [show (1 : Int32).toInt = 1 from rfl] at h0
  have h2 := (c_iremV (x &&& 2147483647) (y + 1)).1 h1.1 (by omega)
  refine ⟨fun q => ?_, by omega, by omega⟩
  have := own_eq32 q; rw [show (0 : Int32).toInt = 0 from rfl] at this; omega
theorem own_key {ka kt r : Nat} {f : Nat → Int32} {y y7 : Int32} (h1 : ka ≤ kt) (h2 : kt < 5) (hy : own_ix y r) (h7 : own_ix y7 kt) (hr : ka ≤ r) (hr' : r ≤ kt) (hw : ∀ i, ka ≤ i → i < r → own_wh (f i) = true) (hn : r < kt → own_wh (f r) = false) : y = own_e ka kt f 0 (own_e ka kt f 1 (own_e ka kt f 2 (own_e ka kt f 3 y7))) := by
  have w0 := hw 0; have w1 := hw 1; have w2 := hw 2; have w3 := hw 3
  have e : ∀ z : Int32, z.toInt = r → y = z := fun z hz => Int32.toInt_inj.mp (by rw [own_ixI hy, hz])
  have e7 := own_ixI h7
  unfold own_e
  by_cases p0 : ka ≤ 0 ∧ 0 < kt ∧ own_wh (f 0) = false
  · rw [if_pos p0]; apply e
    have : r = 0 := by
      apply Classical.byContradiction; intro q
      have := w0 p0.1 (by omega); rw [p0.2.2] at this; cases this
    rw [this]; rfl
  · rw [if_neg p0]
    by_cases p1 : ka ≤ 1 ∧ 1 < kt ∧ own_wh (f 1) = false
    · rw [if_pos p1]; apply e
      have : r = 1 := by
        rcases Nat.lt_trichotomy r 1 with q | q | q
        · have q0 : r = 0 := by omega
          subst q0; exact absurd ⟨by omega, by omega, hn (by omega)⟩ p0
        · exact q
        · have := w1 p1.1 (by omega); rw [p1.2.2] at this; cases this
      rw [this]; rfl
    · rw [if_neg p1]
      by_cases p2 : ka ≤ 2 ∧ 2 < kt ∧ own_wh (f 2) = false
      · rw [if_pos p2]; apply e
        have : r = 2 := by
          rcases Nat.lt_trichotomy r 2 with q | q | q
          · have q0 : r = 0 ∨ r = 1 := by omega
            rcases q0 with q0 | q0 <;> subst q0
            · exact absurd ⟨by omega, by omega, hn (by omega)⟩ p0
            · exact absurd ⟨by omega, by omega, hn (by omega)⟩ p1
          · exact q
          · have := w2 p2.1 (by omega); rw [p2.2.2] at this; cases this
        rw [this]; rfl
      · rw [if_neg p2]
        by_cases p3 : ka ≤ 3 ∧ 3 < kt ∧ own_wh (f 3) = false
        · rw [if_pos p3]; apply e
          have : r = 3 := by
            rcases Nat.lt_trichotomy r 3 with q | q | q
            · have q0 : r = 0 ∨ r = 1 ∨ r = 2 := by omega
              rcases q0 with q0 | q0 | q0 <;> subst q0
              · exact absurd ⟨by omega, by omega, hn (by omega)⟩ p0
              · exact absurd ⟨by omega, by omega, hn (by omega)⟩ p1
              · exact absurd ⟨by omega, by omega, hn (by omega)⟩ p2
            · exact q
            · have := w3 p3.1 (by omega); rw [p3.2.2] at this; cases this
          rw [this]; rfl
        · rw [if_neg p3]; apply e
          have : r = kt := by
            apply Classical.byContradiction; intro q
            have q0 : r = 0 ∨ r = 1 ∨ r = 2 ∨ r = 3 := by omega
            rcases q0 with q0 | q0 | q0 | q0 <;> subst q0
            · exact p0 ⟨by omega, by omega, hn (by omega)⟩
            · exact p1 ⟨by omega, by omega, hn (by omega)⟩
            · exact p2 ⟨by omega, by omega, hn (by omega)⟩
            · exact p3 ⟨by omega, by omega, hn (by omega)⟩
          rw [this, e7]
theorem own_b1_d0 : decode method_2_code 0 = .ok (.iload_n 0, 1) := by decide +kernel
theorem own_b1_d1 : decode method_2_code 1 = .ok (.bipush 7, 2) := by decide +kernel
theorem own_b1_d3 : decode method_2_code 3 = .ok (.iand, 1) := by decide +kernel
theorem own_b1_d4 : decode method_2_code 4 = .ok (.istore_n 1, 1) := by decide +kernel
theorem own_b1_d5 : decode method_2_code 5 = .ok (.iload_n 1, 1) := by decide +kernel
theorem own_b1_d6 : decode method_2_code 6 = .ok (.ifCond .ne 6, 3) := by decide +kernel
theorem own_b1_d9 : decode method_2_code 9 = .ok (.bipush 32, 2) := by decide +kernel
theorem own_b1_d11 : decode method_2_code 11 = .ok (.ireturn, 1) := by decide +kernel
theorem own_b1_d12 : decode method_2_code 12 = .ok (.iload_n 1, 1) := by decide +kernel
theorem own_b1_d13 : decode method_2_code 13 = .ok (.iconst 1, 1) := by decide +kernel
theorem own_b1_d14 : decode method_2_code 14 = .ok (.if_icmp .ne 6, 3) := by decide +kernel
theorem own_b1_d17 : decode method_2_code 17 = .ok (.bipush 9, 2) := by decide +kernel
theorem own_b1_d19 : decode method_2_code 19 = .ok (.ireturn, 1) := by decide +kernel
theorem own_b1_d20 : decode method_2_code 20 = .ok (.iload_n 1, 1) := by decide +kernel
theorem own_b1_d21 : decode method_2_code 21 = .ok (.iconst 2, 1) := by decide +kernel
theorem own_b1_d22 : decode method_2_code 22 = .ok (.if_icmp .ne 6, 3) := by decide +kernel
theorem own_b1_d25 : decode method_2_code 25 = .ok (.bipush 10, 2) := by decide +kernel
theorem own_b1_d27 : decode method_2_code 27 = .ok (.ireturn, 1) := by decide +kernel
theorem own_b1_d28 : decode method_2_code 28 = .ok (.iload_n 1, 1) := by decide +kernel
theorem own_b1_d29 : decode method_2_code 29 = .ok (.iconst 3, 1) := by decide +kernel
theorem own_b1_d30 : decode method_2_code 30 = .ok (.if_icmp .ne 6, 3) := by decide +kernel
theorem own_b1_d33 : decode method_2_code 33 = .ok (.bipush 13, 2) := by decide +kernel
theorem own_b1_d35 : decode method_2_code 35 = .ok (.ireturn, 1) := by decide +kernel
theorem own_b1_d36 : decode method_2_code 36 = .ok (.iload_n 0, 1) := by decide +kernel
theorem own_b1_d37 : decode method_2_code 37 = .ok (.iconst 3, 1) := by decide +kernel
theorem own_b1_d38 : decode method_2_code 38 = .ok (.ishr, 1) := by decide +kernel
theorem own_b1_d39 : decode method_2_code 39 = .ok (.i2b, 1) := by decide +kernel
theorem own_b1_d40 : decode method_2_code 40 = .ok (.ireturn, 1) := by decide +kernel
theorem own_pn0 : plainName "com/example/tidemark/tidemark/JsonSkipWhitespacePinLaw" = true := by first | (simp [plainName, overriddenIn]; done) | decide +kernel
theorem own_ef_rm1 (m : MethodId) (x0 : Int32) : entryFrame m #[(.int x0)] 2 = mkF m 0 #[.val (.int x0), .unset] [] := by first | (simp [entryFrame, mkF, argsToLocals, Value.category]; done) | rfl
def Q1 (Z : State) (x : Int32) (h0 : Heap) (n0 : Nat) (v : Option Value) (h : Heap) (L : List Loc) : Prop := ∃ y : Int32, v = some (.int y) ∧ Fr n0 L ∧ h = h0
set_option maxRecDepth 65536 in
set_option maxHeartbeats 40000000 in
theorem rm1 (l : Launch) (Z : State) (a0 : Array Value) (hw : ∀ d ∈ tables_1, d.before a0 Z = true) (ws : List Jvm.Cond) (x : Int32) (h0 : Heap) (n0 : Nat) (Z0 : n0 ≤ h0.size) :
    MetFree l (⟨"com/example/tidemark/tidemark/JsonSkipWhitespacePinLaw", "draw", "(I)B"⟩ : MethodName) (head1 (Jvm.Cond.code (⟨"com/example/tidemark/tidemark/JsonSkipWhitespacePinLaw", "draw", "(I)B"⟩ : MethodName) method_2_code 2 (some .byte) :: ws) ({ frames := 0, cells := 0, slots := 0, locals := 0 } : Room)) (fun aa_ U_ => aa_ = #[(.int x)] ∧ Z.Warmed39 U_.vm ∧ U_.heap = h0) (fun _ _ _ _ _ => True) (fun _ U_ o_ U1_ => ∃ v_ L_, o_ = .returned v_ ∧ Q1 Z x h0 n0 v_ U1_.heap L_ ∧ FrameEnd U_ o_ U1_ L_ ({ frames := 0, cells := 0, slots := 0, locals := 0 } : Room).cells ({ frames := 0, cells := 0, slots := 0, locals := 0 } : Room).slots) := by
  refine MetFree.of_bodySF (plainFor_of_name own_pn0) hisR ?_
  intro p e s m args below meth c s₁ Bd hml0 hP hK
  obtain ⟨rfl, hZ, hh⟩ := hP
  have hx := Bd.exec
  have hby := Bd.bytes
  have hlk := Bd.notSynchronized
  have hml : c.maxLocals = 2 := hml0
  have hown : s.vm.findClass "com/example/tidemark/tidemark/JsonSkipWhitespacePinLaw" = some m.cls := findClass_of_methodNamed Bd.named
  have hnm := (name_of_methodNamed Bd.named Bd.method).1
  have X0 : Stand p l e ({ frames := 0, cells := 0, slots := 0, locals := 0 } : Room) s m #[(.int x)] below meth c s₁ [] 0 0 := Stand.of_body Bd
  have e0 : s₁.heap = h0 := by rw [← hh, Bd.state]; rfl
  have N0 := Fr.nil n0
  show own_E p e below s (Q1 Z x h0 n0) ({ frames := 0, cells := 0, slots := 0, locals := 0 } : Room).cells ({ frames := 0, cells := 0, slots := 0, locals := 0 } : Room).slots (s₁.setTop (entryFrame m #[(.int x)] 2))
  refine own_st (B := s₁.setTop (mkF m 0 #[.val (.int x), .unset] [])) (fun t_ k_ => castTop (own_ef_rm1 m x) k_) ?_
  refine own_st (B := s₁.setTop (mkF m 1 #[.val (.int x), .unset] [(.int x)])) (fun t_ k_ => XS.iloadN X0.here hx rfl (hb hby own_b1_d0) rfl k_) ?_
  refine own_st (B := s₁.setTop (mkF m 3 #[.val (.int x), .unset] [(.int (7 : Int32)), (.int x)])) (fun t_ k_ => XS.bipush X0.here hx rfl (hb hby own_b1_d1) k_) ?_
  refine own_st (B := s₁.setTop (mkF m 4 #[.val (.int x), .unset] [(.int (x &&& (7 : Int32)))])) (fun t_ k_ => XS.iand X0.here hx rfl (hb hby own_b1_d3) rfl k_) ?_
  refine own_st (B := s₁.setTop (mkF m 5 #[.val (.int x), .val (.int (x &&& (7 : Int32)))] [])) (fun t_ k_ => XS.istoreN X0.here hx rfl (hb hby own_b1_d4) rfl (l' := #[.val (.int x), .val (.int (x &&& (7 : Int32)))]) rfl k_) ?_
  refine own_st (B := s₁.setTop (mkF m 6 #[.val (.int x), .val (.int (x &&& (7 : Int32)))] [(.int (x &&& (7 : Int32)))])) (fun t_ k_ => XS.iloadN X0.here hx rfl (hb hby own_b1_d5) rfl k_) ?_
  by_cases hc1 : (x &&& (7 : Int32)) = (0 : Int32)
  · have hd1 := own_eq32 hc1
    rw [show (0 : Int32).toInt = 0 from rfl] at hd1
    refine own_st (B := s₁.setTop (mkF m 9 #[.val (.int x), .val (.int (x &&& (7 : Int32)))] [])) (fun t_ k_ => XS.ifNo X0.here hx rfl (hb hby own_b1_d6) rfl ((if0 _ _).trans (teq hc1).2) k_) ?_
    refine own_st (B := s₁.setTop (mkF m 11 #[.val (.int x), .val (.int (x &&& (7 : Int32)))] [(.int (32 : Int32))])) (fun t_ k_ => XS.bipush X0.here hx rfl (hb hby own_b1_d9) k_) ?_
    refine own_retN X0 hx (t := .byte) Bd.returns (by simp) hlk (hb hby own_b1_d11) (z' := (nar .byte (32 : Int32))) (by first | rfl | exact own_nb _ | exact own_nbb _) (by decide) (by decide) ?_
    show Q1 Z x h0 n0 _ s₁.heap _
    rw [e0]
    exact ⟨_, rfl, N0, rfl⟩
  · have hd1 := own_neq32 hc1
    rw [show (0 : Int32).toInt = 0 from rfl] at hd1
    refine own_st (B := s₁.setTop (mkF m 12 #[.val (.int x), .val (.int (x &&& (7 : Int32)))] [])) (fun t_ k_ => XS.ifYes X0.here hx rfl (pc0 := 6) (pc' := 12) rfl (hb hby own_b1_d6) rfl ((if0 _ _).trans (feq hc1).2) (by decide) (by decide) k_) ?_
    refine own_st (B := s₁.setTop (mkF m 13 #[.val (.int x), .val (.int (x &&& (7 : Int32)))] [(.int (x &&& (7 : Int32)))])) (fun t_ k_ => XS.iloadN X0.here hx rfl (hb hby own_b1_d12) rfl k_) ?_
    refine own_st (B := s₁.setTop (mkF m 14 #[.val (.int x), .val (.int (x &&& (7 : Int32)))] [(.int (1 : Int32)), (.int (x &&& (7 : Int32)))])) (fun t_ k_ => XS.iconst X0.here hx rfl (hb hby own_b1_d13) k_) ?_
    by_cases hc2 : (x &&& (7 : Int32)) = (1 : Int32)
    · have hd2 := own_eq32 hc2
      rw [show (1 : Int32).toInt = 1 from rfl] at hd2
      refine own_st (B := s₁.setTop (mkF m 17 #[.val (.int x), .val (.int (x &&& (7 : Int32)))] [])) (fun t_ k_ => XS.icmpNo X0.here hx rfl (hb hby own_b1_d14) rfl (teq hc2).2 k_) ?_
      refine own_st (B := s₁.setTop (mkF m 19 #[.val (.int x), .val (.int (x &&& (7 : Int32)))] [(.int (9 : Int32))])) (fun t_ k_ => XS.bipush X0.here hx rfl (hb hby own_b1_d17) k_) ?_
      refine own_retN X0 hx (t := .byte) Bd.returns (by simp) hlk (hb hby own_b1_d19) (z' := (nar .byte (9 : Int32))) (by first | rfl | exact own_nb _ | exact own_nbb _) (by decide) (by decide) ?_
      show Q1 Z x h0 n0 _ s₁.heap _
      rw [e0]
      exact ⟨_, rfl, N0, rfl⟩
    · have hd2 := own_neq32 hc2
      rw [show (1 : Int32).toInt = 1 from rfl] at hd2
      refine own_st (B := s₁.setTop (mkF m 20 #[.val (.int x), .val (.int (x &&& (7 : Int32)))] [])) (fun t_ k_ => XS.icmpYes X0.here hx rfl (pc0 := 14) (pc' := 20) rfl (hb hby own_b1_d14) rfl (feq hc2).2 (by decide) (by decide) k_) ?_
      refine own_st (B := s₁.setTop (mkF m 21 #[.val (.int x), .val (.int (x &&& (7 : Int32)))] [(.int (x &&& (7 : Int32)))])) (fun t_ k_ => XS.iloadN X0.here hx rfl (hb hby own_b1_d20) rfl k_) ?_
      refine own_st (B := s₁.setTop (mkF m 22 #[.val (.int x), .val (.int (x &&& (7 : Int32)))] [(.int (2 : Int32)), (.int (x &&& (7 : Int32)))])) (fun t_ k_ => XS.iconst X0.here hx rfl (hb hby own_b1_d21) k_) ?_
      by_cases hc3 : (x &&& (7 : Int32)) = (2 : Int32)
      · have hd3 := own_eq32 hc3
        rw [show (2 : Int32).toInt = 2 from rfl] at hd3
        refine own_st (B := s₁.setTop (mkF m 25 #[.val (.int x), .val (.int (x &&& (7 : Int32)))] [])) (fun t_ k_ => XS.icmpNo X0.here hx rfl (hb hby own_b1_d22) rfl (teq hc3).2 k_) ?_
        refine own_st (B := s₁.setTop (mkF m 27 #[.val (.int x), .val (.int (x &&& (7 : Int32)))] [(.int (10 : Int32))])) (fun t_ k_ => XS.bipush X0.here hx rfl (hb hby own_b1_d25) k_) ?_
        refine own_retN X0 hx (t := .byte) Bd.returns (by simp) hlk (hb hby own_b1_d27) (z' := (nar .byte (10 : Int32))) (by first | rfl | exact own_nb _ | exact own_nbb _) (by decide) (by decide) ?_
        show Q1 Z x h0 n0 _ s₁.heap _
        rw [e0]
        exact ⟨_, rfl, N0, rfl⟩
      · have hd3 := own_neq32 hc3
        rw [show (2 : Int32).toInt = 2 from rfl] at hd3
        refine own_st (B := s₁.setTop (mkF m 28 #[.val (.int x), .val (.int (x &&& (7 : Int32)))] [])) (fun t_ k_ => XS.icmpYes X0.here hx rfl (pc0 := 22) (pc' := 28) rfl (hb hby own_b1_d22) rfl (feq hc3).2 (by decide) (by decide) k_) ?_
        refine own_st (B := s₁.setTop (mkF m 29 #[.val (.int x), .val (.int (x &&& (7 : Int32)))] [(.int (x &&& (7 : Int32)))])) (fun t_ k_ => XS.iloadN X0.here hx rfl (hb hby own_b1_d28) rfl k_) ?_
        refine own_st (B := s₁.setTop (mkF m 30 #[.val (.int x), .val (.int (x &&& (7 : Int32)))] [(.int (3 : Int32)), (.int (x &&& (7 : Int32)))])) (fun t_ k_ => XS.iconst X0.here hx rfl (hb hby own_b1_d29) k_) ?_
        by_cases hc4 : (x &&& (7 : Int32)) = (3 : Int32)
        · have hd4 := own_eq32 hc4
          rw [show (3 : Int32).toInt = 3 from rfl] at hd4
          refine own_st (B := s₁.setTop (mkF m 33 #[.val (.int x), .val (.int (x &&& (7 : Int32)))] [])) (fun t_ k_ => XS.icmpNo X0.here hx rfl (hb hby own_b1_d30) rfl (teq hc4).2 k_) ?_
          refine own_st (B := s₁.setTop (mkF m 35 #[.val (.int x), .val (.int (x &&& (7 : Int32)))] [(.int (13 : Int32))])) (fun t_ k_ => XS.bipush X0.here hx rfl (hb hby own_b1_d33) k_) ?_
          refine own_retN X0 hx (t := .byte) Bd.returns (by simp) hlk (hb hby own_b1_d35) (z' := (nar .byte (13 : Int32))) (by first | rfl | exact own_nb _ | exact own_nbb _) (by decide) (by decide) ?_
          show Q1 Z x h0 n0 _ s₁.heap _
          rw [e0]
          exact ⟨_, rfl, N0, rfl⟩
        · have hd4 := own_neq32 hc4
          rw [show (3 : Int32).toInt = 3 from rfl] at hd4
          refine own_st (B := s₁.setTop (mkF m 36 #[.val (.int x), .val (.int (x &&& (7 : Int32)))] [])) (fun t_ k_ => XS.icmpYes X0.here hx rfl (pc0 := 30) (pc' := 36) rfl (hb hby own_b1_d30) rfl (feq hc4).2 (by decide) (by decide) k_) ?_
          refine own_st (B := s₁.setTop (mkF m 37 #[.val (.int x), .val (.int (x &&& (7 : Int32)))] [(.int x)])) (fun t_ k_ => XS.iloadN X0.here hx rfl (hb hby own_b1_d36) rfl k_) ?_
          refine own_st (B := s₁.setTop (mkF m 38 #[.val (.int x), .val (.int (x &&& (7 : Int32)))] [(.int (3 : Int32)), (.int x)])) (fun t_ k_ => XS.iconst X0.here hx rfl (hb hby own_b1_d37) k_) ?_
          refine own_st (B := s₁.setTop (mkF m 39 #[.val (.int x), .val (.int (x &&& (7 : Int32)))] [(.int (x >>> ((3 : Int32) &&& 31)))])) (fun t_ k_ => XS.ishr X0.here hx rfl (hb hby own_b1_d38) rfl k_) ?_
          refine own_st (B := s₁.setTop (mkF m 40 #[.val (.int x), .val (.int (x &&& (7 : Int32)))] [(.int ((x >>> ((3 : Int32) &&& 31)).toInt8.toInt32))])) (fun t_ k_ => XS.i2b X0.here hx rfl (hb hby own_b1_d39) rfl k_) ?_
          refine own_retN X0 hx (t := .byte) Bd.returns (by simp) hlk (hb hby own_b1_d40) (z' := (nar .byte ((x >>> ((3 : Int32) &&& 31)).toInt8.toInt32))) (by first | rfl | exact own_nb _ | exact own_nbb _) (by decide) (by decide) ?_
          show Q1 Z x h0 n0 _ s₁.heap _
          rw [e0]
          exact ⟨_, rfl, N0, rfl⟩
theorem own_b2_d0 : decode method_3_code 0 = .ok (.iload_n 0, 1) := by decide +kernel
theorem own_b2_d1 : decode method_3_code 1 = .ok (.bipush 32, 2) := by decide +kernel
theorem own_b2_d3 : decode method_3_code 3 = .ok (.if_icmp .eq 21, 3) := by decide +kernel
theorem own_b2_d6 : decode method_3_code 6 = .ok (.iload_n 0, 1) := by decide +kernel
theorem own_b2_d7 : decode method_3_code 7 = .ok (.bipush 9, 2) := by decide +kernel
theorem own_b2_d9 : decode method_3_code 9 = .ok (.if_icmp .eq 15, 3) := by decide +kernel
theorem own_b2_d12 : decode method_3_code 12 = .ok (.iload_n 0, 1) := by decide +kernel
theorem own_b2_d13 : decode method_3_code 13 = .ok (.bipush 10, 2) := by decide +kernel
theorem own_b2_d15 : decode method_3_code 15 = .ok (.if_icmp .eq 9, 3) := by decide +kernel
theorem own_b2_d18 : decode method_3_code 18 = .ok (.iload_n 0, 1) := by decide +kernel
theorem own_b2_d19 : decode method_3_code 19 = .ok (.bipush 13, 2) := by decide +kernel
theorem own_b2_d21 : decode method_3_code 21 = .ok (.if_icmp .ne 7, 3) := by decide +kernel
theorem own_b2_d24 : decode method_3_code 24 = .ok (.iconst 1, 1) := by decide +kernel
theorem own_b2_d25 : decode method_3_code 25 = .ok (.goto 4, 3) := by decide +kernel
theorem own_b2_d28 : decode method_3_code 28 = .ok (.iconst 0, 1) := by decide +kernel
theorem own_b2_d29 : decode method_3_code 29 = .ok (.ireturn, 1) := by decide +kernel
theorem own_ef_rm2 (m : MethodId) (x0 : Int32) : entryFrame m #[(.int x0)] 1 = mkF m 0 #[.val (.int x0)] [] := by first | (simp [entryFrame, mkF, argsToLocals, Value.category]; done) | rfl
def Q2 (Z : State) (x : Int32) (h0 : Heap) (n0 : Nat) (v : Option Value) (h : Heap) (L : List Loc) : Prop := v = some (.int (own_b (own_wh x))) ∧ Fr n0 L ∧ h = h0
set_option maxRecDepth 65536 in
set_option maxHeartbeats 40000000 in
theorem rm2 (l : Launch) (Z : State) (a0 : Array Value) (hw : ∀ d ∈ tables_1, d.before a0 Z = true) (ws : List Jvm.Cond) (x : Int32) (h0 : Heap) (n0 : Nat) (Z0 : n0 ≤ h0.size) :
    MetFree l (⟨"com/example/tidemark/tidemark/JsonSkipWhitespacePinLaw", "white", "(B)Z"⟩ : MethodName) (head1 (Jvm.Cond.code (⟨"com/example/tidemark/tidemark/JsonSkipWhitespacePinLaw", "white", "(B)Z"⟩ : MethodName) method_3_code 1 (some .boolean) :: ws) ({ frames := 0, cells := 0, slots := 0, locals := 0 } : Room)) (fun aa_ U_ => aa_ = #[(.int x)] ∧ Z.Warmed39 U_.vm ∧ U_.heap = h0) (fun _ _ _ _ _ => True) (fun _ U_ o_ U1_ => ∃ v_ L_, o_ = .returned v_ ∧ Q2 Z x h0 n0 v_ U1_.heap L_ ∧ FrameEnd U_ o_ U1_ L_ ({ frames := 0, cells := 0, slots := 0, locals := 0 } : Room).cells ({ frames := 0, cells := 0, slots := 0, locals := 0 } : Room).slots) := by
  refine MetFree.of_bodySF (plainFor_of_name own_pn0) hisR ?_
  intro p e s m args below meth c s₁ Bd hml0 hP hK
  obtain ⟨rfl, hZ, hh⟩ := hP
  have hx := Bd.exec
  have hby := Bd.bytes
  have hlk := Bd.notSynchronized
  have hml : c.maxLocals = 1 := hml0
  have hown : s.vm.findClass "com/example/tidemark/tidemark/JsonSkipWhitespacePinLaw" = some m.cls := findClass_of_methodNamed Bd.named
  have hnm := (name_of_methodNamed Bd.named Bd.method).1
  have X0 : Stand p l e ({ frames := 0, cells := 0, slots := 0, locals := 0 } : Room) s m #[(.int x)] below meth c s₁ [] 0 0 := Stand.of_body Bd
  have e0 : s₁.heap = h0 := by rw [← hh, Bd.state]; rfl
  have N0 := Fr.nil n0
  show own_E p e below s (Q2 Z x h0 n0) ({ frames := 0, cells := 0, slots := 0, locals := 0 } : Room).cells ({ frames := 0, cells := 0, slots := 0, locals := 0 } : Room).slots (s₁.setTop (entryFrame m #[(.int x)] 1))
  refine own_st (B := s₁.setTop (mkF m 0 #[.val (.int x)] [])) (fun t_ k_ => castTop (own_ef_rm2 m x) k_) ?_
  refine own_st (B := s₁.setTop (mkF m 1 #[.val (.int x)] [(.int x)])) (fun t_ k_ => XS.iloadN X0.here hx rfl (hb hby own_b2_d0) rfl k_) ?_
  refine own_st (B := s₁.setTop (mkF m 3 #[.val (.int x)] [(.int (32 : Int32)), (.int x)])) (fun t_ k_ => XS.bipush X0.here hx rfl (hb hby own_b2_d1) k_) ?_
  by_cases hc1 : x = (32 : Int32)
  · have hd1 := own_eq32 hc1
    rw [show (32 : Int32).toInt = 32 from rfl] at hd1
    refine own_st (B := s₁.setTop (mkF m 24 #[.val (.int x)] [])) (fun t_ k_ => XS.icmpYes X0.here hx rfl (pc0 := 3) (pc' := 24) rfl (hb hby own_b2_d3) rfl (teq hc1).1 (by decide) (by decide) k_) ?_
    refine own_st (B := s₁.setTop (mkF m 25 #[.val (.int x)] [(.int (1 : Int32))])) (fun t_ k_ => XS.iconst X0.here hx rfl (hb hby own_b2_d24) k_) ?_
    refine own_st (B := s₁.setTop (mkF m 29 #[.val (.int x)] [(.int (1 : Int32))])) (fun t_ k_ => XS.goto X0.here hx rfl (pc0 := 25) (pc' := 29) rfl (hb hby own_b2_d25) (by decide) (by decide) k_) ?_
    refine own_retN X0 hx (t := .boolean) Bd.returns (by simp) hlk (hb hby own_b2_d29) (z' := (1 : Int32)) (by first | rfl | exact own_nb _ | exact own_nbb _) (by decide) (by decide) ?_
    show Q2 Z x h0 n0 _ s₁.heap _
    rw [e0]
    exact ⟨by simp [own_wh, own_b, hc1], N0, rfl⟩
  · have hd1 := own_neq32 hc1
    rw [show (32 : Int32).toInt = 32 from rfl] at hd1
    refine own_st (B := s₁.setTop (mkF m 6 #[.val (.int x)] [])) (fun t_ k_ => XS.icmpNo X0.here hx rfl (hb hby own_b2_d3) rfl (feq hc1).1 k_) ?_
    refine own_st (B := s₁.setTop (mkF m 7 #[.val (.int x)] [(.int x)])) (fun t_ k_ => XS.iloadN X0.here hx rfl (hb hby own_b2_d6) rfl k_) ?_
    refine own_st (B := s₁.setTop (mkF m 9 #[.val (.int x)] [(.int (9 : Int32)), (.int x)])) (fun t_ k_ => XS.bipush X0.here hx rfl (hb hby own_b2_d7) k_) ?_
    by_cases hc2 : x = (9 : Int32)
    · have hd2 := own_eq32 hc2
      rw [show (9 : Int32).toInt = 9 from rfl] at hd2
      refine own_st (B := s₁.setTop (mkF m 24 #[.val (.int x)] [])) (fun t_ k_ => XS.icmpYes X0.here hx rfl (pc0 := 9) (pc' := 24) rfl (hb hby own_b2_d9) rfl (teq hc2).1 (by decide) (by decide) k_) ?_
      refine own_st (B := s₁.setTop (mkF m 25 #[.val (.int x)] [(.int (1 : Int32))])) (fun t_ k_ => XS.iconst X0.here hx rfl (hb hby own_b2_d24) k_) ?_
      refine own_st (B := s₁.setTop (mkF m 29 #[.val (.int x)] [(.int (1 : Int32))])) (fun t_ k_ => XS.goto X0.here hx rfl (pc0 := 25) (pc' := 29) rfl (hb hby own_b2_d25) (by decide) (by decide) k_) ?_
      refine own_retN X0 hx (t := .boolean) Bd.returns (by simp) hlk (hb hby own_b2_d29) (z' := (1 : Int32)) (by first | rfl | exact own_nb _ | exact own_nbb _) (by decide) (by decide) ?_
      show Q2 Z x h0 n0 _ s₁.heap _
      rw [e0]
      exact ⟨by simp [own_wh, own_b, hc1, hc2], N0, rfl⟩
    · have hd2 := own_neq32 hc2
      rw [show (9 : Int32).toInt = 9 from rfl] at hd2
      refine own_st (B := s₁.setTop (mkF m 12 #[.val (.int x)] [])) (fun t_ k_ => XS.icmpNo X0.here hx rfl (hb hby own_b2_d9) rfl (feq hc2).1 k_) ?_
      refine own_st (B := s₁.setTop (mkF m 13 #[.val (.int x)] [(.int x)])) (fun t_ k_ => XS.iloadN X0.here hx rfl (hb hby own_b2_d12) rfl k_) ?_
      refine own_st (B := s₁.setTop (mkF m 15 #[.val (.int x)] [(.int (10 : Int32)), (.int x)])) (fun t_ k_ => XS.bipush X0.here hx rfl (hb hby own_b2_d13) k_) ?_
      by_cases hc3 : x = (10 : Int32)
      · have hd3 := own_eq32 hc3
        rw [show (10 : Int32).toInt = 10 from rfl] at hd3
        refine own_st (B := s₁.setTop (mkF m 24 #[.val (.int x)] [])) (fun t_ k_ => XS.icmpYes X0.here hx rfl (pc0 := 15) (pc' := 24) rfl (hb hby own_b2_d15) rfl (teq hc3).1 (by decide) (by decide) k_) ?_
        refine own_st (B := s₁.setTop (mkF m 25 #[.val (.int x)] [(.int (1 : Int32))])) (fun t_ k_ => XS.iconst X0.here hx rfl (hb hby own_b2_d24) k_) ?_
        refine own_st (B := s₁.setTop (mkF m 29 #[.val (.int x)] [(.int (1 : Int32))])) (fun t_ k_ => XS.goto X0.here hx rfl (pc0 := 25) (pc' := 29) rfl (hb hby own_b2_d25) (by decide) (by decide) k_) ?_
        refine own_retN X0 hx (t := .boolean) Bd.returns (by simp) hlk (hb hby own_b2_d29) (z' := (1 : Int32)) (by first | rfl | exact own_nb _ | exact own_nbb _) (by decide) (by decide) ?_
        show Q2 Z x h0 n0 _ s₁.heap _
        rw [e0]
        exact ⟨by simp [own_wh, own_b, hc1, hc2, hc3], N0, rfl⟩
      · have hd3 := own_neq32 hc3
        rw [show (10 : Int32).toInt = 10 from rfl] at hd3
        refine own_st (B := s₁.setTop (mkF m 18 #[.val (.int x)] [])) (fun t_ k_ => XS.icmpNo X0.here hx rfl (hb hby own_b2_d15) rfl (feq hc3).1 k_) ?_
        refine own_st (B := s₁.setTop (mkF m 19 #[.val (.int x)] [(.int x)])) (fun t_ k_ => XS.iloadN X0.here hx rfl (hb hby own_b2_d18) rfl k_) ?_
        refine own_st (B := s₁.setTop (mkF m 21 #[.val (.int x)] [(.int (13 : Int32)), (.int x)])) (fun t_ k_ => XS.bipush X0.here hx rfl (hb hby own_b2_d19) k_) ?_
        by_cases hc4 : x = (13 : Int32)
        · have hd4 := own_eq32 hc4
          rw [show (13 : Int32).toInt = 13 from rfl] at hd4
          refine own_st (B := s₁.setTop (mkF m 24 #[.val (.int x)] [])) (fun t_ k_ => XS.icmpNo X0.here hx rfl (hb hby own_b2_d21) rfl (teq hc4).2 k_) ?_
          refine own_st (B := s₁.setTop (mkF m 25 #[.val (.int x)] [(.int (1 : Int32))])) (fun t_ k_ => XS.iconst X0.here hx rfl (hb hby own_b2_d24) k_) ?_
          refine own_st (B := s₁.setTop (mkF m 29 #[.val (.int x)] [(.int (1 : Int32))])) (fun t_ k_ => XS.goto X0.here hx rfl (pc0 := 25) (pc' := 29) rfl (hb hby own_b2_d25) (by decide) (by decide) k_) ?_
          refine own_retN X0 hx (t := .boolean) Bd.returns (by simp) hlk (hb hby own_b2_d29) (z' := (1 : Int32)) (by first | rfl | exact own_nb _ | exact own_nbb _) (by decide) (by decide) ?_
          show Q2 Z x h0 n0 _ s₁.heap _
          rw [e0]
          exact ⟨by simp [own_wh, own_b, hc1, hc2, hc3, hc4], N0, rfl⟩
        · have hd4 := own_neq32 hc4
          rw [show (13 : Int32).toInt = 13 from rfl] at hd4
          refine own_st (B := s₁.setTop (mkF m 28 #[.val (.int x)] [])) (fun t_ k_ => XS.icmpYes X0.here hx rfl (pc0 := 21) (pc' := 28) rfl (hb hby own_b2_d21) rfl (feq hc4).2 (by decide) (by decide) k_) ?_
          refine own_st (B := s₁.setTop (mkF m 29 #[.val (.int x)] [(.int (0 : Int32))])) (fun t_ k_ => XS.iconst X0.here hx rfl (hb hby own_b2_d28) k_) ?_
          refine own_retN X0 hx (t := .boolean) Bd.returns (by simp) hlk (hb hby own_b2_d29) (z' := (0 : Int32)) (by first | rfl | exact own_nb _ | exact own_nbb _) (by decide) (by decide) ?_
          show Q2 Z x h0 n0 _ s₁.heap _
          rw [e0]
          exact ⟨by simp [own_wh, own_b, hc1, hc2, hc3, hc4], N0, rfl⟩
theorem own_b3_d0 : decode prog_59_method_2_code 0 = .ok (.iload_n 1, 1) := by decide +kernel
theorem own_b3_d1 : decode prog_59_method_2_code 1 = .ok (.istore_n 3, 1) := by decide +kernel
theorem own_b3_d2 : decode prog_59_method_2_code 2 = .ok (.iload_n 3, 1) := by decide +kernel
theorem own_b3_d3 : decode prog_59_method_2_code 3 = .ok (.iload_n 2, 1) := by decide +kernel
theorem own_b3_d4 : decode prog_59_method_2_code 4 = .ok (.if_icmp .ge 41, 3) := by decide +kernel
theorem own_b3_d7 : decode prog_59_method_2_code 7 = .ok (.aload_n 0, 1) := by decide +kernel
theorem own_b3_d8 : decode prog_59_method_2_code 8 = .ok (.iload_n 3, 1) := by decide +kernel
theorem own_b3_d9 : decode prog_59_method_2_code 9 = .ok (.baload, 1) := by decide +kernel
theorem own_b3_d10 : decode prog_59_method_2_code 10 = .ok (.bipush 32, 2) := by decide +kernel
theorem own_b3_d12 : decode prog_59_method_2_code 12 = .ok (.if_icmp .eq 27, 3) := by decide +kernel
theorem own_b3_d15 : decode prog_59_method_2_code 15 = .ok (.aload_n 0, 1) := by decide +kernel
theorem own_b3_d16 : decode prog_59_method_2_code 16 = .ok (.iload_n 3, 1) := by decide +kernel
theorem own_b3_d17 : decode prog_59_method_2_code 17 = .ok (.baload, 1) := by decide +kernel
theorem own_b3_d18 : decode prog_59_method_2_code 18 = .ok (.bipush 9, 2) := by decide +kernel
theorem own_b3_d20 : decode prog_59_method_2_code 20 = .ok (.if_icmp .eq 19, 3) := by decide +kernel
theorem own_b3_d23 : decode prog_59_method_2_code 23 = .ok (.aload_n 0, 1) := by decide +kernel
theorem own_b3_d24 : decode prog_59_method_2_code 24 = .ok (.iload_n 3, 1) := by decide +kernel
theorem own_b3_d25 : decode prog_59_method_2_code 25 = .ok (.baload, 1) := by decide +kernel
theorem own_b3_d26 : decode prog_59_method_2_code 26 = .ok (.bipush 10, 2) := by decide +kernel
theorem own_b3_d28 : decode prog_59_method_2_code 28 = .ok (.if_icmp .eq 11, 3) := by decide +kernel
theorem own_b3_d31 : decode prog_59_method_2_code 31 = .ok (.aload_n 0, 1) := by decide +kernel
theorem own_b3_d32 : decode prog_59_method_2_code 32 = .ok (.iload_n 3, 1) := by decide +kernel
theorem own_b3_d33 : decode prog_59_method_2_code 33 = .ok (.baload, 1) := by decide +kernel
theorem own_b3_d34 : decode prog_59_method_2_code 34 = .ok (.bipush 13, 2) := by decide +kernel
theorem own_b3_d36 : decode prog_59_method_2_code 36 = .ok (.if_icmp .ne 9, 3) := by decide +kernel
theorem own_b3_d39 : decode prog_59_method_2_code 39 = .ok (.iinc 3 1, 3) := by decide +kernel
theorem own_b3_d42 : decode prog_59_method_2_code 42 = .ok (.goto (-40), 3) := by decide +kernel
theorem own_b3_d45 : decode prog_59_method_2_code 45 = .ok (.iload_n 3, 1) := by decide +kernel
theorem own_b3_d46 : decode prog_59_method_2_code 46 = .ok (.ireturn, 1) := by decide +kernel
theorem own_pn1 : plainName "com/example/tidemark/tidemark/Json" = true := by first | (simp [plainName, overriddenIn]; done) | decide +kernel
theorem own_ef_rm3 (m : MethodId) (x0 : Addr) (x1 : Int32) (x2 : Int32) : entryFrame m #[(.ref x0), (.int x1), (.int x2)] 4 = mkF m 0 #[.val (.ref x0), .val (.int x1), .val (.int x2), .unset] [] := by first | (simp [entryFrame, mkF, argsToLocals, Value.category]; done) | rfl
def Q3 (Z : State) (d : Addr) (x1 : Int32) (x2 : Int32) (ka : Nat) (kt : Nat) (n : Nat) (f : Nat → Int32) (h0 : Heap) (n0 : Nat) (v : Option Value) (h : Heap) (L : List Loc) : Prop := ∃ (y : Int32) (r : Nat), v = some (.int y) ∧ own_ix y r ∧ ka ≤ r ∧ r ≤ kt ∧ (∀ i', ka ≤ i' → i' < r → own_wh (f i') = true) ∧ (r < kt → own_wh (f r) = false) ∧ Fr n0 L ∧ h = h0
set_option maxRecDepth 65536 in
set_option maxHeartbeats 40000000 in
theorem rm3 (l : Launch) (Z : State) (a0 : Array Value) (hw : ∀ d ∈ tables_1, d.before a0 Z = true) (ws : List Jvm.Cond) (d : Addr) (x1 : Int32) (x2 : Int32) (ka : Nat) (kt : Nat) (n : Nat) (f : Nat → Int32) (h0 : Heap) (n0 : Nat) (Z0 : n0 ≤ h0.size) (A : own_A Z h0 d .byte n f) (hk : own_ix x1 ka) (ht : own_ix x2 kt) (hl : ka ≤ kt) (hn : kt ≤ n) (hs : n < 100) :
    MetFree l (⟨"com/example/tidemark/tidemark/Json", "skipWhitespace", "([BII)I"⟩ : MethodName) (head1 (Jvm.Cond.code (⟨"com/example/tidemark/tidemark/Json", "skipWhitespace", "([BII)I"⟩ : MethodName) prog_59_method_2_code 4 (some .int) :: ws) ({ frames := 0, cells := 0, slots := 0, locals := 0 } : Room)) (fun aa_ U_ => aa_ = #[(.ref d), (.int x1), (.int x2)] ∧ Z.Warmed39 U_.vm ∧ U_.heap = h0) (fun _ _ _ _ _ => True) (fun _ U_ o_ U1_ => ∃ v_ L_, o_ = .returned v_ ∧ Q3 Z d x1 x2 ka kt n f h0 n0 v_ U1_.heap L_ ∧ FrameEnd U_ o_ U1_ L_ ({ frames := 0, cells := 0, slots := 0, locals := 0 } : Room).cells ({ frames := 0, cells := 0, slots := 0, locals := 0 } : Room).slots) := by
  refine MetFree.of_bodySF (plainFor_of_name own_pn1) hisR ?_
  intro p e s m args below meth c s₁ Bd hml0 hP hK
  obtain ⟨rfl, hZ, hh⟩ := hP
  have hx := Bd.exec
  have hby := Bd.bytes
  have hlk := Bd.notSynchronized
  have hml : c.maxLocals = 4 := hml0
  have hown : s.vm.findClass "com/example/tidemark/tidemark/Json" = some m.cls := findClass_of_methodNamed Bd.named
  have hnm := (name_of_methodNamed Bd.named Bd.method).1
  have X0 : Stand p l e ({ frames := 0, cells := 0, slots := 0, locals := 0 } : Room) s m #[(.ref d), (.int x1), (.int x2)] below meth c s₁ [] 0 0 := Stand.of_body Bd
  have e0 : s₁.heap = h0 := by rw [← hh, Bd.state]; rfl
  have N0 := Fr.nil n0
  show own_E p e below s (Q3 Z d x1 x2 ka kt n f h0 n0) ({ frames := 0, cells := 0, slots := 0, locals := 0 } : Room).cells ({ frames := 0, cells := 0, slots := 0, locals := 0 } : Room).slots (s₁.setTop (entryFrame m #[(.ref d), (.int x1), (.int x2)] 4))
  refine own_st (B := s₁.setTop (mkF m 0 #[.val (.ref d), .val (.int x1), .val (.int x2), .unset] [])) (fun t_ k_ => castTop (own_ef_rm3 m d x1 x2) k_) ?_
  refine own_st (B := s₁.setTop (mkF m 1 #[.val (.ref d), .val (.int x1), .val (.int x2), .unset] [(.int x1)])) (fun t_ k_ => XS.iloadN X0.here hx rfl (hb hby own_b3_d0) rfl k_) ?_
  refine own_st (B := s₁.setTop (mkF m 2 #[.val (.ref d), .val (.int x1), .val (.int x2), .val (.int x1)] [])) (fun t_ k_ => XS.istoreN X0.here hx rfl (hb hby own_b3_d1) rfl (l' := #[.val (.ref d), .val (.int x1), .val (.int x2), .val (.int x1)]) rfl k_) ?_
  have lp1 : ∀ (q : Nat)  (i : Nat) (j : Int32), (q + i = kt) → (own_ix j i) → (ka ≤ i) → (∀ i', ka ≤ i' → i' < i → own_wh (f i') = true) → own_E p e below s (Q3 Z d x1 x2 ka kt n f h0 n0) ({ frames := 0, cells := 0, slots := 0, locals := 0 } : Room).cells ({ frames := 0, cells := 0, slots := 0, locals := 0 } : Room).slots (s₁.setTop (mkF m 2 #[.val (.ref d), .val (.int x1), .val (.int x2), .val (.int j)] [])) := by
    intro q
    induction q using Nat.strongRecOn with
    | _ q ih =>
      intro i j hq hj ha hwh
      have hji := own_ixI hj
      have hti := own_ixI ht
      refine own_st (B := s₁.setTop (mkF m 3 #[.val (.ref d), .val (.int x1), .val (.int x2), .val (.int j)] [(.int j)])) (fun t_ k_ => XS.iloadN X0.here hx rfl (hb hby own_b3_d2) rfl k_) ?_
      refine own_st (B := s₁.setTop (mkF m 4 #[.val (.ref d), .val (.int x1), .val (.int x2), .val (.int j)] [(.int x2), (.int j)])) (fun t_ k_ => XS.iloadN X0.here hx rfl (hb hby own_b3_d3) rfl k_) ?_
      by_cases hc2 : j < x2
      · have hd2 := own_lt32 hc2
        refine own_st (B := s₁.setTop (mkF m 7 #[.val (.ref d), .val (.int x1), .val (.int x2), .val (.int j)] [])) (fun t_ k_ => XS.icmpNo X0.here hx rfl (hb hby own_b3_d4) rfl (tlt hc2).2.1 k_) ?_
        refine own_st (B := s₁.setTop (mkF m 8 #[.val (.ref d), .val (.int x1), .val (.int x2), .val (.int j)] [(.ref d)])) (fun t_ k_ => XS.aloadN X0.here hx rfl (hb hby own_b3_d7) rfl rfl k_) ?_
        refine own_st (B := s₁.setTop (mkF m 9 #[.val (.ref d), .val (.int x1), .val (.int x2), .val (.int j)] [(.int j), (.ref d)])) (fun t_ k_ => XS.iloadN X0.here hx rfl (hb hby own_b3_d8) rfl k_) ?_
        refine own_st (B := s₁.setTop (mkF m 10 #[.val (.ref d), .val (.int x1), .val (.int x2), .val (.int j)] [(.int (f i))])) (fun t_ k_ => own_ldB X0 hx hZ e0 A (i := i) hj (by omega) (hb hby own_b3_d9) t_ k_) ?_
        refine own_st (B := s₁.setTop (mkF m 12 #[.val (.ref d), .val (.int x1), .val (.int x2), .val (.int j)] [(.int (32 : Int32)), (.int (f i))])) (fun t_ k_ => XS.bipush X0.here hx rfl (hb hby own_b3_d10) k_) ?_
        by_cases hc3 : (f i) = (32 : Int32)
        · have hd3 := own_eq32 hc3
          rw [show (32 : Int32).toInt = 32 from rfl] at hd3
          refine own_st (B := s₁.setTop (mkF m 39 #[.val (.ref d), .val (.int x1), .val (.int x2), .val (.int j)] [])) (fun t_ k_ => XS.icmpYes X0.here hx rfl (pc0 := 12) (pc' := 39) rfl (hb hby own_b3_d12) rfl (teq hc3).1 (by decide) (by decide) k_) ?_
          refine own_st (B := s₁.setTop (mkF m 42 #[.val (.ref d), .val (.int x1), .val (.int x2), .val (.int (j + (1 : Int32)))] [])) (fun t_ k_ => XS.iinc X0.here hx rfl (hb hby own_b3_d39) rfl (l' := #[.val (.ref d), .val (.int x1), .val (.int x2), .val (.int (j + (1 : Int32)))]) rfl k_) ?_
          refine own_st (B := s₁.setTop (mkF m 2 #[.val (.ref d), .val (.int x1), .val (.int x2), .val (.int (j + (1 : Int32)))] [])) (fun t_ k_ => XS.goto X0.here hx rfl (pc0 := 42) (pc' := 2) rfl (hb hby own_b3_d42) (by decide) (by decide) k_) ?_
          exact ih (q - 1) (by omega) (i + 1) (j + (1 : Int32)) (by omega) (own_ixa hj 1 (by omega)) (by omega) (fun i' h1 h2 => by
              by_cases e' : i' = i
              · subst e'; simp [own_wh, hc3]
              · exact hwh i' h1 (by omega))
        · have hd3 := own_neq32 hc3
          rw [show (32 : Int32).toInt = 32 from rfl] at hd3
          refine own_st (B := s₁.setTop (mkF m 15 #[.val (.ref d), .val (.int x1), .val (.int x2), .val (.int j)] [])) (fun t_ k_ => XS.icmpNo X0.here hx rfl (hb hby own_b3_d12) rfl (feq hc3).1 k_) ?_
          refine own_st (B := s₁.setTop (mkF m 16 #[.val (.ref d), .val (.int x1), .val (.int x2), .val (.int j)] [(.ref d)])) (fun t_ k_ => XS.aloadN X0.here hx rfl (hb hby own_b3_d15) rfl rfl k_) ?_
          refine own_st (B := s₁.setTop (mkF m 17 #[.val (.ref d), .val (.int x1), .val (.int x2), .val (.int j)] [(.int j), (.ref d)])) (fun t_ k_ => XS.iloadN X0.here hx rfl (hb hby own_b3_d16) rfl k_) ?_
          refine own_st (B := s₁.setTop (mkF m 18 #[.val (.ref d), .val (.int x1), .val (.int x2), .val (.int j)] [(.int (f i))])) (fun t_ k_ => own_ldB X0 hx hZ e0 A (i := i) hj (by omega) (hb hby own_b3_d17) t_ k_) ?_
          refine own_st (B := s₁.setTop (mkF m 20 #[.val (.ref d), .val (.int x1), .val (.int x2), .val (.int j)] [(.int (9 : Int32)), (.int (f i))])) (fun t_ k_ => XS.bipush X0.here hx rfl (hb hby own_b3_d18) k_) ?_
          by_cases hc4 : (f i) = (9 : Int32)
          · have hd4 := own_eq32 hc4
            rw [show (9 : Int32).toInt = 9 from rfl] at hd4
            refine own_st (B := s₁.setTop (mkF m 39 #[.val (.ref d), .val (.int x1), .val (.int x2), .val (.int j)] [])) (fun t_ k_ => XS.icmpYes X0.here hx rfl (pc0 := 20) (pc' := 39) rfl (hb hby own_b3_d20) rfl (teq hc4).1 (by decide) (by decide) k_) ?_
            refine own_st (B := s₁.setTop (mkF m 42 #[.val (.ref d), .val (.int x1), .val (.int x2), .val (.int (j + (1 : Int32)))] [])) (fun t_ k_ => XS.iinc X0.here hx rfl (hb hby own_b3_d39) rfl (l' := #[.val (.ref d), .val (.int x1), .val (.int x2), .val (.int (j + (1 : Int32)))]) rfl k_) ?_
            refine own_st (B := s₁.setTop (mkF m 2 #[.val (.ref d), .val (.int x1), .val (.int x2), .val (.int (j + (1 : Int32)))] [])) (fun t_ k_ => XS.goto X0.here hx rfl (pc0 := 42) (pc' := 2) rfl (hb hby own_b3_d42) (by decide) (by decide) k_) ?_
            exact ih (q - 1) (by omega) (i + 1) (j + (1 : Int32)) (by omega) (own_ixa hj 1 (by omega)) (by omega) (fun i' h1 h2 => by
                by_cases e' : i' = i
                · subst e'; simp [own_wh, hc3, hc4]
                · exact hwh i' h1 (by omega))
          · have hd4 := own_neq32 hc4
            rw [show (9 : Int32).toInt = 9 from rfl] at hd4
            refine own_st (B := s₁.setTop (mkF m 23 #[.val (.ref d), .val (.int x1), .val (.int x2), .val (.int j)] [])) (fun t_ k_ => XS.icmpNo X0.here hx rfl (hb hby own_b3_d20) rfl (feq hc4).1 k_) ?_
            refine own_st (B := s₁.setTop (mkF m 24 #[.val (.ref d), .val (.int x1), .val (.int x2), .val (.int j)] [(.ref d)])) (fun t_ k_ => XS.aloadN X0.here hx rfl (hb hby own_b3_d23) rfl rfl k_) ?_
            refine own_st (B := s₁.setTop (mkF m 25 #[.val (.ref d), .val (.int x1), .val (.int x2), .val (.int j)] [(.int j), (.ref d)])) (fun t_ k_ => XS.iloadN X0.here hx rfl (hb hby own_b3_d24) rfl k_) ?_
            refine own_st (B := s₁.setTop (mkF m 26 #[.val (.ref d), .val (.int x1), .val (.int x2), .val (.int j)] [(.int (f i))])) (fun t_ k_ => own_ldB X0 hx hZ e0 A (i := i) hj (by omega) (hb hby own_b3_d25) t_ k_) ?_
            refine own_st (B := s₁.setTop (mkF m 28 #[.val (.ref d), .val (.int x1), .val (.int x2), .val (.int j)] [(.int (10 : Int32)), (.int (f i))])) (fun t_ k_ => XS.bipush X0.here hx rfl (hb hby own_b3_d26) k_) ?_
            by_cases hc5 : (f i) = (10 : Int32)
            · have hd5 := own_eq32 hc5
              rw [show (10 : Int32).toInt = 10 from rfl] at hd5
              refine own_st (B := s₁.setTop (mkF m 39 #[.val (.ref d), .val (.int x1), .val (.int x2), .val (.int j)] [])) (fun t_ k_ => XS.icmpYes X0.here hx rfl (pc0 := 28) (pc' := 39) rfl (hb hby own_b3_d28) rfl (teq hc5).1 (by decide) (by decide) k_) ?_
              refine own_st (B := s₁.setTop (mkF m 42 #[.val (.ref d), .val (.int x1), .val (.int x2), .val (.int (j + (1 : Int32)))] [])) (fun t_ k_ => XS.iinc X0.here hx rfl (hb hby own_b3_d39) rfl (l' := #[.val (.ref d), .val (.int x1), .val (.int x2), .val (.int (j + (1 : Int32)))]) rfl k_) ?_
              refine own_st (B := s₁.setTop (mkF m 2 #[.val (.ref d), .val (.int x1), .val (.int x2), .val (.int (j + (1 : Int32)))] [])) (fun t_ k_ => XS.goto X0.here hx rfl (pc0 := 42) (pc' := 2) rfl (hb hby own_b3_d42) (by decide) (by decide) k_) ?_
              exact ih (q - 1) (by omega) (i + 1) (j + (1 : Int32)) (by omega) (own_ixa hj 1 (by omega)) (by omega) (fun i' h1 h2 => by
                  by_cases e' : i' = i
                  · subst e'; simp [own_wh, hc3, hc4, hc5]
                  · exact hwh i' h1 (by omega))
            · have hd5 := own_neq32 hc5
              rw [show (10 : Int32).toInt = 10 from rfl] at hd5
              refine own_st (B := s₁.setTop (mkF m 31 #[.val (.ref d), .val (.int x1), .val (.int x2), .val (.int j)] [])) (fun t_ k_ => XS.icmpNo X0.here hx rfl (hb hby own_b3_d28) rfl (feq hc5).1 k_) ?_
              refine own_st (B := s₁.setTop (mkF m 32 #[.val (.ref d), .val (.int x1), .val (.int x2), .val (.int j)] [(.ref d)])) (fun t_ k_ => XS.aloadN X0.here hx rfl (hb hby own_b3_d31) rfl rfl k_) ?_
              refine own_st (B := s₁.setTop (mkF m 33 #[.val (.ref d), .val (.int x1), .val (.int x2), .val (.int j)] [(.int j), (.ref d)])) (fun t_ k_ => XS.iloadN X0.here hx rfl (hb hby own_b3_d32) rfl k_) ?_
              refine own_st (B := s₁.setTop (mkF m 34 #[.val (.ref d), .val (.int x1), .val (.int x2), .val (.int j)] [(.int (f i))])) (fun t_ k_ => own_ldB X0 hx hZ e0 A (i := i) hj (by omega) (hb hby own_b3_d33) t_ k_) ?_
              refine own_st (B := s₁.setTop (mkF m 36 #[.val (.ref d), .val (.int x1), .val (.int x2), .val (.int j)] [(.int (13 : Int32)), (.int (f i))])) (fun t_ k_ => XS.bipush X0.here hx rfl (hb hby own_b3_d34) k_) ?_
              by_cases hc6 : (f i) = (13 : Int32)
              · have hd6 := own_eq32 hc6
                rw [show (13 : Int32).toInt = 13 from rfl] at hd6
                refine own_st (B := s₁.setTop (mkF m 39 #[.val (.ref d), .val (.int x1), .val (.int x2), .val (.int j)] [])) (fun t_ k_ => XS.icmpNo X0.here hx rfl (hb hby own_b3_d36) rfl (teq hc6).2 k_) ?_
                refine own_st (B := s₁.setTop (mkF m 42 #[.val (.ref d), .val (.int x1), .val (.int x2), .val (.int (j + (1 : Int32)))] [])) (fun t_ k_ => XS.iinc X0.here hx rfl (hb hby own_b3_d39) rfl (l' := #[.val (.ref d), .val (.int x1), .val (.int x2), .val (.int (j + (1 : Int32)))]) rfl k_) ?_
                refine own_st (B := s₁.setTop (mkF m 2 #[.val (.ref d), .val (.int x1), .val (.int x2), .val (.int (j + (1 : Int32)))] [])) (fun t_ k_ => XS.goto X0.here hx rfl (pc0 := 42) (pc' := 2) rfl (hb hby own_b3_d42) (by decide) (by decide) k_) ?_
                exact ih (q - 1) (by omega) (i + 1) (j + (1 : Int32)) (by omega) (own_ixa hj 1 (by omega)) (by omega) (fun i' h1 h2 => by
                    by_cases e' : i' = i
                    · subst e'; simp [own_wh, hc3, hc4, hc5, hc6]
                    · exact hwh i' h1 (by omega))
              · have hd6 := own_neq32 hc6
                rw [show (13 : Int32).toInt = 13 from rfl] at hd6
                refine own_st (B := s₁.setTop (mkF m 45 #[.val (.ref d), .val (.int x1), .val (.int x2), .val (.int j)] [])) (fun t_ k_ => XS.icmpYes X0.here hx rfl (pc0 := 36) (pc' := 45) rfl (hb hby own_b3_d36) rfl (feq hc6).2 (by decide) (by decide) k_) ?_
                refine own_st (B := s₁.setTop (mkF m 46 #[.val (.ref d), .val (.int x1), .val (.int x2), .val (.int j)] [(.int j)])) (fun t_ k_ => XS.iloadN X0.here hx rfl (hb hby own_b3_d45) rfl k_) ?_
                refine own_retI X0 hx Bd.returns hlk (hb hby own_b3_d46) (by decide) (by decide) ?_
                show Q3 Z d x1 x2 ka kt n f h0 n0 _ s₁.heap _
                rw [e0]
                exact ⟨j, i, rfl, hj, ha, by omega, hwh, fun _ => by simp [own_wh, hc3, hc4, hc5, hc6], N0, rfl⟩
      · have hd2 := own_nlt32 hc2
        refine own_st (B := s₁.setTop (mkF m 45 #[.val (.ref d), .val (.int x1), .val (.int x2), .val (.int j)] [])) (fun t_ k_ => XS.icmpYes X0.here hx rfl (pc0 := 4) (pc' := 45) rfl (hb hby own_b3_d4) rfl (flt hc2).2.1 (by decide) (by decide) k_) ?_
        refine own_st (B := s₁.setTop (mkF m 46 #[.val (.ref d), .val (.int x1), .val (.int x2), .val (.int j)] [(.int j)])) (fun t_ k_ => XS.iloadN X0.here hx rfl (hb hby own_b3_d45) rfl k_) ?_
        refine own_retI X0 hx Bd.returns hlk (hb hby own_b3_d46) (by decide) (by decide) ?_
        show Q3 Z d x1 x2 ka kt n f h0 n0 _ s₁.heap _
        rw [e0]
        exact ⟨j, i, rfl, hj, ha, by omega, hwh, fun q' => absurd q' (by omega), N0, rfl⟩
  exact lp1 (kt - ka) ka x1 (by omega) hk (Nat.le_refl _) (fun i' h1 h2 => absurd h1 (by omega))
theorem own_pd0 : parseMethodDescriptor "(I)B" = some ⟨[.int], some .byte⟩ := by decide +kernel
theorem own_pd1 : parseMethodDescriptor "([BII)I" = some ⟨[(.array .byte), .int, .int], some .int⟩ := by decide +kernel
theorem own_pd2 : parseMethodDescriptor "(B)Z" = some ⟨[.byte], some .boolean⟩ := by decide +kernel
theorem own_ef_rm0 (m : MethodId) (x0 : Int32) (x1 : Int32) (x2 : Int32) (x3 : Int32) (x4 : Int32) (x5 : Int32) : entryFrame m #[(.int x0), (.int x1), (.int x2), (.int x3), (.int x4), (.int x5)] maxLocals = mkF m 0 #[.val (.int x0), .val (.int x1), .val (.int x2), .val (.int x3), .val (.int x4), .val (.int x5), .unset, .unset, .unset, .unset] [] := by first | (simp [entryFrame, mkF, argsToLocals, Value.category, maxLocals]; done) | rfl
def Q0 (Z : State) (u0 : Int32) (u1 : Int32) (u2 : Int32) (u3 : Int32) (u4 : Int32) (u5 : Int32) (h0 : Heap) (n0 : Nat) (v : Option Value) (h : Heap) (L : List Loc) : Prop := v = some (.int 1) ∧ Fr n0 L
set_option maxRecDepth 65536 in
set_option maxHeartbeats 40000000 in
theorem rm0 (l : Launch) (Z : State) (a0 : Array Value) (hw : ∀ d ∈ tables_1, d.before a0 Z = true) (ws : List Jvm.Cond) (u0 : Int32) (u1 : Int32) (u2 : Int32) (u3 : Int32) (u4 : Int32) (u5 : Int32) (h0 : Heap) (n0 : Nat) (Z0 : n0 ≤ h0.size) :
    MetFree l x (head1 (Jvm.Cond.code x code maxLocals ret :: ws) room_1) (fun aa_ U_ => aa_ = #[(.int u0), (.int u1), (.int u2), (.int u3), (.int u4), (.int u5)] ∧ Z.Warmed39 U_.vm ∧ U_.heap = h0) (fun _ _ _ _ _ => True) (fun _ U_ o_ U1_ => ∃ v_ L_, o_ = .returned v_ ∧ Q0 Z u0 u1 u2 u3 u4 u5 h0 n0 v_ U1_.heap L_ ∧ FrameEnd U_ o_ U1_ L_ 1 4) := by
  refine MetFree.of_bodySF (plainFor_of_name own_pn0) hisR ?_
  intro p e s m args below meth c s₁ Bd hml0 hP hK
  obtain ⟨rfl, hZ, hh⟩ := hP
  have hx := Bd.exec
  have hby := Bd.bytes
  have hlk := Bd.notSynchronized
  have hml : c.maxLocals = 10 := hml0
  have hown : s.vm.findClass "com/example/tidemark/tidemark/JsonSkipWhitespacePinLaw" = some m.cls := findClass_of_methodNamed Bd.named
  have hnm := (name_of_methodNamed Bd.named Bd.method).1
  have X0 : Stand p l e room_1 s m #[(.int u0), (.int u1), (.int u2), (.int u3), (.int u4), (.int u5)] below meth c s₁ [] 0 0 := Stand.of_body Bd
  have e0 : s₁.heap = h0 := by rw [← hh, Bd.state]; rfl
  have N0 := Fr.nil n0
  show own_E p e below s (Q0 Z u0 u1 u2 u3 u4 u5 h0 n0) 1 4 (s₁.setTop (entryFrame m #[(.int u0), (.int u1), (.int u2), (.int u3), (.int u4), (.int u5)] maxLocals))
  refine own_st (B := s₁.setTop (mkF m 0 #[.val (.int u0), .val (.int u1), .val (.int u2), .val (.int u3), .val (.int u4), .val (.int u5), .unset, .unset, .unset, .unset] [])) (fun t_ k_ => castTop (own_ef_rm0 m u0 u1 u2 u3 u4 u5) k_) ?_
  refine own_st (B := s₁.setTop (mkF m 1 #[.val (.int u0), .val (.int u1), .val (.int u2), .val (.int u3), .val (.int u4), .val (.int u5), .unset, .unset, .unset, .unset] [(.int (4 : Int32))])) (fun t_ k_ => XS.iconst X0.here hx rfl (hb hby at_0) k_) ?_
  obtain ⟨T1, h1, k1, X1, e1, E1, A1, G1, st1⟩ := newPE X0 hx hZ (hw _ (List.mem_of_getElem? (i := 0) rfl)) e0 (g := (mkF m 1 #[.val (.int u0), .val (.int u1), .val (.int u2), .val (.int u3), .val (.int u4), .val (.int u5), .unset, .unset, .unset, .unset] [(.int (4 : Int32))])) rfl (hb hby at_1) rfl (by decide) (cap := 4) (by decide) (by decide) (by decide) (by decide) (ad := "[B") (by decide)
  obtain ⟨b1, g1⟩ : ∃ z, z = h0.size := ⟨_, rfl⟩
  rw [← g1] at A1 G1 st1
  have g2 : n0 ≤ b1 := Nat.le_trans Z0 (Nat.le_of_eq g1.symm)
  have Z3 := Nat.le_trans Z0 E1.1
  have a1 : own_A Z h1 b1 .byte 4 (fun _ => 0) := own_A.new A1 (by decide) rfl
  refine own_st (B := T1.setTop (mkF m 3 #[.val (.int u0), .val (.int u1), .val (.int u2), .val (.int u3), .val (.int u4), .val (.int u5), .unset, .unset, .unset, .unset] [(.ref b1)])) st1 ?_
  refine own_st (B := T1.setTop (mkF m 5 #[.val (.int u0), .val (.int u1), .val (.int u2), .val (.int u3), .val (.int u4), .val (.int u5), .val (.ref b1), .unset, .unset, .unset] [])) (fun t_ k_ => XS.astore X1.here hx rfl (hb hby at_3) rfl rfl (l' := #[.val (.int u0), .val (.int u1), .val (.int u2), .val (.int u3), .val (.int u4), .val (.int u5), .val (.ref b1), .unset, .unset, .unset]) rfl k_) ?_
  refine own_st (B := T1.setTop (mkF m 7 #[.val (.int u0), .val (.int u1), .val (.int u2), .val (.int u3), .val (.int u4), .val (.int u5), .val (.ref b1), .unset, .unset, .unset] [(.ref b1)])) (fun t_ k_ => XS.aload X1.here hx rfl (hb hby at_5) rfl rfl k_) ?_
  refine own_st (B := T1.setTop (mkF m 8 #[.val (.int u0), .val (.int u1), .val (.int u2), .val (.int u3), .val (.int u4), .val (.int u5), .val (.ref b1), .unset, .unset, .unset] [(.int (0 : Int32)), (.ref b1)])) (fun t_ k_ => XS.iconst X1.here hx rfl (hb hby at_7) k_) ?_
  refine own_st (B := T1.setTop (mkF m 9 #[.val (.int u0), .val (.int u1), .val (.int u2), .val (.int u3), .val (.int u4), .val (.int u5), .val (.ref b1), .unset, .unset, .unset] [(.int u0), (.int (0 : Int32)), (.ref b1)])) (fun t_ k_ => XS.iloadN X1.here hx rfl (hb hby at_8) rfl k_) ?_
  obtain ⟨_, _, ⟨T4, L4, k4, n4⟩, -, X4, ⟨Lc4, hQ4, l4, y4, z4⟩, st4⟩ := Jvm.LawKit.callS X1 hx (y := (⟨"com/example/tidemark/tidemark/JsonSkipWhitespacePinLaw", "draw", "(I)B"⟩ : MethodName)) hown (mvT hZ (hw _ (List.mem_of_getElem? (i := 1) rfl))) (mvT hZ (hw _ (List.mem_of_getElem? (i := 2) rfl))) (mvT hZ (hw _ (List.mem_of_getElem? (i := 3) rfl))) (mvT hZ (hw _ (List.mem_of_getElem? (i := 4) rfl))) (by decide) (backOf (W := 2) (rm1 l Z a0 hw [] u0 h1 n0 Z3 ) hZ (hw _ (List.mem_of_getElem? (i := 4) rfl)) (hw _ (List.mem_of_getElem? (i := 3) rfl)) (by decide) (by decide)) (g := (mkF m 9 #[.val (.int u0), .val (.int u1), .val (.int u2), .val (.int u3), .val (.int u4), .val (.int u5), .val (.ref b1), .unset, .unset, .unset] [(.int u0), (.int (0 : Int32)), (.ref b1)])) rfl (by rw [hml]; rfl) (argsL := [(.int u0)]) (rest := [(.int (0 : Int32)), (.ref b1)]) (lenOf own_pd0 rfl) rfl (by show 2 * 0 + _ ≤ _; exact Nat.le_of_eq rfl) (hb hby at_9) (fun _ _ => ⟨rfl, e1, (by decide : 1 + 0 ≤ _), (by decide : 4 + 0 ≤ _)⟩)
  dsimp only [Pt.U, Pt.locs, Pt.cells, Pt.slots] at X4 l4 y4 z4 st4 hQ4
  subst l4 y4 z4
  obtain ⟨y4d, rfl, N4q, eh4⟩ := hQ4
  have N4 := Fr.app N0 N4q
  refine own_st (B := T4.setTop (mkF m 12 #[.val (.int u0), .val (.int u1), .val (.int u2), .val (.int u3), .val (.int u4), .val (.int u5), .val (.ref b1), .unset, .unset, .unset] [(.int y4d), (.int (0 : Int32)), (.ref b1)])) st4 ?_
  obtain ⟨T5, h5, X5, e5, W5, a5, st5⟩ := own_stB X4 hx hZ eh4 a1 (i := 0) (j := (0 : Int32)) (by decide) (by decide) (pc := 12) (x := y4d) (Ls := #[.val (.int u0), .val (.int u1), .val (.int u2), .val (.int u3), .val (.int u4), .val (.int u5), .val (.ref b1), .unset, .unset, .unset]) (rest := []) (hb hby at_12)
  have N5 := Fr.snoc X5 N4 g2
  have Z6 := Nat.le_trans Z3 (Keep.of_wr W5).1
  refine own_st (B := T5.setTop (mkF m 13 #[.val (.int u0), .val (.int u1), .val (.int u2), .val (.int u3), .val (.int u4), .val (.int u5), .val (.ref b1), .unset, .unset, .unset] [])) st5 ?_
  refine own_st (B := T5.setTop (mkF m 15 #[.val (.int u0), .val (.int u1), .val (.int u2), .val (.int u3), .val (.int u4), .val (.int u5), .val (.ref b1), .unset, .unset, .unset] [(.ref b1)])) (fun t_ k_ => XS.aload X5.here hx rfl (hb hby at_13) rfl rfl k_) ?_
  refine own_st (B := T5.setTop (mkF m 16 #[.val (.int u0), .val (.int u1), .val (.int u2), .val (.int u3), .val (.int u4), .val (.int u5), .val (.ref b1), .unset, .unset, .unset] [(.int (1 : Int32)), (.ref b1)])) (fun t_ k_ => XS.iconst X5.here hx rfl (hb hby at_15) k_) ?_
  refine own_st (B := T5.setTop (mkF m 17 #[.val (.int u0), .val (.int u1), .val (.int u2), .val (.int u3), .val (.int u4), .val (.int u5), .val (.ref b1), .unset, .unset, .unset] [(.int u1), (.int (1 : Int32)), (.ref b1)])) (fun t_ k_ => XS.iloadN X5.here hx rfl (hb hby at_16) rfl k_) ?_
  obtain ⟨_, _, ⟨T7, L7, k7, n7⟩, -, X7, ⟨Lc7, hQ7, l7, y7, z7⟩, st7⟩ := Jvm.LawKit.callS X5 hx (y := (⟨"com/example/tidemark/tidemark/JsonSkipWhitespacePinLaw", "draw", "(I)B"⟩ : MethodName)) hown (mvT hZ (hw _ (List.mem_of_getElem? (i := 1) rfl))) (mvT hZ (hw _ (List.mem_of_getElem? (i := 2) rfl))) (mvT hZ (hw _ (List.mem_of_getElem? (i := 3) rfl))) (mvT hZ (hw _ (List.mem_of_getElem? (i := 4) rfl))) (by decide) (backOf (W := 2) (rm1 l Z a0 hw [] u1 h5 n0 Z6 ) hZ (hw _ (List.mem_of_getElem? (i := 4) rfl)) (hw _ (List.mem_of_getElem? (i := 3) rfl)) (by decide) (by decide)) (g := (mkF m 17 #[.val (.int u0), .val (.int u1), .val (.int u2), .val (.int u3), .val (.int u4), .val (.int u5), .val (.ref b1), .unset, .unset, .unset] [(.int u1), (.int (1 : Int32)), (.ref b1)])) rfl (by rw [hml]; rfl) (argsL := [(.int u1)]) (rest := [(.int (1 : Int32)), (.ref b1)]) (lenOf own_pd0 rfl) rfl (by show 2 * 0 + _ ≤ _; exact Nat.le_of_eq rfl) (hb hby at_17) (fun _ _ => ⟨rfl, e5, (by decide : 1 + 0 ≤ _), (by decide : 4 + 0 ≤ _)⟩)
  dsimp only [Pt.U, Pt.locs, Pt.cells, Pt.slots] at X7 l7 y7 z7 st7 hQ7
  subst l7 y7 z7
  obtain ⟨y7d, rfl, N7q, eh7⟩ := hQ7
  have N7 := Fr.app N5 N7q
  refine own_st (B := T7.setTop (mkF m 20 #[.val (.int u0), .val (.int u1), .val (.int u2), .val (.int u3), .val (.int u4), .val (.int u5), .val (.ref b1), .unset, .unset, .unset] [(.int y7d), (.int (1 : Int32)), (.ref b1)])) st7 ?_
  obtain ⟨T8, h8, X8, e8, W8, a8, st8⟩ := own_stB X7 hx hZ eh7 a5 (i := 1) (j := (1 : Int32)) (by decide) (by decide) (pc := 20) (x := y7d) (Ls := #[.val (.int u0), .val (.int u1), .val (.int u2), .val (.int u3), .val (.int u4), .val (.int u5), .val (.ref b1), .unset, .unset, .unset]) (rest := []) (hb hby at_20)
  have N8 := Fr.snoc X8 N7 g2
  have Z9 := Nat.le_trans Z6 (Keep.of_wr W8).1
  refine own_st (B := T8.setTop (mkF m 21 #[.val (.int u0), .val (.int u1), .val (.int u2), .val (.int u3), .val (.int u4), .val (.int u5), .val (.ref b1), .unset, .unset, .unset] [])) st8 ?_
  refine own_st (B := T8.setTop (mkF m 23 #[.val (.int u0), .val (.int u1), .val (.int u2), .val (.int u3), .val (.int u4), .val (.int u5), .val (.ref b1), .unset, .unset, .unset] [(.ref b1)])) (fun t_ k_ => XS.aload X8.here hx rfl (hb hby at_21) rfl rfl k_) ?_
  refine own_st (B := T8.setTop (mkF m 24 #[.val (.int u0), .val (.int u1), .val (.int u2), .val (.int u3), .val (.int u4), .val (.int u5), .val (.ref b1), .unset, .unset, .unset] [(.int (2 : Int32)), (.ref b1)])) (fun t_ k_ => XS.iconst X8.here hx rfl (hb hby at_23) k_) ?_
  refine own_st (B := T8.setTop (mkF m 25 #[.val (.int u0), .val (.int u1), .val (.int u2), .val (.int u3), .val (.int u4), .val (.int u5), .val (.ref b1), .unset, .unset, .unset] [(.int u2), (.int (2 : Int32)), (.ref b1)])) (fun t_ k_ => XS.iloadN X8.here hx rfl (hb hby at_24) rfl k_) ?_
  obtain ⟨_, _, ⟨T10, L10, k10, n10⟩, -, X10, ⟨Lc10, hQ10, l10, y10, z10⟩, st10⟩ := Jvm.LawKit.callS X8 hx (y := (⟨"com/example/tidemark/tidemark/JsonSkipWhitespacePinLaw", "draw", "(I)B"⟩ : MethodName)) hown (mvT hZ (hw _ (List.mem_of_getElem? (i := 1) rfl))) (mvT hZ (hw _ (List.mem_of_getElem? (i := 2) rfl))) (mvT hZ (hw _ (List.mem_of_getElem? (i := 3) rfl))) (mvT hZ (hw _ (List.mem_of_getElem? (i := 4) rfl))) (by decide) (backOf (W := 2) (rm1 l Z a0 hw [] u2 h8 n0 Z9 ) hZ (hw _ (List.mem_of_getElem? (i := 4) rfl)) (hw _ (List.mem_of_getElem? (i := 3) rfl)) (by decide) (by decide)) (g := (mkF m 25 #[.val (.int u0), .val (.int u1), .val (.int u2), .val (.int u3), .val (.int u4), .val (.int u5), .val (.ref b1), .unset, .unset, .unset] [(.int u2), (.int (2 : Int32)), (.ref b1)])) rfl (by rw [hml]; rfl) (argsL := [(.int u2)]) (rest := [(.int (2 : Int32)), (.ref b1)]) (lenOf own_pd0 rfl) rfl (by show 2 * 0 + _ ≤ _; exact Nat.le_of_eq rfl) (hb hby at_25) (fun _ _ => ⟨rfl, e8, (by decide : 1 + 0 ≤ _), (by decide : 4 + 0 ≤ _)⟩)
  dsimp only [Pt.U, Pt.locs, Pt.cells, Pt.slots] at X10 l10 y10 z10 st10 hQ10
  subst l10 y10 z10
  obtain ⟨y10d, rfl, N10q, eh10⟩ := hQ10
  have N10 := Fr.app N8 N10q
  refine own_st (B := T10.setTop (mkF m 28 #[.val (.int u0), .val (.int u1), .val (.int u2), .val (.int u3), .val (.int u4), .val (.int u5), .val (.ref b1), .unset, .unset, .unset] [(.int y10d), (.int (2 : Int32)), (.ref b1)])) st10 ?_
  obtain ⟨T11, h11, X11, e11, W11, a11, st11⟩ := own_stB X10 hx hZ eh10 a8 (i := 2) (j := (2 : Int32)) (by decide) (by decide) (pc := 28) (x := y10d) (Ls := #[.val (.int u0), .val (.int u1), .val (.int u2), .val (.int u3), .val (.int u4), .val (.int u5), .val (.ref b1), .unset, .unset, .unset]) (rest := []) (hb hby at_28)
  have N11 := Fr.snoc X11 N10 g2
  have Z12 := Nat.le_trans Z9 (Keep.of_wr W11).1
  refine own_st (B := T11.setTop (mkF m 29 #[.val (.int u0), .val (.int u1), .val (.int u2), .val (.int u3), .val (.int u4), .val (.int u5), .val (.ref b1), .unset, .unset, .unset] [])) st11 ?_
  refine own_st (B := T11.setTop (mkF m 31 #[.val (.int u0), .val (.int u1), .val (.int u2), .val (.int u3), .val (.int u4), .val (.int u5), .val (.ref b1), .unset, .unset, .unset] [(.ref b1)])) (fun t_ k_ => XS.aload X11.here hx rfl (hb hby at_29) rfl rfl k_) ?_
  refine own_st (B := T11.setTop (mkF m 32 #[.val (.int u0), .val (.int u1), .val (.int u2), .val (.int u3), .val (.int u4), .val (.int u5), .val (.ref b1), .unset, .unset, .unset] [(.int (3 : Int32)), (.ref b1)])) (fun t_ k_ => XS.iconst X11.here hx rfl (hb hby at_31) k_) ?_
  refine own_st (B := T11.setTop (mkF m 33 #[.val (.int u0), .val (.int u1), .val (.int u2), .val (.int u3), .val (.int u4), .val (.int u5), .val (.ref b1), .unset, .unset, .unset] [(.int u3), (.int (3 : Int32)), (.ref b1)])) (fun t_ k_ => XS.iloadN X11.here hx rfl (hb hby at_32) rfl k_) ?_
  obtain ⟨_, _, ⟨T13, L13, k13, n13⟩, -, X13, ⟨Lc13, hQ13, l13, y13, z13⟩, st13⟩ := Jvm.LawKit.callS X11 hx (y := (⟨"com/example/tidemark/tidemark/JsonSkipWhitespacePinLaw", "draw", "(I)B"⟩ : MethodName)) hown (mvT hZ (hw _ (List.mem_of_getElem? (i := 1) rfl))) (mvT hZ (hw _ (List.mem_of_getElem? (i := 2) rfl))) (mvT hZ (hw _ (List.mem_of_getElem? (i := 3) rfl))) (mvT hZ (hw _ (List.mem_of_getElem? (i := 4) rfl))) (by decide) (backOf (W := 2) (rm1 l Z a0 hw [] u3 h11 n0 Z12 ) hZ (hw _ (List.mem_of_getElem? (i := 4) rfl)) (hw _ (List.mem_of_getElem? (i := 3) rfl)) (by decide) (by decide)) (g := (mkF m 33 #[.val (.int u0), .val (.int u1), .val (.int u2), .val (.int u3), .val (.int u4), .val (.int u5), .val (.ref b1), .unset, .unset, .unset] [(.int u3), (.int (3 : Int32)), (.ref b1)])) rfl (by rw [hml]; rfl) (argsL := [(.int u3)]) (rest := [(.int (3 : Int32)), (.ref b1)]) (lenOf own_pd0 rfl) rfl (by show 2 * 0 + _ ≤ _; exact Nat.le_of_eq rfl) (hb hby at_33) (fun _ _ => ⟨rfl, e11, (by decide : 1 + 0 ≤ _), (by decide : 4 + 0 ≤ _)⟩)
  dsimp only [Pt.U, Pt.locs, Pt.cells, Pt.slots] at X13 l13 y13 z13 st13 hQ13
  subst l13 y13 z13
  obtain ⟨y13d, rfl, N13q, eh13⟩ := hQ13
  have N13 := Fr.app N11 N13q
  refine own_st (B := T13.setTop (mkF m 36 #[.val (.int u0), .val (.int u1), .val (.int u2), .val (.int u3), .val (.int u4), .val (.int u5), .val (.ref b1), .unset, .unset, .unset] [(.int y13d), (.int (3 : Int32)), (.ref b1)])) st13 ?_
  obtain ⟨T14, h14, X14, e14, W14, a14, st14⟩ := own_stB X13 hx hZ eh13 a11 (i := 3) (j := (3 : Int32)) (by decide) (by decide) (pc := 36) (x := y13d) (Ls := #[.val (.int u0), .val (.int u1), .val (.int u2), .val (.int u3), .val (.int u4), .val (.int u5), .val (.ref b1), .unset, .unset, .unset]) (rest := []) (hb hby at_36)
  have N14 := Fr.snoc X14 N13 g2
  have Z15 := Nat.le_trans Z12 (Keep.of_wr W14).1
  refine own_st (B := T14.setTop (mkF m 37 #[.val (.int u0), .val (.int u1), .val (.int u2), .val (.int u3), .val (.int u4), .val (.int u5), .val (.ref b1), .unset, .unset, .unset] [])) st14 ?_
  obtain ⟨ff, aff⟩ : ∃ ff, own_A Z h14 b1 .byte 4 ff := ⟨_, a14⟩
  refine own_st (B := T14.setTop (mkF m 39 #[.val (.int u0), .val (.int u1), .val (.int u2), .val (.int u3), .val (.int u4), .val (.int u5), .val (.ref b1), .unset, .unset, .unset] [(.int u5)])) (fun t_ k_ => XS.iload X14.here hx rfl (hb hby at_37) rfl k_) ?_
  refine own_st (B := T14.setTop (mkF m 41 #[.val (.int u0), .val (.int u1), .val (.int u2), .val (.int u3), .val (.int u4), .val (.int u5), .val (.ref b1), .unset, .unset, .unset] [(.int (2147483647 : Int32)), (.int u5)])) (fun t_ k_ => X14.ldcInt hx hown (mvT hZ (hw _ (List.mem_of_getElem? (i := 5) rfl))) (g := (mkF m 39 #[.val (.int u0), .val (.int u1), .val (.int u2), .val (.int u3), .val (.int u4), .val (.int u5), .val (.ref b1), .unset, .unset, .unset] [(.int u5)])) rfl (hb hby at_39) t_ k_) ?_
  refine own_st (B := T14.setTop (mkF m 42 #[.val (.int u0), .val (.int u1), .val (.int u2), .val (.int u3), .val (.int u4), .val (.int u5), .val (.ref b1), .unset, .unset, .unset] [(.int (u5 &&& (2147483647 : Int32)))])) (fun t_ k_ => XS.iand X14.here hx rfl (hb hby at_41) rfl k_) ?_
  refine own_st (B := T14.setTop (mkF m 43 #[.val (.int u0), .val (.int u1), .val (.int u2), .val (.int u3), .val (.int u4), .val (.int u5), .val (.ref b1), .unset, .unset, .unset] [(.int (5 : Int32)), (.int (u5 &&& (2147483647 : Int32)))])) (fun t_ k_ => XS.iconst X14.here hx rfl (hb hby at_42) k_) ?_
  refine own_st (B := T14.setTop (mkF m 44 #[.val (.int u0), .val (.int u1), .val (.int u2), .val (.int u3), .val (.int u4), .val (.int u5), .val (.ref b1), .unset, .unset, .unset] [(.int ((u5 &&& (2147483647 : Int32)) % (5 : Int32)))])) (fun t_ k_ => iremM X14 hx rfl (hb hby at_43) rfl (by decide) k_) ?_
  refine own_st (B := T14.setTop (mkF m 46 #[.val (.int u0), .val (.int u1), .val (.int u2), .val (.int u3), .val (.int u4), .val (.int u5), .val (.ref b1), .val (.int ((u5 &&& (2147483647 : Int32)) % (5 : Int32))), .unset, .unset] [])) (fun t_ k_ => XS.istore X14.here hx rfl (hb hby at_44) rfl (l' := #[.val (.int u0), .val (.int u1), .val (.int u2), .val (.int u3), .val (.int u4), .val (.int u5), .val (.ref b1), .val (.int ((u5 &&& (2147483647 : Int32)) % (5 : Int32))), .unset, .unset]) rfl k_) ?_
  have h7 := own_r5 u5
  obtain ⟨y7, hy7⟩ : ∃ y, y = ((u5 &&& (2147483647 : Int32)) % (5 : Int32)) := ⟨_, rfl⟩
  rw [← hy7] at h7 ⊢
  have h8 := own_rv u4 y7 h7.1 h7.2
  refine own_st (B := T14.setTop (mkF m 48 #[.val (.int u0), .val (.int u1), .val (.int u2), .val (.int u3), .val (.int u4), .val (.int u5), .val (.ref b1), .val (.int y7), .unset, .unset] [(.int u4)])) (fun t_ k_ => XS.iload X14.here hx rfl (hb hby at_46) rfl k_) ?_
  refine own_st (B := T14.setTop (mkF m 50 #[.val (.int u0), .val (.int u1), .val (.int u2), .val (.int u3), .val (.int u4), .val (.int u5), .val (.ref b1), .val (.int y7), .unset, .unset] [(.int (2147483647 : Int32)), (.int u4)])) (fun t_ k_ => X14.ldcInt hx hown (mvT hZ (hw _ (List.mem_of_getElem? (i := 5) rfl))) (g := (mkF m 48 #[.val (.int u0), .val (.int u1), .val (.int u2), .val (.int u3), .val (.int u4), .val (.int u5), .val (.ref b1), .val (.int y7), .unset, .unset] [(.int u4)])) rfl (hb hby at_48) t_ k_) ?_
  refine own_st (B := T14.setTop (mkF m 51 #[.val (.int u0), .val (.int u1), .val (.int u2), .val (.int u3), .val (.int u4), .val (.int u5), .val (.ref b1), .val (.int y7), .unset, .unset] [(.int (u4 &&& (2147483647 : Int32)))])) (fun t_ k_ => XS.iand X14.here hx rfl (hb hby at_50) rfl k_) ?_
  refine own_st (B := T14.setTop (mkF m 53 #[.val (.int u0), .val (.int u1), .val (.int u2), .val (.int u3), .val (.int u4), .val (.int u5), .val (.ref b1), .val (.int y7), .unset, .unset] [(.int y7), (.int (u4 &&& (2147483647 : Int32)))])) (fun t_ k_ => XS.iload X14.here hx rfl (hb hby at_51) rfl k_) ?_
  refine own_st (B := T14.setTop (mkF m 54 #[.val (.int u0), .val (.int u1), .val (.int u2), .val (.int u3), .val (.int u4), .val (.int u5), .val (.ref b1), .val (.int y7), .unset, .unset] [(.int (1 : Int32)), (.int y7), (.int (u4 &&& (2147483647 : Int32)))])) (fun t_ k_ => XS.iconst X14.here hx rfl (hb hby at_53) k_) ?_
  refine own_st (B := T14.setTop (mkF m 55 #[.val (.int u0), .val (.int u1), .val (.int u2), .val (.int u3), .val (.int u4), .val (.int u5), .val (.ref b1), .val (.int y7), .unset, .unset] [(.int (y7 + (1 : Int32))), (.int (u4 &&& (2147483647 : Int32)))])) (fun t_ k_ => XS.iadd X14.here hx rfl (hb hby at_54) rfl k_) ?_
  refine own_st (B := T14.setTop (mkF m 56 #[.val (.int u0), .val (.int u1), .val (.int u2), .val (.int u3), .val (.int u4), .val (.int u5), .val (.ref b1), .val (.int y7), .unset, .unset] [(.int ((u4 &&& (2147483647 : Int32)) % (y7 + (1 : Int32))))])) (fun t_ k_ => iremM X14 hx rfl (hb hby at_55) rfl h8.1 k_) ?_
  refine own_st (B := T14.setTop (mkF m 58 #[.val (.int u0), .val (.int u1), .val (.int u2), .val (.int u3), .val (.int u4), .val (.int u5), .val (.ref b1), .val (.int y7), .val (.int ((u4 &&& (2147483647 : Int32)) % (y7 + (1 : Int32)))), .unset] [])) (fun t_ k_ => XS.istore X14.here hx rfl (hb hby at_56) rfl (l' := #[.val (.int u0), .val (.int u1), .val (.int u2), .val (.int u3), .val (.int u4), .val (.int u5), .val (.ref b1), .val (.int y7), .val (.int ((u4 &&& (2147483647 : Int32)) % (y7 + (1 : Int32)))), .unset]) rfl k_) ?_
  obtain ⟨y8, hy8⟩ : ∃ y, y = ((u4 &&& (2147483647 : Int32)) % (y7 + (1 : Int32))) := ⟨_, rfl⟩
  rw [← hy8] at h8 ⊢
  obtain ⟨kt, hkt⟩ : ∃ k : Nat, own_ix y7 k := ⟨y7.toInt.toNat, own_ixof (by omega)⟩
  obtain ⟨ka, hka⟩ : ∃ k : Nat, own_ix y8 k := ⟨y8.toInt.toNat, own_ixof (by omega)⟩
  have hki := own_ixI hkt; have hai := own_ixI hka
  refine own_st (B := T14.setTop (mkF m 60 #[.val (.int u0), .val (.int u1), .val (.int u2), .val (.int u3), .val (.int u4), .val (.int u5), .val (.ref b1), .val (.int y7), .val (.int y8), .unset] [(.int y7)])) (fun t_ k_ => XS.iload X14.here hx rfl (hb hby at_58) rfl k_) ?_
  refine own_st (B := T14.setTop (mkF m 62 #[.val (.int u0), .val (.int u1), .val (.int u2), .val (.int u3), .val (.int u4), .val (.int u5), .val (.ref b1), .val (.int y7), .val (.int y8), .val (.int y7)] [])) (fun t_ k_ => XS.istore X14.here hx rfl (hb hby at_60) rfl (l' := #[.val (.int u0), .val (.int u1), .val (.int u2), .val (.int u3), .val (.int u4), .val (.int u5), .val (.ref b1), .val (.int y7), .val (.int y8), .val (.int y7)]) rfl k_) ?_
  have J16 : ∀ (TJ16 : State) (loJ16 : List Loc) (XJ16 : Stand p l e room_1 s m #[(.int u0), (.int u1), (.int u2), (.int u3), (.int u4), (.int u5)] below meth c TJ16 loJ16 1 4) (eJ16 : TJ16.heap = h14) (NJ16 : Fr n0 loJ16) (y9_3 : Int32), (y9_3 = (own_e ka kt ff 3 y7)) → own_E p e below s (Q0 Z u0 u1 u2 u3 u4 u5 h0 n0) 1 4 (TJ16.setTop (mkF m 87 #[.val (.int u0), .val (.int u1), .val (.int u2), .val (.int u3), .val (.int u4), .val (.int u5), .val (.ref b1), .val (.int y7), .val (.int y8), .val (.int y9_3)] [])) := by
    intro TJ16 loJ16 XJ16 eJ16 NJ16 y9_3 hy9_3
    have J17 : ∀ (TJ17 : State) (loJ17 : List Loc) (XJ17 : Stand p l e room_1 s m #[(.int u0), (.int u1), (.int u2), (.int u3), (.int u4), (.int u5)] below meth c TJ17 loJ17 1 4) (eJ17 : TJ17.heap = h14) (NJ17 : Fr n0 loJ17) (y9_2 : Int32), (y9_2 = (own_e ka kt ff 2 (own_e ka kt ff 3 y7))) → own_E p e below s (Q0 Z u0 u1 u2 u3 u4 u5 h0 n0) 1 4 (TJ17.setTop (mkF m 112 #[.val (.int u0), .val (.int u1), .val (.int u2), .val (.int u3), .val (.int u4), .val (.int u5), .val (.ref b1), .val (.int y7), .val (.int y8), .val (.int y9_2)] [])) := by
      intro TJ17 loJ17 XJ17 eJ17 NJ17 y9_2 hy9_2
      have J18 : ∀ (TJ18 : State) (loJ18 : List Loc) (XJ18 : Stand p l e room_1 s m #[(.int u0), (.int u1), (.int u2), (.int u3), (.int u4), (.int u5)] below meth c TJ18 loJ18 1 4) (eJ18 : TJ18.heap = h14) (NJ18 : Fr n0 loJ18) (y9_1 : Int32), (y9_1 = (own_e ka kt ff 1 (own_e ka kt ff 2 (own_e ka kt ff 3 y7)))) → own_E p e below s (Q0 Z u0 u1 u2 u3 u4 u5 h0 n0) 1 4 (TJ18.setTop (mkF m 137 #[.val (.int u0), .val (.int u1), .val (.int u2), .val (.int u3), .val (.int u4), .val (.int u5), .val (.ref b1), .val (.int y7), .val (.int y8), .val (.int y9_1)] [])) := by
        intro TJ18 loJ18 XJ18 eJ18 NJ18 y9_1 hy9_1
        have J19 : ∀ (TJ19 : State) (loJ19 : List Loc) (XJ19 : Stand p l e room_1 s m #[(.int u0), (.int u1), (.int u2), (.int u3), (.int u4), (.int u5)] below meth c TJ19 loJ19 1 4) (eJ19 : TJ19.heap = h14) (NJ19 : Fr n0 loJ19) (y9_0 : Int32), (y9_0 = (own_e ka kt ff 0 (own_e ka kt ff 1 (own_e ka kt ff 2 (own_e ka kt ff 3 y7))))) → own_E p e below s (Q0 Z u0 u1 u2 u3 u4 u5 h0 n0) 1 4 (TJ19.setTop (mkF m 162 #[.val (.int u0), .val (.int u1), .val (.int u2), .val (.int u3), .val (.int u4), .val (.int u5), .val (.ref b1), .val (.int y7), .val (.int y8), .val (.int y9_0)] [])) := by
          intro TJ19 loJ19 XJ19 eJ19 NJ19 y9_0 hy9_0
          refine own_st (B := TJ19.setTop (mkF m 164 #[.val (.int u0), .val (.int u1), .val (.int u2), .val (.int u3), .val (.int u4), .val (.int u5), .val (.ref b1), .val (.int y7), .val (.int y8), .val (.int y9_0)] [(.ref b1)])) (fun t_ k_ => XS.aload XJ19.here hx rfl (hb hby at_162) rfl rfl k_) ?_
          refine own_st (B := TJ19.setTop (mkF m 166 #[.val (.int u0), .val (.int u1), .val (.int u2), .val (.int u3), .val (.int u4), .val (.int u5), .val (.ref b1), .val (.int y7), .val (.int y8), .val (.int y9_0)] [(.int y8), (.ref b1)])) (fun t_ k_ => XS.iload XJ19.here hx rfl (hb hby at_164) rfl k_) ?_
          refine own_st (B := TJ19.setTop (mkF m 168 #[.val (.int u0), .val (.int u1), .val (.int u2), .val (.int u3), .val (.int u4), .val (.int u5), .val (.ref b1), .val (.int y7), .val (.int y8), .val (.int y9_0)] [(.int y7), (.int y8), (.ref b1)])) (fun t_ k_ => XS.iload XJ19.here hx rfl (hb hby at_166) rfl k_) ?_
          obtain ⟨_, _, ⟨T20, L20, k20, n20⟩, -, X20, ⟨Lc20, hQ20, l20, y20, z20⟩, st20⟩ := Jvm.LawKit.callS XJ19 hx (y := (⟨"com/example/tidemark/tidemark/Json", "skipWhitespace", "([BII)I"⟩ : MethodName)) hown (mvT hZ (hw _ (List.mem_of_getElem? (i := 9) rfl))) (mvT hZ (hw _ (List.mem_of_getElem? (i := 10) rfl))) (mvT hZ (hw _ (List.mem_of_getElem? (i := 11) rfl))) (mvT hZ (hw _ (List.mem_of_getElem? (i := 12) rfl))) (by decide) (backOf (W := 0) (rm3 l Z a0 hw [] b1 y8 y7 ka kt 4 ff h14 n0 Z15 aff hka hkt (by omega) (by omega) (by decide)) hZ (hw _ (List.mem_of_getElem? (i := 12) rfl)) (hw _ (List.mem_of_getElem? (i := 11) rfl)) (by decide) (by decide)) (g := (mkF m 168 #[.val (.int u0), .val (.int u1), .val (.int u2), .val (.int u3), .val (.int u4), .val (.int u5), .val (.ref b1), .val (.int y7), .val (.int y8), .val (.int y9_0)] [(.int y7), (.int y8), (.ref b1)])) rfl (by rw [hml]; rfl) (argsL := [(.ref b1), (.int y8), (.int y7)]) (rest := []) (lenOf own_pd1 rfl) rfl (by show 2 * 0 + _ ≤ _; exact Nat.le_of_eq rfl) (hb hby at_168) (fun _ _ => ⟨rfl, eJ19, (by decide : 1 + 0 ≤ _), (by decide : 4 + 0 ≤ _)⟩)
          dsimp only [Pt.U, Pt.locs, Pt.cells, Pt.slots] at X20 l20 y20 z20 st20 hQ20
          subst l20 y20 z20
          obtain ⟨y20, r20, rfl, hy20, hr20, hr'20, hw20, hn20, N20q, eh20⟩ := hQ20
          have N20 := Fr.app NJ19 N20q
          refine own_st (B := T20.setTop (mkF m 171 #[.val (.int u0), .val (.int u1), .val (.int u2), .val (.int u3), .val (.int u4), .val (.int u5), .val (.ref b1), .val (.int y7), .val (.int y8), .val (.int y9_0)] [(.int y20)])) st20 ?_
          refine own_st (B := T20.setTop (mkF m 173 #[.val (.int u0), .val (.int u1), .val (.int u2), .val (.int u3), .val (.int u4), .val (.int u5), .val (.ref b1), .val (.int y7), .val (.int y8), .val (.int y9_0)] [(.int y9_0), (.int y20)])) (fun t_ k_ => XS.iload X20.here hx rfl (hb hby at_171) rfl k_) ?_
          have hc21 : y20 = y9_0 := (own_key (by omega) (by omega) hy20 hkt hr20 hr'20 hw20 hn20).trans hy9_0.symm
          have hd21 := own_eq32 hc21
          refine own_st (B := T20.setTop (mkF m 176 #[.val (.int u0), .val (.int u1), .val (.int u2), .val (.int u3), .val (.int u4), .val (.int u5), .val (.ref b1), .val (.int y7), .val (.int y8), .val (.int y9_0)] [])) (fun t_ k_ => XS.icmpNo X20.here hx rfl (hb hby at_173) rfl (teq hc21).2 k_) ?_
          refine own_st (B := T20.setTop (mkF m 177 #[.val (.int u0), .val (.int u1), .val (.int u2), .val (.int u3), .val (.int u4), .val (.int u5), .val (.ref b1), .val (.int y7), .val (.int y8), .val (.int y9_0)] [(.int (1 : Int32))])) (fun t_ k_ => XS.iconst X20.here hx rfl (hb hby at_176) k_) ?_
          refine own_st (B := T20.setTop (mkF m 181 #[.val (.int u0), .val (.int u1), .val (.int u2), .val (.int u3), .val (.int u4), .val (.int u5), .val (.ref b1), .val (.int y7), .val (.int y8), .val (.int y9_0)] [(.int (1 : Int32))])) (fun t_ k_ => XS.goto X20.here hx rfl (pc0 := 177) (pc' := 181) rfl (hb hby at_177) (by decide) (by decide) k_) ?_
          refine own_retN X20 hx (t := .boolean) Bd.returns (by simp) hlk (hb hby at_181) (z' := (1 : Int32)) (by first | rfl | exact own_nb _ | exact own_nbb _) (by decide) (by decide) ?_
          show Q0 Z u0 u1 u2 u3 u4 u5 h0 n0 _ T20.heap _
          rw [eh20]
          exact ⟨rfl, N20⟩
        refine own_st (B := TJ18.setTop (mkF m 138 #[.val (.int u0), .val (.int u1), .val (.int u2), .val (.int u3), .val (.int u4), .val (.int u5), .val (.ref b1), .val (.int y7), .val (.int y8), .val (.int y9_1)] [(.int (0 : Int32))])) (fun t_ k_ => XS.iconst XJ18.here hx rfl (hb hby at_137) k_) ?_
        refine own_st (B := TJ18.setTop (mkF m 140 #[.val (.int u0), .val (.int u1), .val (.int u2), .val (.int u3), .val (.int u4), .val (.int u5), .val (.ref b1), .val (.int y7), .val (.int y8), .val (.int y9_1)] [(.int y8), (.int (0 : Int32))])) (fun t_ k_ => XS.iload XJ18.here hx rfl (hb hby at_138) rfl k_) ?_
        by_cases hc22 : (0 : Int32) < y8
        · have hd22 := own_lt32 hc22
          rw [show (0 : Int32).toInt = 0 from rfl] at hd22
          refine own_st (B := TJ18.setTop (mkF m 162 #[.val (.int u0), .val (.int u1), .val (.int u2), .val (.int u3), .val (.int u4), .val (.int u5), .val (.ref b1), .val (.int y7), .val (.int y8), .val (.int y9_1)] [])) (fun t_ k_ => XS.icmpYes XJ18.here hx rfl (pc0 := 140) (pc' := 162) rfl (hb hby at_140) rfl (tlt hc22).1 (by decide) (by decide) k_) ?_
          exact J19 _ _ XJ18 eJ18 NJ18 y9_1 (hy9_1.trans (if_neg (fun q' => by omega)).symm)
        · have hd22 := own_nlt32 hc22
          rw [show (0 : Int32).toInt = 0 from rfl] at hd22
          refine own_st (B := TJ18.setTop (mkF m 143 #[.val (.int u0), .val (.int u1), .val (.int u2), .val (.int u3), .val (.int u4), .val (.int u5), .val (.ref b1), .val (.int y7), .val (.int y8), .val (.int y9_1)] [])) (fun t_ k_ => XS.icmpNo XJ18.here hx rfl (hb hby at_140) rfl (flt hc22).1 k_) ?_
          refine own_st (B := TJ18.setTop (mkF m 144 #[.val (.int u0), .val (.int u1), .val (.int u2), .val (.int u3), .val (.int u4), .val (.int u5), .val (.ref b1), .val (.int y7), .val (.int y8), .val (.int y9_1)] [(.int (0 : Int32))])) (fun t_ k_ => XS.iconst XJ18.here hx rfl (hb hby at_143) k_) ?_
          refine own_st (B := TJ18.setTop (mkF m 146 #[.val (.int u0), .val (.int u1), .val (.int u2), .val (.int u3), .val (.int u4), .val (.int u5), .val (.ref b1), .val (.int y7), .val (.int y8), .val (.int y9_1)] [(.int y7), (.int (0 : Int32))])) (fun t_ k_ => XS.iload XJ18.here hx rfl (hb hby at_144) rfl k_) ?_
          by_cases hc23 : (0 : Int32) < y7
          · have hd23 := own_lt32 hc23
            rw [show (0 : Int32).toInt = 0 from rfl] at hd23
            refine own_st (B := TJ18.setTop (mkF m 149 #[.val (.int u0), .val (.int u1), .val (.int u2), .val (.int u3), .val (.int u4), .val (.int u5), .val (.ref b1), .val (.int y7), .val (.int y8), .val (.int y9_1)] [])) (fun t_ k_ => XS.icmpNo XJ18.here hx rfl (hb hby at_146) rfl (tlt hc23).2.1 k_) ?_
            refine own_st (B := TJ18.setTop (mkF m 151 #[.val (.int u0), .val (.int u1), .val (.int u2), .val (.int u3), .val (.int u4), .val (.int u5), .val (.ref b1), .val (.int y7), .val (.int y8), .val (.int y9_1)] [(.ref b1)])) (fun t_ k_ => XS.aload XJ18.here hx rfl (hb hby at_149) rfl rfl k_) ?_
            refine own_st (B := TJ18.setTop (mkF m 152 #[.val (.int u0), .val (.int u1), .val (.int u2), .val (.int u3), .val (.int u4), .val (.int u5), .val (.ref b1), .val (.int y7), .val (.int y8), .val (.int y9_1)] [(.int (0 : Int32)), (.ref b1)])) (fun t_ k_ => XS.iconst XJ18.here hx rfl (hb hby at_151) k_) ?_
            refine own_st (B := TJ18.setTop (mkF m 153 #[.val (.int u0), .val (.int u1), .val (.int u2), .val (.int u3), .val (.int u4), .val (.int u5), .val (.ref b1), .val (.int y7), .val (.int y8), .val (.int y9_1)] [(.int (ff 0))])) (fun t_ k_ => own_ldB XJ18 hx hZ eJ18 aff (i := 0) (by decide) (by decide) (hb hby at_152) t_ k_) ?_
            obtain ⟨_, _, ⟨T24, L24, k24, n24⟩, -, X24, ⟨Lc24, hQ24, l24, y24, z24⟩, st24⟩ := Jvm.LawKit.callS XJ18 hx (y := (⟨"com/example/tidemark/tidemark/JsonSkipWhitespacePinLaw", "white", "(B)Z"⟩ : MethodName)) hown (mvT hZ (hw _ (List.mem_of_getElem? (i := 6) rfl))) (mvT hZ (hw _ (List.mem_of_getElem? (i := 7) rfl))) (mvT hZ (hw _ (List.mem_of_getElem? (i := 3) rfl))) (mvT hZ (hw _ (List.mem_of_getElem? (i := 8) rfl))) (by decide) (backOf (W := 0) (rm2 l Z a0 hw [] (ff 0) h14 n0 Z15 ) hZ (hw _ (List.mem_of_getElem? (i := 8) rfl)) (hw _ (List.mem_of_getElem? (i := 3) rfl)) (by decide) (by decide)) (g := (mkF m 153 #[.val (.int u0), .val (.int u1), .val (.int u2), .val (.int u3), .val (.int u4), .val (.int u5), .val (.ref b1), .val (.int y7), .val (.int y8), .val (.int y9_1)] [(.int (ff 0))])) rfl (by rw [hml]; rfl) (argsL := [(.int (ff 0))]) (rest := []) (lenOf own_pd2 rfl) rfl (by show 2 * 0 + _ ≤ _; exact Nat.le_of_eq rfl) (hb hby at_153) (fun _ _ => ⟨rfl, eJ18, (by decide : 1 + 0 ≤ _), (by decide : 4 + 0 ≤ _)⟩)
            dsimp only [Pt.U, Pt.locs, Pt.cells, Pt.slots] at X24 l24 y24 z24 st24 hQ24
            subst l24 y24 z24
            obtain ⟨rfl, N24q, eh24⟩ := hQ24
            have N24 := Fr.app NJ18 N24q
            refine own_st (B := T24.setTop (mkF m 156 #[.val (.int u0), .val (.int u1), .val (.int u2), .val (.int u3), .val (.int u4), .val (.int u5), .val (.ref b1), .val (.int y7), .val (.int y8), .val (.int y9_1)] [(.int (own_b (own_wh (ff 0))))])) st24 ?_
            by_cases hc25 : (own_wh (ff 0)) = false
            · refine own_st (B := T24.setTop (mkF m 159 #[.val (.int u0), .val (.int u1), .val (.int u2), .val (.int u3), .val (.int u4), .val (.int u5), .val (.ref b1), .val (.int y7), .val (.int y8), .val (.int y9_1)] [])) (fun t_ k_ => XS.ifNo X24.here hx rfl (hb hby at_156) rfl ((if0 _ _).trans (teq (own_b0.mpr hc25)).2) k_) ?_
              refine own_st (B := T24.setTop (mkF m 160 #[.val (.int u0), .val (.int u1), .val (.int u2), .val (.int u3), .val (.int u4), .val (.int u5), .val (.ref b1), .val (.int y7), .val (.int y8), .val (.int y9_1)] [(.int (0 : Int32))])) (fun t_ k_ => XS.iconst X24.here hx rfl (hb hby at_159) k_) ?_
              refine own_st (B := T24.setTop (mkF m 162 #[.val (.int u0), .val (.int u1), .val (.int u2), .val (.int u3), .val (.int u4), .val (.int u5), .val (.ref b1), .val (.int y7), .val (.int y8), .val (.int (0 : Int32))] [])) (fun t_ k_ => XS.istore X24.here hx rfl (hb hby at_160) rfl (l' := #[.val (.int u0), .val (.int u1), .val (.int u2), .val (.int u3), .val (.int u4), .val (.int u5), .val (.ref b1), .val (.int y7), .val (.int y8), .val (.int (0 : Int32))]) rfl k_) ?_
              exact J19 _ _ X24 eh24 N24 (0 : Int32) (if_pos ⟨by omega, by omega, hc25⟩).symm
            · refine own_st (B := T24.setTop (mkF m 162 #[.val (.int u0), .val (.int u1), .val (.int u2), .val (.int u3), .val (.int u4), .val (.int u5), .val (.ref b1), .val (.int y7), .val (.int y8), .val (.int y9_1)] [])) (fun t_ k_ => XS.ifYes X24.here hx rfl (pc0 := 156) (pc' := 162) rfl (hb hby at_156) rfl ((if0 _ _).trans (feq (fun q => hc25 (own_b0.mp q))).2) (by decide) (by decide) k_) ?_
              exact J19 _ _ X24 eh24 N24 y9_1 (hy9_1.trans (if_neg (fun q' => hc25 q'.2.2)).symm)
          · have hd23 := own_nlt32 hc23
            rw [show (0 : Int32).toInt = 0 from rfl] at hd23
            refine own_st (B := TJ18.setTop (mkF m 162 #[.val (.int u0), .val (.int u1), .val (.int u2), .val (.int u3), .val (.int u4), .val (.int u5), .val (.ref b1), .val (.int y7), .val (.int y8), .val (.int y9_1)] [])) (fun t_ k_ => XS.icmpYes XJ18.here hx rfl (pc0 := 146) (pc' := 162) rfl (hb hby at_146) rfl (flt hc23).2.1 (by decide) (by decide) k_) ?_
            exact J19 _ _ XJ18 eJ18 NJ18 y9_1 (hy9_1.trans (if_neg (fun q' => by omega)).symm)
      refine own_st (B := TJ17.setTop (mkF m 113 #[.val (.int u0), .val (.int u1), .val (.int u2), .val (.int u3), .val (.int u4), .val (.int u5), .val (.ref b1), .val (.int y7), .val (.int y8), .val (.int y9_2)] [(.int (1 : Int32))])) (fun t_ k_ => XS.iconst XJ17.here hx rfl (hb hby at_112) k_) ?_
      refine own_st (B := TJ17.setTop (mkF m 115 #[.val (.int u0), .val (.int u1), .val (.int u2), .val (.int u3), .val (.int u4), .val (.int u5), .val (.ref b1), .val (.int y7), .val (.int y8), .val (.int y9_2)] [(.int y8), (.int (1 : Int32))])) (fun t_ k_ => XS.iload XJ17.here hx rfl (hb hby at_113) rfl k_) ?_
      by_cases hc26 : (1 : Int32) < y8
      · have hd26 := own_lt32 hc26
        rw [show (1 : Int32).toInt = 1 from rfl] at hd26
        refine own_st (B := TJ17.setTop (mkF m 137 #[.val (.int u0), .val (.int u1), .val (.int u2), .val (.int u3), .val (.int u4), .val (.int u5), .val (.ref b1), .val (.int y7), .val (.int y8), .val (.int y9_2)] [])) (fun t_ k_ => XS.icmpYes XJ17.here hx rfl (pc0 := 115) (pc' := 137) rfl (hb hby at_115) rfl (tlt hc26).1 (by decide) (by decide) k_) ?_
        exact J18 _ _ XJ17 eJ17 NJ17 y9_2 (hy9_2.trans (if_neg (fun q' => by omega)).symm)
      · have hd26 := own_nlt32 hc26
        rw [show (1 : Int32).toInt = 1 from rfl] at hd26
        refine own_st (B := TJ17.setTop (mkF m 118 #[.val (.int u0), .val (.int u1), .val (.int u2), .val (.int u3), .val (.int u4), .val (.int u5), .val (.ref b1), .val (.int y7), .val (.int y8), .val (.int y9_2)] [])) (fun t_ k_ => XS.icmpNo XJ17.here hx rfl (hb hby at_115) rfl (flt hc26).1 k_) ?_
        refine own_st (B := TJ17.setTop (mkF m 119 #[.val (.int u0), .val (.int u1), .val (.int u2), .val (.int u3), .val (.int u4), .val (.int u5), .val (.ref b1), .val (.int y7), .val (.int y8), .val (.int y9_2)] [(.int (1 : Int32))])) (fun t_ k_ => XS.iconst XJ17.here hx rfl (hb hby at_118) k_) ?_
        refine own_st (B := TJ17.setTop (mkF m 121 #[.val (.int u0), .val (.int u1), .val (.int u2), .val (.int u3), .val (.int u4), .val (.int u5), .val (.ref b1), .val (.int y7), .val (.int y8), .val (.int y9_2)] [(.int y7), (.int (1 : Int32))])) (fun t_ k_ => XS.iload XJ17.here hx rfl (hb hby at_119) rfl k_) ?_
        by_cases hc27 : (1 : Int32) < y7
        · have hd27 := own_lt32 hc27
          rw [show (1 : Int32).toInt = 1 from rfl] at hd27
          refine own_st (B := TJ17.setTop (mkF m 124 #[.val (.int u0), .val (.int u1), .val (.int u2), .val (.int u3), .val (.int u4), .val (.int u5), .val (.ref b1), .val (.int y7), .val (.int y8), .val (.int y9_2)] [])) (fun t_ k_ => XS.icmpNo XJ17.here hx rfl (hb hby at_121) rfl (tlt hc27).2.1 k_) ?_
          refine own_st (B := TJ17.setTop (mkF m 126 #[.val (.int u0), .val (.int u1), .val (.int u2), .val (.int u3), .val (.int u4), .val (.int u5), .val (.ref b1), .val (.int y7), .val (.int y8), .val (.int y9_2)] [(.ref b1)])) (fun t_ k_ => XS.aload XJ17.here hx rfl (hb hby at_124) rfl rfl k_) ?_
          refine own_st (B := TJ17.setTop (mkF m 127 #[.val (.int u0), .val (.int u1), .val (.int u2), .val (.int u3), .val (.int u4), .val (.int u5), .val (.ref b1), .val (.int y7), .val (.int y8), .val (.int y9_2)] [(.int (1 : Int32)), (.ref b1)])) (fun t_ k_ => XS.iconst XJ17.here hx rfl (hb hby at_126) k_) ?_
          refine own_st (B := TJ17.setTop (mkF m 128 #[.val (.int u0), .val (.int u1), .val (.int u2), .val (.int u3), .val (.int u4), .val (.int u5), .val (.ref b1), .val (.int y7), .val (.int y8), .val (.int y9_2)] [(.int (ff 1))])) (fun t_ k_ => own_ldB XJ17 hx hZ eJ17 aff (i := 1) (by decide) (by decide) (hb hby at_127) t_ k_) ?_
          obtain ⟨_, _, ⟨T28, L28, k28, n28⟩, -, X28, ⟨Lc28, hQ28, l28, y28, z28⟩, st28⟩ := Jvm.LawKit.callS XJ17 hx (y := (⟨"com/example/tidemark/tidemark/JsonSkipWhitespacePinLaw", "white", "(B)Z"⟩ : MethodName)) hown (mvT hZ (hw _ (List.mem_of_getElem? (i := 6) rfl))) (mvT hZ (hw _ (List.mem_of_getElem? (i := 7) rfl))) (mvT hZ (hw _ (List.mem_of_getElem? (i := 3) rfl))) (mvT hZ (hw _ (List.mem_of_getElem? (i := 8) rfl))) (by decide) (backOf (W := 0) (rm2 l Z a0 hw [] (ff 1) h14 n0 Z15 ) hZ (hw _ (List.mem_of_getElem? (i := 8) rfl)) (hw _ (List.mem_of_getElem? (i := 3) rfl)) (by decide) (by decide)) (g := (mkF m 128 #[.val (.int u0), .val (.int u1), .val (.int u2), .val (.int u3), .val (.int u4), .val (.int u5), .val (.ref b1), .val (.int y7), .val (.int y8), .val (.int y9_2)] [(.int (ff 1))])) rfl (by rw [hml]; rfl) (argsL := [(.int (ff 1))]) (rest := []) (lenOf own_pd2 rfl) rfl (by show 2 * 0 + _ ≤ _; exact Nat.le_of_eq rfl) (hb hby at_128) (fun _ _ => ⟨rfl, eJ17, (by decide : 1 + 0 ≤ _), (by decide : 4 + 0 ≤ _)⟩)
          dsimp only [Pt.U, Pt.locs, Pt.cells, Pt.slots] at X28 l28 y28 z28 st28 hQ28
          subst l28 y28 z28
          obtain ⟨rfl, N28q, eh28⟩ := hQ28
          have N28 := Fr.app NJ17 N28q
          refine own_st (B := T28.setTop (mkF m 131 #[.val (.int u0), .val (.int u1), .val (.int u2), .val (.int u3), .val (.int u4), .val (.int u5), .val (.ref b1), .val (.int y7), .val (.int y8), .val (.int y9_2)] [(.int (own_b (own_wh (ff 1))))])) st28 ?_
          by_cases hc29 : (own_wh (ff 1)) = false
          · refine own_st (B := T28.setTop (mkF m 134 #[.val (.int u0), .val (.int u1), .val (.int u2), .val (.int u3), .val (.int u4), .val (.int u5), .val (.ref b1), .val (.int y7), .val (.int y8), .val (.int y9_2)] [])) (fun t_ k_ => XS.ifNo X28.here hx rfl (hb hby at_131) rfl ((if0 _ _).trans (teq (own_b0.mpr hc29)).2) k_) ?_
            refine own_st (B := T28.setTop (mkF m 135 #[.val (.int u0), .val (.int u1), .val (.int u2), .val (.int u3), .val (.int u4), .val (.int u5), .val (.ref b1), .val (.int y7), .val (.int y8), .val (.int y9_2)] [(.int (1 : Int32))])) (fun t_ k_ => XS.iconst X28.here hx rfl (hb hby at_134) k_) ?_
            refine own_st (B := T28.setTop (mkF m 137 #[.val (.int u0), .val (.int u1), .val (.int u2), .val (.int u3), .val (.int u4), .val (.int u5), .val (.ref b1), .val (.int y7), .val (.int y8), .val (.int (1 : Int32))] [])) (fun t_ k_ => XS.istore X28.here hx rfl (hb hby at_135) rfl (l' := #[.val (.int u0), .val (.int u1), .val (.int u2), .val (.int u3), .val (.int u4), .val (.int u5), .val (.ref b1), .val (.int y7), .val (.int y8), .val (.int (1 : Int32))]) rfl k_) ?_
            exact J18 _ _ X28 eh28 N28 (1 : Int32) (if_pos ⟨by omega, by omega, hc29⟩).symm
          · refine own_st (B := T28.setTop (mkF m 137 #[.val (.int u0), .val (.int u1), .val (.int u2), .val (.int u3), .val (.int u4), .val (.int u5), .val (.ref b1), .val (.int y7), .val (.int y8), .val (.int y9_2)] [])) (fun t_ k_ => XS.ifYes X28.here hx rfl (pc0 := 131) (pc' := 137) rfl (hb hby at_131) rfl ((if0 _ _).trans (feq (fun q => hc29 (own_b0.mp q))).2) (by decide) (by decide) k_) ?_
            exact J18 _ _ X28 eh28 N28 y9_2 (hy9_2.trans (if_neg (fun q' => hc29 q'.2.2)).symm)
        · have hd27 := own_nlt32 hc27
          rw [show (1 : Int32).toInt = 1 from rfl] at hd27
          refine own_st (B := TJ17.setTop (mkF m 137 #[.val (.int u0), .val (.int u1), .val (.int u2), .val (.int u3), .val (.int u4), .val (.int u5), .val (.ref b1), .val (.int y7), .val (.int y8), .val (.int y9_2)] [])) (fun t_ k_ => XS.icmpYes XJ17.here hx rfl (pc0 := 121) (pc' := 137) rfl (hb hby at_121) rfl (flt hc27).2.1 (by decide) (by decide) k_) ?_
          exact J18 _ _ XJ17 eJ17 NJ17 y9_2 (hy9_2.trans (if_neg (fun q' => by omega)).symm)
    refine own_st (B := TJ16.setTop (mkF m 88 #[.val (.int u0), .val (.int u1), .val (.int u2), .val (.int u3), .val (.int u4), .val (.int u5), .val (.ref b1), .val (.int y7), .val (.int y8), .val (.int y9_3)] [(.int (2 : Int32))])) (fun t_ k_ => XS.iconst XJ16.here hx rfl (hb hby at_87) k_) ?_
    refine own_st (B := TJ16.setTop (mkF m 90 #[.val (.int u0), .val (.int u1), .val (.int u2), .val (.int u3), .val (.int u4), .val (.int u5), .val (.ref b1), .val (.int y7), .val (.int y8), .val (.int y9_3)] [(.int y8), (.int (2 : Int32))])) (fun t_ k_ => XS.iload XJ16.here hx rfl (hb hby at_88) rfl k_) ?_
    by_cases hc30 : (2 : Int32) < y8
    · have hd30 := own_lt32 hc30
      rw [show (2 : Int32).toInt = 2 from rfl] at hd30
      refine own_st (B := TJ16.setTop (mkF m 112 #[.val (.int u0), .val (.int u1), .val (.int u2), .val (.int u3), .val (.int u4), .val (.int u5), .val (.ref b1), .val (.int y7), .val (.int y8), .val (.int y9_3)] [])) (fun t_ k_ => XS.icmpYes XJ16.here hx rfl (pc0 := 90) (pc' := 112) rfl (hb hby at_90) rfl (tlt hc30).1 (by decide) (by decide) k_) ?_
      exact J17 _ _ XJ16 eJ16 NJ16 y9_3 (hy9_3.trans (if_neg (fun q' => by omega)).symm)
    · have hd30 := own_nlt32 hc30
      rw [show (2 : Int32).toInt = 2 from rfl] at hd30
      refine own_st (B := TJ16.setTop (mkF m 93 #[.val (.int u0), .val (.int u1), .val (.int u2), .val (.int u3), .val (.int u4), .val (.int u5), .val (.ref b1), .val (.int y7), .val (.int y8), .val (.int y9_3)] [])) (fun t_ k_ => XS.icmpNo XJ16.here hx rfl (hb hby at_90) rfl (flt hc30).1 k_) ?_
      refine own_st (B := TJ16.setTop (mkF m 94 #[.val (.int u0), .val (.int u1), .val (.int u2), .val (.int u3), .val (.int u4), .val (.int u5), .val (.ref b1), .val (.int y7), .val (.int y8), .val (.int y9_3)] [(.int (2 : Int32))])) (fun t_ k_ => XS.iconst XJ16.here hx rfl (hb hby at_93) k_) ?_
      refine own_st (B := TJ16.setTop (mkF m 96 #[.val (.int u0), .val (.int u1), .val (.int u2), .val (.int u3), .val (.int u4), .val (.int u5), .val (.ref b1), .val (.int y7), .val (.int y8), .val (.int y9_3)] [(.int y7), (.int (2 : Int32))])) (fun t_ k_ => XS.iload XJ16.here hx rfl (hb hby at_94) rfl k_) ?_
      by_cases hc31 : (2 : Int32) < y7
      · have hd31 := own_lt32 hc31
        rw [show (2 : Int32).toInt = 2 from rfl] at hd31
        refine own_st (B := TJ16.setTop (mkF m 99 #[.val (.int u0), .val (.int u1), .val (.int u2), .val (.int u3), .val (.int u4), .val (.int u5), .val (.ref b1), .val (.int y7), .val (.int y8), .val (.int y9_3)] [])) (fun t_ k_ => XS.icmpNo XJ16.here hx rfl (hb hby at_96) rfl (tlt hc31).2.1 k_) ?_
        refine own_st (B := TJ16.setTop (mkF m 101 #[.val (.int u0), .val (.int u1), .val (.int u2), .val (.int u3), .val (.int u4), .val (.int u5), .val (.ref b1), .val (.int y7), .val (.int y8), .val (.int y9_3)] [(.ref b1)])) (fun t_ k_ => XS.aload XJ16.here hx rfl (hb hby at_99) rfl rfl k_) ?_
        refine own_st (B := TJ16.setTop (mkF m 102 #[.val (.int u0), .val (.int u1), .val (.int u2), .val (.int u3), .val (.int u4), .val (.int u5), .val (.ref b1), .val (.int y7), .val (.int y8), .val (.int y9_3)] [(.int (2 : Int32)), (.ref b1)])) (fun t_ k_ => XS.iconst XJ16.here hx rfl (hb hby at_101) k_) ?_
        refine own_st (B := TJ16.setTop (mkF m 103 #[.val (.int u0), .val (.int u1), .val (.int u2), .val (.int u3), .val (.int u4), .val (.int u5), .val (.ref b1), .val (.int y7), .val (.int y8), .val (.int y9_3)] [(.int (ff 2))])) (fun t_ k_ => own_ldB XJ16 hx hZ eJ16 aff (i := 2) (by decide) (by decide) (hb hby at_102) t_ k_) ?_
        obtain ⟨_, _, ⟨T32, L32, k32, n32⟩, -, X32, ⟨Lc32, hQ32, l32, y32, z32⟩, st32⟩ := Jvm.LawKit.callS XJ16 hx (y := (⟨"com/example/tidemark/tidemark/JsonSkipWhitespacePinLaw", "white", "(B)Z"⟩ : MethodName)) hown (mvT hZ (hw _ (List.mem_of_getElem? (i := 6) rfl))) (mvT hZ (hw _ (List.mem_of_getElem? (i := 7) rfl))) (mvT hZ (hw _ (List.mem_of_getElem? (i := 3) rfl))) (mvT hZ (hw _ (List.mem_of_getElem? (i := 8) rfl))) (by decide) (backOf (W := 0) (rm2 l Z a0 hw [] (ff 2) h14 n0 Z15 ) hZ (hw _ (List.mem_of_getElem? (i := 8) rfl)) (hw _ (List.mem_of_getElem? (i := 3) rfl)) (by decide) (by decide)) (g := (mkF m 103 #[.val (.int u0), .val (.int u1), .val (.int u2), .val (.int u3), .val (.int u4), .val (.int u5), .val (.ref b1), .val (.int y7), .val (.int y8), .val (.int y9_3)] [(.int (ff 2))])) rfl (by rw [hml]; rfl) (argsL := [(.int (ff 2))]) (rest := []) (lenOf own_pd2 rfl) rfl (by show 2 * 0 + _ ≤ _; exact Nat.le_of_eq rfl) (hb hby at_103) (fun _ _ => ⟨rfl, eJ16, (by decide : 1 + 0 ≤ _), (by decide : 4 + 0 ≤ _)⟩)
        dsimp only [Pt.U, Pt.locs, Pt.cells, Pt.slots] at X32 l32 y32 z32 st32 hQ32
        subst l32 y32 z32
        obtain ⟨rfl, N32q, eh32⟩ := hQ32
        have N32 := Fr.app NJ16 N32q
        refine own_st (B := T32.setTop (mkF m 106 #[.val (.int u0), .val (.int u1), .val (.int u2), .val (.int u3), .val (.int u4), .val (.int u5), .val (.ref b1), .val (.int y7), .val (.int y8), .val (.int y9_3)] [(.int (own_b (own_wh (ff 2))))])) st32 ?_
        by_cases hc33 : (own_wh (ff 2)) = false
        · refine own_st (B := T32.setTop (mkF m 109 #[.val (.int u0), .val (.int u1), .val (.int u2), .val (.int u3), .val (.int u4), .val (.int u5), .val (.ref b1), .val (.int y7), .val (.int y8), .val (.int y9_3)] [])) (fun t_ k_ => XS.ifNo X32.here hx rfl (hb hby at_106) rfl ((if0 _ _).trans (teq (own_b0.mpr hc33)).2) k_) ?_
          refine own_st (B := T32.setTop (mkF m 110 #[.val (.int u0), .val (.int u1), .val (.int u2), .val (.int u3), .val (.int u4), .val (.int u5), .val (.ref b1), .val (.int y7), .val (.int y8), .val (.int y9_3)] [(.int (2 : Int32))])) (fun t_ k_ => XS.iconst X32.here hx rfl (hb hby at_109) k_) ?_
          refine own_st (B := T32.setTop (mkF m 112 #[.val (.int u0), .val (.int u1), .val (.int u2), .val (.int u3), .val (.int u4), .val (.int u5), .val (.ref b1), .val (.int y7), .val (.int y8), .val (.int (2 : Int32))] [])) (fun t_ k_ => XS.istore X32.here hx rfl (hb hby at_110) rfl (l' := #[.val (.int u0), .val (.int u1), .val (.int u2), .val (.int u3), .val (.int u4), .val (.int u5), .val (.ref b1), .val (.int y7), .val (.int y8), .val (.int (2 : Int32))]) rfl k_) ?_
          exact J17 _ _ X32 eh32 N32 (2 : Int32) (if_pos ⟨by omega, by omega, hc33⟩).symm
        · refine own_st (B := T32.setTop (mkF m 112 #[.val (.int u0), .val (.int u1), .val (.int u2), .val (.int u3), .val (.int u4), .val (.int u5), .val (.ref b1), .val (.int y7), .val (.int y8), .val (.int y9_3)] [])) (fun t_ k_ => XS.ifYes X32.here hx rfl (pc0 := 106) (pc' := 112) rfl (hb hby at_106) rfl ((if0 _ _).trans (feq (fun q => hc33 (own_b0.mp q))).2) (by decide) (by decide) k_) ?_
          exact J17 _ _ X32 eh32 N32 y9_3 (hy9_3.trans (if_neg (fun q' => hc33 q'.2.2)).symm)
      · have hd31 := own_nlt32 hc31
        rw [show (2 : Int32).toInt = 2 from rfl] at hd31
        refine own_st (B := TJ16.setTop (mkF m 112 #[.val (.int u0), .val (.int u1), .val (.int u2), .val (.int u3), .val (.int u4), .val (.int u5), .val (.ref b1), .val (.int y7), .val (.int y8), .val (.int y9_3)] [])) (fun t_ k_ => XS.icmpYes XJ16.here hx rfl (pc0 := 96) (pc' := 112) rfl (hb hby at_96) rfl (flt hc31).2.1 (by decide) (by decide) k_) ?_
        exact J17 _ _ XJ16 eJ16 NJ16 y9_3 (hy9_3.trans (if_neg (fun q' => by omega)).symm)
  refine own_st (B := T14.setTop (mkF m 63 #[.val (.int u0), .val (.int u1), .val (.int u2), .val (.int u3), .val (.int u4), .val (.int u5), .val (.ref b1), .val (.int y7), .val (.int y8), .val (.int y7)] [(.int (3 : Int32))])) (fun t_ k_ => XS.iconst X14.here hx rfl (hb hby at_62) k_) ?_
  refine own_st (B := T14.setTop (mkF m 65 #[.val (.int u0), .val (.int u1), .val (.int u2), .val (.int u3), .val (.int u4), .val (.int u5), .val (.ref b1), .val (.int y7), .val (.int y8), .val (.int y7)] [(.int y8), (.int (3 : Int32))])) (fun t_ k_ => XS.iload X14.here hx rfl (hb hby at_63) rfl k_) ?_
  by_cases hc34 : (3 : Int32) < y8
  · have hd34 := own_lt32 hc34
    rw [show (3 : Int32).toInt = 3 from rfl] at hd34
    refine own_st (B := T14.setTop (mkF m 87 #[.val (.int u0), .val (.int u1), .val (.int u2), .val (.int u3), .val (.int u4), .val (.int u5), .val (.ref b1), .val (.int y7), .val (.int y8), .val (.int y7)] [])) (fun t_ k_ => XS.icmpYes X14.here hx rfl (pc0 := 65) (pc' := 87) rfl (hb hby at_65) rfl (tlt hc34).1 (by decide) (by decide) k_) ?_
    exact J16 _ _ X14 e14 N14 y7 ((if_neg (fun q' => by omega)).symm)
  · have hd34 := own_nlt32 hc34
    rw [show (3 : Int32).toInt = 3 from rfl] at hd34
    refine own_st (B := T14.setTop (mkF m 68 #[.val (.int u0), .val (.int u1), .val (.int u2), .val (.int u3), .val (.int u4), .val (.int u5), .val (.ref b1), .val (.int y7), .val (.int y8), .val (.int y7)] [])) (fun t_ k_ => XS.icmpNo X14.here hx rfl (hb hby at_65) rfl (flt hc34).1 k_) ?_
    refine own_st (B := T14.setTop (mkF m 69 #[.val (.int u0), .val (.int u1), .val (.int u2), .val (.int u3), .val (.int u4), .val (.int u5), .val (.ref b1), .val (.int y7), .val (.int y8), .val (.int y7)] [(.int (3 : Int32))])) (fun t_ k_ => XS.iconst X14.here hx rfl (hb hby at_68) k_) ?_
    refine own_st (B := T14.setTop (mkF m 71 #[.val (.int u0), .val (.int u1), .val (.int u2), .val (.int u3), .val (.int u4), .val (.int u5), .val (.ref b1), .val (.int y7), .val (.int y8), .val (.int y7)] [(.int y7), (.int (3 : Int32))])) (fun t_ k_ => XS.iload X14.here hx rfl (hb hby at_69) rfl k_) ?_
    by_cases hc35 : (3 : Int32) < y7
    · have hd35 := own_lt32 hc35
      rw [show (3 : Int32).toInt = 3 from rfl] at hd35
      refine own_st (B := T14.setTop (mkF m 74 #[.val (.int u0), .val (.int u1), .val (.int u2), .val (.int u3), .val (.int u4), .val (.int u5), .val (.ref b1), .val (.int y7), .val (.int y8), .val (.int y7)] [])) (fun t_ k_ => XS.icmpNo X14.here hx rfl (hb hby at_71) rfl (tlt hc35).2.1 k_) ?_
      refine own_st (B := T14.setTop (mkF m 76 #[.val (.int u0), .val (.int u1), .val (.int u2), .val (.int u3), .val (.int u4), .val (.int u5), .val (.ref b1), .val (.int y7), .val (.int y8), .val (.int y7)] [(.ref b1)])) (fun t_ k_ => XS.aload X14.here hx rfl (hb hby at_74) rfl rfl k_) ?_
      refine own_st (B := T14.setTop (mkF m 77 #[.val (.int u0), .val (.int u1), .val (.int u2), .val (.int u3), .val (.int u4), .val (.int u5), .val (.ref b1), .val (.int y7), .val (.int y8), .val (.int y7)] [(.int (3 : Int32)), (.ref b1)])) (fun t_ k_ => XS.iconst X14.here hx rfl (hb hby at_76) k_) ?_
      refine own_st (B := T14.setTop (mkF m 78 #[.val (.int u0), .val (.int u1), .val (.int u2), .val (.int u3), .val (.int u4), .val (.int u5), .val (.ref b1), .val (.int y7), .val (.int y8), .val (.int y7)] [(.int (ff 3))])) (fun t_ k_ => own_ldB X14 hx hZ e14 aff (i := 3) (by decide) (by decide) (hb hby at_77) t_ k_) ?_
      obtain ⟨_, _, ⟨T36, L36, k36, n36⟩, -, X36, ⟨Lc36, hQ36, l36, y36, z36⟩, st36⟩ := Jvm.LawKit.callS X14 hx (y := (⟨"com/example/tidemark/tidemark/JsonSkipWhitespacePinLaw", "white", "(B)Z"⟩ : MethodName)) hown (mvT hZ (hw _ (List.mem_of_getElem? (i := 6) rfl))) (mvT hZ (hw _ (List.mem_of_getElem? (i := 7) rfl))) (mvT hZ (hw _ (List.mem_of_getElem? (i := 3) rfl))) (mvT hZ (hw _ (List.mem_of_getElem? (i := 8) rfl))) (by decide) (backOf (W := 0) (rm2 l Z a0 hw [] (ff 3) h14 n0 Z15 ) hZ (hw _ (List.mem_of_getElem? (i := 8) rfl)) (hw _ (List.mem_of_getElem? (i := 3) rfl)) (by decide) (by decide)) (g := (mkF m 78 #[.val (.int u0), .val (.int u1), .val (.int u2), .val (.int u3), .val (.int u4), .val (.int u5), .val (.ref b1), .val (.int y7), .val (.int y8), .val (.int y7)] [(.int (ff 3))])) rfl (by rw [hml]; rfl) (argsL := [(.int (ff 3))]) (rest := []) (lenOf own_pd2 rfl) rfl (by show 2 * 0 + _ ≤ _; exact Nat.le_of_eq rfl) (hb hby at_78) (fun _ _ => ⟨rfl, e14, (by decide : 1 + 0 ≤ _), (by decide : 4 + 0 ≤ _)⟩)
      dsimp only [Pt.U, Pt.locs, Pt.cells, Pt.slots] at X36 l36 y36 z36 st36 hQ36
      subst l36 y36 z36
      obtain ⟨rfl, N36q, eh36⟩ := hQ36
      have N36 := Fr.app N14 N36q
      refine own_st (B := T36.setTop (mkF m 81 #[.val (.int u0), .val (.int u1), .val (.int u2), .val (.int u3), .val (.int u4), .val (.int u5), .val (.ref b1), .val (.int y7), .val (.int y8), .val (.int y7)] [(.int (own_b (own_wh (ff 3))))])) st36 ?_
      by_cases hc37 : (own_wh (ff 3)) = false
      · refine own_st (B := T36.setTop (mkF m 84 #[.val (.int u0), .val (.int u1), .val (.int u2), .val (.int u3), .val (.int u4), .val (.int u5), .val (.ref b1), .val (.int y7), .val (.int y8), .val (.int y7)] [])) (fun t_ k_ => XS.ifNo X36.here hx rfl (hb hby at_81) rfl ((if0 _ _).trans (teq (own_b0.mpr hc37)).2) k_) ?_
        refine own_st (B := T36.setTop (mkF m 85 #[.val (.int u0), .val (.int u1), .val (.int u2), .val (.int u3), .val (.int u4), .val (.int u5), .val (.ref b1), .val (.int y7), .val (.int y8), .val (.int y7)] [(.int (3 : Int32))])) (fun t_ k_ => XS.iconst X36.here hx rfl (hb hby at_84) k_) ?_
        refine own_st (B := T36.setTop (mkF m 87 #[.val (.int u0), .val (.int u1), .val (.int u2), .val (.int u3), .val (.int u4), .val (.int u5), .val (.ref b1), .val (.int y7), .val (.int y8), .val (.int (3 : Int32))] [])) (fun t_ k_ => XS.istore X36.here hx rfl (hb hby at_85) rfl (l' := #[.val (.int u0), .val (.int u1), .val (.int u2), .val (.int u3), .val (.int u4), .val (.int u5), .val (.ref b1), .val (.int y7), .val (.int y8), .val (.int (3 : Int32))]) rfl k_) ?_
        exact J16 _ _ X36 eh36 N36 (3 : Int32) (if_pos ⟨by omega, by omega, hc37⟩).symm
      · refine own_st (B := T36.setTop (mkF m 87 #[.val (.int u0), .val (.int u1), .val (.int u2), .val (.int u3), .val (.int u4), .val (.int u5), .val (.ref b1), .val (.int y7), .val (.int y8), .val (.int y7)] [])) (fun t_ k_ => XS.ifYes X36.here hx rfl (pc0 := 81) (pc' := 87) rfl (hb hby at_81) rfl ((if0 _ _).trans (feq (fun q => hc37 (own_b0.mp q))).2) (by decide) (by decide) k_) ?_
        exact J16 _ _ X36 eh36 N36 y7 ((if_neg (fun q' => hc37 q'.2.2)).symm)
    · have hd35 := own_nlt32 hc35
      rw [show (3 : Int32).toInt = 3 from rfl] at hd35
      refine own_st (B := T14.setTop (mkF m 87 #[.val (.int u0), .val (.int u1), .val (.int u2), .val (.int u3), .val (.int u4), .val (.int u5), .val (.ref b1), .val (.int y7), .val (.int y8), .val (.int y7)] [])) (fun t_ k_ => XS.icmpYes X14.here hx rfl (pc0 := 71) (pc' := 87) rfl (hb hby at_71) rfl (flt hc35).2.1 (by decide) (by decide) k_) ?_
      exact J16 _ _ X14 e14 N14 y7 ((if_neg (fun q' => by omega)).symm)
set_option maxRecDepth 65536 in
set_option maxHeartbeats 40000000 in
theorem comes_1 {Post : Tables → Env → Array Value → State → Outcome → State → Prop} (hpost : ∀ tb e args s v u, (limb_1_1.after args s (.returned v) u = true ∧ limb_1_2.after args s (.returned v) u = true ∧ True) → FrameEnd s (.returned v) u (Jvm.fieldLocs frame_1_writes args s ++ Jvm.arrayLocs frame_1_arrays args s ++ Jvm.staticLocs frame_1_statics s) 16 128 → Post tb e args s (.returned v) u) :
    ArmFor flags0 classFile x code maxLocals ret World_1 tables_1 room_1 Calls_1 rest_1 Pre_1 Post := by
  intro l hfl _ _ p e ha hc hk s m args below hf hA hF happ hP
  obtain ⟨hcalls, hrest, hpre⟩ := hP
  obtain ⟨-, -, -, hnamed, -, -, -, hat⟩ := (Spec.applies_iff hf).mp happ
  obtain ⟨hg, hn⟩ := and_e (Cond.before_iff.mp (show (Jvm.Cond.and given_1 narrow_1).before args s = true from hpre))
  obtain ⟨gg1, gg2⟩ := and_e hg
  obtain ⟨gg3, gg4⟩ := and_e gg2
  obtain ⟨gg5, gg6⟩ := and_e gg4
  obtain ⟨gg7, gg8⟩ := and_e gg6
  obtain ⟨gg9, gg10⟩ := and_e gg8
  obtain ⟨gg11, gg12⟩ := and_e gg10
  obtain ⟨w0, w1, w2, w3, w4, w5, rfl⟩ : ∃ w0 w1 w2 w3 w4 w5 : Value, args = #[w0, w1, w2, w3, w4, w5] := by
    have hs : args.size = 6 := by simpa [Cond.value, given_1] using gg1
    obtain ⟨L⟩ := args
    match L, hs with
    | [w0, w1, w2, w3, w4, w5], _ => exact ⟨w0, w1, w2, w3, w4, w5, rfl⟩
  have hw := fun d (hd : d ∈ tables_1) => atoms_spec (ws := Jvm.Cond.code x code maxLocals ret :: tables_1) hat d (List.mem_cons_of_mem _ hd)
  have hfit : Fit s := fun {y c} hc i hi => by
    obtain ⟨ha, rfl⟩ := Array.getElem?_eq_some_iff.mp hc
    have q := List.all_eq_true.mp ((Array.all_eq_true_iff_forall_mem.mp hF) _ (Array.getElem_mem ha)) i (List.mem_range.mpr hi)
    simpa [Array.getElem?_eq_getElem hi] using q
  obtain ⟨i0, ei0⟩ := is_v gg3
  obtain rfl : w0 = (.int i0) := Option.some.inj ei0
  obtain ⟨i1, ei1⟩ := is_v gg5
  obtain rfl : w1 = (.int i1) := Option.some.inj ei1
  obtain ⟨i2, ei2⟩ := is_v gg7
  obtain rfl : w2 = (.int i2) := Option.some.inj ei2
  obtain ⟨i3, ei3⟩ := is_v gg9
  obtain rfl : w3 = (.int i3) := Option.some.inj ei3
  obtain ⟨i4, ei4⟩ := is_v gg11
  obtain rfl : w4 = (.int i4) := Option.some.inj ei4
  obtain ⟨i5, ei5⟩ := is_v gg12
  obtain rfl : w5 = (.int i5) := Option.some.inj ei5
  obtain ⟨n, o, h1, h2, h3, _, L, rfl, ⟨rfl, N⟩, hq⟩ := rm0 l s _ hw tables_1 i0 i1 i2 i3 i4 i5 s.heap s.heap.size (Nat.le_refl _)  p e ha hc hk s m _ below hf ((Spec.applies_iff_loose hf).mp happ).1 ⟨rfl, State.Warmed39.refl s, rfl⟩ trivial
  refine ⟨n, _, h1, h2, h3, hpost _ _ _ _ _ _ ⟨Cond.after_iff.mpr rfl, Cond.after_iff.mpr (eq_i res_at (Term.int_eval (1)) rfl), trivial⟩ ⟨hq.1, hq.2.1, (hq.2.2.sift fun y hy => Or.inr (N y hy)).mono (by decide) (by decide)⟩⟩
theorem main_1_1 : Claimed_1_1 := comes_1 fun _ _ _ _ _ _ h hF => ⟨h.1, hF⟩
theorem main_1_2 : Claimed_1_2 := comes_1 fun _ _ _ _ _ _ h hF => ⟨h.2.1, hF⟩
end Jvm.Pilot.@@N@@
namespace Jvm.Pilot.@@N@@
open Jvm Jvm.ClassFile Sem Op Lib Jvm.Free Jvm.Stand Jvm.Pilot.@@N@@.Jvm.D
/-! MADE BY PROGRAM (witnessworld.py) out of the Statement's table words and the real class files: 9 classes; the members and pool entries that the words name. The judged class is class 1, her method 3. -/
namespace start1
open Jvm.ClassFile
def u (s : String) : CpInfo := .utf8 (stringToUtf16 s)
/-- a pool by its gaps: so many unusable entries, then the entry; so many at the end -/
def gap : Nat → List CpInfo → List CpInfo
  | 0, r => r
  | n + 1, r => .unusable :: gap n r
def poolList (es : List (Nat × CpInfo)) (last : Nat) : List CpInfo := es.foldr (fun e r => gap e.1 (e.2 :: r)) (gap last [])
def pool (es : List (Nat × CpInfo)) (last : Nat) : Array CpInfo := ⟨poolList es last⟩
def fileOf (pool : Array CpInfo) (this : Nat) (attrs : Array Attribute := #[]) (ms : Array MethodInfo := #[]) (fl : Nat := 33) (sup : Nat := 0) (ifs : Array Nat := #[]) (fds : Array FieldInfo := #[]) : ClassFile where
  minorVersion := 0
  majorVersion := 65
  constantPool := pool
  accessFlags := fl
  thisClass := this
  superClass := sup
  interfaces := ifs
  fields := fds
  methods := ms
  attributes := attrs
def plain (name : String) (sup : Option ClassId) : Class where
  name := name
  kind := .ordinary
  loader := none
  accessFlags := 33
  super := sup
  interfaces := #[]
  cf := none
  fields := #[]
  methods := #[]
  instanceTypes := #[]
  staticTypes := #[]
  resolved := #[]
  callSites := []
  init := .initialized
  statics := none
  mirror := none

def pool0 : Array CpInfo := pool [(5, u "<init>"), (0, u "()V"), (1, .class_ 10), (1, u "java/lang/Object")] 113

def k0m0 : Method := { name := "<init>", desc := "()V", sig := { parameters := [], returnType := none }, accessFlags := 1, code := none }
/-- java/lang/Object -/
def k0 : Class := { plain "java/lang/Object" none with
  accessFlags := 33
  interfaces := #[]
  cf := some (fileOf pool0 8 #[] #[{ accessFlags := 1, nameIndex := 5, descriptorIndex := 6, attributes := #[] }] 33 0 #[] #[])
  fields := #[]
  methods := #[k0m0]
  instanceTypes := #[]
  staticTypes := #[]
  resolved := Array.replicate 124 none
  statics := none }

def pool1 : Array CpInfo := pool [(2, .class_ 4), (1, u "java/lang/Object"), (0, u "<init>"), (0, u "()V"), (0, .methodref 8 9), (0, .class_ 10), (0, .nameAndType 11 12), (0, u "com/example/tidemark/tidemark/JsonSkipWhitespacePinLaw"), (0, u "draw"), (0, u "(I)B"), (0, .integer 2147483647), (0, .methodref 8 15), (0, .nameAndType 16 17), (0, u "white"), (0, u "(B)Z"), (0, .methodref 19 20), (0, .class_ 21), (0, .nameAndType 22 23), (0, u "com/example/tidemark/tidemark/Json"), (0, u "skipWhitespace"), (0, u "([BII)I"), (3, u "law"), (0, u "(IIIIII)Z")] 4

def k1m0 : Method := { name := "<init>", desc := "()V", sig := { parameters := [], returnType := none }, accessFlags := 2, code := none }
def k1c1 : Code := { maxStack := 2, maxLocals := 2, code := method_2_code, exceptionTable := #[], attributes := #[] }
def k1m1 : Method := { name := "draw", desc := "(I)B", sig := { parameters := [.int], returnType := some .byte }, accessFlags := 10, code := some k1c1 }
def k1c2 : Code := { maxStack := 2, maxLocals := 1, code := method_3_code, exceptionTable := #[], attributes := #[] }
def k1m2 : Method := { name := "white", desc := "(B)Z", sig := { parameters := [.byte], returnType := some .boolean }, accessFlags := 10, code := some k1c2 }
def k1c3 : Code := { maxStack := 3, maxLocals := 10, code := code, exceptionTable := #[], attributes := #[] }
def k1m3 : Method := { name := "law", desc := "(IIIIII)Z", sig := { parameters := [.int, .int, .int, .int, .int, .int], returnType := some .boolean }, accessFlags := 9, code := some k1c3 }
/-- com/example/tidemark/tidemark/JsonSkipWhitespacePinLaw -/
def k1 : Class := { plain "com/example/tidemark/tidemark/JsonSkipWhitespacePinLaw" (some 0) with
  accessFlags := 49
  interfaces := #[]
  cf := some (fileOf pool1 8 #[] #[{ accessFlags := 2, nameIndex := 5, descriptorIndex := 6, attributes := #[] }, { accessFlags := 10, nameIndex := 11, descriptorIndex := 12, attributes := #[] }, { accessFlags := 10, nameIndex := 16, descriptorIndex := 17, attributes := #[] }, { accessFlags := 9, nameIndex := 27, descriptorIndex := 28, attributes := #[] }] 49 2 #[] #[])
  fields := #[]
  methods := #[k1m0, k1m1, k1m2, k1m3]
  instanceTypes := #[]
  staticTypes := #[]
  resolved := Array.replicate 33 none
  statics := none }

def pool2 : Array CpInfo := pool [(2, .class_ 4), (1, u "java/lang/Object"), (0, u "<init>"), (0, u "()V"), (2, .class_ 10), (0, u "com/example/tidemark/tidemark/Json"), (59, u "([BII)I"), (2, u "LITERALS"), (0, u "[Ljava/lang/String;"), (85, u "QUOTE"), (0, u "B"), (2, u "BACKSLASH"), (1, u "ESCAPED"), (0, u "Ljava/lang/String;"), (0, u "ESCAPES"), (0, u "FIRST_SURROGATE"), (0, u "I"), (0, u "FIRST_LOW_SURROGATE"), (0, u "LAST_SURROGATE"), (0, u "NOT_CLOSED"), (2, u "skipWhitespace")] 31

def k2m0 : Method := { name := "<init>", desc := "()V", sig := { parameters := [], returnType := none }, accessFlags := 2, code := none }
def k2c1 : Code := { maxStack := 2, maxLocals := 4, code := prog_59_method_2_code, exceptionTable := #[], attributes := #[] }
def k2m1 : Method := { name := "skipWhitespace", desc := "([BII)I", sig := { parameters := [(.array .byte), .int, .int], returnType := some .int }, accessFlags := 8, code := some k2c1 }
/-- com/example/tidemark/tidemark/Json -/
def k2 : Class := { plain "com/example/tidemark/tidemark/Json" (some 0) with
  accessFlags := 48
  interfaces := #[]
  cf := some (fileOf pool2 9 #[] #[{ accessFlags := 2, nameIndex := 5, descriptorIndex := 6, attributes := #[] }, { accessFlags := 8, nameIndex := 176, descriptorIndex := 70, attributes := #[] }] 48 2 #[] #[{ accessFlags := 26, nameIndex := 160, descriptorIndex := 161, attributes := #[] }, { accessFlags := 26, nameIndex := 164, descriptorIndex := 161, attributes := #[] }, { accessFlags := 26, nameIndex := 166, descriptorIndex := 167, attributes := #[] }, { accessFlags := 26, nameIndex := 168, descriptorIndex := 167, attributes := #[] }, { accessFlags := 26, nameIndex := 169, descriptorIndex := 170, attributes := #[] }, { accessFlags := 26, nameIndex := 171, descriptorIndex := 170, attributes := #[] }, { accessFlags := 26, nameIndex := 172, descriptorIndex := 170, attributes := #[] }, { accessFlags := 26, nameIndex := 173, descriptorIndex := 167, attributes := #[] }, { accessFlags := 26, nameIndex := 73, descriptorIndex := 74, attributes := #[] }])
  fields := #[{ name := "QUOTE", type := .byte, accessFlags := 26, slot := 0, constantValue := 0 }, { name := "BACKSLASH", type := .byte, accessFlags := 26, slot := 1, constantValue := 0 }, { name := "ESCAPED", type := (.object "java/lang/String"), accessFlags := 26, slot := 2, constantValue := 0 }, { name := "ESCAPES", type := (.object "java/lang/String"), accessFlags := 26, slot := 3, constantValue := 0 }, { name := "FIRST_SURROGATE", type := .int, accessFlags := 26, slot := 4, constantValue := 0 }, { name := "FIRST_LOW_SURROGATE", type := .int, accessFlags := 26, slot := 5, constantValue := 0 }, { name := "LAST_SURROGATE", type := .int, accessFlags := 26, slot := 6, constantValue := 0 }, { name := "NOT_CLOSED", type := (.object "java/lang/String"), accessFlags := 26, slot := 7, constantValue := 0 }, { name := "LITERALS", type := (.array (.object "java/lang/String")), accessFlags := 26, slot := 8, constantValue := 0 }]
  methods := #[k2m0, k2m1]
  instanceTypes := #[]
  staticTypes := #[.byte, .byte, (.object "java/lang/String"), (.object "java/lang/String"), .int, .int, .int, (.object "java/lang/String"), (.array (.object "java/lang/String"))]
  resolved := Array.replicate 208 none
  statics := none }

def pool3 : Array CpInfo := pool [(1, u "java/lang/Cloneable"), (0, .class_ 1), (0, u "java/lang/Object"), (0, .class_ 3)] 3

/-- java/lang/Cloneable -/
def k3 : Class := { plain "java/lang/Cloneable" (some 0) with
  accessFlags := 1537
  interfaces := #[]
  cf := some (fileOf pool3 2 #[] #[] 1537 4 #[] #[])
  fields := #[]
  methods := #[]
  instanceTypes := #[]
  staticTypes := #[]
  resolved := Array.replicate 8 none
  statics := none }

def pool4 : Array CpInfo := pool [(1, u "java/io/Serializable"), (0, .class_ 1), (0, u "java/lang/Object"), (0, .class_ 3)] 3

/-- java/io/Serializable -/
def k4 : Class := { plain "java/io/Serializable" (some 0) with
  accessFlags := 1537
  interfaces := #[]
  cf := some (fileOf pool4 2 #[] #[] 1537 4 #[] #[])
  fields := #[]
  methods := #[]
  instanceTypes := #[]
  staticTypes := #[]
  resolved := Array.replicate 8 none
  statics := none }

/-- the primitive byte -/
def k5 : Class := { plain "byte" none with kind := .primitive 'B', accessFlags := 0x411 }
/-- [B -/
def k6 : Class := { plain "[B" (some 0) with kind := .array 5 .byte, interfaces := #[3, 4], accessFlags := 1041 }

/-- the primitive int -/
def k7 : Class := { plain "int" none with kind := .primitive 'I', accessFlags := 0x411 }
/-- [I -/
def k8 : Class := { plain "[I" (some 0) with kind := .array 7 .int, interfaces := #[3, 4], accessFlags := 1041 }

def heap : Heap := #[]
def classes : Array Class := #[k0, k1, k2, k3, k4, k5, k6, k7, k8]
def interned : List (Array UInt16 × Addr) := []
def slotsUsed : Nat := 0
def theMethod : MethodId := ⟨1, 3⟩
def args0 : Array Value := #[.int 5, .int 6, .int 7, .int 8, .int 1, .int 2]
def aboutOver (below : List Frame) : State where
  vm := { classes := classes, interned := interned.toArray }
  heap := heap
  slotsUsed := slotsUsed
  threads := #[{ frames := .invoking theMethod args0 :: below }]
def below0 : List Frame := [.native { method := ⟨0, 0⟩, args := #[] }]
def about1 : State := aboutOver below0
def p0 : Program := .bare "" "" ""
def e0 : Env := launch0.env 0 0 0
theorem w_frames : about1.frames = Frame.invoking theMethod args0 :: below0 := rfl
set_option maxRecDepth 65536 in
theorem w_args : argsFit about1.vm theMethod args0 = true := by decide +kernel
set_option maxRecDepth 65536 in
theorem w_heap : heapFits about1 = true := by decide +kernel
set_option maxRecDepth 65536 in
theorem w_runnable : about1.curStatus? = some .runnable := by decide +kernel
set_option maxRecDepth 65536 in
theorem w_alone : about1.alone = true := by decide +kernel
set_option maxRecDepth 65536 in
theorem w_named : about1.methodNamed? x = some theMethod := by decide +kernel
set_option maxRecDepth 65536 in
theorem w_hears : about1.hears theMethod below0 = true := by decide +kernel
set_option maxRecDepth 65536 in
theorem w_ripe : about1.ripe theMethod args0 below0 = true := by decide +kernel
theorem w_running : about1.status = .running := rfl
set_option maxRecDepth 65536 in
theorem w_room : about1.hasRoom e0.platform room_1 = true :=
  launch0.hasRoom_least _ room_1 (by decide +kernel) (by decide +kernel) (by decide +kernel) (by decide +kernel) (by decide +kernel) (by decide +kernel)
theorem allAtoms_all (ts : List Jvm.Cond) (a : Array Jvm.Value) (st : Jvm.State) : (allAtoms ts).before a st = ts.all (fun c => c.before a st) := by
  induction ts with
  | nil => rfl
  | cons c t ih =>
    show (Jvm.Cond.and c (allAtoms t)).before a st = _
    rw [Jvm.Cond.before_and, ih, List.all_cons]
def words1 : List Jvm.Cond := Jvm.Cond.code x code maxLocals ret :: tables_1
/-- a 'code' word, met by the world's own term for the bytes: nothing is compared byte by byte -/
theorem code_word {y : MethodName} {bytes : ByteArray} {mx : Nat} {rt : Option FieldType} {a : Array Value} {s : State} {m : MethodId} {meth : Method} {c : Code} (h1 : s.methodNamed? y = some m) (h2 : s.vm.method? m = some meth) (h3 : meth.code = some c) (h4 : c.code = bytes)
    (h5 : (c.maxLocals == mx && c.exceptionTable.isEmpty && decide (c.maxStack ≤ mostOperands) && decide (meth.sig.returnType = rt) && !meth.locks && decide (parseMethodDescriptor y.desc = some meth.sig)) = true) : (Jvm.Cond.code y bytes mx rt).before a s = true := by
  simp only [Bool.and_eq_true, beq_iff_eq, Bool.not_eq_true', decide_eq_true_eq] at h5
  obtain ⟨⟨⟨⟨⟨g1, g2⟩, g3⟩, g4⟩, g5⟩, g6⟩ := h5
  simp [Cond.before, Cond.holds, Cond.value, h1, h2, h3, h4, g1, g2, g3, g4, g5, g6]
def isCode : Jvm.Cond → Bool
  | .code _ _ _ _ => true
  | _ => false
theorem all_split {L : List Jvm.Cond} {P : Jvm.Cond → Bool} (h1 : L.all (fun c => isCode c || P c) = true) (h2 : ∀ c ∈ L.filter isCode, P c = true) : L.all P = true := by
  refine List.all_eq_true.mpr fun c hc => ?_
  have h := List.all_eq_true.mp h1 c hc
  rcases Bool.eq_false_or_eq_true (isCode c) with hi | hi
  · exact h2 c (List.mem_filter.mpr ⟨hc, hi⟩)
  · simpa [hi] using h
set_option maxRecDepth 65536 in
theorem w_c0 : (Jvm.Cond.code x code maxLocals ret).before args0 about1 = true := code_word (m := ⟨1, 3⟩) (meth := k1m3) (c := k1c3) (by decide +kernel) rfl rfl rfl (by decide +kernel)
set_option maxRecDepth 65536 in
theorem w_c1 : (Jvm.Cond.code ({ cls := "com/example/tidemark/tidemark/JsonSkipWhitespacePinLaw", name := "draw", desc := "(I)B" } : Jvm.MethodName) method_2_code (2 : Nat) (Option.some Jvm.ClassFile.FieldType.byte)).before args0 about1 = true := code_word (m := ⟨1, 1⟩) (meth := k1m1) (c := k1c1) (by decide +kernel) rfl rfl rfl (by decide +kernel)
set_option maxRecDepth 65536 in
theorem w_c2 : (Jvm.Cond.code ({ cls := "com/example/tidemark/tidemark/JsonSkipWhitespacePinLaw", name := "white", desc := "(B)Z" } : Jvm.MethodName) method_3_code (1 : Nat) (Option.some Jvm.ClassFile.FieldType.boolean)).before args0 about1 = true := code_word (m := ⟨1, 2⟩) (meth := k1m2) (c := k1c2) (by decide +kernel) rfl rfl rfl (by decide +kernel)
set_option maxRecDepth 65536 in
theorem w_c3 : (Jvm.Cond.code ({ cls := "com/example/tidemark/tidemark/Json", name := "skipWhitespace", desc := "([BII)I" } : Jvm.MethodName) prog_59_method_2_code (4 : Nat) (Option.some Jvm.ClassFile.FieldType.int)).before args0 about1 = true := code_word (m := ⟨2, 1⟩) (meth := k2m1) (c := k2c1) (by decide +kernel) rfl rfl rfl (by decide +kernel)
def codes1 : List Jvm.Cond := [Jvm.Cond.code x code maxLocals ret, Jvm.Cond.code ({ cls := "com/example/tidemark/tidemark/JsonSkipWhitespacePinLaw", name := "draw", desc := "(I)B" } : Jvm.MethodName) method_2_code (2 : Nat) (Option.some Jvm.ClassFile.FieldType.byte), Jvm.Cond.code ({ cls := "com/example/tidemark/tidemark/JsonSkipWhitespacePinLaw", name := "white", desc := "(B)Z" } : Jvm.MethodName) method_3_code (1 : Nat) (Option.some Jvm.ClassFile.FieldType.boolean), Jvm.Cond.code ({ cls := "com/example/tidemark/tidemark/Json", name := "skipWhitespace", desc := "([BII)I" } : Jvm.MethodName) prog_59_method_2_code (4 : Nat) (Option.some Jvm.ClassFile.FieldType.int)]
set_option maxRecDepth 65536 in
theorem codes_eq : words1.filter isCode = codes1 := rfl
theorem w_codes : ∀ c ∈ words1.filter isCode, c.before args0 about1 = true := by
  rw [codes_eq]
  intro c hc
  simp only [codes1, List.mem_cons, List.not_mem_nil, or_false] at hc
  rcases hc with rfl | rfl | rfl | rfl
  · exact w_c0
  · exact w_c1
  · exact w_c2
  · exact w_c3
set_option maxRecDepth 65536 in
theorem w_t1 : words1.all (fun c => isCode c || c.before args0 about1) = true := by decide +kernel
theorem w_tables : (allAtoms (Jvm.Cond.code x code maxLocals ret :: tables_1)).before args0 about1 = true := by
  rw [allAtoms_all]
  show words1.all (fun c => c.before args0 about1) = true
  refine all_split ?_ w_codes
  rw [w_t1]
set_option maxRecDepth 65536 in
theorem w_case : (Jvm.Cond.and given_1 narrow_1).before args0 about1 = true := by decide +kernel
theorem w_applies : (headSpec (Jvm.Cond.code x code maxLocals ret :: tables_1) room_1).applies x e0.platform about1 = true :=
  (Spec.applies_iff w_frames).mpr ⟨w_running, w_runnable, w_alone, w_named, w_hears, w_ripe, w_room, w_tables⟩
theorem atStart : AtStart classFile x code maxLocals ret World_1 tables_1 room_1 Calls_1 rest_1 Pre_1 launch0 p0 e0 about1 theMethod args0 below0 :=
  ⟨lists_1, trivial, launch0.admits_env _ _ _, launch0.least_env, fairChoices_fair.cas, fairChoices_fair.clock, w_frames, w_args, w_heap, w_applies, trivial, trivial, w_case⟩
end start1
theorem witness_1 : WitnessClaimed_1 := ⟨start1.p0, start1.e0, start1.about1, start1.theMethod, start1.args0, start1.below0, start1.atStart⟩
end Jvm.Pilot.@@N@@
