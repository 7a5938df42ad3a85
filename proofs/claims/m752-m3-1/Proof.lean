import JvmDerived
import JvmDerived.Pilot.@@N@@Statement
import JvmDerived.Pilot.@@N@@Code
set_option linter.unusedVariables false
set_option linter.unusedSimpArgs false

namespace Jvm.Pilot.@@N@@
open Jvm Jvm.ClassFile Sem Op Lib Jvm.Free Jvm.Stand Jvm.LawKit Jvm.RoadKit Bundle Jvm.Pilot.@@N@@.Jvm.D
section Own
variable {p : Program} {l : Launch} {e : Env} {R : Room} {s : State} {m : MethodId} {args : Array Value} {below : List Frame} {meth : Method} {c : Code} {T : State} {locs : List Loc} {cells slots : Nat} {Z : State} {h h' : Heap}
/-- the run from A comes to the method's end as Q says, with at most kc new cells and ks new slots -/
def own_E (p : Program) (e : Env) (below : List Frame) (s : State) (Q : Option Value → Heap → List Loc → Prop) (kc ks : Nat) (A : State) : Prop :=
  ∃ s₂ o, Steps p.tables e below A s₂ ∧ s₂.status = .running ∧ Ended s₂ below o ∧ ∃ v L, o = .returned v ∧ Q v s₂.heap L ∧ FrameEnd s o s₂ L kc ks
variable {Q : Option Value → Heap → List Loc → Prop} {kc ks : Nat} {A B : State}
theorem own_st (k : ∀ t, Steps p.tables e below B t → Steps p.tables e below A t) (h : own_E p e below s Q kc ks B) : own_E p e below s Q kc ks A := by
  obtain ⟨t, o, h1, h2⟩ := h
  exact ⟨t, o, k t h1, h2⟩
theorem own_end (X : Stand p l e R s m args below meth c T locs cells slots) {v : Option Value} (hv : meth.sig.returnType = none → v = none) (hlk : meth.locks = false)
    (hk : ∀ fs, (∀ (f : JFrame) (acts : List Action), f.method = m → f.locked = none → f.entered = [] → (doReturn e (T.setTop f) acts v).1 = T.setFrames fs) → Steps p.tables e below A (T.setFrames fs)) (hc : cells ≤ kc) (hs : slots ≤ ks) (hQ : Q v T.heap locs) : own_E p e below s Q kc ks A := by
  obtain ⟨fs, hr, hrun, hended, hW, hsame⟩ := X.leave (v := v) hv hlk
  exact ⟨_, _, hk fs hr, hrun, hended, _, _, rfl, hQ, ⟨_, rfl⟩, hW, hsame.mono hc hs⟩
theorem own_retN (X : Stand p l e R s m args below meth c T locs cells slots) (hx : p.tables.exec = Jvm.exec) {pc : Nat} {Ls : Array Slot} {z z' : Int32} {t : FieldType} {rest : List Value} (hret : meth.sig.returnType = some t) (ht : t = .boolean ∨ t = .byte ∨ t = .char ∨ t = .short) (hlk : meth.locks = false)
    (hd : decode c.code pc = .ok (.ireturn, 1)) (hz : nar t z = z') (hc : cells ≤ kc) (hs : slots ≤ ks) (hQ : Q (some (.int z')) T.heap locs) : own_E p e below s Q kc ks (T.setTop (mkF m pc Ls (.int z :: rest))) := by
  subst hz
  exact own_end X (fun q => by rw [hret] at q; cases q) hlk (fun fs hr => retN X hx hret ht hd hr) hc hs hQ
theorem own_retI (X : Stand p l e R s m args below meth c T locs cells slots) (hx : p.tables.exec = Jvm.exec) {pc : Nat} {Ls : Array Slot} {z : Int32} {rest : List Value} (hret : meth.sig.returnType = some .int) (hlk : meth.locks = false)
    (hd : decode c.code pc = .ok (.ireturn, 1)) (hc : cells ≤ kc) (hs : slots ≤ ks) (hQ : Q (some (.int z)) T.heap locs) : own_E p e below s Q kc ks (T.setTop (mkF m pc Ls (.int z :: rest))) := by
  refine own_end X (fun q => by rw [hret] at q; cases q) hlk (fun fs hr => ?_) hc hs hQ
  have hm' : T.vm.method? m = some meth := X.method'
  have hn : narrow .int (.int z) = .int z := rfl
  show Steps p.tables e below (T.setTop { method := m, pc := pc, locals := Ls, stack := _ :: rest, locked := none }) _
  jvm_step X.here [X.here.top, hx, hd, hm', hret, hn]
  first | (intro acts; rw [hr _ acts rfl rfl rfl]) | rw [hr _ _ rfl rfl rfl]
  exact Steps.refl _
theorem own_retJ (X : Stand p l e R s m args below meth c T locs cells slots) (hx : p.tables.exec = Jvm.exec) {pc : Nat} {Ls : Array Slot} {z : Int64} (hret : meth.sig.returnType = some .long) (hlk : meth.locks = false)
    (hd : decode c.code pc = .ok (.lreturn, 1)) (hc : cells ≤ kc) (hs : slots ≤ ks) (hQ : Q (some (.long z)) T.heap locs) : own_E p e below s Q kc ks (T.setTop (mkF m pc Ls [.long z])) :=
  own_end X (fun q => by rw [hret] at q; cases q) hlk (fun fs hr => X.lreturnOut hx hret hd hr) hc hs hQ
theorem own_retR (X : Stand p l e R s m args below meth c T locs cells slots) (hx : p.tables.exec = Jvm.exec) {pc : Nat} {Ls : Array Slot} {w : Value} {t : FieldType} (hw : w.isRef = true) (hret : meth.sig.returnType = some t) (ht : t.isReference = true) (hlk : meth.locks = false)
    (hd : decode c.code pc = .ok (.areturn, 1)) (hc : cells ≤ kc) (hs : slots ≤ ks) (hQ : Q (some w) T.heap locs) : own_E p e below s Q kc ks (T.setTop (mkF m pc Ls [w])) :=
  own_end X (fun q => by rw [hret] at q; cases q) hlk (fun fs hr => X.areturnOut hx hw hret ht hd hr) hc hs hQ
theorem own_retV (X : Stand p l e R s m args below meth c T locs cells slots) (hx : p.tables.exec = Jvm.exec) {pc : Nat} {Ls : Array Slot} (hret : meth.sig.returnType = none) (hlk : meth.locks = false)
    (hd : decode c.code pc = .ok (.return_, 1)) (hc : cells ≤ kc) (hs : slots ≤ ks) (hQ : Q none T.heap locs) : own_E p e below s Q kc ks (T.setTop (mkF m pc Ls [])) :=
  own_end X (fun _ => rfl) hlk (fun fs hr => X.returnOut hx hret hd hr) hc hs hQ
/-- a boolean as the machine holds it -/
def own_b (b : Bool) : Int32 := if b then 1 else 0
theorem own_b1 {P : Prop} [Decidable P] (h : P) : own_b (decide P) = 1 := by simp [own_b, h]
theorem own_bz {P : Prop} [Decidable P] (h : ¬ P) : own_b (decide P) = 0 := by simp [own_b, h]
theorem own_lt32 {x y : Int32} (h : x < y) : x.toInt < y.toInt := Int32.lt_iff_toInt_lt.mp h
theorem own_nlt32 {x y : Int32} (h : ¬ x < y) : ¬ x.toInt < y.toInt := fun q => h (Int32.lt_iff_toInt_lt.mpr q)
theorem own_eq32 {x y : Int32} (h : x = y) : x.toInt = y.toInt := congrArg _ h
theorem own_neq32 {x y : Int32} (h : ¬ x = y) : ¬ x.toInt = y.toInt := fun q => h (Int32.toInt_inj.mp q)
theorem own_lt64 {x y : Int64} (h : x < y) : x.toInt < y.toInt := Int64.lt_iff_toInt_lt.mp h
theorem own_nlt64 {x y : Int64} (h : ¬ x < y) : ¬ x.toInt < y.toInt := fun q => h (Int64.lt_iff_toInt_lt.mpr q)
theorem own_eq64 {x y : Int64} (h : x = y) : x.toInt = y.toInt := congrArg _ h
theorem own_neq64 {x y : Int64} (h : ¬ x = y) : ¬ x.toInt = y.toInt := fun q => h (Int64.toInt_inj.mp q)
theorem own_b0 {b : Bool} : own_b b = 0 ↔ b = false := by cases b <;> decide
theorem own_nb (b : Bool) : nar .boolean (own_b b) = own_b b := by cases b <;> rfl
theorem own_nbb (x : Int32) : nar .byte (x.toInt8.toInt32) = x.toInt8.toInt32 := by
  show x.toInt8.toInt32.toInt8.toInt32 = x.toInt8.toInt32
  rw [Int8.toInt8_toInt32]
theorem own_stV {l : Array Slot} {i : Nat} {v : Value} {o : Slot} (hold : l[i]? = some o) (ho : o = .unset ∨ ∃ w, o = .val w ∧ w.category = 1) (hv : v.category = 1) : storeLocals l i v = some (l.setIfInBounds i (.val v)) := XS.store1 hold ho hv
theorem own_narV {ty : FieldType} {v : Value} (hv : v.isRef = true) : narrow ty v = v := by
  rcases ref_cases hv with rfl | ⟨a, rfl⟩ <;> cases ty <;> rfl
theorem own_fitV {ty : FieldType} {v : Value} (ht : ty.isReference = true) (hv : v.isRef = true) : fits ty v = true := by
  rcases ref_cases hv with rfl | ⟨a, rfl⟩ <;> cases ty <;> first | rfl | (cases ht; done)
/-- an array of n places, whose place j holds f j -/
def own_A (Z : State) (h : Heap) (a : Addr) (ty : FieldType) (n : Nat) (f : Nat → Int32) : Prop := ∃ c : Cell, Arr Z h a c ty ∧ c.slots.size = n ∧ n < 2 ^ 31 ∧ (∀ j, j < n → c.slots[j]? = some (.int (f j))) ∧ ∀ j, j < n → fits ty (.int (f j)) = true
def own_up (f : Nat → Int32) (i : Nat) (v : Int32) (k : Nat) : Int32 := if k = i then v else f k
theorem own_up_same (f : Nat → Int32) (i : Nat) (v : Int32) : own_up f i v i = v := if_pos rfl
theorem own_up_ne (f : Nat → Int32) {i k : Nat} (v : Int32) (h : ¬ k = i) : own_up f i v k = f k := if_neg h
theorem own_catV {v : Value} (h : v.isRef = true) : v.category = 1 := by rcases ref_cases h with rfl | ⟨a, rfl⟩ <;> rfl
abbrev own_ix (j : Int32) (i : Nat) : Prop := ¬ j < 0 ∧ j.toNatClampNeg = i
variable {a b : Addr} {ty : FieldType} {n i : Nat} {f : Nat → Int32} {j x : Int32} {pc : Nat} {Ls : Array Slot} {rest : List Value} {sl : Nat} {v : Value} {ws : List Addr}
theorem own_A.lt (F : own_A Z h a ty n f) : a < h.size := by obtain ⟨c, A, -⟩ := F; exact A.lt
theorem own_A.ext (F : own_A Z h a ty n f) (E : Ext h h') : own_A Z h' a ty n f := by obtain ⟨c, A, r⟩ := F; exact ⟨c, A.ext E, r⟩
theorem own_A.other (F : own_A Z h b ty n f) (W : Wr h h' a sl v) (q : b ≠ a) : own_A Z h' b ty n f := by obtain ⟨c, A, r⟩ := F; exact ⟨c, A.other W q, r⟩
theorem own_A.keep (F : own_A Z h a ty n f) (K : Keep h h' ws) (q : a ∉ ws) : own_A Z h' a ty n f := by obtain ⟨c, A, r⟩ := F; exact ⟨c, ⟨K.2.1 a c A.1 q, A.2⟩, r⟩
theorem own_A.congr {g : Nat → Int32} (F : own_A Z h a ty n f) (q : ∀ j, j < n → f j = g j) : own_A Z h a ty n g := by obtain ⟨c, A, r1, r2, r3, r4⟩ := F; exact ⟨c, A, r1, r2, fun j hj => by rw [← q j hj]; exact r3 j hj, fun j hj => by rw [← q j hj]; exact r4 j hj⟩
theorem own_A.new {k : ClassId} {z : Int32} (A : Arr Z h a (newA k ty z) ty) (q : ¬ z < 0) (hz : z.toNatClampNeg = n) (hd : defaultValue ty = .int 0 := by rfl) : own_A Z h a ty n (fun _ => 0) := by
  subst hz
  exact ⟨_, A, sz_new _ _ _, (back32 q).2, fun j hj => by simp [newA, hj, hd], fun j hj => by rw [← hd]; cases ty <;> rfl⟩
theorem own_A.set (F : own_A Z h a ty n f) (hj : own_ix j i) (W : Wr h h' a j.toNatClampNeg (.int x)) (hf : fits ty (.int x) = true) : own_A Z h' a ty n (own_up f i x) := by
  obtain ⟨c, A, r1, r2, r3, r4⟩ := F
  obtain ⟨hj1, rfl⟩ := hj
  refine ⟨_, A.same W, by rw [sz_set]; exact r1, r2, fun k hk => ?_, fun k hk => ?_⟩ <;> by_cases q : k = j.toNatClampNeg
  · subst q; simp [Cell.setSlot, own_up, r1, hk]
  · simp only [Cell.setSlot, own_up, if_neg q]; rw [Array.getElem?_setIfInBounds_ne (Ne.symm q)]; exact r3 k hk
  · simp only [own_up, if_pos q]; exact hf
  · simp only [own_up, if_neg q]; exact r4 k hk
theorem own_in (hj : own_ix j i) (hi : i < n) {c : Cell} (hc : c.slots.size = n) : ¬ (j < 0 ∨ c.slots.size ≤ j.toNatClampNeg) := by
  rintro (q | q)
  · exact hj.1 q
  · rw [hj.2, hc] at q; omega
theorem own_stB (X : Stand p l e R s m args below meth c T locs cells slots) (hx : p.tables.exec = Jvm.exec) (hZ : Z.Warmed39 s.vm) (eT : T.heap = h) (A : own_A Z h a .byte n f) (hj : own_ix j i) (hi : i < n) (hd : decode c.code pc = .ok (.bastore, 1)) :
    ∃ T' h', Stand p l e R s m args below meth c T' (locs ++ [⟨a, j.toNatClampNeg⟩]) cells slots ∧ T'.heap = h' ∧ Wr h h' a j.toNatClampNeg (.int (nar .byte x)) ∧ own_A Z h' a .byte n (own_up f i (nar .byte x)) ∧ ∀ t, Steps p.tables e below (T'.setTop (mkF m (pc + 1) Ls rest)) t → Steps p.tables e below (T.setTop (mkF m pc Ls (.int x :: .int j :: .ref a :: rest))) t := by
  have A0 := A
  obtain ⟨cl, A1, r1, r2, r3, r4⟩ := A
  obtain ⟨T', h', X', e', W, st⟩ := stB X hx hZ eT A1 (j := j) (x := x) (own_in hj hi r1) (g := mkF m pc Ls (.int x :: .int j :: .ref a :: rest)) rfl rfl hd
  exact ⟨T', h', X', e', W, A0.set hj W (fits_nar_byte x), st⟩
theorem own_stI (X : Stand p l e R s m args below meth c T locs cells slots) (hx : p.tables.exec = Jvm.exec) (hZ : Z.Warmed39 s.vm) (eT : T.heap = h) (A : own_A Z h a .int n f) (hj : own_ix j i) (hi : i < n) (hd : decode c.code pc = .ok (.iastore, 1)) :
    ∃ T' h', Stand p l e R s m args below meth c T' (locs ++ [⟨a, j.toNatClampNeg⟩]) cells slots ∧ T'.heap = h' ∧ Wr h h' a j.toNatClampNeg (.int x) ∧ own_A Z h' a .int n (own_up f i x) ∧ ∀ t, Steps p.tables e below (T'.setTop (mkF m (pc + 1) Ls rest)) t → Steps p.tables e below (T.setTop (mkF m pc Ls (.int x :: .int j :: .ref a :: rest))) t := by
  have A0 := A
  obtain ⟨cl, A1, r1, r2, r3, r4⟩ := A
  obtain ⟨T', h', X', e', W, st⟩ := stI X hx hZ eT A1 (j := j) (x := x) (own_in hj hi r1) (g := mkF m pc Ls (.int x :: .int j :: .ref a :: rest)) rfl rfl hd
  exact ⟨T', h', X', e', W, A0.set hj W rfl, st⟩
theorem own_ldB (X : Stand p l e R s m args below meth c T locs cells slots) (hx : p.tables.exec = Jvm.exec) (hZ : Z.Warmed39 s.vm) (eT : T.heap = h) (A : own_A Z h a .byte n f) (hj : own_ix j i) (hi : i < n) (hd : decode c.code pc = .ok (.baload, 1)) (t : State)
    (k : Steps p.tables e below (T.setTop (mkF m (pc + 1) Ls (.int (f i) :: rest))) t) : Steps p.tables e below (T.setTop (mkF m pc Ls (.int j :: .ref a :: rest))) t := by
  obtain ⟨cl, A1, r1, r2, r3, r4⟩ := A
  exact X.baloadBytes hx (j := j) (v := .int (f i)) (by rw [eT]; exact A1.1) (State.isArrayOf_alike hZ.alike A1.2.1) A1.2.2 (own_in hj hi r1) (by rw [hj.2]; exact r3 i hi) (g := mkF m pc Ls (.int j :: .ref a :: rest)) rfl rfl hd t k
theorem own_ldI (X : Stand p l e R s m args below meth c T locs cells slots) (hx : p.tables.exec = Jvm.exec) (hZ : Z.Warmed39 s.vm) (eT : T.heap = h) (A : own_A Z h a .int n f) (hj : own_ix j i) (hi : i < n) (hd : decode c.code pc = .ok (.iaload, 1)) (t : State)
    (k : Steps p.tables e below (T.setTop (mkF m (pc + 1) Ls (.int (f i) :: rest))) t) : Steps p.tables e below (T.setTop (mkF m pc Ls (.int j :: .ref a :: rest))) t := by
  obtain ⟨cl, A1, r1, r2, r3, r4⟩ := A
  exact X.iaload hx (j := j) (v := .int (f i)) (by rw [eT]; exact A1.1) (State.isArrayOf_alike hZ.alike A1.2.1) A1.2.2 (own_in hj hi r1) (by rw [hj.2]; exact r3 i hi) (g := mkF m pc Ls (.int j :: .ref a :: rest)) rfl rfl hd t k
theorem own_len {z : Int32} (X : Stand p l e R s m args below meth c T locs cells slots) (hx : p.tables.exec = Jvm.exec) (hZ : Z.Warmed39 s.vm) (eT : T.heap = h) (A : own_A Z h a ty n f) (hz : n.toInt32 = z) (hd : decode c.code pc = .ok (.arraylength, 1)) (t : State)
    (k : Steps p.tables e below (T.setTop (mkF m (pc + 1) Ls (.int z :: rest))) t) : Steps p.tables e below (T.setTop (mkF m pc Ls (.ref a :: rest))) t := by
  obtain ⟨cl, A1, r1, r2, r3, r4⟩ := A
  subst hz
  refine X.arraylength hx (by rw [eT]; exact A1.1) (State.isArrayOf_alike hZ.alike A1.2.1) (g := mkF m pc Ls (.ref a :: rest)) rfl rfl hd t ?_
  rw [r1]; exact k
theorem own_clone (X : Stand p l e R s m args below meth c T locs cells slots) (hx : p.tables.exec = Jvm.exec) (hZ : Z.Warmed39 s.vm) {a0 : Array Value} {own ad : String} {index : Nat} (hown : s.vm.findClass own = some m.cls)
    (w1 : (Cond.methodLink own index ⟨ad, "clone", "()Ljava/lang/Object;"⟩).before a0 Z = true) (w2 : (Cond.sameMethod ad "java/lang/Object" "clone" "()Ljava/lang/Object;").before a0 Z = true) (w3 : (Cond.native ⟨"java/lang/Object", "clone", "()Ljava/lang/Object;"⟩).before a0 Z = true)
    (w4 : (Cond.instanceMethod ⟨"java/lang/Object", "clone", "()Ljava/lang/Object;"⟩).before a0 Z = true) (w5 : (Cond.selects ad ⟨ad, "clone", "()Ljava/lang/Object;"⟩ ⟨"java/lang/Object", "clone", "()Ljava/lang/Object;"⟩).before a0 Z = true) (w6 : (Cond.castable ad "java/lang/Cloneable").before a0 Z = true)
    (eT : T.heap = h) (A : own_A Z h a ty n f) (E : Exa Z h a ad) (hsize : Ls.size = c.maxLocals) (hd : decode c.code pc = .ok (.invokevirtual index, 3))
    (hf : 1 ≤ R.frames) {W cap : Nat} (hW : 2 * 0 + (rest.map fun v => v.category).sum ≤ W) (hl : W + 14 ≤ R.locals) (hcap : n ≤ cap) (hc : cells + 1 ≤ R.cells) (hsl : slots + cap ≤ R.slots) :
    ∃ T' h', Stand p l e R s m args below meth c T' locs (cells + 1) (slots + cap) ∧ T'.heap = h' ∧ Ext h h' ∧ own_A Z h' h.size ty n f ∧ Exa Z h' h.size ad ∧
      ∀ t, Steps p.tables e below (T'.setTop (mkF m (pc + 3) Ls (.ref h.size :: rest))) t → Steps p.tables e below (T.setTop (mkF m pc Ls (.ref a :: rest))) t := by
  obtain ⟨cl, A1, r1, r2, r3, r4⟩ := A
  have FC : FitC Z cl := fitC_of A1 fun i hi v hv => by rw [r1] at hi; rw [r3 i hi] at hv; cases hv; exact r4 i hi
  obtain ⟨T', h', X', e', ex, A', E', st⟩ := cloneA X hx hZ hown w1 w2 w3 w4 w5 w6 eT A1 E FC (g := mkF m pc Ls (.ref a :: rest)) rfl hsize rfl hd hf hW hl (by rw [r1]; exact hcap) hc hsl
  exact ⟨T', h', X', e', ex, ⟨cloneOf cl, A', r1, r2, r3, r4⟩, E', st⟩
theorem own_selP {s : State} {args : Array Value} {y : MethodName} {n : Nat} (hin : (Cond.instantiable y.cls n).before args s = true) (hpriv : s.PrivateAt y) (hinst : (Cond.instanceMethod y).before args s = true) (hy : y.cls ≠ "java/lang/invoke/MethodHandle" ∧ y.cls ≠ "java/lang/invoke/VarHandle") : (Cond.selects y.cls y y).before args s = true := by
  obtain ⟨c, k, h1, h2, -, h4, -⟩ := Cond.instantiable_spec hin
  exact selects_self_of_private h1 h2 (Bool.or_eq_false_iff.mp h4).1 hpriv hinst hy
theorem own_ixa (h : own_ix j i) (k : Nat) (hi : i + k < 2 ^ 31) : own_ix (j + Int32.ofNat k) (i + k) := by
  obtain ⟨h1, h2⟩ := h
  have e0 : (0 : Int32).toInt = 0 := rfl
  have e1 : (Int32.ofNat k).toInt = k := Int32.toInt_ofNat_of_lt (by omega)
  rw [Int32.lt_iff_toInt_lt, e0] at h1
  simp only [Int32.toNatClampNeg] at h2
  have h3 := c_iadd j (Int32.ofNat k); have h4 := rng32 (j + Int32.ofNat k)
  rw [e1] at h3
  refine ⟨by rw [Int32.lt_iff_toInt_lt, e0]; omega, ?_⟩
  simp only [Int32.toNatClampNeg]; omega
theorem own_ixI (h : own_ix j i) : j.toInt = i := by
  obtain ⟨h1, h2⟩ := h
  have e0 : (0 : Int32).toInt = 0 := rfl
  rw [Int32.lt_iff_toInt_lt, e0] at h1
  simp only [Int32.toNatClampNeg] at h2; omega
theorem own_ixof (h : j.toInt = i) : own_ix j i := by
  have e0 : (0 : Int32).toInt = 0 := rfl
  refine ⟨by rw [Int32.lt_iff_toInt_lt, e0]; omega, ?_⟩
  simp only [Int32.toNatClampNeg]; omega
theorem own_ixs (h : ¬ j < 0) : own_ix j j.toNatClampNeg := ⟨h, rfl⟩
theorem own_and3 (x : Int32) (k : Nat) (hk : k < 2 ^ 31) : ¬ (x &&& Int32.ofNat k) < 0 ∧ (x &&& Int32.ofNat k).toNatClampNeg ≤ k := by
  have h0 : 0 ≤ (Int32.ofNat k).toInt := by rw [Int32.toInt_ofNat_of_lt hk]; omega
  have h1 := (c_andS x (Int32.ofNat k)).2.2 h0
  have e0 : (0 : Int32).toInt = 0 := rfl
  refine ⟨by rw [Int32.lt_iff_toInt_lt, e0]; omega, ?_⟩
  have hb : (x &&& Int32.ofNat k).toBitVec.toNat ≤ k := by
    have : (x &&& Int32.ofNat k).toBitVec.toNat = x.toBitVec.toNat &&& (Int32.ofNat k).toBitVec.toNat := by rw [Int32.toBitVec_and, BitVec.toNat_and]
    rw [this]
    refine Nat.le_trans Nat.and_le_right ?_
    show (BitVec.ofNat 32 k).toNat ≤ k
    rw [BitVec.toNat_ofNat]; exact Nat.mod_le _ _
  have e : (x &&& Int32.ofNat k).toInt = ((x &&& Int32.ofNat k).toBitVec.toNat : Int) := by
    show (x &&& Int32.ofNat k).toBitVec.toInt = _
    rw [BitVec.toInt_eq_toNat_cond]; split
    · rfl
    · omega
  simp only [Int32.toNatClampNeg, e]; omega
end Own

def own_gi (a b c d : Int32) : Int32 := (((((a &&& (255 : Int32)) <<< ((24 : Int32) &&& 31)) ||| ((b &&& (255 : Int32)) <<< ((16 : Int32) &&& 31))) ||| ((c &&& (255 : Int32)) <<< ((8 : Int32) &&& 31))) ||| (d &&& (255 : Int32)))
def own_ex (u0 u1 u2 u3 : Int32) : Int64 := (((((u0.toInt64) &&& (255 : Int64)) * (16777216 : Int64)) + (((u1.toInt64) &&& (255 : Int64)) * (65536 : Int64))) + (((u2.toInt64) &&& (255 : Int64)) * (256 : Int64))) + ((u3.toInt64) &&& (255 : Int64))
set_option maxHeartbeats 4000000 in
theorem own_gi_eq (a b c d : Int32) : ((own_gi a b c d).toInt - ((a.toInt % 256) * 16777216 + (b.toInt % 256) * 65536 + (c.toInt % 256) * 256 + d.toInt % 256)) % 4294967296 = 0 := by
  unfold own_gi
  have a1 := c_mask a 255 8 (by decide) (by decide); have b1 := c_mask b 255 8 (by decide) (by decide); have c1 := c_mask c 255 8 (by decide) (by decide); have d1 := c_mask d 255 8 (by decide) (by decide)
  simp only [show ((2 ^ 8 : Nat) : Int) = 256 from rfl] at a1 b1 c1 d1
  have a2 := c_ishl (a &&& 255) 24 24 (by decide); have b2 := c_ishl (b &&& 255) 16 16 (by decide); have c2 := c_ishl (c &&& 255) 8 8 (by decide)
  simp only [show ((2 ^ 24 : Nat) : Int) = 16777216 from rfl, show ((2 ^ 16 : Nat) : Int) = 65536 from rfl, show ((2 ^ 8 : Nat) : Int) = 256 from rfl] at a2 b2 c2
  generalize (a &&& 255) <<< ((24 : Int32) &&& 31) = A at *
  generalize (b &&& 255) <<< ((16 : Int32) &&& 31) = B at *
  generalize (c &&& 255) <<< ((8 : Int32) &&& 31) = C at *
  generalize d &&& 255 = D at *
  generalize a &&& 255 = a' at *
  generalize b &&& 255 = b' at *
  generalize c &&& 255 = c' at *
  have rA := rng32 A; have rB := rng32 B; have rC := rng32 C
  have o1 := c_or A B 24 (by decide) 16777216 rfl (by omega) (by omega) (by omega)
  have rO := rng32 (A ||| B)
  have o2 := c_or (A ||| B) C 16 (by decide) 65536 rfl (by omega) (by omega) (by omega)
  have rO2 := rng32 (A ||| B ||| C)
  have o3 := c_or (A ||| B ||| C) D 8 (by decide) 256 rfl (by omega) (by omega) (by omega)
  omega
set_option maxHeartbeats 4000000 in
theorem own_ex_eq (u0 u1 u2 u3 : Int32) : (own_ex u0 u1 u2 u3).toInt = ((u0.toInt % 256) * 16777216 + (u1.toInt % 256) * 65536 + (u2.toInt % 256) * 256 + u3.toInt % 256) := by
  unfold own_ex
  have a1 := c_maskL u0.toInt64 255 8 (by decide) (by decide); have b1 := c_maskL u1.toInt64 255 8 (by decide) (by decide); have c1 := c_maskL u2.toInt64 255 8 (by decide) (by decide); have d1 := c_maskL u3.toInt64 255 8 (by decide) (by decide)
  rw [c_i2l] at a1 b1 c1 d1
  simp only [show ((2 ^ 8 : Nat) : Int) = 256 from rfl] at a1 b1 c1 d1
  generalize u0.toInt64 &&& 255 = a at *
  generalize u1.toInt64 &&& 255 = b at *
  generalize u2.toInt64 &&& 255 = c at *
  generalize u3.toInt64 &&& 255 = d at *
  have a2 := c_lmul a 16777216; have b2 := c_lmul b 65536; have c2 := c_lmul c 256
  rw [show (16777216 : Int64).toInt = 16777216 from rfl] at a2
  rw [show (65536 : Int64).toInt = 65536 from rfl] at b2
  rw [show (256 : Int64).toInt = 256 from rfl] at c2
  have r1 := rng64 (a * 16777216); have r2 := rng64 (b * 65536); have r3 := rng64 (c * 256)
  generalize a * 16777216 = A at *
  generalize b * 65536 = B at *
  generalize c * 256 = C at *
  have s1 := c_ladd A B; have s2 := c_ladd (A + B) C; have s3 := c_ladd (A + B + C) d
  have t1 := rng64 (A + B); have t2 := rng64 (A + B + C); have t3 := rng64 (A + B + C + d)
  omega
theorem own_by (u : Int32) : (nar .byte (u.toInt8.toInt32)).toInt % 256 = u.toInt % 256 := by
  rw [own_nbb]; have := c_i2b u; omega
set_option maxHeartbeats 4000000 in
theorem own_key {f : Nat → Int32} {k : Nat} {u0 u1 u2 u3 : Int32} (h0 : f k = nar .byte (u0.toInt8.toInt32)) (h1 : f (k + 1) = nar .byte (u1.toInt8.toInt32)) (h2 : f (k + 2) = nar .byte (u2.toInt8.toInt32)) (h3 : f (k + 3) = nar .byte (u3.toInt8.toInt32)) : own_gi (f k) (f (k + 1)) (f (k + 2)) (f (k + 3)) = (own_ex u0 u1 u2 u3).toInt32 := by
  rw [← Int32.toInt_inj, h0, h1, h2, h3]
  have e1 := own_gi_eq (nar .byte (u0.toInt8.toInt32)) (nar .byte (u1.toInt8.toInt32)) (nar .byte (u2.toInt8.toInt32)) (nar .byte (u3.toInt8.toInt32))
  rw [own_by, own_by, own_by, own_by] at e1
  have e2 := own_ex_eq u0 u1 u2 u3
  have e3 := c_l2i (own_ex u0 u1 u2 u3)
  have r1 := rng32 (own_gi (nar .byte (u0.toInt8.toInt32)) (nar .byte (u1.toInt8.toInt32)) (nar .byte (u2.toInt8.toInt32)) (nar .byte (u3.toInt8.toInt32)))
  have r2 := rng32 (own_ex u0 u1 u2 u3).toInt32
  generalize own_gi (nar .byte (u0.toInt8.toInt32)) (nar .byte (u1.toInt8.toInt32)) (nar .byte (u2.toInt8.toInt32)) (nar .byte (u3.toInt8.toInt32)) = G at *
  generalize (own_ex u0 u1 u2 u3).toInt32 = E' at *
  generalize own_ex u0 u1 u2 u3 = E at *
  omega
theorem own_b1_d0 : decode prog_92_method_25_code 0 = .ok (.aload_n 0, 1) := by decide +kernel
theorem own_b1_d1 : decode prog_92_method_25_code 1 = .ok (.iload_n 1, 1) := by decide +kernel
theorem own_b1_d2 : decode prog_92_method_25_code 2 = .ok (.baload, 1) := by decide +kernel
theorem own_b1_d3 : decode prog_92_method_25_code 3 = .ok (.sipush 255, 3) := by decide +kernel
theorem own_b1_d6 : decode prog_92_method_25_code 6 = .ok (.iand, 1) := by decide +kernel
theorem own_b1_d7 : decode prog_92_method_25_code 7 = .ok (.bipush 24, 2) := by decide +kernel
theorem own_b1_d9 : decode prog_92_method_25_code 9 = .ok (.ishl, 1) := by decide +kernel
theorem own_b1_d10 : decode prog_92_method_25_code 10 = .ok (.aload_n 0, 1) := by decide +kernel
theorem own_b1_d11 : decode prog_92_method_25_code 11 = .ok (.iload_n 1, 1) := by decide +kernel
theorem own_b1_d12 : decode prog_92_method_25_code 12 = .ok (.iconst 1, 1) := by decide +kernel
theorem own_b1_d13 : decode prog_92_method_25_code 13 = .ok (.iadd, 1) := by decide +kernel
theorem own_b1_d14 : decode prog_92_method_25_code 14 = .ok (.baload, 1) := by decide +kernel
theorem own_b1_d15 : decode prog_92_method_25_code 15 = .ok (.sipush 255, 3) := by decide +kernel
theorem own_b1_d18 : decode prog_92_method_25_code 18 = .ok (.iand, 1) := by decide +kernel
theorem own_b1_d19 : decode prog_92_method_25_code 19 = .ok (.bipush 16, 2) := by decide +kernel
theorem own_b1_d21 : decode prog_92_method_25_code 21 = .ok (.ishl, 1) := by decide +kernel
theorem own_b1_d22 : decode prog_92_method_25_code 22 = .ok (.ior, 1) := by decide +kernel
theorem own_b1_d23 : decode prog_92_method_25_code 23 = .ok (.aload_n 0, 1) := by decide +kernel
theorem own_b1_d24 : decode prog_92_method_25_code 24 = .ok (.iload_n 1, 1) := by decide +kernel
theorem own_b1_d25 : decode prog_92_method_25_code 25 = .ok (.iconst 2, 1) := by decide +kernel
theorem own_b1_d26 : decode prog_92_method_25_code 26 = .ok (.iadd, 1) := by decide +kernel
theorem own_b1_d27 : decode prog_92_method_25_code 27 = .ok (.baload, 1) := by decide +kernel
theorem own_b1_d28 : decode prog_92_method_25_code 28 = .ok (.sipush 255, 3) := by decide +kernel
theorem own_b1_d31 : decode prog_92_method_25_code 31 = .ok (.iand, 1) := by decide +kernel
theorem own_b1_d32 : decode prog_92_method_25_code 32 = .ok (.bipush 8, 2) := by decide +kernel
theorem own_b1_d34 : decode prog_92_method_25_code 34 = .ok (.ishl, 1) := by decide +kernel
theorem own_b1_d35 : decode prog_92_method_25_code 35 = .ok (.ior, 1) := by decide +kernel
theorem own_b1_d36 : decode prog_92_method_25_code 36 = .ok (.aload_n 0, 1) := by decide +kernel
theorem own_b1_d37 : decode prog_92_method_25_code 37 = .ok (.iload_n 1, 1) := by decide +kernel
theorem own_b1_d38 : decode prog_92_method_25_code 38 = .ok (.iconst 3, 1) := by decide +kernel
theorem own_b1_d39 : decode prog_92_method_25_code 39 = .ok (.iadd, 1) := by decide +kernel
theorem own_b1_d40 : decode prog_92_method_25_code 40 = .ok (.baload, 1) := by decide +kernel
theorem own_b1_d41 : decode prog_92_method_25_code 41 = .ok (.sipush 255, 3) := by decide +kernel
theorem own_b1_d44 : decode prog_92_method_25_code 44 = .ok (.iand, 1) := by decide +kernel
theorem own_b1_d45 : decode prog_92_method_25_code 45 = .ok (.ior, 1) := by decide +kernel
theorem own_b1_d46 : decode prog_92_method_25_code 46 = .ok (.ireturn, 1) := by decide +kernel
theorem own_pn0 : plainName "com/example/tidemark/tidemark/RecordFormat" = true := by first | (simp [plainName, overriddenIn]; done) | decide +kernel
theorem own_ef_rm1 (m : MethodId) (x0 : Addr) (x1 : Int32) : entryFrame m #[(.ref x0), (.int x1)] 2 = mkF m 0 #[.val (.ref x0), .val (.int x1)] [] := by first | (simp [entryFrame, mkF, argsToLocals, Value.category]; done) | rfl
def Q1 (Z : State) (d : Addr) (x1 : Int32) (k : Nat) (n : Nat) (f : Nat → Int32) (h0 : Heap) (n0 : Nat) (v : Option Value) (h : Heap) (L : List Loc) : Prop := v = some (.int (own_gi (f k) (f (k + 1)) (f (k + 2)) (f (k + 3)))) ∧ Fr n0 L ∧ h = h0
set_option maxRecDepth 65536 in
set_option maxHeartbeats 40000000 in
theorem rm1 (l : Launch) (Z : State) (a0 : Array Value) (hw : ∀ d ∈ tables_1, d.before a0 Z = true) (ws : List Jvm.Cond) (d : Addr) (x1 : Int32) (k : Nat) (n : Nat) (f : Nat → Int32) (h0 : Heap) (n0 : Nat) (Z0 : n0 ≤ h0.size) (A : own_A Z h0 d .byte n f) (hk : own_ix x1 k) (hn : k + 3 < n) (hs : n < 100) :
    MetFree l (⟨"com/example/tidemark/tidemark/RecordFormat", "getInt", "([BI)I"⟩ : MethodName) (head1 (Jvm.Cond.code (⟨"com/example/tidemark/tidemark/RecordFormat", "getInt", "([BI)I"⟩ : MethodName) prog_92_method_25_code 2 (some .int) :: ws) ({ frames := 0, cells := 0, slots := 0, locals := 0 } : Room)) (fun aa_ U_ => aa_ = #[(.ref d), (.int x1)] ∧ Z.Warmed39 U_.vm ∧ U_.heap = h0) (fun _ _ _ _ _ => True) (fun _ U_ o_ U1_ => ∃ v_ L_, o_ = .returned v_ ∧ Q1 Z d x1 k n f h0 n0 v_ U1_.heap L_ ∧ FrameEnd U_ o_ U1_ L_ ({ frames := 0, cells := 0, slots := 0, locals := 0 } : Room).cells ({ frames := 0, cells := 0, slots := 0, locals := 0 } : Room).slots) := by
  refine MetFree.of_bodySF (plainFor_of_name own_pn0) hisR ?_
  intro p e s m args below meth c s₁ Bd hml0 hP hK
  obtain ⟨rfl, hZ, hh⟩ := hP
  have hx := Bd.exec
  have hby := Bd.bytes
  have hlk := Bd.notSynchronized
  have hml : c.maxLocals = 2 := hml0
  have hown : s.vm.findClass "com/example/tidemark/tidemark/RecordFormat" = some m.cls := findClass_of_methodNamed Bd.named
  have hnm := (name_of_methodNamed Bd.named Bd.method).1
  have X0 : Stand p l e ({ frames := 0, cells := 0, slots := 0, locals := 0 } : Room) s m #[(.ref d), (.int x1)] below meth c s₁ [] 0 0 := Stand.of_body Bd
  have e0 : s₁.heap = h0 := by rw [← hh, Bd.state]; rfl
  have N0 := Fr.nil n0
  show own_E p e below s (Q1 Z d x1 k n f h0 n0) ({ frames := 0, cells := 0, slots := 0, locals := 0 } : Room).cells ({ frames := 0, cells := 0, slots := 0, locals := 0 } : Room).slots (s₁.setTop (entryFrame m #[(.ref d), (.int x1)] 2))
  refine own_st (B := s₁.setTop (mkF m 0 #[.val (.ref d), .val (.int x1)] [])) (fun t_ k_ => castTop (own_ef_rm1 m d x1) k_) ?_
  refine own_st (B := s₁.setTop (mkF m 1 #[.val (.ref d), .val (.int x1)] [(.ref d)])) (fun t_ k_ => XS.aloadN X0.here hx rfl (hb hby own_b1_d0) rfl rfl k_) ?_
  refine own_st (B := s₁.setTop (mkF m 2 #[.val (.ref d), .val (.int x1)] [(.int x1), (.ref d)])) (fun t_ k_ => XS.iloadN X0.here hx rfl (hb hby own_b1_d1) rfl k_) ?_
  refine own_st (B := s₁.setTop (mkF m 3 #[.val (.ref d), .val (.int x1)] [(.int (f k))])) (fun t_ k_ => own_ldB X0 hx hZ e0 A (i := k) hk (by omega) (hb hby own_b1_d2) t_ k_) ?_
  refine own_st (B := s₁.setTop (mkF m 6 #[.val (.ref d), .val (.int x1)] [(.int (255 : Int32)), (.int (f k))])) (fun t_ k_ => XS.sipush X0.here hx rfl (hb hby own_b1_d3) k_) ?_
  refine own_st (B := s₁.setTop (mkF m 7 #[.val (.ref d), .val (.int x1)] [(.int ((f k) &&& (255 : Int32)))])) (fun t_ k_ => XS.iand X0.here hx rfl (hb hby own_b1_d6) rfl k_) ?_
  refine own_st (B := s₁.setTop (mkF m 9 #[.val (.ref d), .val (.int x1)] [(.int (24 : Int32)), (.int ((f k) &&& (255 : Int32)))])) (fun t_ k_ => XS.bipush X0.here hx rfl (hb hby own_b1_d7) k_) ?_
  refine own_st (B := s₁.setTop (mkF m 10 #[.val (.ref d), .val (.int x1)] [(.int (((f k) &&& (255 : Int32)) <<< ((24 : Int32) &&& 31)))])) (fun t_ k_ => XS.ishl X0.here hx rfl (hb hby own_b1_d9) rfl k_) ?_
  refine own_st (B := s₁.setTop (mkF m 11 #[.val (.ref d), .val (.int x1)] [(.ref d), (.int (((f k) &&& (255 : Int32)) <<< ((24 : Int32) &&& 31)))])) (fun t_ k_ => XS.aloadN X0.here hx rfl (hb hby own_b1_d10) rfl rfl k_) ?_
  refine own_st (B := s₁.setTop (mkF m 12 #[.val (.ref d), .val (.int x1)] [(.int x1), (.ref d), (.int (((f k) &&& (255 : Int32)) <<< ((24 : Int32) &&& 31)))])) (fun t_ k_ => XS.iloadN X0.here hx rfl (hb hby own_b1_d11) rfl k_) ?_
  refine own_st (B := s₁.setTop (mkF m 13 #[.val (.ref d), .val (.int x1)] [(.int (1 : Int32)), (.int x1), (.ref d), (.int (((f k) &&& (255 : Int32)) <<< ((24 : Int32) &&& 31)))])) (fun t_ k_ => XS.iconst X0.here hx rfl (hb hby own_b1_d12) k_) ?_
  refine own_st (B := s₁.setTop (mkF m 14 #[.val (.ref d), .val (.int x1)] [(.int (x1 + (1 : Int32))), (.ref d), (.int (((f k) &&& (255 : Int32)) <<< ((24 : Int32) &&& 31)))])) (fun t_ k_ => XS.iadd X0.here hx rfl (hb hby own_b1_d13) rfl k_) ?_
  refine own_st (B := s₁.setTop (mkF m 15 #[.val (.ref d), .val (.int x1)] [(.int (f (k + 1))), (.int (((f k) &&& (255 : Int32)) <<< ((24 : Int32) &&& 31)))])) (fun t_ k_ => own_ldB X0 hx hZ e0 A (i := (k + 1)) (own_ixa hk 1 (by omega)) (by omega) (hb hby own_b1_d14) t_ k_) ?_
  refine own_st (B := s₁.setTop (mkF m 18 #[.val (.ref d), .val (.int x1)] [(.int (255 : Int32)), (.int (f (k + 1))), (.int (((f k) &&& (255 : Int32)) <<< ((24 : Int32) &&& 31)))])) (fun t_ k_ => XS.sipush X0.here hx rfl (hb hby own_b1_d15) k_) ?_
  refine own_st (B := s₁.setTop (mkF m 19 #[.val (.ref d), .val (.int x1)] [(.int ((f (k + 1)) &&& (255 : Int32))), (.int (((f k) &&& (255 : Int32)) <<< ((24 : Int32) &&& 31)))])) (fun t_ k_ => XS.iand X0.here hx rfl (hb hby own_b1_d18) rfl k_) ?_
  refine own_st (B := s₁.setTop (mkF m 21 #[.val (.ref d), .val (.int x1)] [(.int (16 : Int32)), (.int ((f (k + 1)) &&& (255 : Int32))), (.int (((f k) &&& (255 : Int32)) <<< ((24 : Int32) &&& 31)))])) (fun t_ k_ => XS.bipush X0.here hx rfl (hb hby own_b1_d19) k_) ?_
  refine own_st (B := s₁.setTop (mkF m 22 #[.val (.ref d), .val (.int x1)] [(.int (((f (k + 1)) &&& (255 : Int32)) <<< ((16 : Int32) &&& 31))), (.int (((f k) &&& (255 : Int32)) <<< ((24 : Int32) &&& 31)))])) (fun t_ k_ => XS.ishl X0.here hx rfl (hb hby own_b1_d21) rfl k_) ?_
  refine own_st (B := s₁.setTop (mkF m 23 #[.val (.ref d), .val (.int x1)] [(.int ((((f k) &&& (255 : Int32)) <<< ((24 : Int32) &&& 31)) ||| (((f (k + 1)) &&& (255 : Int32)) <<< ((16 : Int32) &&& 31))))])) (fun t_ k_ => XS.ior X0.here hx rfl (hb hby own_b1_d22) rfl k_) ?_
  refine own_st (B := s₁.setTop (mkF m 24 #[.val (.ref d), .val (.int x1)] [(.ref d), (.int ((((f k) &&& (255 : Int32)) <<< ((24 : Int32) &&& 31)) ||| (((f (k + 1)) &&& (255 : Int32)) <<< ((16 : Int32) &&& 31))))])) (fun t_ k_ => XS.aloadN X0.here hx rfl (hb hby own_b1_d23) rfl rfl k_) ?_
  refine own_st (B := s₁.setTop (mkF m 25 #[.val (.ref d), .val (.int x1)] [(.int x1), (.ref d), (.int ((((f k) &&& (255 : Int32)) <<< ((24 : Int32) &&& 31)) ||| (((f (k + 1)) &&& (255 : Int32)) <<< ((16 : Int32) &&& 31))))])) (fun t_ k_ => XS.iloadN X0.here hx rfl (hb hby own_b1_d24) rfl k_) ?_
  refine own_st (B := s₁.setTop (mkF m 26 #[.val (.ref d), .val (.int x1)] [(.int (2 : Int32)), (.int x1), (.ref d), (.int ((((f k) &&& (255 : Int32)) <<< ((24 : Int32) &&& 31)) ||| (((f (k + 1)) &&& (255 : Int32)) <<< ((16 : Int32) &&& 31))))])) (fun t_ k_ => XS.iconst X0.here hx rfl (hb hby own_b1_d25) k_) ?_
  refine own_st (B := s₁.setTop (mkF m 27 #[.val (.ref d), .val (.int x1)] [(.int (x1 + (2 : Int32))), (.ref d), (.int ((((f k) &&& (255 : Int32)) <<< ((24 : Int32) &&& 31)) ||| (((f (k + 1)) &&& (255 : Int32)) <<< ((16 : Int32) &&& 31))))])) (fun t_ k_ => XS.iadd X0.here hx rfl (hb hby own_b1_d26) rfl k_) ?_
  refine own_st (B := s₁.setTop (mkF m 28 #[.val (.ref d), .val (.int x1)] [(.int (f (k + 2))), (.int ((((f k) &&& (255 : Int32)) <<< ((24 : Int32) &&& 31)) ||| (((f (k + 1)) &&& (255 : Int32)) <<< ((16 : Int32) &&& 31))))])) (fun t_ k_ => own_ldB X0 hx hZ e0 A (i := (k + 2)) (own_ixa hk 2 (by omega)) (by omega) (hb hby own_b1_d27) t_ k_) ?_
  refine own_st (B := s₁.setTop (mkF m 31 #[.val (.ref d), .val (.int x1)] [(.int (255 : Int32)), (.int (f (k + 2))), (.int ((((f k) &&& (255 : Int32)) <<< ((24 : Int32) &&& 31)) ||| (((f (k + 1)) &&& (255 : Int32)) <<< ((16 : Int32) &&& 31))))])) (fun t_ k_ => XS.sipush X0.here hx rfl (hb hby own_b1_d28) k_) ?_
  refine own_st (B := s₁.setTop (mkF m 32 #[.val (.ref d), .val (.int x1)] [(.int ((f (k + 2)) &&& (255 : Int32))), (.int ((((f k) &&& (255 : Int32)) <<< ((24 : Int32) &&& 31)) ||| (((f (k + 1)) &&& (255 : Int32)) <<< ((16 : Int32) &&& 31))))])) (fun t_ k_ => XS.iand X0.here hx rfl (hb hby own_b1_d31) rfl k_) ?_
  refine own_st (B := s₁.setTop (mkF m 34 #[.val (.ref d), .val (.int x1)] [(.int (8 : Int32)), (.int ((f (k + 2)) &&& (255 : Int32))), (.int ((((f k) &&& (255 : Int32)) <<< ((24 : Int32) &&& 31)) ||| (((f (k + 1)) &&& (255 : Int32)) <<< ((16 : Int32) &&& 31))))])) (fun t_ k_ => XS.bipush X0.here hx rfl (hb hby own_b1_d32) k_) ?_
  refine own_st (B := s₁.setTop (mkF m 35 #[.val (.ref d), .val (.int x1)] [(.int (((f (k + 2)) &&& (255 : Int32)) <<< ((8 : Int32) &&& 31))), (.int ((((f k) &&& (255 : Int32)) <<< ((24 : Int32) &&& 31)) ||| (((f (k + 1)) &&& (255 : Int32)) <<< ((16 : Int32) &&& 31))))])) (fun t_ k_ => XS.ishl X0.here hx rfl (hb hby own_b1_d34) rfl k_) ?_
  refine own_st (B := s₁.setTop (mkF m 36 #[.val (.ref d), .val (.int x1)] [(.int (((((f k) &&& (255 : Int32)) <<< ((24 : Int32) &&& 31)) ||| (((f (k + 1)) &&& (255 : Int32)) <<< ((16 : Int32) &&& 31))) ||| (((f (k + 2)) &&& (255 : Int32)) <<< ((8 : Int32) &&& 31))))])) (fun t_ k_ => XS.ior X0.here hx rfl (hb hby own_b1_d35) rfl k_) ?_
  refine own_st (B := s₁.setTop (mkF m 37 #[.val (.ref d), .val (.int x1)] [(.ref d), (.int (((((f k) &&& (255 : Int32)) <<< ((24 : Int32) &&& 31)) ||| (((f (k + 1)) &&& (255 : Int32)) <<< ((16 : Int32) &&& 31))) ||| (((f (k + 2)) &&& (255 : Int32)) <<< ((8 : Int32) &&& 31))))])) (fun t_ k_ => XS.aloadN X0.here hx rfl (hb hby own_b1_d36) rfl rfl k_) ?_
  refine own_st (B := s₁.setTop (mkF m 38 #[.val (.ref d), .val (.int x1)] [(.int x1), (.ref d), (.int (((((f k) &&& (255 : Int32)) <<< ((24 : Int32) &&& 31)) ||| (((f (k + 1)) &&& (255 : Int32)) <<< ((16 : Int32) &&& 31))) ||| (((f (k + 2)) &&& (255 : Int32)) <<< ((8 : Int32) &&& 31))))])) (fun t_ k_ => XS.iloadN X0.here hx rfl (hb hby own_b1_d37) rfl k_) ?_
  refine own_st (B := s₁.setTop (mkF m 39 #[.val (.ref d), .val (.int x1)] [(.int (3 : Int32)), (.int x1), (.ref d), (.int (((((f k) &&& (255 : Int32)) <<< ((24 : Int32) &&& 31)) ||| (((f (k + 1)) &&& (255 : Int32)) <<< ((16 : Int32) &&& 31))) ||| (((f (k + 2)) &&& (255 : Int32)) <<< ((8 : Int32) &&& 31))))])) (fun t_ k_ => XS.iconst X0.here hx rfl (hb hby own_b1_d38) k_) ?_
  refine own_st (B := s₁.setTop (mkF m 40 #[.val (.ref d), .val (.int x1)] [(.int (x1 + (3 : Int32))), (.ref d), (.int (((((f k) &&& (255 : Int32)) <<< ((24 : Int32) &&& 31)) ||| (((f (k + 1)) &&& (255 : Int32)) <<< ((16 : Int32) &&& 31))) ||| (((f (k + 2)) &&& (255 : Int32)) <<< ((8 : Int32) &&& 31))))])) (fun t_ k_ => XS.iadd X0.here hx rfl (hb hby own_b1_d39) rfl k_) ?_
  refine own_st (B := s₁.setTop (mkF m 41 #[.val (.ref d), .val (.int x1)] [(.int (f (k + 3))), (.int (((((f k) &&& (255 : Int32)) <<< ((24 : Int32) &&& 31)) ||| (((f (k + 1)) &&& (255 : Int32)) <<< ((16 : Int32) &&& 31))) ||| (((f (k + 2)) &&& (255 : Int32)) <<< ((8 : Int32) &&& 31))))])) (fun t_ k_ => own_ldB X0 hx hZ e0 A (i := (k + 3)) (own_ixa hk 3 (by omega)) (by omega) (hb hby own_b1_d40) t_ k_) ?_
  refine own_st (B := s₁.setTop (mkF m 44 #[.val (.ref d), .val (.int x1)] [(.int (255 : Int32)), (.int (f (k + 3))), (.int (((((f k) &&& (255 : Int32)) <<< ((24 : Int32) &&& 31)) ||| (((f (k + 1)) &&& (255 : Int32)) <<< ((16 : Int32) &&& 31))) ||| (((f (k + 2)) &&& (255 : Int32)) <<< ((8 : Int32) &&& 31))))])) (fun t_ k_ => XS.sipush X0.here hx rfl (hb hby own_b1_d41) k_) ?_
  refine own_st (B := s₁.setTop (mkF m 45 #[.val (.ref d), .val (.int x1)] [(.int ((f (k + 3)) &&& (255 : Int32))), (.int (((((f k) &&& (255 : Int32)) <<< ((24 : Int32) &&& 31)) ||| (((f (k + 1)) &&& (255 : Int32)) <<< ((16 : Int32) &&& 31))) ||| (((f (k + 2)) &&& (255 : Int32)) <<< ((8 : Int32) &&& 31))))])) (fun t_ k_ => XS.iand X0.here hx rfl (hb hby own_b1_d44) rfl k_) ?_
  refine own_st (B := s₁.setTop (mkF m 46 #[.val (.ref d), .val (.int x1)] [(.int ((((((f k) &&& (255 : Int32)) <<< ((24 : Int32) &&& 31)) ||| (((f (k + 1)) &&& (255 : Int32)) <<< ((16 : Int32) &&& 31))) ||| (((f (k + 2)) &&& (255 : Int32)) <<< ((8 : Int32) &&& 31))) ||| ((f (k + 3)) &&& (255 : Int32))))])) (fun t_ k_ => XS.ior X0.here hx rfl (hb hby own_b1_d45) rfl k_) ?_
  refine own_retI X0 hx Bd.returns hlk (hb hby own_b1_d46) (by decide) (by decide) ?_
  show Q1 Z d x1 k n f h0 n0 _ s₁.heap _
  rw [e0]
  exact ⟨rfl, N0, rfl⟩
theorem own_pd0 : parseMethodDescriptor "([BI)I" = some ⟨[(.array .byte), .int], some .int⟩ := by decide +kernel
theorem own_pn1 : plainName "com/example/tidemark/tidemark/RecordFormatGetIntPinLaw" = true := by first | (simp [plainName, overriddenIn]; done) | decide +kernel
theorem own_ef_rm0 (m : MethodId) (x0 : Int32) (x1 : Int32) (x2 : Int32) (x3 : Int32) (x4 : Int64) (x5 : Int32) : entryFrame m #[(.int x0), (.int x1), (.int x2), (.int x3), (.long x4), (.int x5)] maxLocals = mkF m 0 #[.val (.int x0), .val (.int x1), .val (.int x2), .val (.int x3), .val (.long x4), .second, .val (.int x5), .unset, .unset, .unset, .unset] [] := by first | (simp [entryFrame, mkF, argsToLocals, Value.category, maxLocals]; done) | rfl
def Q0 (Z : State) (u0 : Int32) (u1 : Int32) (u2 : Int32) (u3 : Int32) (u4 : Int64) (u5 : Int32) (h0 : Heap) (n0 : Nat) (v : Option Value) (h : Heap) (L : List Loc) : Prop := v = some (.int 1) ∧ Fr n0 L
set_option maxRecDepth 65536 in
set_option maxHeartbeats 40000000 in
theorem rm0 (l : Launch) (Z : State) (a0 : Array Value) (hw : ∀ d ∈ tables_1, d.before a0 Z = true) (ws : List Jvm.Cond) (u0 : Int32) (u1 : Int32) (u2 : Int32) (u3 : Int32) (u4 : Int64) (u5 : Int32) (h0 : Heap) (n0 : Nat) (Z0 : n0 ≤ h0.size) :
    MetFree l x (head1 (Jvm.Cond.code x code maxLocals ret :: ws) room_1) (fun aa_ U_ => aa_ = #[(.int u0), (.int u1), (.int u2), (.int u3), (.long u4), (.int u5)] ∧ Z.Warmed39 U_.vm ∧ U_.heap = h0) (fun _ _ _ _ _ => True) (fun _ U_ o_ U1_ => ∃ v_ L_, o_ = .returned v_ ∧ Q0 Z u0 u1 u2 u3 u4 u5 h0 n0 v_ U1_.heap L_ ∧ FrameEnd U_ o_ U1_ L_ 1 7) := by
  refine MetFree.of_bodySF (plainFor_of_name own_pn1) hisR ?_
  intro p e s m args below meth c s₁ Bd hml0 hP hK
  obtain ⟨rfl, hZ, hh⟩ := hP
  have hx := Bd.exec
  have hby := Bd.bytes
  have hlk := Bd.notSynchronized
  have hml : c.maxLocals = 11 := hml0
  have hown : s.vm.findClass "com/example/tidemark/tidemark/RecordFormatGetIntPinLaw" = some m.cls := findClass_of_methodNamed Bd.named
  have hnm := (name_of_methodNamed Bd.named Bd.method).1
  have X0 : Stand p l e room_1 s m #[(.int u0), (.int u1), (.int u2), (.int u3), (.long u4), (.int u5)] below meth c s₁ [] 0 0 := Stand.of_body Bd
  have e0 : s₁.heap = h0 := by rw [← hh, Bd.state]; rfl
  have N0 := Fr.nil n0
  show own_E p e below s (Q0 Z u0 u1 u2 u3 u4 u5 h0 n0) 1 7 (s₁.setTop (entryFrame m #[(.int u0), (.int u1), (.int u2), (.int u3), (.long u4), (.int u5)] maxLocals))
  refine own_st (B := s₁.setTop (mkF m 0 #[.val (.int u0), .val (.int u1), .val (.int u2), .val (.int u3), .val (.long u4), .second, .val (.int u5), .unset, .unset, .unset, .unset] [])) (fun t_ k_ => castTop (own_ef_rm0 m u0 u1 u2 u3 u4 u5) k_) ?_
  refine own_st (B := s₁.setTop (mkF m 2 #[.val (.int u0), .val (.int u1), .val (.int u2), .val (.int u3), .val (.long u4), .second, .val (.int u5), .unset, .unset, .unset, .unset] [(.int (7 : Int32))])) (fun t_ k_ => XS.bipush X0.here hx rfl (hb hby at_0) k_) ?_
  obtain ⟨T1, h1, k1, X1, e1, E1, A1, G1, st1⟩ := newPE X0 hx hZ (hw _ (List.mem_of_getElem? (i := 0) rfl)) e0 (g := (mkF m 2 #[.val (.int u0), .val (.int u1), .val (.int u2), .val (.int u3), .val (.long u4), .second, .val (.int u5), .unset, .unset, .unset, .unset] [(.int (7 : Int32))])) rfl (hb hby at_2) rfl (by decide) (cap := 7) (by decide) (by decide) (by decide) (by decide) (ad := "[B") (by decide)
  obtain ⟨b1, g1⟩ : ∃ z, z = h0.size := ⟨_, rfl⟩
  rw [← g1] at A1 G1 st1
  have g2 : n0 ≤ b1 := Nat.le_trans Z0 (Nat.le_of_eq g1.symm)
  have Z3 := Nat.le_trans Z0 E1.1
  have a1 : own_A Z h1 b1 .byte 7 (fun _ => 0) := own_A.new A1 (by decide) rfl
  refine own_st (B := T1.setTop (mkF m 4 #[.val (.int u0), .val (.int u1), .val (.int u2), .val (.int u3), .val (.long u4), .second, .val (.int u5), .unset, .unset, .unset, .unset] [(.ref b1)])) st1 ?_
  refine own_st (B := T1.setTop (mkF m 6 #[.val (.int u0), .val (.int u1), .val (.int u2), .val (.int u3), .val (.long u4), .second, .val (.int u5), .val (.ref b1), .unset, .unset, .unset] [])) (fun t_ k_ => XS.astore X1.here hx rfl (hb hby at_4) rfl rfl (l' := #[.val (.int u0), .val (.int u1), .val (.int u2), .val (.int u3), .val (.long u4), .second, .val (.int u5), .val (.ref b1), .unset, .unset, .unset]) rfl k_) ?_
  refine own_st (B := T1.setTop (mkF m 8 #[.val (.int u0), .val (.int u1), .val (.int u2), .val (.int u3), .val (.long u4), .second, .val (.int u5), .val (.ref b1), .unset, .unset, .unset] [(.ref b1)])) (fun t_ k_ => XS.aload X1.here hx rfl (hb hby at_6) rfl rfl k_) ?_
  refine own_st (B := T1.setTop (mkF m 9 #[.val (.int u0), .val (.int u1), .val (.int u2), .val (.int u3), .val (.long u4), .second, .val (.int u5), .val (.ref b1), .unset, .unset, .unset] [(.int (0 : Int32)), (.ref b1)])) (fun t_ k_ => XS.iconst X1.here hx rfl (hb hby at_8) k_) ?_
  refine own_st (B := T1.setTop (mkF m 11 #[.val (.int u0), .val (.int u1), .val (.int u2), .val (.int u3), .val (.long u4), .second, .val (.int u5), .val (.ref b1), .unset, .unset, .unset] [(.long u4), (.int (0 : Int32)), (.ref b1)])) (fun t_ k_ => XS.lload X1.here hx rfl (hb hby at_9) rfl k_) ?_
  refine own_st (B := T1.setTop (mkF m 12 #[.val (.int u0), .val (.int u1), .val (.int u2), .val (.int u3), .val (.long u4), .second, .val (.int u5), .val (.ref b1), .unset, .unset, .unset] [(.int (u4.toInt32)), (.int (0 : Int32)), (.ref b1)])) (fun t_ k_ => XS.l2i X1.here hx rfl (hb hby at_11) rfl k_) ?_
  refine own_st (B := T1.setTop (mkF m 13 #[.val (.int u0), .val (.int u1), .val (.int u2), .val (.int u3), .val (.long u4), .second, .val (.int u5), .val (.ref b1), .unset, .unset, .unset] [(.int ((u4.toInt32).toInt8.toInt32)), (.int (0 : Int32)), (.ref b1)])) (fun t_ k_ => XS.i2b X1.here hx rfl (hb hby at_12) rfl k_) ?_
  obtain ⟨T4, h4, X4, e4, W4, a4, st4⟩ := own_stB X1 hx hZ e1 a1 (i := 0) (j := (0 : Int32)) (by decide) (by decide) (pc := 13) (x := ((u4.toInt32).toInt8.toInt32)) (Ls := #[.val (.int u0), .val (.int u1), .val (.int u2), .val (.int u3), .val (.long u4), .second, .val (.int u5), .val (.ref b1), .unset, .unset, .unset]) (rest := []) (hb hby at_13)
  have N4 := Fr.snoc X4 N0 g2
  have Z5 := Nat.le_trans Z3 (Keep.of_wr W4).1
  refine own_st (B := T4.setTop (mkF m 14 #[.val (.int u0), .val (.int u1), .val (.int u2), .val (.int u3), .val (.long u4), .second, .val (.int u5), .val (.ref b1), .unset, .unset, .unset] [])) st4 ?_
  refine own_st (B := T4.setTop (mkF m 16 #[.val (.int u0), .val (.int u1), .val (.int u2), .val (.int u3), .val (.long u4), .second, .val (.int u5), .val (.ref b1), .unset, .unset, .unset] [(.ref b1)])) (fun t_ k_ => XS.aload X4.here hx rfl (hb hby at_14) rfl rfl k_) ?_
  refine own_st (B := T4.setTop (mkF m 17 #[.val (.int u0), .val (.int u1), .val (.int u2), .val (.int u3), .val (.long u4), .second, .val (.int u5), .val (.ref b1), .unset, .unset, .unset] [(.int (1 : Int32)), (.ref b1)])) (fun t_ k_ => XS.iconst X4.here hx rfl (hb hby at_16) k_) ?_
  refine own_st (B := T4.setTop (mkF m 19 #[.val (.int u0), .val (.int u1), .val (.int u2), .val (.int u3), .val (.long u4), .second, .val (.int u5), .val (.ref b1), .unset, .unset, .unset] [(.long u4), (.int (1 : Int32)), (.ref b1)])) (fun t_ k_ => XS.lload X4.here hx rfl (hb hby at_17) rfl k_) ?_
  refine own_st (B := T4.setTop (mkF m 21 #[.val (.int u0), .val (.int u1), .val (.int u2), .val (.int u3), .val (.long u4), .second, .val (.int u5), .val (.ref b1), .unset, .unset, .unset] [(.int (8 : Int32)), (.long u4), (.int (1 : Int32)), (.ref b1)])) (fun t_ k_ => XS.bipush X4.here hx rfl (hb hby at_19) k_) ?_
  refine own_st (B := T4.setTop (mkF m 22 #[.val (.int u0), .val (.int u1), .val (.int u2), .val (.int u3), .val (.long u4), .second, .val (.int u5), .val (.ref b1), .unset, .unset, .unset] [(.long ((u4.toUInt64 >>> ((8 : Int32) &&& 0x3f).toInt64.toUInt64).toInt64)), (.int (1 : Int32)), (.ref b1)])) (fun t_ k_ => XS.lushr X4.here hx rfl (hb hby at_21) rfl k_) ?_
  refine own_st (B := T4.setTop (mkF m 23 #[.val (.int u0), .val (.int u1), .val (.int u2), .val (.int u3), .val (.long u4), .second, .val (.int u5), .val (.ref b1), .unset, .unset, .unset] [(.int (((u4.toUInt64 >>> ((8 : Int32) &&& 0x3f).toInt64.toUInt64).toInt64).toInt32)), (.int (1 : Int32)), (.ref b1)])) (fun t_ k_ => XS.l2i X4.here hx rfl (hb hby at_22) rfl k_) ?_
  refine own_st (B := T4.setTop (mkF m 24 #[.val (.int u0), .val (.int u1), .val (.int u2), .val (.int u3), .val (.long u4), .second, .val (.int u5), .val (.ref b1), .unset, .unset, .unset] [(.int ((((u4.toUInt64 >>> ((8 : Int32) &&& 0x3f).toInt64.toUInt64).toInt64).toInt32).toInt8.toInt32)), (.int (1 : Int32)), (.ref b1)])) (fun t_ k_ => XS.i2b X4.here hx rfl (hb hby at_23) rfl k_) ?_
  obtain ⟨T6, h6, X6, e6, W6, a6, st6⟩ := own_stB X4 hx hZ e4 a4 (i := 1) (j := (1 : Int32)) (by decide) (by decide) (pc := 24) (x := ((((u4.toUInt64 >>> ((8 : Int32) &&& 0x3f).toInt64.toUInt64).toInt64).toInt32).toInt8.toInt32)) (Ls := #[.val (.int u0), .val (.int u1), .val (.int u2), .val (.int u3), .val (.long u4), .second, .val (.int u5), .val (.ref b1), .unset, .unset, .unset]) (rest := []) (hb hby at_24)
  have N6 := Fr.snoc X6 N4 g2
  have Z7 := Nat.le_trans Z5 (Keep.of_wr W6).1
  refine own_st (B := T6.setTop (mkF m 25 #[.val (.int u0), .val (.int u1), .val (.int u2), .val (.int u3), .val (.long u4), .second, .val (.int u5), .val (.ref b1), .unset, .unset, .unset] [])) st6 ?_
  refine own_st (B := T6.setTop (mkF m 27 #[.val (.int u0), .val (.int u1), .val (.int u2), .val (.int u3), .val (.long u4), .second, .val (.int u5), .val (.ref b1), .unset, .unset, .unset] [(.ref b1)])) (fun t_ k_ => XS.aload X6.here hx rfl (hb hby at_25) rfl rfl k_) ?_
  refine own_st (B := T6.setTop (mkF m 28 #[.val (.int u0), .val (.int u1), .val (.int u2), .val (.int u3), .val (.long u4), .second, .val (.int u5), .val (.ref b1), .unset, .unset, .unset] [(.int (2 : Int32)), (.ref b1)])) (fun t_ k_ => XS.iconst X6.here hx rfl (hb hby at_27) k_) ?_
  refine own_st (B := T6.setTop (mkF m 30 #[.val (.int u0), .val (.int u1), .val (.int u2), .val (.int u3), .val (.long u4), .second, .val (.int u5), .val (.ref b1), .unset, .unset, .unset] [(.long u4), (.int (2 : Int32)), (.ref b1)])) (fun t_ k_ => XS.lload X6.here hx rfl (hb hby at_28) rfl k_) ?_
  refine own_st (B := T6.setTop (mkF m 32 #[.val (.int u0), .val (.int u1), .val (.int u2), .val (.int u3), .val (.long u4), .second, .val (.int u5), .val (.ref b1), .unset, .unset, .unset] [(.int (16 : Int32)), (.long u4), (.int (2 : Int32)), (.ref b1)])) (fun t_ k_ => XS.bipush X6.here hx rfl (hb hby at_30) k_) ?_
  refine own_st (B := T6.setTop (mkF m 33 #[.val (.int u0), .val (.int u1), .val (.int u2), .val (.int u3), .val (.long u4), .second, .val (.int u5), .val (.ref b1), .unset, .unset, .unset] [(.long ((u4.toUInt64 >>> ((16 : Int32) &&& 0x3f).toInt64.toUInt64).toInt64)), (.int (2 : Int32)), (.ref b1)])) (fun t_ k_ => XS.lushr X6.here hx rfl (hb hby at_32) rfl k_) ?_
  refine own_st (B := T6.setTop (mkF m 34 #[.val (.int u0), .val (.int u1), .val (.int u2), .val (.int u3), .val (.long u4), .second, .val (.int u5), .val (.ref b1), .unset, .unset, .unset] [(.int (((u4.toUInt64 >>> ((16 : Int32) &&& 0x3f).toInt64.toUInt64).toInt64).toInt32)), (.int (2 : Int32)), (.ref b1)])) (fun t_ k_ => XS.l2i X6.here hx rfl (hb hby at_33) rfl k_) ?_
  refine own_st (B := T6.setTop (mkF m 35 #[.val (.int u0), .val (.int u1), .val (.int u2), .val (.int u3), .val (.long u4), .second, .val (.int u5), .val (.ref b1), .unset, .unset, .unset] [(.int ((((u4.toUInt64 >>> ((16 : Int32) &&& 0x3f).toInt64.toUInt64).toInt64).toInt32).toInt8.toInt32)), (.int (2 : Int32)), (.ref b1)])) (fun t_ k_ => XS.i2b X6.here hx rfl (hb hby at_34) rfl k_) ?_
  obtain ⟨T8, h8, X8, e8, W8, a8, st8⟩ := own_stB X6 hx hZ e6 a6 (i := 2) (j := (2 : Int32)) (by decide) (by decide) (pc := 35) (x := ((((u4.toUInt64 >>> ((16 : Int32) &&& 0x3f).toInt64.toUInt64).toInt64).toInt32).toInt8.toInt32)) (Ls := #[.val (.int u0), .val (.int u1), .val (.int u2), .val (.int u3), .val (.long u4), .second, .val (.int u5), .val (.ref b1), .unset, .unset, .unset]) (rest := []) (hb hby at_35)
  have N8 := Fr.snoc X8 N6 g2
  have Z9 := Nat.le_trans Z7 (Keep.of_wr W8).1
  refine own_st (B := T8.setTop (mkF m 36 #[.val (.int u0), .val (.int u1), .val (.int u2), .val (.int u3), .val (.long u4), .second, .val (.int u5), .val (.ref b1), .unset, .unset, .unset] [])) st8 ?_
  refine own_st (B := T8.setTop (mkF m 38 #[.val (.int u0), .val (.int u1), .val (.int u2), .val (.int u3), .val (.long u4), .second, .val (.int u5), .val (.ref b1), .unset, .unset, .unset] [(.ref b1)])) (fun t_ k_ => XS.aload X8.here hx rfl (hb hby at_36) rfl rfl k_) ?_
  refine own_st (B := T8.setTop (mkF m 39 #[.val (.int u0), .val (.int u1), .val (.int u2), .val (.int u3), .val (.long u4), .second, .val (.int u5), .val (.ref b1), .unset, .unset, .unset] [(.int (3 : Int32)), (.ref b1)])) (fun t_ k_ => XS.iconst X8.here hx rfl (hb hby at_38) k_) ?_
  refine own_st (B := T8.setTop (mkF m 41 #[.val (.int u0), .val (.int u1), .val (.int u2), .val (.int u3), .val (.long u4), .second, .val (.int u5), .val (.ref b1), .unset, .unset, .unset] [(.long u4), (.int (3 : Int32)), (.ref b1)])) (fun t_ k_ => XS.lload X8.here hx rfl (hb hby at_39) rfl k_) ?_
  refine own_st (B := T8.setTop (mkF m 43 #[.val (.int u0), .val (.int u1), .val (.int u2), .val (.int u3), .val (.long u4), .second, .val (.int u5), .val (.ref b1), .unset, .unset, .unset] [(.int (24 : Int32)), (.long u4), (.int (3 : Int32)), (.ref b1)])) (fun t_ k_ => XS.bipush X8.here hx rfl (hb hby at_41) k_) ?_
  refine own_st (B := T8.setTop (mkF m 44 #[.val (.int u0), .val (.int u1), .val (.int u2), .val (.int u3), .val (.long u4), .second, .val (.int u5), .val (.ref b1), .unset, .unset, .unset] [(.long ((u4.toUInt64 >>> ((24 : Int32) &&& 0x3f).toInt64.toUInt64).toInt64)), (.int (3 : Int32)), (.ref b1)])) (fun t_ k_ => XS.lushr X8.here hx rfl (hb hby at_43) rfl k_) ?_
  refine own_st (B := T8.setTop (mkF m 45 #[.val (.int u0), .val (.int u1), .val (.int u2), .val (.int u3), .val (.long u4), .second, .val (.int u5), .val (.ref b1), .unset, .unset, .unset] [(.int (((u4.toUInt64 >>> ((24 : Int32) &&& 0x3f).toInt64.toUInt64).toInt64).toInt32)), (.int (3 : Int32)), (.ref b1)])) (fun t_ k_ => XS.l2i X8.here hx rfl (hb hby at_44) rfl k_) ?_
  refine own_st (B := T8.setTop (mkF m 46 #[.val (.int u0), .val (.int u1), .val (.int u2), .val (.int u3), .val (.long u4), .second, .val (.int u5), .val (.ref b1), .unset, .unset, .unset] [(.int ((((u4.toUInt64 >>> ((24 : Int32) &&& 0x3f).toInt64.toUInt64).toInt64).toInt32).toInt8.toInt32)), (.int (3 : Int32)), (.ref b1)])) (fun t_ k_ => XS.i2b X8.here hx rfl (hb hby at_45) rfl k_) ?_
  obtain ⟨T10, h10, X10, e10, W10, a10, st10⟩ := own_stB X8 hx hZ e8 a8 (i := 3) (j := (3 : Int32)) (by decide) (by decide) (pc := 46) (x := ((((u4.toUInt64 >>> ((24 : Int32) &&& 0x3f).toInt64.toUInt64).toInt64).toInt32).toInt8.toInt32)) (Ls := #[.val (.int u0), .val (.int u1), .val (.int u2), .val (.int u3), .val (.long u4), .second, .val (.int u5), .val (.ref b1), .unset, .unset, .unset]) (rest := []) (hb hby at_46)
  have N10 := Fr.snoc X10 N8 g2
  have Z11 := Nat.le_trans Z9 (Keep.of_wr W10).1
  refine own_st (B := T10.setTop (mkF m 47 #[.val (.int u0), .val (.int u1), .val (.int u2), .val (.int u3), .val (.long u4), .second, .val (.int u5), .val (.ref b1), .unset, .unset, .unset] [])) st10 ?_
  refine own_st (B := T10.setTop (mkF m 49 #[.val (.int u0), .val (.int u1), .val (.int u2), .val (.int u3), .val (.long u4), .second, .val (.int u5), .val (.ref b1), .unset, .unset, .unset] [(.ref b1)])) (fun t_ k_ => XS.aload X10.here hx rfl (hb hby at_47) rfl rfl k_) ?_
  refine own_st (B := T10.setTop (mkF m 50 #[.val (.int u0), .val (.int u1), .val (.int u2), .val (.int u3), .val (.long u4), .second, .val (.int u5), .val (.ref b1), .unset, .unset, .unset] [(.int (4 : Int32)), (.ref b1)])) (fun t_ k_ => XS.iconst X10.here hx rfl (hb hby at_49) k_) ?_
  refine own_st (B := T10.setTop (mkF m 52 #[.val (.int u0), .val (.int u1), .val (.int u2), .val (.int u3), .val (.long u4), .second, .val (.int u5), .val (.ref b1), .unset, .unset, .unset] [(.long u4), (.int (4 : Int32)), (.ref b1)])) (fun t_ k_ => XS.lload X10.here hx rfl (hb hby at_50) rfl k_) ?_
  refine own_st (B := T10.setTop (mkF m 54 #[.val (.int u0), .val (.int u1), .val (.int u2), .val (.int u3), .val (.long u4), .second, .val (.int u5), .val (.ref b1), .unset, .unset, .unset] [(.int (32 : Int32)), (.long u4), (.int (4 : Int32)), (.ref b1)])) (fun t_ k_ => XS.bipush X10.here hx rfl (hb hby at_52) k_) ?_
  refine own_st (B := T10.setTop (mkF m 55 #[.val (.int u0), .val (.int u1), .val (.int u2), .val (.int u3), .val (.long u4), .second, .val (.int u5), .val (.ref b1), .unset, .unset, .unset] [(.long ((u4.toUInt64 >>> ((32 : Int32) &&& 0x3f).toInt64.toUInt64).toInt64)), (.int (4 : Int32)), (.ref b1)])) (fun t_ k_ => XS.lushr X10.here hx rfl (hb hby at_54) rfl k_) ?_
  refine own_st (B := T10.setTop (mkF m 56 #[.val (.int u0), .val (.int u1), .val (.int u2), .val (.int u3), .val (.long u4), .second, .val (.int u5), .val (.ref b1), .unset, .unset, .unset] [(.int (((u4.toUInt64 >>> ((32 : Int32) &&& 0x3f).toInt64.toUInt64).toInt64).toInt32)), (.int (4 : Int32)), (.ref b1)])) (fun t_ k_ => XS.l2i X10.here hx rfl (hb hby at_55) rfl k_) ?_
  refine own_st (B := T10.setTop (mkF m 57 #[.val (.int u0), .val (.int u1), .val (.int u2), .val (.int u3), .val (.long u4), .second, .val (.int u5), .val (.ref b1), .unset, .unset, .unset] [(.int ((((u4.toUInt64 >>> ((32 : Int32) &&& 0x3f).toInt64.toUInt64).toInt64).toInt32).toInt8.toInt32)), (.int (4 : Int32)), (.ref b1)])) (fun t_ k_ => XS.i2b X10.here hx rfl (hb hby at_56) rfl k_) ?_
  obtain ⟨T12, h12, X12, e12, W12, a12, st12⟩ := own_stB X10 hx hZ e10 a10 (i := 4) (j := (4 : Int32)) (by decide) (by decide) (pc := 57) (x := ((((u4.toUInt64 >>> ((32 : Int32) &&& 0x3f).toInt64.toUInt64).toInt64).toInt32).toInt8.toInt32)) (Ls := #[.val (.int u0), .val (.int u1), .val (.int u2), .val (.int u3), .val (.long u4), .second, .val (.int u5), .val (.ref b1), .unset, .unset, .unset]) (rest := []) (hb hby at_57)
  have N12 := Fr.snoc X12 N10 g2
  have Z13 := Nat.le_trans Z11 (Keep.of_wr W12).1
  refine own_st (B := T12.setTop (mkF m 58 #[.val (.int u0), .val (.int u1), .val (.int u2), .val (.int u3), .val (.long u4), .second, .val (.int u5), .val (.ref b1), .unset, .unset, .unset] [])) st12 ?_
  refine own_st (B := T12.setTop (mkF m 60 #[.val (.int u0), .val (.int u1), .val (.int u2), .val (.int u3), .val (.long u4), .second, .val (.int u5), .val (.ref b1), .unset, .unset, .unset] [(.ref b1)])) (fun t_ k_ => XS.aload X12.here hx rfl (hb hby at_58) rfl rfl k_) ?_
  refine own_st (B := T12.setTop (mkF m 61 #[.val (.int u0), .val (.int u1), .val (.int u2), .val (.int u3), .val (.long u4), .second, .val (.int u5), .val (.ref b1), .unset, .unset, .unset] [(.int (5 : Int32)), (.ref b1)])) (fun t_ k_ => XS.iconst X12.here hx rfl (hb hby at_60) k_) ?_
  refine own_st (B := T12.setTop (mkF m 63 #[.val (.int u0), .val (.int u1), .val (.int u2), .val (.int u3), .val (.long u4), .second, .val (.int u5), .val (.ref b1), .unset, .unset, .unset] [(.long u4), (.int (5 : Int32)), (.ref b1)])) (fun t_ k_ => XS.lload X12.here hx rfl (hb hby at_61) rfl k_) ?_
  refine own_st (B := T12.setTop (mkF m 65 #[.val (.int u0), .val (.int u1), .val (.int u2), .val (.int u3), .val (.long u4), .second, .val (.int u5), .val (.ref b1), .unset, .unset, .unset] [(.int (40 : Int32)), (.long u4), (.int (5 : Int32)), (.ref b1)])) (fun t_ k_ => XS.bipush X12.here hx rfl (hb hby at_63) k_) ?_
  refine own_st (B := T12.setTop (mkF m 66 #[.val (.int u0), .val (.int u1), .val (.int u2), .val (.int u3), .val (.long u4), .second, .val (.int u5), .val (.ref b1), .unset, .unset, .unset] [(.long ((u4.toUInt64 >>> ((40 : Int32) &&& 0x3f).toInt64.toUInt64).toInt64)), (.int (5 : Int32)), (.ref b1)])) (fun t_ k_ => XS.lushr X12.here hx rfl (hb hby at_65) rfl k_) ?_
  refine own_st (B := T12.setTop (mkF m 67 #[.val (.int u0), .val (.int u1), .val (.int u2), .val (.int u3), .val (.long u4), .second, .val (.int u5), .val (.ref b1), .unset, .unset, .unset] [(.int (((u4.toUInt64 >>> ((40 : Int32) &&& 0x3f).toInt64.toUInt64).toInt64).toInt32)), (.int (5 : Int32)), (.ref b1)])) (fun t_ k_ => XS.l2i X12.here hx rfl (hb hby at_66) rfl k_) ?_
  refine own_st (B := T12.setTop (mkF m 68 #[.val (.int u0), .val (.int u1), .val (.int u2), .val (.int u3), .val (.long u4), .second, .val (.int u5), .val (.ref b1), .unset, .unset, .unset] [(.int ((((u4.toUInt64 >>> ((40 : Int32) &&& 0x3f).toInt64.toUInt64).toInt64).toInt32).toInt8.toInt32)), (.int (5 : Int32)), (.ref b1)])) (fun t_ k_ => XS.i2b X12.here hx rfl (hb hby at_67) rfl k_) ?_
  obtain ⟨T14, h14, X14, e14, W14, a14, st14⟩ := own_stB X12 hx hZ e12 a12 (i := 5) (j := (5 : Int32)) (by decide) (by decide) (pc := 68) (x := ((((u4.toUInt64 >>> ((40 : Int32) &&& 0x3f).toInt64.toUInt64).toInt64).toInt32).toInt8.toInt32)) (Ls := #[.val (.int u0), .val (.int u1), .val (.int u2), .val (.int u3), .val (.long u4), .second, .val (.int u5), .val (.ref b1), .unset, .unset, .unset]) (rest := []) (hb hby at_68)
  have N14 := Fr.snoc X14 N12 g2
  have Z15 := Nat.le_trans Z13 (Keep.of_wr W14).1
  refine own_st (B := T14.setTop (mkF m 69 #[.val (.int u0), .val (.int u1), .val (.int u2), .val (.int u3), .val (.long u4), .second, .val (.int u5), .val (.ref b1), .unset, .unset, .unset] [])) st14 ?_
  refine own_st (B := T14.setTop (mkF m 71 #[.val (.int u0), .val (.int u1), .val (.int u2), .val (.int u3), .val (.long u4), .second, .val (.int u5), .val (.ref b1), .unset, .unset, .unset] [(.ref b1)])) (fun t_ k_ => XS.aload X14.here hx rfl (hb hby at_69) rfl rfl k_) ?_
  refine own_st (B := T14.setTop (mkF m 73 #[.val (.int u0), .val (.int u1), .val (.int u2), .val (.int u3), .val (.long u4), .second, .val (.int u5), .val (.ref b1), .unset, .unset, .unset] [(.int (6 : Int32)), (.ref b1)])) (fun t_ k_ => XS.bipush X14.here hx rfl (hb hby at_71) k_) ?_
  refine own_st (B := T14.setTop (mkF m 75 #[.val (.int u0), .val (.int u1), .val (.int u2), .val (.int u3), .val (.long u4), .second, .val (.int u5), .val (.ref b1), .unset, .unset, .unset] [(.long u4), (.int (6 : Int32)), (.ref b1)])) (fun t_ k_ => XS.lload X14.here hx rfl (hb hby at_73) rfl k_) ?_
  refine own_st (B := T14.setTop (mkF m 77 #[.val (.int u0), .val (.int u1), .val (.int u2), .val (.int u3), .val (.long u4), .second, .val (.int u5), .val (.ref b1), .unset, .unset, .unset] [(.int (48 : Int32)), (.long u4), (.int (6 : Int32)), (.ref b1)])) (fun t_ k_ => XS.bipush X14.here hx rfl (hb hby at_75) k_) ?_
  refine own_st (B := T14.setTop (mkF m 78 #[.val (.int u0), .val (.int u1), .val (.int u2), .val (.int u3), .val (.long u4), .second, .val (.int u5), .val (.ref b1), .unset, .unset, .unset] [(.long ((u4.toUInt64 >>> ((48 : Int32) &&& 0x3f).toInt64.toUInt64).toInt64)), (.int (6 : Int32)), (.ref b1)])) (fun t_ k_ => XS.lushr X14.here hx rfl (hb hby at_77) rfl k_) ?_
  refine own_st (B := T14.setTop (mkF m 79 #[.val (.int u0), .val (.int u1), .val (.int u2), .val (.int u3), .val (.long u4), .second, .val (.int u5), .val (.ref b1), .unset, .unset, .unset] [(.int (((u4.toUInt64 >>> ((48 : Int32) &&& 0x3f).toInt64.toUInt64).toInt64).toInt32)), (.int (6 : Int32)), (.ref b1)])) (fun t_ k_ => XS.l2i X14.here hx rfl (hb hby at_78) rfl k_) ?_
  refine own_st (B := T14.setTop (mkF m 80 #[.val (.int u0), .val (.int u1), .val (.int u2), .val (.int u3), .val (.long u4), .second, .val (.int u5), .val (.ref b1), .unset, .unset, .unset] [(.int ((((u4.toUInt64 >>> ((48 : Int32) &&& 0x3f).toInt64.toUInt64).toInt64).toInt32).toInt8.toInt32)), (.int (6 : Int32)), (.ref b1)])) (fun t_ k_ => XS.i2b X14.here hx rfl (hb hby at_79) rfl k_) ?_
  obtain ⟨T16, h16, X16, e16, W16, a16, st16⟩ := own_stB X14 hx hZ e14 a14 (i := 6) (j := (6 : Int32)) (by decide) (by decide) (pc := 80) (x := ((((u4.toUInt64 >>> ((48 : Int32) &&& 0x3f).toInt64.toUInt64).toInt64).toInt32).toInt8.toInt32)) (Ls := #[.val (.int u0), .val (.int u1), .val (.int u2), .val (.int u3), .val (.long u4), .second, .val (.int u5), .val (.ref b1), .unset, .unset, .unset]) (rest := []) (hb hby at_80)
  have N16 := Fr.snoc X16 N14 g2
  have Z17 := Nat.le_trans Z15 (Keep.of_wr W16).1
  refine own_st (B := T16.setTop (mkF m 81 #[.val (.int u0), .val (.int u1), .val (.int u2), .val (.int u3), .val (.long u4), .second, .val (.int u5), .val (.ref b1), .unset, .unset, .unset] [])) st16 ?_
  refine own_st (B := T16.setTop (mkF m 83 #[.val (.int u0), .val (.int u1), .val (.int u2), .val (.int u3), .val (.long u4), .second, .val (.int u5), .val (.ref b1), .unset, .unset, .unset] [(.int u5)])) (fun t_ k_ => XS.iload X16.here hx rfl (hb hby at_81) rfl k_) ?_
  refine own_st (B := T16.setTop (mkF m 84 #[.val (.int u0), .val (.int u1), .val (.int u2), .val (.int u3), .val (.long u4), .second, .val (.int u5), .val (.ref b1), .unset, .unset, .unset] [(.int (3 : Int32)), (.int u5)])) (fun t_ k_ => XS.iconst X16.here hx rfl (hb hby at_83) k_) ?_
  refine own_st (B := T16.setTop (mkF m 85 #[.val (.int u0), .val (.int u1), .val (.int u2), .val (.int u3), .val (.long u4), .second, .val (.int u5), .val (.ref b1), .unset, .unset, .unset] [(.int (u5 &&& (3 : Int32)))])) (fun t_ k_ => XS.iand X16.here hx rfl (hb hby at_84) rfl k_) ?_
  refine own_st (B := T16.setTop (mkF m 87 #[.val (.int u0), .val (.int u1), .val (.int u2), .val (.int u3), .val (.long u4), .second, .val (.int u5), .val (.ref b1), .val (.int (u5 &&& (3 : Int32))), .unset, .unset] [])) (fun t_ k_ => XS.istore X16.here hx rfl (hb hby at_85) rfl (l' := #[.val (.int u0), .val (.int u1), .val (.int u2), .val (.int u3), .val (.long u4), .second, .val (.int u5), .val (.ref b1), .val (.int (u5 &&& (3 : Int32))), .unset, .unset]) rfl k_) ?_
  obtain ⟨ff, aff⟩ : ∃ ff, own_A Z h16 b1 .byte 7 ff := ⟨_, a16⟩
  obtain ⟨kk, hkk, hkl⟩ : ∃ kk, own_ix (u5 &&& (3 : Int32)) kk ∧ kk < 4 := ⟨_, own_ixs (own_and3 u5 3 (by decide)).1, Nat.lt_succ_of_le (own_and3 u5 3 (by decide)).2⟩
  refine own_st (B := T16.setTop (mkF m 89 #[.val (.int u0), .val (.int u1), .val (.int u2), .val (.int u3), .val (.long u4), .second, .val (.int u5), .val (.ref b1), .val (.int (u5 &&& (3 : Int32))), .unset, .unset] [(.ref b1)])) (fun t_ k_ => XS.aload X16.here hx rfl (hb hby at_87) rfl rfl k_) ?_
  refine own_st (B := T16.setTop (mkF m 91 #[.val (.int u0), .val (.int u1), .val (.int u2), .val (.int u3), .val (.long u4), .second, .val (.int u5), .val (.ref b1), .val (.int (u5 &&& (3 : Int32))), .unset, .unset] [(.int (u5 &&& (3 : Int32))), (.ref b1)])) (fun t_ k_ => XS.iload X16.here hx rfl (hb hby at_89) rfl k_) ?_
  refine own_st (B := T16.setTop (mkF m 92 #[.val (.int u0), .val (.int u1), .val (.int u2), .val (.int u3), .val (.long u4), .second, .val (.int u5), .val (.ref b1), .val (.int (u5 &&& (3 : Int32))), .unset, .unset] [(.int u0), (.int (u5 &&& (3 : Int32))), (.ref b1)])) (fun t_ k_ => XS.iloadN X16.here hx rfl (hb hby at_91) rfl k_) ?_
  refine own_st (B := T16.setTop (mkF m 93 #[.val (.int u0), .val (.int u1), .val (.int u2), .val (.int u3), .val (.long u4), .second, .val (.int u5), .val (.ref b1), .val (.int (u5 &&& (3 : Int32))), .unset, .unset] [(.int (u0.toInt8.toInt32)), (.int (u5 &&& (3 : Int32))), (.ref b1)])) (fun t_ k_ => XS.i2b X16.here hx rfl (hb hby at_92) rfl k_) ?_
  obtain ⟨T18, h18, X18, e18, W18, a18, st18⟩ := own_stB X16 hx hZ e16 aff (i := kk) (j := (u5 &&& (3 : Int32))) hkk (by omega) (pc := 93) (x := (u0.toInt8.toInt32)) (Ls := #[.val (.int u0), .val (.int u1), .val (.int u2), .val (.int u3), .val (.long u4), .second, .val (.int u5), .val (.ref b1), .val (.int (u5 &&& (3 : Int32))), .unset, .unset]) (rest := []) (hb hby at_93)
  have N18 := Fr.snoc X18 N16 g2
  have Z19 := Nat.le_trans Z17 (Keep.of_wr W18).1
  refine own_st (B := T18.setTop (mkF m 94 #[.val (.int u0), .val (.int u1), .val (.int u2), .val (.int u3), .val (.long u4), .second, .val (.int u5), .val (.ref b1), .val (.int (u5 &&& (3 : Int32))), .unset, .unset] [])) st18 ?_
  refine own_st (B := T18.setTop (mkF m 96 #[.val (.int u0), .val (.int u1), .val (.int u2), .val (.int u3), .val (.long u4), .second, .val (.int u5), .val (.ref b1), .val (.int (u5 &&& (3 : Int32))), .unset, .unset] [(.ref b1)])) (fun t_ k_ => XS.aload X18.here hx rfl (hb hby at_94) rfl rfl k_) ?_
  refine own_st (B := T18.setTop (mkF m 98 #[.val (.int u0), .val (.int u1), .val (.int u2), .val (.int u3), .val (.long u4), .second, .val (.int u5), .val (.ref b1), .val (.int (u5 &&& (3 : Int32))), .unset, .unset] [(.int (u5 &&& (3 : Int32))), (.ref b1)])) (fun t_ k_ => XS.iload X18.here hx rfl (hb hby at_96) rfl k_) ?_
  refine own_st (B := T18.setTop (mkF m 99 #[.val (.int u0), .val (.int u1), .val (.int u2), .val (.int u3), .val (.long u4), .second, .val (.int u5), .val (.ref b1), .val (.int (u5 &&& (3 : Int32))), .unset, .unset] [(.int (1 : Int32)), (.int (u5 &&& (3 : Int32))), (.ref b1)])) (fun t_ k_ => XS.iconst X18.here hx rfl (hb hby at_98) k_) ?_
  refine own_st (B := T18.setTop (mkF m 100 #[.val (.int u0), .val (.int u1), .val (.int u2), .val (.int u3), .val (.long u4), .second, .val (.int u5), .val (.ref b1), .val (.int (u5 &&& (3 : Int32))), .unset, .unset] [(.int ((u5 &&& (3 : Int32)) + (1 : Int32))), (.ref b1)])) (fun t_ k_ => XS.iadd X18.here hx rfl (hb hby at_99) rfl k_) ?_
  refine own_st (B := T18.setTop (mkF m 101 #[.val (.int u0), .val (.int u1), .val (.int u2), .val (.int u3), .val (.long u4), .second, .val (.int u5), .val (.ref b1), .val (.int (u5 &&& (3 : Int32))), .unset, .unset] [(.int u1), (.int ((u5 &&& (3 : Int32)) + (1 : Int32))), (.ref b1)])) (fun t_ k_ => XS.iloadN X18.here hx rfl (hb hby at_100) rfl k_) ?_
  refine own_st (B := T18.setTop (mkF m 102 #[.val (.int u0), .val (.int u1), .val (.int u2), .val (.int u3), .val (.long u4), .second, .val (.int u5), .val (.ref b1), .val (.int (u5 &&& (3 : Int32))), .unset, .unset] [(.int (u1.toInt8.toInt32)), (.int ((u5 &&& (3 : Int32)) + (1 : Int32))), (.ref b1)])) (fun t_ k_ => XS.i2b X18.here hx rfl (hb hby at_101) rfl k_) ?_
  obtain ⟨T20, h20, X20, e20, W20, a20, st20⟩ := own_stB X18 hx hZ e18 a18 (i := (kk + 1)) (j := ((u5 &&& (3 : Int32)) + (1 : Int32))) (own_ixa hkk 1 (by omega)) (by omega) (pc := 102) (x := (u1.toInt8.toInt32)) (Ls := #[.val (.int u0), .val (.int u1), .val (.int u2), .val (.int u3), .val (.long u4), .second, .val (.int u5), .val (.ref b1), .val (.int (u5 &&& (3 : Int32))), .unset, .unset]) (rest := []) (hb hby at_102)
  have N20 := Fr.snoc X20 N18 g2
  have Z21 := Nat.le_trans Z19 (Keep.of_wr W20).1
  refine own_st (B := T20.setTop (mkF m 103 #[.val (.int u0), .val (.int u1), .val (.int u2), .val (.int u3), .val (.long u4), .second, .val (.int u5), .val (.ref b1), .val (.int (u5 &&& (3 : Int32))), .unset, .unset] [])) st20 ?_
  refine own_st (B := T20.setTop (mkF m 105 #[.val (.int u0), .val (.int u1), .val (.int u2), .val (.int u3), .val (.long u4), .second, .val (.int u5), .val (.ref b1), .val (.int (u5 &&& (3 : Int32))), .unset, .unset] [(.ref b1)])) (fun t_ k_ => XS.aload X20.here hx rfl (hb hby at_103) rfl rfl k_) ?_
  refine own_st (B := T20.setTop (mkF m 107 #[.val (.int u0), .val (.int u1), .val (.int u2), .val (.int u3), .val (.long u4), .second, .val (.int u5), .val (.ref b1), .val (.int (u5 &&& (3 : Int32))), .unset, .unset] [(.int (u5 &&& (3 : Int32))), (.ref b1)])) (fun t_ k_ => XS.iload X20.here hx rfl (hb hby at_105) rfl k_) ?_
  refine own_st (B := T20.setTop (mkF m 108 #[.val (.int u0), .val (.int u1), .val (.int u2), .val (.int u3), .val (.long u4), .second, .val (.int u5), .val (.ref b1), .val (.int (u5 &&& (3 : Int32))), .unset, .unset] [(.int (2 : Int32)), (.int (u5 &&& (3 : Int32))), (.ref b1)])) (fun t_ k_ => XS.iconst X20.here hx rfl (hb hby at_107) k_) ?_
  refine own_st (B := T20.setTop (mkF m 109 #[.val (.int u0), .val (.int u1), .val (.int u2), .val (.int u3), .val (.long u4), .second, .val (.int u5), .val (.ref b1), .val (.int (u5 &&& (3 : Int32))), .unset, .unset] [(.int ((u5 &&& (3 : Int32)) + (2 : Int32))), (.ref b1)])) (fun t_ k_ => XS.iadd X20.here hx rfl (hb hby at_108) rfl k_) ?_
  refine own_st (B := T20.setTop (mkF m 110 #[.val (.int u0), .val (.int u1), .val (.int u2), .val (.int u3), .val (.long u4), .second, .val (.int u5), .val (.ref b1), .val (.int (u5 &&& (3 : Int32))), .unset, .unset] [(.int u2), (.int ((u5 &&& (3 : Int32)) + (2 : Int32))), (.ref b1)])) (fun t_ k_ => XS.iloadN X20.here hx rfl (hb hby at_109) rfl k_) ?_
  refine own_st (B := T20.setTop (mkF m 111 #[.val (.int u0), .val (.int u1), .val (.int u2), .val (.int u3), .val (.long u4), .second, .val (.int u5), .val (.ref b1), .val (.int (u5 &&& (3 : Int32))), .unset, .unset] [(.int (u2.toInt8.toInt32)), (.int ((u5 &&& (3 : Int32)) + (2 : Int32))), (.ref b1)])) (fun t_ k_ => XS.i2b X20.here hx rfl (hb hby at_110) rfl k_) ?_
  obtain ⟨T22, h22, X22, e22, W22, a22, st22⟩ := own_stB X20 hx hZ e20 a20 (i := (kk + 2)) (j := ((u5 &&& (3 : Int32)) + (2 : Int32))) (own_ixa hkk 2 (by omega)) (by omega) (pc := 111) (x := (u2.toInt8.toInt32)) (Ls := #[.val (.int u0), .val (.int u1), .val (.int u2), .val (.int u3), .val (.long u4), .second, .val (.int u5), .val (.ref b1), .val (.int (u5 &&& (3 : Int32))), .unset, .unset]) (rest := []) (hb hby at_111)
  have N22 := Fr.snoc X22 N20 g2
  have Z23 := Nat.le_trans Z21 (Keep.of_wr W22).1
  refine own_st (B := T22.setTop (mkF m 112 #[.val (.int u0), .val (.int u1), .val (.int u2), .val (.int u3), .val (.long u4), .second, .val (.int u5), .val (.ref b1), .val (.int (u5 &&& (3 : Int32))), .unset, .unset] [])) st22 ?_
  refine own_st (B := T22.setTop (mkF m 114 #[.val (.int u0), .val (.int u1), .val (.int u2), .val (.int u3), .val (.long u4), .second, .val (.int u5), .val (.ref b1), .val (.int (u5 &&& (3 : Int32))), .unset, .unset] [(.ref b1)])) (fun t_ k_ => XS.aload X22.here hx rfl (hb hby at_112) rfl rfl k_) ?_
  refine own_st (B := T22.setTop (mkF m 116 #[.val (.int u0), .val (.int u1), .val (.int u2), .val (.int u3), .val (.long u4), .second, .val (.int u5), .val (.ref b1), .val (.int (u5 &&& (3 : Int32))), .unset, .unset] [(.int (u5 &&& (3 : Int32))), (.ref b1)])) (fun t_ k_ => XS.iload X22.here hx rfl (hb hby at_114) rfl k_) ?_
  refine own_st (B := T22.setTop (mkF m 117 #[.val (.int u0), .val (.int u1), .val (.int u2), .val (.int u3), .val (.long u4), .second, .val (.int u5), .val (.ref b1), .val (.int (u5 &&& (3 : Int32))), .unset, .unset] [(.int (3 : Int32)), (.int (u5 &&& (3 : Int32))), (.ref b1)])) (fun t_ k_ => XS.iconst X22.here hx rfl (hb hby at_116) k_) ?_
  refine own_st (B := T22.setTop (mkF m 118 #[.val (.int u0), .val (.int u1), .val (.int u2), .val (.int u3), .val (.long u4), .second, .val (.int u5), .val (.ref b1), .val (.int (u5 &&& (3 : Int32))), .unset, .unset] [(.int ((u5 &&& (3 : Int32)) + (3 : Int32))), (.ref b1)])) (fun t_ k_ => XS.iadd X22.here hx rfl (hb hby at_117) rfl k_) ?_
  refine own_st (B := T22.setTop (mkF m 119 #[.val (.int u0), .val (.int u1), .val (.int u2), .val (.int u3), .val (.long u4), .second, .val (.int u5), .val (.ref b1), .val (.int (u5 &&& (3 : Int32))), .unset, .unset] [(.int u3), (.int ((u5 &&& (3 : Int32)) + (3 : Int32))), (.ref b1)])) (fun t_ k_ => XS.iloadN X22.here hx rfl (hb hby at_118) rfl k_) ?_
  refine own_st (B := T22.setTop (mkF m 120 #[.val (.int u0), .val (.int u1), .val (.int u2), .val (.int u3), .val (.long u4), .second, .val (.int u5), .val (.ref b1), .val (.int (u5 &&& (3 : Int32))), .unset, .unset] [(.int (u3.toInt8.toInt32)), (.int ((u5 &&& (3 : Int32)) + (3 : Int32))), (.ref b1)])) (fun t_ k_ => XS.i2b X22.here hx rfl (hb hby at_119) rfl k_) ?_
  obtain ⟨T24, h24, X24, e24, W24, a24, st24⟩ := own_stB X22 hx hZ e22 a22 (i := (kk + 3)) (j := ((u5 &&& (3 : Int32)) + (3 : Int32))) (own_ixa hkk 3 (by omega)) (by omega) (pc := 120) (x := (u3.toInt8.toInt32)) (Ls := #[.val (.int u0), .val (.int u1), .val (.int u2), .val (.int u3), .val (.long u4), .second, .val (.int u5), .val (.ref b1), .val (.int (u5 &&& (3 : Int32))), .unset, .unset]) (rest := []) (hb hby at_120)
  have N24 := Fr.snoc X24 N22 g2
  have Z25 := Nat.le_trans Z23 (Keep.of_wr W24).1
  refine own_st (B := T24.setTop (mkF m 121 #[.val (.int u0), .val (.int u1), .val (.int u2), .val (.int u3), .val (.long u4), .second, .val (.int u5), .val (.ref b1), .val (.int (u5 &&& (3 : Int32))), .unset, .unset] [])) st24 ?_
  refine own_st (B := T24.setTop (mkF m 122 #[.val (.int u0), .val (.int u1), .val (.int u2), .val (.int u3), .val (.long u4), .second, .val (.int u5), .val (.ref b1), .val (.int (u5 &&& (3 : Int32))), .unset, .unset] [(.int u0)])) (fun t_ k_ => XS.iloadN X24.here hx rfl (hb hby at_121) rfl k_) ?_
  refine own_st (B := T24.setTop (mkF m 123 #[.val (.int u0), .val (.int u1), .val (.int u2), .val (.int u3), .val (.long u4), .second, .val (.int u5), .val (.ref b1), .val (.int (u5 &&& (3 : Int32))), .unset, .unset] [(.long (u0.toInt64))])) (fun t_ k_ => XS.i2l X24.here hx rfl (hb hby at_122) rfl k_) ?_
  refine own_st (B := T24.setTop (mkF m 126 #[.val (.int u0), .val (.int u1), .val (.int u2), .val (.int u3), .val (.long u4), .second, .val (.int u5), .val (.ref b1), .val (.int (u5 &&& (3 : Int32))), .unset, .unset] [(.long (255 : Int64)), (.long (u0.toInt64))])) (fun t_ k_ => X24.ldc2Long hx hown (mvT hZ (hw _ (List.mem_of_getElem? (i := 1) rfl))) (g := (mkF m 123 #[.val (.int u0), .val (.int u1), .val (.int u2), .val (.int u3), .val (.long u4), .second, .val (.int u5), .val (.ref b1), .val (.int (u5 &&& (3 : Int32))), .unset, .unset] [(.long (u0.toInt64))])) rfl (hb hby at_123) t_ k_) ?_
  refine own_st (B := T24.setTop (mkF m 127 #[.val (.int u0), .val (.int u1), .val (.int u2), .val (.int u3), .val (.long u4), .second, .val (.int u5), .val (.ref b1), .val (.int (u5 &&& (3 : Int32))), .unset, .unset] [(.long ((u0.toInt64) &&& (255 : Int64)))])) (fun t_ k_ => XS.land X24.here hx rfl (hb hby at_126) rfl k_) ?_
  refine own_st (B := T24.setTop (mkF m 130 #[.val (.int u0), .val (.int u1), .val (.int u2), .val (.int u3), .val (.long u4), .second, .val (.int u5), .val (.ref b1), .val (.int (u5 &&& (3 : Int32))), .unset, .unset] [(.long (16777216 : Int64)), (.long ((u0.toInt64) &&& (255 : Int64)))])) (fun t_ k_ => X24.ldc2Long hx hown (mvT hZ (hw _ (List.mem_of_getElem? (i := 2) rfl))) (g := (mkF m 127 #[.val (.int u0), .val (.int u1), .val (.int u2), .val (.int u3), .val (.long u4), .second, .val (.int u5), .val (.ref b1), .val (.int (u5 &&& (3 : Int32))), .unset, .unset] [(.long ((u0.toInt64) &&& (255 : Int64)))])) rfl (hb hby at_127) t_ k_) ?_
  refine own_st (B := T24.setTop (mkF m 131 #[.val (.int u0), .val (.int u1), .val (.int u2), .val (.int u3), .val (.long u4), .second, .val (.int u5), .val (.ref b1), .val (.int (u5 &&& (3 : Int32))), .unset, .unset] [(.long (((u0.toInt64) &&& (255 : Int64)) * (16777216 : Int64)))])) (fun t_ k_ => XS.lmul X24.here hx rfl (hb hby at_130) rfl k_) ?_
  refine own_st (B := T24.setTop (mkF m 132 #[.val (.int u0), .val (.int u1), .val (.int u2), .val (.int u3), .val (.long u4), .second, .val (.int u5), .val (.ref b1), .val (.int (u5 &&& (3 : Int32))), .unset, .unset] [(.int u1), (.long (((u0.toInt64) &&& (255 : Int64)) * (16777216 : Int64)))])) (fun t_ k_ => XS.iloadN X24.here hx rfl (hb hby at_131) rfl k_) ?_
  refine own_st (B := T24.setTop (mkF m 133 #[.val (.int u0), .val (.int u1), .val (.int u2), .val (.int u3), .val (.long u4), .second, .val (.int u5), .val (.ref b1), .val (.int (u5 &&& (3 : Int32))), .unset, .unset] [(.long (u1.toInt64)), (.long (((u0.toInt64) &&& (255 : Int64)) * (16777216 : Int64)))])) (fun t_ k_ => XS.i2l X24.here hx rfl (hb hby at_132) rfl k_) ?_
  refine own_st (B := T24.setTop (mkF m 136 #[.val (.int u0), .val (.int u1), .val (.int u2), .val (.int u3), .val (.long u4), .second, .val (.int u5), .val (.ref b1), .val (.int (u5 &&& (3 : Int32))), .unset, .unset] [(.long (255 : Int64)), (.long (u1.toInt64)), (.long (((u0.toInt64) &&& (255 : Int64)) * (16777216 : Int64)))])) (fun t_ k_ => X24.ldc2Long hx hown (mvT hZ (hw _ (List.mem_of_getElem? (i := 1) rfl))) (g := (mkF m 133 #[.val (.int u0), .val (.int u1), .val (.int u2), .val (.int u3), .val (.long u4), .second, .val (.int u5), .val (.ref b1), .val (.int (u5 &&& (3 : Int32))), .unset, .unset] [(.long (u1.toInt64)), (.long (((u0.toInt64) &&& (255 : Int64)) * (16777216 : Int64)))])) rfl (hb hby at_133) t_ k_) ?_
  refine own_st (B := T24.setTop (mkF m 137 #[.val (.int u0), .val (.int u1), .val (.int u2), .val (.int u3), .val (.long u4), .second, .val (.int u5), .val (.ref b1), .val (.int (u5 &&& (3 : Int32))), .unset, .unset] [(.long ((u1.toInt64) &&& (255 : Int64))), (.long (((u0.toInt64) &&& (255 : Int64)) * (16777216 : Int64)))])) (fun t_ k_ => XS.land X24.here hx rfl (hb hby at_136) rfl k_) ?_
  refine own_st (B := T24.setTop (mkF m 140 #[.val (.int u0), .val (.int u1), .val (.int u2), .val (.int u3), .val (.long u4), .second, .val (.int u5), .val (.ref b1), .val (.int (u5 &&& (3 : Int32))), .unset, .unset] [(.long (65536 : Int64)), (.long ((u1.toInt64) &&& (255 : Int64))), (.long (((u0.toInt64) &&& (255 : Int64)) * (16777216 : Int64)))])) (fun t_ k_ => X24.ldc2Long hx hown (mvT hZ (hw _ (List.mem_of_getElem? (i := 3) rfl))) (g := (mkF m 137 #[.val (.int u0), .val (.int u1), .val (.int u2), .val (.int u3), .val (.long u4), .second, .val (.int u5), .val (.ref b1), .val (.int (u5 &&& (3 : Int32))), .unset, .unset] [(.long ((u1.toInt64) &&& (255 : Int64))), (.long (((u0.toInt64) &&& (255 : Int64)) * (16777216 : Int64)))])) rfl (hb hby at_137) t_ k_) ?_
  refine own_st (B := T24.setTop (mkF m 141 #[.val (.int u0), .val (.int u1), .val (.int u2), .val (.int u3), .val (.long u4), .second, .val (.int u5), .val (.ref b1), .val (.int (u5 &&& (3 : Int32))), .unset, .unset] [(.long (((u1.toInt64) &&& (255 : Int64)) * (65536 : Int64))), (.long (((u0.toInt64) &&& (255 : Int64)) * (16777216 : Int64)))])) (fun t_ k_ => XS.lmul X24.here hx rfl (hb hby at_140) rfl k_) ?_
  refine own_st (B := T24.setTop (mkF m 142 #[.val (.int u0), .val (.int u1), .val (.int u2), .val (.int u3), .val (.long u4), .second, .val (.int u5), .val (.ref b1), .val (.int (u5 &&& (3 : Int32))), .unset, .unset] [(.long ((((u0.toInt64) &&& (255 : Int64)) * (16777216 : Int64)) + (((u1.toInt64) &&& (255 : Int64)) * (65536 : Int64))))])) (fun t_ k_ => XS.ladd X24.here hx rfl (hb hby at_141) rfl k_) ?_
  refine own_st (B := T24.setTop (mkF m 143 #[.val (.int u0), .val (.int u1), .val (.int u2), .val (.int u3), .val (.long u4), .second, .val (.int u5), .val (.ref b1), .val (.int (u5 &&& (3 : Int32))), .unset, .unset] [(.int u2), (.long ((((u0.toInt64) &&& (255 : Int64)) * (16777216 : Int64)) + (((u1.toInt64) &&& (255 : Int64)) * (65536 : Int64))))])) (fun t_ k_ => XS.iloadN X24.here hx rfl (hb hby at_142) rfl k_) ?_
  refine own_st (B := T24.setTop (mkF m 144 #[.val (.int u0), .val (.int u1), .val (.int u2), .val (.int u3), .val (.long u4), .second, .val (.int u5), .val (.ref b1), .val (.int (u5 &&& (3 : Int32))), .unset, .unset] [(.long (u2.toInt64)), (.long ((((u0.toInt64) &&& (255 : Int64)) * (16777216 : Int64)) + (((u1.toInt64) &&& (255 : Int64)) * (65536 : Int64))))])) (fun t_ k_ => XS.i2l X24.here hx rfl (hb hby at_143) rfl k_) ?_
  refine own_st (B := T24.setTop (mkF m 147 #[.val (.int u0), .val (.int u1), .val (.int u2), .val (.int u3), .val (.long u4), .second, .val (.int u5), .val (.ref b1), .val (.int (u5 &&& (3 : Int32))), .unset, .unset] [(.long (255 : Int64)), (.long (u2.toInt64)), (.long ((((u0.toInt64) &&& (255 : Int64)) * (16777216 : Int64)) + (((u1.toInt64) &&& (255 : Int64)) * (65536 : Int64))))])) (fun t_ k_ => X24.ldc2Long hx hown (mvT hZ (hw _ (List.mem_of_getElem? (i := 1) rfl))) (g := (mkF m 144 #[.val (.int u0), .val (.int u1), .val (.int u2), .val (.int u3), .val (.long u4), .second, .val (.int u5), .val (.ref b1), .val (.int (u5 &&& (3 : Int32))), .unset, .unset] [(.long (u2.toInt64)), (.long ((((u0.toInt64) &&& (255 : Int64)) * (16777216 : Int64)) + (((u1.toInt64) &&& (255 : Int64)) * (65536 : Int64))))])) rfl (hb hby at_144) t_ k_) ?_
  refine own_st (B := T24.setTop (mkF m 148 #[.val (.int u0), .val (.int u1), .val (.int u2), .val (.int u3), .val (.long u4), .second, .val (.int u5), .val (.ref b1), .val (.int (u5 &&& (3 : Int32))), .unset, .unset] [(.long ((u2.toInt64) &&& (255 : Int64))), (.long ((((u0.toInt64) &&& (255 : Int64)) * (16777216 : Int64)) + (((u1.toInt64) &&& (255 : Int64)) * (65536 : Int64))))])) (fun t_ k_ => XS.land X24.here hx rfl (hb hby at_147) rfl k_) ?_
  refine own_st (B := T24.setTop (mkF m 151 #[.val (.int u0), .val (.int u1), .val (.int u2), .val (.int u3), .val (.long u4), .second, .val (.int u5), .val (.ref b1), .val (.int (u5 &&& (3 : Int32))), .unset, .unset] [(.long (256 : Int64)), (.long ((u2.toInt64) &&& (255 : Int64))), (.long ((((u0.toInt64) &&& (255 : Int64)) * (16777216 : Int64)) + (((u1.toInt64) &&& (255 : Int64)) * (65536 : Int64))))])) (fun t_ k_ => X24.ldc2Long hx hown (mvT hZ (hw _ (List.mem_of_getElem? (i := 4) rfl))) (g := (mkF m 148 #[.val (.int u0), .val (.int u1), .val (.int u2), .val (.int u3), .val (.long u4), .second, .val (.int u5), .val (.ref b1), .val (.int (u5 &&& (3 : Int32))), .unset, .unset] [(.long ((u2.toInt64) &&& (255 : Int64))), (.long ((((u0.toInt64) &&& (255 : Int64)) * (16777216 : Int64)) + (((u1.toInt64) &&& (255 : Int64)) * (65536 : Int64))))])) rfl (hb hby at_148) t_ k_) ?_
  refine own_st (B := T24.setTop (mkF m 152 #[.val (.int u0), .val (.int u1), .val (.int u2), .val (.int u3), .val (.long u4), .second, .val (.int u5), .val (.ref b1), .val (.int (u5 &&& (3 : Int32))), .unset, .unset] [(.long (((u2.toInt64) &&& (255 : Int64)) * (256 : Int64))), (.long ((((u0.toInt64) &&& (255 : Int64)) * (16777216 : Int64)) + (((u1.toInt64) &&& (255 : Int64)) * (65536 : Int64))))])) (fun t_ k_ => XS.lmul X24.here hx rfl (hb hby at_151) rfl k_) ?_
  refine own_st (B := T24.setTop (mkF m 153 #[.val (.int u0), .val (.int u1), .val (.int u2), .val (.int u3), .val (.long u4), .second, .val (.int u5), .val (.ref b1), .val (.int (u5 &&& (3 : Int32))), .unset, .unset] [(.long (((((u0.toInt64) &&& (255 : Int64)) * (16777216 : Int64)) + (((u1.toInt64) &&& (255 : Int64)) * (65536 : Int64))) + (((u2.toInt64) &&& (255 : Int64)) * (256 : Int64))))])) (fun t_ k_ => XS.ladd X24.here hx rfl (hb hby at_152) rfl k_) ?_
  refine own_st (B := T24.setTop (mkF m 154 #[.val (.int u0), .val (.int u1), .val (.int u2), .val (.int u3), .val (.long u4), .second, .val (.int u5), .val (.ref b1), .val (.int (u5 &&& (3 : Int32))), .unset, .unset] [(.int u3), (.long (((((u0.toInt64) &&& (255 : Int64)) * (16777216 : Int64)) + (((u1.toInt64) &&& (255 : Int64)) * (65536 : Int64))) + (((u2.toInt64) &&& (255 : Int64)) * (256 : Int64))))])) (fun t_ k_ => XS.iloadN X24.here hx rfl (hb hby at_153) rfl k_) ?_
  refine own_st (B := T24.setTop (mkF m 155 #[.val (.int u0), .val (.int u1), .val (.int u2), .val (.int u3), .val (.long u4), .second, .val (.int u5), .val (.ref b1), .val (.int (u5 &&& (3 : Int32))), .unset, .unset] [(.long (u3.toInt64)), (.long (((((u0.toInt64) &&& (255 : Int64)) * (16777216 : Int64)) + (((u1.toInt64) &&& (255 : Int64)) * (65536 : Int64))) + (((u2.toInt64) &&& (255 : Int64)) * (256 : Int64))))])) (fun t_ k_ => XS.i2l X24.here hx rfl (hb hby at_154) rfl k_) ?_
  refine own_st (B := T24.setTop (mkF m 158 #[.val (.int u0), .val (.int u1), .val (.int u2), .val (.int u3), .val (.long u4), .second, .val (.int u5), .val (.ref b1), .val (.int (u5 &&& (3 : Int32))), .unset, .unset] [(.long (255 : Int64)), (.long (u3.toInt64)), (.long (((((u0.toInt64) &&& (255 : Int64)) * (16777216 : Int64)) + (((u1.toInt64) &&& (255 : Int64)) * (65536 : Int64))) + (((u2.toInt64) &&& (255 : Int64)) * (256 : Int64))))])) (fun t_ k_ => X24.ldc2Long hx hown (mvT hZ (hw _ (List.mem_of_getElem? (i := 1) rfl))) (g := (mkF m 155 #[.val (.int u0), .val (.int u1), .val (.int u2), .val (.int u3), .val (.long u4), .second, .val (.int u5), .val (.ref b1), .val (.int (u5 &&& (3 : Int32))), .unset, .unset] [(.long (u3.toInt64)), (.long (((((u0.toInt64) &&& (255 : Int64)) * (16777216 : Int64)) + (((u1.toInt64) &&& (255 : Int64)) * (65536 : Int64))) + (((u2.toInt64) &&& (255 : Int64)) * (256 : Int64))))])) rfl (hb hby at_155) t_ k_) ?_
  refine own_st (B := T24.setTop (mkF m 159 #[.val (.int u0), .val (.int u1), .val (.int u2), .val (.int u3), .val (.long u4), .second, .val (.int u5), .val (.ref b1), .val (.int (u5 &&& (3 : Int32))), .unset, .unset] [(.long ((u3.toInt64) &&& (255 : Int64))), (.long (((((u0.toInt64) &&& (255 : Int64)) * (16777216 : Int64)) + (((u1.toInt64) &&& (255 : Int64)) * (65536 : Int64))) + (((u2.toInt64) &&& (255 : Int64)) * (256 : Int64))))])) (fun t_ k_ => XS.land X24.here hx rfl (hb hby at_158) rfl k_) ?_
  refine own_st (B := T24.setTop (mkF m 160 #[.val (.int u0), .val (.int u1), .val (.int u2), .val (.int u3), .val (.long u4), .second, .val (.int u5), .val (.ref b1), .val (.int (u5 &&& (3 : Int32))), .unset, .unset] [(.long ((((((u0.toInt64) &&& (255 : Int64)) * (16777216 : Int64)) + (((u1.toInt64) &&& (255 : Int64)) * (65536 : Int64))) + (((u2.toInt64) &&& (255 : Int64)) * (256 : Int64))) + ((u3.toInt64) &&& (255 : Int64))))])) (fun t_ k_ => XS.ladd X24.here hx rfl (hb hby at_159) rfl k_) ?_
  refine own_st (B := T24.setTop (mkF m 162 #[.val (.int u0), .val (.int u1), .val (.int u2), .val (.int u3), .val (.long u4), .second, .val (.int u5), .val (.ref b1), .val (.int (u5 &&& (3 : Int32))), .val (.long ((((((u0.toInt64) &&& (255 : Int64)) * (16777216 : Int64)) + (((u1.toInt64) &&& (255 : Int64)) * (65536 : Int64))) + (((u2.toInt64) &&& (255 : Int64)) * (256 : Int64))) + ((u3.toInt64) &&& (255 : Int64)))), .second] [])) (fun t_ k_ => XS.lstore X24.here hx rfl (hb hby at_160) rfl (l' := #[.val (.int u0), .val (.int u1), .val (.int u2), .val (.int u3), .val (.long u4), .second, .val (.int u5), .val (.ref b1), .val (.int (u5 &&& (3 : Int32))), .val (.long ((((((u0.toInt64) &&& (255 : Int64)) * (16777216 : Int64)) + (((u1.toInt64) &&& (255 : Int64)) * (65536 : Int64))) + (((u2.toInt64) &&& (255 : Int64)) * (256 : Int64))) + ((u3.toInt64) &&& (255 : Int64)))), .second]) rfl k_) ?_
  refine own_st (B := T24.setTop (mkF m 164 #[.val (.int u0), .val (.int u1), .val (.int u2), .val (.int u3), .val (.long u4), .second, .val (.int u5), .val (.ref b1), .val (.int (u5 &&& (3 : Int32))), .val (.long (own_ex u0 u1 u2 u3)), .second] [(.ref b1)])) (fun t_ k_ => XS.aload X24.here hx rfl (hb hby at_162) rfl rfl k_) ?_
  refine own_st (B := T24.setTop (mkF m 166 #[.val (.int u0), .val (.int u1), .val (.int u2), .val (.int u3), .val (.long u4), .second, .val (.int u5), .val (.ref b1), .val (.int (u5 &&& (3 : Int32))), .val (.long (own_ex u0 u1 u2 u3)), .second] [(.int (u5 &&& (3 : Int32))), (.ref b1)])) (fun t_ k_ => XS.iload X24.here hx rfl (hb hby at_164) rfl k_) ?_
  obtain ⟨_, _, ⟨T26, L26, k26, n26⟩, -, X26, ⟨Lc26, hQ26, l26, y26, z26⟩, st26⟩ := Jvm.LawKit.callS X24 hx (y := (⟨"com/example/tidemark/tidemark/RecordFormat", "getInt", "([BI)I"⟩ : MethodName)) hown (mvT hZ (hw _ (List.mem_of_getElem? (i := 5) rfl))) (mvT hZ (hw _ (List.mem_of_getElem? (i := 6) rfl))) (mvT hZ (hw _ (List.mem_of_getElem? (i := 7) rfl))) (mvT hZ (hw _ (List.mem_of_getElem? (i := 8) rfl))) (by decide) (backOf (W := 0) (rm1 l Z a0 hw [] b1 (u5 &&& (3 : Int32)) kk 7 (own_up (own_up (own_up (own_up ff kk (nar .byte (u0.toInt8.toInt32))) (kk + 1) (nar .byte (u1.toInt8.toInt32))) (kk + 2) (nar .byte (u2.toInt8.toInt32))) (kk + 3) (nar .byte (u3.toInt8.toInt32))) h24 n0 Z25 a24 hkk (by omega) (by decide)) hZ (hw _ (List.mem_of_getElem? (i := 8) rfl)) (hw _ (List.mem_of_getElem? (i := 7) rfl)) (by decide) (by decide)) (g := (mkF m 166 #[.val (.int u0), .val (.int u1), .val (.int u2), .val (.int u3), .val (.long u4), .second, .val (.int u5), .val (.ref b1), .val (.int (u5 &&& (3 : Int32))), .val (.long (own_ex u0 u1 u2 u3)), .second] [(.int (u5 &&& (3 : Int32))), (.ref b1)])) rfl (by rw [hml]; rfl) (argsL := [(.ref b1), (.int (u5 &&& (3 : Int32)))]) (rest := []) (lenOf own_pd0 rfl) rfl (by show 2 * 0 + _ ≤ _; exact Nat.le_of_eq rfl) (hb hby at_166) (fun _ _ => ⟨rfl, e24, (by decide : 1 + 0 ≤ _), (by decide : 7 + 0 ≤ _)⟩)
  dsimp only [Pt.U, Pt.locs, Pt.cells, Pt.slots] at X26 l26 y26 z26 st26 hQ26
  subst l26 y26 z26
  obtain ⟨rfl, N26q, eh26⟩ := hQ26
  have N26 := Fr.app N24 N26q
  refine own_st (B := T26.setTop (mkF m 169 #[.val (.int u0), .val (.int u1), .val (.int u2), .val (.int u3), .val (.long u4), .second, .val (.int u5), .val (.ref b1), .val (.int (u5 &&& (3 : Int32))), .val (.long (own_ex u0 u1 u2 u3)), .second] [(.int (own_gi ((own_up (own_up (own_up (own_up ff kk (nar .byte (u0.toInt8.toInt32))) (kk + 1) (nar .byte (u1.toInt8.toInt32))) (kk + 2) (nar .byte (u2.toInt8.toInt32))) (kk + 3) (nar .byte (u3.toInt8.toInt32))) kk) ((own_up (own_up (own_up (own_up ff kk (nar .byte (u0.toInt8.toInt32))) (kk + 1) (nar .byte (u1.toInt8.toInt32))) (kk + 2) (nar .byte (u2.toInt8.toInt32))) (kk + 3) (nar .byte (u3.toInt8.toInt32))) (kk + 1)) ((own_up (own_up (own_up (own_up ff kk (nar .byte (u0.toInt8.toInt32))) (kk + 1) (nar .byte (u1.toInt8.toInt32))) (kk + 2) (nar .byte (u2.toInt8.toInt32))) (kk + 3) (nar .byte (u3.toInt8.toInt32))) (kk + 2)) ((own_up (own_up (own_up (own_up ff kk (nar .byte (u0.toInt8.toInt32))) (kk + 1) (nar .byte (u1.toInt8.toInt32))) (kk + 2) (nar .byte (u2.toInt8.toInt32))) (kk + 3) (nar .byte (u3.toInt8.toInt32))) (kk + 3))))])) st26 ?_
  refine own_st (B := T26.setTop (mkF m 171 #[.val (.int u0), .val (.int u1), .val (.int u2), .val (.int u3), .val (.long u4), .second, .val (.int u5), .val (.ref b1), .val (.int (u5 &&& (3 : Int32))), .val (.long (own_ex u0 u1 u2 u3)), .second] [(.long (own_ex u0 u1 u2 u3)), (.int (own_gi ((own_up (own_up (own_up (own_up ff kk (nar .byte (u0.toInt8.toInt32))) (kk + 1) (nar .byte (u1.toInt8.toInt32))) (kk + 2) (nar .byte (u2.toInt8.toInt32))) (kk + 3) (nar .byte (u3.toInt8.toInt32))) kk) ((own_up (own_up (own_up (own_up ff kk (nar .byte (u0.toInt8.toInt32))) (kk + 1) (nar .byte (u1.toInt8.toInt32))) (kk + 2) (nar .byte (u2.toInt8.toInt32))) (kk + 3) (nar .byte (u3.toInt8.toInt32))) (kk + 1)) ((own_up (own_up (own_up (own_up ff kk (nar .byte (u0.toInt8.toInt32))) (kk + 1) (nar .byte (u1.toInt8.toInt32))) (kk + 2) (nar .byte (u2.toInt8.toInt32))) (kk + 3) (nar .byte (u3.toInt8.toInt32))) (kk + 2)) ((own_up (own_up (own_up (own_up ff kk (nar .byte (u0.toInt8.toInt32))) (kk + 1) (nar .byte (u1.toInt8.toInt32))) (kk + 2) (nar .byte (u2.toInt8.toInt32))) (kk + 3) (nar .byte (u3.toInt8.toInt32))) (kk + 3))))])) (fun t_ k_ => XS.lload X26.here hx rfl (hb hby at_169) rfl k_) ?_
  refine own_st (B := T26.setTop (mkF m 172 #[.val (.int u0), .val (.int u1), .val (.int u2), .val (.int u3), .val (.long u4), .second, .val (.int u5), .val (.ref b1), .val (.int (u5 &&& (3 : Int32))), .val (.long (own_ex u0 u1 u2 u3)), .second] [(.int ((own_ex u0 u1 u2 u3).toInt32)), (.int (own_gi ((own_up (own_up (own_up (own_up ff kk (nar .byte (u0.toInt8.toInt32))) (kk + 1) (nar .byte (u1.toInt8.toInt32))) (kk + 2) (nar .byte (u2.toInt8.toInt32))) (kk + 3) (nar .byte (u3.toInt8.toInt32))) kk) ((own_up (own_up (own_up (own_up ff kk (nar .byte (u0.toInt8.toInt32))) (kk + 1) (nar .byte (u1.toInt8.toInt32))) (kk + 2) (nar .byte (u2.toInt8.toInt32))) (kk + 3) (nar .byte (u3.toInt8.toInt32))) (kk + 1)) ((own_up (own_up (own_up (own_up ff kk (nar .byte (u0.toInt8.toInt32))) (kk + 1) (nar .byte (u1.toInt8.toInt32))) (kk + 2) (nar .byte (u2.toInt8.toInt32))) (kk + 3) (nar .byte (u3.toInt8.toInt32))) (kk + 2)) ((own_up (own_up (own_up (own_up ff kk (nar .byte (u0.toInt8.toInt32))) (kk + 1) (nar .byte (u1.toInt8.toInt32))) (kk + 2) (nar .byte (u2.toInt8.toInt32))) (kk + 3) (nar .byte (u3.toInt8.toInt32))) (kk + 3))))])) (fun t_ k_ => XS.l2i X26.here hx rfl (hb hby at_171) rfl k_) ?_
  have hc27 : (own_gi ((own_up (own_up (own_up (own_up ff kk (nar .byte (u0.toInt8.toInt32))) (kk + 1) (nar .byte (u1.toInt8.toInt32))) (kk + 2) (nar .byte (u2.toInt8.toInt32))) (kk + 3) (nar .byte (u3.toInt8.toInt32))) kk) ((own_up (own_up (own_up (own_up ff kk (nar .byte (u0.toInt8.toInt32))) (kk + 1) (nar .byte (u1.toInt8.toInt32))) (kk + 2) (nar .byte (u2.toInt8.toInt32))) (kk + 3) (nar .byte (u3.toInt8.toInt32))) (kk + 1)) ((own_up (own_up (own_up (own_up ff kk (nar .byte (u0.toInt8.toInt32))) (kk + 1) (nar .byte (u1.toInt8.toInt32))) (kk + 2) (nar .byte (u2.toInt8.toInt32))) (kk + 3) (nar .byte (u3.toInt8.toInt32))) (kk + 2)) ((own_up (own_up (own_up (own_up ff kk (nar .byte (u0.toInt8.toInt32))) (kk + 1) (nar .byte (u1.toInt8.toInt32))) (kk + 2) (nar .byte (u2.toInt8.toInt32))) (kk + 3) (nar .byte (u3.toInt8.toInt32))) (kk + 3))) = ((own_ex u0 u1 u2 u3).toInt32) := own_key (by simp [own_up]) (by simp [own_up]) (by simp [own_up]) (by simp [own_up])
  have hd27 := own_eq32 hc27
  refine own_st (B := T26.setTop (mkF m 175 #[.val (.int u0), .val (.int u1), .val (.int u2), .val (.int u3), .val (.long u4), .second, .val (.int u5), .val (.ref b1), .val (.int (u5 &&& (3 : Int32))), .val (.long (own_ex u0 u1 u2 u3)), .second] [])) (fun t_ k_ => XS.icmpNo X26.here hx rfl (hb hby at_172) rfl (teq hc27).2 k_) ?_
  refine own_st (B := T26.setTop (mkF m 176 #[.val (.int u0), .val (.int u1), .val (.int u2), .val (.int u3), .val (.long u4), .second, .val (.int u5), .val (.ref b1), .val (.int (u5 &&& (3 : Int32))), .val (.long (own_ex u0 u1 u2 u3)), .second] [(.int (1 : Int32))])) (fun t_ k_ => XS.iconst X26.here hx rfl (hb hby at_175) k_) ?_
  refine own_st (B := T26.setTop (mkF m 180 #[.val (.int u0), .val (.int u1), .val (.int u2), .val (.int u3), .val (.long u4), .second, .val (.int u5), .val (.ref b1), .val (.int (u5 &&& (3 : Int32))), .val (.long (own_ex u0 u1 u2 u3)), .second] [(.int (1 : Int32))])) (fun t_ k_ => XS.goto X26.here hx rfl (pc0 := 176) (pc' := 180) rfl (hb hby at_176) (by decide) (by decide) k_) ?_
  refine own_retN X26 hx (t := .boolean) Bd.returns (by simp) hlk (hb hby at_180) (z' := (1 : Int32)) (by first | rfl | exact own_nb _ | exact own_nbb _) (by decide) (by decide) ?_
  show Q0 Z u0 u1 u2 u3 u4 u5 h0 n0 _ T26.heap _
  rw [eh26]
  exact ⟨rfl, N26⟩
set_option maxRecDepth 65536 in
set_option maxHeartbeats 40000000 in
theorem comes_1 {Post : Tables → Env → Array Value → State → Outcome → State → Prop} (hpost : ∀ tb e args s v u, (limb_1_1.after args s (.returned v) u = true ∧ limb_1_2.after args s (.returned v) u = true ∧ True) → FrameEnd s (.returned v) u (Jvm.fieldLocs frame_1_writes args s ++ Jvm.arrayLocs frame_1_arrays args s ++ Jvm.staticLocs frame_1_statics s) 16 128 → Post tb e args s (.returned v) u) :
    ArmFor flags0 classFile x code maxLocals ret World_1 tables_1 room_1 Calls_1 rest_1 Pre_1 Post := by
  intro l hfl _ _ p e ha hc hk s m args below hf hA hF happ hP
  obtain ⟨hcalls, hrest, hpre⟩ := hP
  obtain ⟨-, -, -, hnamed, -, -, -, hat⟩ := (Spec.applies_iff hf).mp happ
  obtain ⟨hg, hn⟩ := and_e (Cond.before_iff.mp (show (Jvm.Cond.and given_1 narrow_1).before args s = true from hpre))
  obtain ⟨gg1, gg2⟩ := and_e hg
  obtain ⟨gg3, gg4⟩ := and_e gg2
  obtain ⟨gg5, gg6⟩ := and_e gg4
  obtain ⟨gg7, gg8⟩ := and_e gg6
  obtain ⟨gg9, gg10⟩ := and_e gg8
  obtain ⟨gg11, gg12⟩ := and_e gg10
  obtain ⟨w0, w1, w2, w3, w4, w5, rfl⟩ : ∃ w0 w1 w2 w3 w4 w5 : Value, args = #[w0, w1, w2, w3, w4, w5] := by
    have hs : args.size = 6 := by simpa [Cond.value, given_1] using gg1
    obtain ⟨L⟩ := args
    match L, hs with
    | [w0, w1, w2, w3, w4, w5], _ => exact ⟨w0, w1, w2, w3, w4, w5, rfl⟩
  have hw := fun d (hd : d ∈ tables_1) => atoms_spec (ws := Jvm.Cond.code x code maxLocals ret :: tables_1) hat d (List.mem_cons_of_mem _ hd)
  have hfit : Fit s := fun {y c} hc i hi => by
    obtain ⟨ha, rfl⟩ := Array.getElem?_eq_some_iff.mp hc
    have q := List.all_eq_true.mp ((Array.all_eq_true_iff_forall_mem.mp hF) _ (Array.getElem_mem ha)) i (List.mem_range.mpr hi)
    simpa [Array.getElem?_eq_getElem hi] using q
  obtain ⟨i0, ei0⟩ := is_v gg3
  obtain rfl : w0 = (.int i0) := Option.some.inj ei0
  obtain ⟨i1, ei1⟩ := is_v gg5
  obtain rfl : w1 = (.int i1) := Option.some.inj ei1
  obtain ⟨i2, ei2⟩ := is_v gg7
  obtain rfl : w2 = (.int i2) := Option.some.inj ei2
  obtain ⟨i3, ei3⟩ := is_v gg9
  obtain rfl : w3 = (.int i3) := Option.some.inj ei3
  obtain ⟨i4, ei4⟩ := isL_v gg11
  obtain rfl : w4 = (.long i4) := Option.some.inj ei4
  obtain ⟨i5, ei5⟩ := is_v gg12
  obtain rfl : w5 = (.int i5) := Option.some.inj ei5
  obtain ⟨n, o, h1, h2, h3, _, L, rfl, ⟨rfl, N⟩, hq⟩ := rm0 l s _ hw tables_1 i0 i1 i2 i3 i4 i5 s.heap s.heap.size (Nat.le_refl _)  p e ha hc hk s m _ below hf ((Spec.applies_iff_loose hf).mp happ).1 ⟨rfl, State.Warmed39.refl s, rfl⟩ trivial
  refine ⟨n, _, h1, h2, h3, hpost _ _ _ _ _ _ ⟨Cond.after_iff.mpr rfl, Cond.after_iff.mpr (eq_i res_at (Term.int_eval (1)) rfl), trivial⟩ ⟨hq.1, hq.2.1, (hq.2.2.sift fun y hy => Or.inr (N y hy)).mono (by decide) (by decide)⟩⟩
theorem main_1_1 : Claimed_1_1 := comes_1 fun _ _ _ _ _ _ h hF => ⟨h.1, hF⟩
theorem main_1_2 : Claimed_1_2 := comes_1 fun _ _ _ _ _ _ h hF => ⟨h.2.1, hF⟩
end Jvm.Pilot.@@N@@
namespace Jvm.Pilot.@@N@@
open Jvm Jvm.ClassFile Sem Op Lib Jvm.Free Jvm.Stand Jvm.Pilot.@@N@@.Jvm.D
/-! MADE BY PROGRAM (witnessworld.py) out of the Statement's table words and the real class files: 9 classes; the members and pool entries that the words name. The judged class is class 1, her method 1. -/
namespace start1
open Jvm.ClassFile
def u (s : String) : CpInfo := .utf8 (stringToUtf16 s)
/-- a pool by its gaps: so many unusable entries, then the entry; so many at the end -/
def gap : Nat → List CpInfo → List CpInfo
  | 0, r => r
  | n + 1, r => .unusable :: gap n r
def poolList (es : List (Nat × CpInfo)) (last : Nat) : List CpInfo := es.foldr (fun e r => gap e.1 (e.2 :: r)) (gap last [])
def pool (es : List (Nat × CpInfo)) (last : Nat) : Array CpInfo := ⟨poolList es last⟩
def fileOf (pool : Array CpInfo) (this : Nat) (attrs : Array Attribute := #[]) (ms : Array MethodInfo := #[]) (fl : Nat := 33) (sup : Nat := 0) (ifs : Array Nat := #[]) (fds : Array FieldInfo := #[]) : ClassFile where
  minorVersion := 0
  majorVersion := 65
  constantPool := pool
  accessFlags := fl
  thisClass := this
  superClass := sup
  interfaces := ifs
  fields := fds
  methods := ms
  attributes := attrs
def plain (name : String) (sup : Option ClassId) : Class where
  name := name
  kind := .ordinary
  loader := none
  accessFlags := 33
  super := sup
  interfaces := #[]
  cf := none
  fields := #[]
  methods := #[]
  instanceTypes := #[]
  staticTypes := #[]
  resolved := #[]
  callSites := []
  init := .initialized
  statics := none
  mirror := none

def pool0 : Array CpInfo := pool [(5, u "<init>"), (0, u "()V"), (1, .class_ 10), (1, u "java/lang/Object")] 113

def k0m0 : Method := { name := "<init>", desc := "()V", sig := { parameters := [], returnType := none }, accessFlags := 1, code := none }
/-- java/lang/Object -/
def k0 : Class := { plain "java/lang/Object" none with
  accessFlags := 33
  interfaces := #[]
  cf := some (fileOf pool0 8 #[] #[{ accessFlags := 1, nameIndex := 5, descriptorIndex := 6, attributes := #[] }] 33 0 #[] #[])
  fields := #[]
  methods := #[k0m0]
  instanceTypes := #[]
  staticTypes := #[]
  resolved := Array.replicate 124 none
  statics := none }

def pool1 : Array CpInfo := pool [(2, .class_ 4), (1, u "java/lang/Object"), (0, u "<init>"), (0, u "()V"), (0, .long 255), (1, .long 16777216), (1, .long 65536), (1, .long 256), (1, .methodref 16 17), (0, .class_ 18), (0, .nameAndType 19 20), (0, u "com/example/tidemark/tidemark/RecordFormat"), (0, u "getInt"), (0, u "([BI)I"), (0, .class_ 22), (0, u "com/example/tidemark/tidemark/RecordFormatGetIntPinLaw"), (2, u "law"), (0, u "(IIIIJI)Z")] 5

def k1m0 : Method := { name := "<init>", desc := "()V", sig := { parameters := [], returnType := none }, accessFlags := 1, code := none }
def k1c1 : Code := { maxStack := 6, maxLocals := 11, code := code, exceptionTable := #[], attributes := #[] }
def k1m1 : Method := { name := "law", desc := "(IIIIJI)Z", sig := { parameters := [.int, .int, .int, .int, .long, .int], returnType := some .boolean }, accessFlags := 9, code := some k1c1 }
/-- com/example/tidemark/tidemark/RecordFormatGetIntPinLaw -/
def k1 : Class := { plain "com/example/tidemark/tidemark/RecordFormatGetIntPinLaw" (some 0) with
  accessFlags := 49
  interfaces := #[]
  cf := some (fileOf pool1 21 #[] #[{ accessFlags := 1, nameIndex := 5, descriptorIndex := 6, attributes := #[] }, { accessFlags := 9, nameIndex := 25, descriptorIndex := 26, attributes := #[] }] 49 2 #[] #[])
  fields := #[]
  methods := #[k1m0, k1m1]
  instanceTypes := #[]
  staticTypes := #[]
  resolved := Array.replicate 32 none
  statics := none }

def pool2 : Array CpInfo := pool [(1, .class_ 2), (0, u "com/example/tidemark/tidemark/RecordFormat"), (1, .class_ 6), (1, u "java/lang/Object"), (0, u "<init>"), (0, u "()V"), (20, .class_ 31), (1, u "com/example/tidemark/tidemark/RecordFormat$Checks"), (10, u "getInt"), (0, u "([BI)I"), (61, u "[B"), (12, u "HEADER_OFFSET"), (0, u "I"), (5, u "SEAL_OFFSET"), (71, u "MAGIC"), (219, u "FRAME_SIZE"), (2, u "TRAILER_SIZE"), (1, u "OVERHEAD"), (1, u "SECTOR_SIZE"), (1, u "ZEROS_CHUNK_SIZE"), (1, u "VARINT_MAX_SIZE"), (1, u "VARINT_BITS"), (1, u "VARINT_MORE")] 125

def k2m0 : Method := { name := "<init>", desc := "()V", sig := { parameters := [], returnType := none }, accessFlags := 2, code := none }
def k2c1 : Code := { maxStack := 4, maxLocals := 2, code := prog_92_method_25_code, exceptionTable := #[], attributes := #[] }
def k2m1 : Method := { name := "getInt", desc := "([BI)I", sig := { parameters := [(.array .byte), .int], returnType := some .int }, accessFlags := 8, code := some k2c1 }
/-- com/example/tidemark/tidemark/RecordFormat -/
def k2 : Class := { plain "com/example/tidemark/tidemark/RecordFormat" (some 0) with
  accessFlags := 48
  interfaces := #[]
  cf := some (fileOf pool2 1 #[.nestMembers #[29]] #[{ accessFlags := 2, nameIndex := 7, descriptorIndex := 8, attributes := #[] }, { accessFlags := 8, nameIndex := 42, descriptorIndex := 43, attributes := #[] }] 48 4 #[] #[{ accessFlags := 24, nameIndex := 197, descriptorIndex := 105, attributes := #[] }, { accessFlags := 24, nameIndex := 125, descriptorIndex := 119, attributes := #[] }, { accessFlags := 24, nameIndex := 118, descriptorIndex := 119, attributes := #[] }, { accessFlags := 24, nameIndex := 417, descriptorIndex := 119, attributes := #[] }, { accessFlags := 24, nameIndex := 420, descriptorIndex := 119, attributes := #[] }, { accessFlags := 24, nameIndex := 422, descriptorIndex := 119, attributes := #[] }, { accessFlags := 24, nameIndex := 424, descriptorIndex := 119, attributes := #[] }, { accessFlags := 26, nameIndex := 426, descriptorIndex := 119, attributes := #[] }, { accessFlags := 24, nameIndex := 428, descriptorIndex := 119, attributes := #[] }, { accessFlags := 26, nameIndex := 430, descriptorIndex := 119, attributes := #[] }, { accessFlags := 26, nameIndex := 432, descriptorIndex := 119, attributes := #[] }])
  fields := #[{ name := "MAGIC", type := (.array .byte), accessFlags := 24, slot := 0, constantValue := 0 }, { name := "SEAL_OFFSET", type := .int, accessFlags := 24, slot := 1, constantValue := 0 }, { name := "HEADER_OFFSET", type := .int, accessFlags := 24, slot := 2, constantValue := 0 }, { name := "FRAME_SIZE", type := .int, accessFlags := 24, slot := 3, constantValue := 0 }, { name := "TRAILER_SIZE", type := .int, accessFlags := 24, slot := 4, constantValue := 0 }, { name := "OVERHEAD", type := .int, accessFlags := 24, slot := 5, constantValue := 0 }, { name := "SECTOR_SIZE", type := .int, accessFlags := 24, slot := 6, constantValue := 0 }, { name := "ZEROS_CHUNK_SIZE", type := .int, accessFlags := 26, slot := 7, constantValue := 0 }, { name := "VARINT_MAX_SIZE", type := .int, accessFlags := 24, slot := 8, constantValue := 0 }, { name := "VARINT_BITS", type := .int, accessFlags := 26, slot := 9, constantValue := 0 }, { name := "VARINT_MORE", type := .int, accessFlags := 26, slot := 10, constantValue := 0 }]
  methods := #[k2m0, k2m1]
  instanceTypes := #[]
  staticTypes := #[(.array .byte), .int, .int, .int, .int, .int, .int, .int, .int, .int, .int]
  resolved := Array.replicate 558 none
  statics := none }

def pool3 : Array CpInfo := pool [(1, u "java/lang/Cloneable"), (0, .class_ 1), (0, u "java/lang/Object"), (0, .class_ 3)] 3

/-- java/lang/Cloneable -/
def k3 : Class := { plain "java/lang/Cloneable" (some 0) with
  accessFlags := 1537
  interfaces := #[]
  cf := some (fileOf pool3 2 #[] #[] 1537 4 #[] #[])
  fields := #[]
  methods := #[]
  instanceTypes := #[]
  staticTypes := #[]
  resolved := Array.replicate 8 none
  statics := none }

def pool4 : Array CpInfo := pool [(1, u "java/io/Serializable"), (0, .class_ 1), (0, u "java/lang/Object"), (0, .class_ 3)] 3

/-- java/io/Serializable -/
def k4 : Class := { plain "java/io/Serializable" (some 0) with
  accessFlags := 1537
  interfaces := #[]
  cf := some (fileOf pool4 2 #[] #[] 1537 4 #[] #[])
  fields := #[]
  methods := #[]
  instanceTypes := #[]
  staticTypes := #[]
  resolved := Array.replicate 8 none
  statics := none }

/-- the primitive byte -/
def k5 : Class := { plain "byte" none with kind := .primitive 'B', accessFlags := 0x411 }
/-- [B -/
def k6 : Class := { plain "[B" (some 0) with kind := .array 5 .byte, interfaces := #[3, 4], accessFlags := 1041 }

/-- the primitive int -/
def k7 : Class := { plain "int" none with kind := .primitive 'I', accessFlags := 0x411 }
/-- [I -/
def k8 : Class := { plain "[I" (some 0) with kind := .array 7 .int, interfaces := #[3, 4], accessFlags := 1041 }

def heap : Heap := #[]
def classes : Array Class := #[k0, k1, k2, k3, k4, k5, k6, k7, k8]
def interned : List (Array UInt16 × Addr) := []
def slotsUsed : Nat := 0
def theMethod : MethodId := ⟨1, 1⟩
def args0 : Array Value := #[.int 5, .int 6, .int 7, .int 8, .long 1, .int 2]
def aboutOver (below : List Frame) : State where
  vm := { classes := classes, interned := interned.toArray }
  heap := heap
  slotsUsed := slotsUsed
  threads := #[{ frames := .invoking theMethod args0 :: below }]
def below0 : List Frame := [.native { method := ⟨0, 0⟩, args := #[] }]
def about1 : State := aboutOver below0
def p0 : Program := .bare "" "" ""
def e0 : Env := launch0.env 0 0 0
theorem w_frames : about1.frames = Frame.invoking theMethod args0 :: below0 := rfl
set_option maxRecDepth 65536 in
theorem w_args : argsFit about1.vm theMethod args0 = true := by decide +kernel
set_option maxRecDepth 65536 in
theorem w_heap : heapFits about1 = true := by decide +kernel
set_option maxRecDepth 65536 in
theorem w_runnable : about1.curStatus? = some .runnable := by decide +kernel
set_option maxRecDepth 65536 in
theorem w_alone : about1.alone = true := by decide +kernel
set_option maxRecDepth 65536 in
theorem w_named : about1.methodNamed? x = some theMethod := by decide +kernel
set_option maxRecDepth 65536 in
theorem w_hears : about1.hears theMethod below0 = true := by decide +kernel
set_option maxRecDepth 65536 in
theorem w_ripe : about1.ripe theMethod args0 below0 = true := by decide +kernel
theorem w_running : about1.status = .running := rfl
set_option maxRecDepth 65536 in
theorem w_room : about1.hasRoom e0.platform room_1 = true :=
  launch0.hasRoom_least _ room_1 (by decide +kernel) (by decide +kernel) (by decide +kernel) (by decide +kernel) (by decide +kernel) (by decide +kernel)
theorem allAtoms_all (ts : List Jvm.Cond) (a : Array Jvm.Value) (st : Jvm.State) : (allAtoms ts).before a st = ts.all (fun c => c.before a st) := by
  induction ts with
  | nil => rfl
  | cons c t ih =>
    show (Jvm.Cond.and c (allAtoms t)).before a st = _
    rw [Jvm.Cond.before_and, ih, List.all_cons]
def words1 : List Jvm.Cond := Jvm.Cond.code x code maxLocals ret :: tables_1
/-- a 'code' word, met by the world's own term for the bytes: nothing is compared byte by byte -/
theorem code_word {y : MethodName} {bytes : ByteArray} {mx : Nat} {rt : Option FieldType} {a : Array Value} {s : State} {m : MethodId} {meth : Method} {c : Code} (h1 : s.methodNamed? y = some m) (h2 : s.vm.method? m = some meth) (h3 : meth.code = some c) (h4 : c.code = bytes)
    (h5 : (c.maxLocals == mx && c.exceptionTable.isEmpty && decide (c.maxStack ≤ mostOperands) && decide (meth.sig.returnType = rt) && !meth.locks && decide (parseMethodDescriptor y.desc = some meth.sig)) = true) : (Jvm.Cond.code y bytes mx rt).before a s = true := by
  simp only [Bool.and_eq_true, beq_iff_eq, Bool.not_eq_true', decide_eq_true_eq] at h5
  obtain ⟨⟨⟨⟨⟨g1, g2⟩, g3⟩, g4⟩, g5⟩, g6⟩ := h5
  simp [Cond.before, Cond.holds, Cond.value, h1, h2, h3, h4, g1, g2, g3, g4, g5, g6]
def isCode : Jvm.Cond → Bool
  | .code _ _ _ _ => true
  | _ => false
theorem all_split {L : List Jvm.Cond} {P : Jvm.Cond → Bool} (h1 : L.all (fun c => isCode c || P c) = true) (h2 : ∀ c ∈ L.filter isCode, P c = true) : L.all P = true := by
  refine List.all_eq_true.mpr fun c hc => ?_
  have h := List.all_eq_true.mp h1 c hc
  rcases Bool.eq_false_or_eq_true (isCode c) with hi | hi
  · exact h2 c (List.mem_filter.mpr ⟨hc, hi⟩)
  · simpa [hi] using h
set_option maxRecDepth 65536 in
theorem w_c0 : (Jvm.Cond.code x code maxLocals ret).before args0 about1 = true := code_word (m := ⟨1, 1⟩) (meth := k1m1) (c := k1c1) (by decide +kernel) rfl rfl rfl (by decide +kernel)
set_option maxRecDepth 65536 in
theorem w_c1 : (Jvm.Cond.code ({ cls := "com/example/tidemark/tidemark/RecordFormat", name := "getInt", desc := "([BI)I" } : Jvm.MethodName) prog_92_method_25_code (2 : Nat) (Option.some Jvm.ClassFile.FieldType.int)).before args0 about1 = true := code_word (m := ⟨2, 1⟩) (meth := k2m1) (c := k2c1) (by decide +kernel) rfl rfl rfl (by decide +kernel)
def codes1 : List Jvm.Cond := [Jvm.Cond.code x code maxLocals ret, Jvm.Cond.code ({ cls := "com/example/tidemark/tidemark/RecordFormat", name := "getInt", desc := "([BI)I" } : Jvm.MethodName) prog_92_method_25_code (2 : Nat) (Option.some Jvm.ClassFile.FieldType.int)]
set_option maxRecDepth 65536 in
theorem codes_eq : words1.filter isCode = codes1 := rfl
theorem w_codes : ∀ c ∈ words1.filter isCode, c.before args0 about1 = true := by
  rw [codes_eq]
  intro c hc
  simp only [codes1, List.mem_cons, List.not_mem_nil, or_false] at hc
  rcases hc with rfl | rfl
  · exact w_c0
  · exact w_c1
set_option maxRecDepth 65536 in
theorem w_t1 : words1.all (fun c => isCode c || c.before args0 about1) = true := by decide +kernel
theorem w_tables : (allAtoms (Jvm.Cond.code x code maxLocals ret :: tables_1)).before args0 about1 = true := by
  rw [allAtoms_all]
  show words1.all (fun c => c.before args0 about1) = true
  refine all_split ?_ w_codes
  rw [w_t1]
set_option maxRecDepth 65536 in
theorem w_case : (Jvm.Cond.and given_1 narrow_1).before args0 about1 = true := by decide +kernel
theorem w_applies : (headSpec (Jvm.Cond.code x code maxLocals ret :: tables_1) room_1).applies x e0.platform about1 = true :=
  (Spec.applies_iff w_frames).mpr ⟨w_running, w_runnable, w_alone, w_named, w_hears, w_ripe, w_room, w_tables⟩
theorem atStart : AtStart classFile x code maxLocals ret World_1 tables_1 room_1 Calls_1 rest_1 Pre_1 launch0 p0 e0 about1 theMethod args0 below0 :=
  ⟨lists_1, trivial, launch0.admits_env _ _ _, launch0.least_env, fairChoices_fair.cas, fairChoices_fair.clock, w_frames, w_args, w_heap, w_applies, trivial, trivial, w_case⟩
end start1
theorem witness_1 : WitnessClaimed_1 := ⟨start1.p0, start1.e0, start1.about1, start1.theMethod, start1.args0, start1.below0, start1.atStart⟩
end Jvm.Pilot.@@N@@
