import JvmDerived
import JvmDerived.Pilot.@@N@@Statement
import JvmDerived.Pilot.@@N@@Code
set_option linter.unusedVariables false
set_option linter.unusedSimpArgs false

namespace Jvm.Pilot.@@N@@
open Jvm Jvm.ClassFile Sem Op Lib Jvm.Free Jvm.Stand Jvm.LawKit Jvm.RoadKit Bundle Jvm.Pilot.@@N@@.Jvm.D
section Own
variable {p : Program} {l : Launch} {e : Env} {R : Room} {s : State} {m : MethodId} {args : Array Value} {below : List Frame} {meth : Method} {c : Code} {T : State} {locs : List Loc} {cells slots : Nat} {Z : State} {h h' : Heap}
/-- the run from A comes to the method's end as Q says, with at most kc new cells and ks new slots -/
def own_E (p : Program) (e : Env) (below : List Frame) (s : State) (Q : Option Value → Heap → List Loc → Prop) (kc ks : Nat) (A : State) : Prop :=
  ∃ s₂ o, Steps p.tables e below A s₂ ∧ s₂.status = .running ∧ Ended s₂ below o ∧ ∃ v L, o = .returned v ∧ Q v s₂.heap L ∧ FrameEnd s o s₂ L kc ks
variable {Q : Option Value → Heap → List Loc → Prop} {kc ks : Nat} {A B : State}
theorem own_st (k : ∀ t, Steps p.tables e below B t → Steps p.tables e below A t) (h : own_E p e below s Q kc ks B) : own_E p e below s Q kc ks A := by
  obtain ⟨t, o, h1, h2⟩ := h
  exact ⟨t, o, k t h1, h2⟩
theorem own_end (X : Stand p l e R s m args below meth c T locs cells slots) {v : Option Value} (hv : meth.sig.returnType = none → v = none) (hlk : meth.locks = false)
    (hk : ∀ fs, (∀ (f : JFrame) (acts : List Action), f.method = m → f.locked = none → f.entered = [] → (doReturn e (T.setTop f) acts v).1 = T.setFrames fs) → Steps p.tables e below A (T.setFrames fs)) (hc : cells ≤ kc) (hs : slots ≤ ks) (hQ : Q v T.heap locs) : own_E p e below s Q kc ks A := by
  obtain ⟨fs, hr, hrun, hended, hW, hsame⟩ := X.leave (v := v) hv hlk
  exact ⟨_, _, hk fs hr, hrun, hended, _, _, rfl, hQ, ⟨_, rfl⟩, hW, hsame.mono hc hs⟩
theorem own_retN (X : Stand p l e R s m args below meth c T locs cells slots) (hx : p.tables.exec = Jvm.exec) {pc : Nat} {Ls : Array Slot} {z z' : Int32} {t : FieldType} {rest : List Value} (hret : meth.sig.returnType = some t) (ht : t = .boolean ∨ t = .byte ∨ t = .char ∨ t = .short) (hlk : meth.locks = false)
    (hd : decode c.code pc = .ok (.ireturn, 1)) (hz : nar t z = z') (hc : cells ≤ kc) (hs : slots ≤ ks) (hQ : Q (some (.int z')) T.heap locs) : own_E p e below s Q kc ks (T.setTop (mkF m pc Ls (.int z :: rest))) := by
  subst hz
  exact own_end X (fun q => by rw [hret] at q; cases q) hlk (fun fs hr => retN X hx hret ht hd hr) hc hs hQ
theorem own_retI (X : Stand p l e R s m args below meth c T locs cells slots) (hx : p.tables.exec = Jvm.exec) {pc : Nat} {Ls : Array Slot} {z : Int32} {rest : List Value} (hret : meth.sig.returnType = some .int) (hlk : meth.locks = false)
    (hd : decode c.code pc = .ok (.ireturn, 1)) (hc : cells ≤ kc) (hs : slots ≤ ks) (hQ : Q (some (.int z)) T.heap locs) : own_E p e below s Q kc ks (T.setTop (mkF m pc Ls (.int z :: rest))) := by
  refine own_end X (fun q => by rw [hret] at q; cases q) hlk (fun fs hr => ?_) hc hs hQ
  have hm' : T.vm.method? m = some meth := X.method'
  have hn : narrow .int (.int z) = .int z := rfl
  show Steps p.tables e below (T.setTop { method := m, pc := pc, locals := Ls, stack := _ :: rest, locked := none }) _
  jvm_step X.here [X.here.top, hx, hd, hm', hret, hn]
  first | (intro acts; rw [hr _ acts rfl rfl rfl]) | rw [hr _ _ rfl rfl rfl]
  exact Steps.refl _
theorem own_retJ (X : Stand p l e R s m args below meth c T locs cells slots) (hx : p.tables.exec = Jvm.exec) {pc : Nat} {Ls : Array Slot} {z : Int64} (hret : meth.sig.returnType = some .long) (hlk : meth.locks = false)
    (hd : decode c.code pc = .ok (.lreturn, 1)) (hc : cells ≤ kc) (hs : slots ≤ ks) (hQ : Q (some (.long z)) T.heap locs) : own_E p e below s Q kc ks (T.setTop (mkF m pc Ls [.long z])) :=
  own_end X (fun q => by rw [hret] at q; cases q) hlk (fun fs hr => X.lreturnOut hx hret hd hr) hc hs hQ
theorem own_retR (X : Stand p l e R s m args below meth c T locs cells slots) (hx : p.tables.exec = Jvm.exec) {pc : Nat} {Ls : Array Slot} {w : Value} {t : FieldType} (hw : w.isRef = true) (hret : meth.sig.returnType = some t) (ht : t.isReference = true) (hlk : meth.locks = false)
    (hd : decode c.code pc = .ok (.areturn, 1)) (hc : cells ≤ kc) (hs : slots ≤ ks) (hQ : Q (some w) T.heap locs) : own_E p e below s Q kc ks (T.setTop (mkF m pc Ls [w])) :=
  own_end X (fun q => by rw [hret] at q; cases q) hlk (fun fs hr => X.areturnOut hx hw hret ht hd hr) hc hs hQ
theorem own_retV (X : Stand p l e R s m args below meth c T locs cells slots) (hx : p.tables.exec = Jvm.exec) {pc : Nat} {Ls : Array Slot} (hret : meth.sig.returnType = none) (hlk : meth.locks = false)
    (hd : decode c.code pc = .ok (.return_, 1)) (hc : cells ≤ kc) (hs : slots ≤ ks) (hQ : Q none T.heap locs) : own_E p e below s Q kc ks (T.setTop (mkF m pc Ls [])) :=
  own_end X (fun _ => rfl) hlk (fun fs hr => X.returnOut hx hret hd hr) hc hs hQ
/-- a boolean as the machine holds it -/
def own_b (b : Bool) : Int32 := if b then 1 else 0
theorem own_b1 {P : Prop} [Decidable P] (h : P) : own_b (decide P) = 1 := by simp [own_b, h]
theorem own_bz {P : Prop} [Decidable P] (h : ¬ P) : own_b (decide P) = 0 := by simp [own_b, h]
theorem own_lt32 {x y : Int32} (h : x < y) : x.toInt < y.toInt := Int32.lt_iff_toInt_lt.mp h
theorem own_nlt32 {x y : Int32} (h : ¬ x < y) : ¬ x.toInt < y.toInt := fun q => h (Int32.lt_iff_toInt_lt.mpr q)
theorem own_eq32 {x y : Int32} (h : x = y) : x.toInt = y.toInt := congrArg _ h
theorem own_neq32 {x y : Int32} (h : ¬ x = y) : ¬ x.toInt = y.toInt := fun q => h (Int32.toInt_inj.mp q)
theorem own_lt64 {x y : Int64} (h : x < y) : x.toInt < y.toInt := Int64.lt_iff_toInt_lt.mp h
theorem own_nlt64 {x y : Int64} (h : ¬ x < y) : ¬ x.toInt < y.toInt := fun q => h (Int64.lt_iff_toInt_lt.mpr q)
theorem own_eq64 {x y : Int64} (h : x = y) : x.toInt = y.toInt := congrArg _ h
theorem own_neq64 {x y : Int64} (h : ¬ x = y) : ¬ x.toInt = y.toInt := fun q => h (Int64.toInt_inj.mp q)
theorem own_b0 {b : Bool} : own_b b = 0 ↔ b = false := by cases b <;> decide
theorem own_nb (b : Bool) : nar .boolean (own_b b) = own_b b := by cases b <;> rfl
theorem own_nbb (x : Int32) : nar .byte (x.toInt8.toInt32) = x.toInt8.toInt32 := by
  show x.toInt8.toInt32.toInt8.toInt32 = x.toInt8.toInt32
  rw [Int8.toInt8_toInt32]
theorem own_stV {l : Array Slot} {i : Nat} {v : Value} {o : Slot} (hold : l[i]? = some o) (ho : o = .unset ∨ ∃ w, o = .val w ∧ w.category = 1) (hv : v.category = 1) : storeLocals l i v = some (l.setIfInBounds i (.val v)) := XS.store1 hold ho hv
theorem own_narV {ty : FieldType} {v : Value} (hv : v.isRef = true) : narrow ty v = v := by
  rcases ref_cases hv with rfl | ⟨a, rfl⟩ <;> cases ty <;> rfl
theorem own_fitV {ty : FieldType} {v : Value} (ht : ty.isReference = true) (hv : v.isRef = true) : fits ty v = true := by
  rcases ref_cases hv with rfl | ⟨a, rfl⟩ <;> cases ty <;> first | rfl | (cases ht; done)
/-- an array of n places, whose place j holds f j -/
def own_A (Z : State) (h : Heap) (a : Addr) (ty : FieldType) (n : Nat) (f : Nat → Int32) : Prop := ∃ c : Cell, Arr Z h a c ty ∧ c.slots.size = n ∧ n < 2 ^ 31 ∧ (∀ j, j < n → c.slots[j]? = some (.int (f j))) ∧ ∀ j, j < n → fits ty (.int (f j)) = true
def own_up (f : Nat → Int32) (i : Nat) (v : Int32) (k : Nat) : Int32 := if k = i then v else f k
theorem own_up_same (f : Nat → Int32) (i : Nat) (v : Int32) : own_up f i v i = v := if_pos rfl
theorem own_up_ne (f : Nat → Int32) {i k : Nat} (v : Int32) (h : ¬ k = i) : own_up f i v k = f k := if_neg h
theorem own_catV {v : Value} (h : v.isRef = true) : v.category = 1 := by rcases ref_cases h with rfl | ⟨a, rfl⟩ <;> rfl
abbrev own_ix (j : Int32) (i : Nat) : Prop := ¬ j < 0 ∧ j.toNatClampNeg = i
variable {a b : Addr} {ty : FieldType} {n i : Nat} {f : Nat → Int32} {j x : Int32} {pc : Nat} {Ls : Array Slot} {rest : List Value} {sl : Nat} {v : Value} {ws : List Addr}
theorem own_A.lt (F : own_A Z h a ty n f) : a < h.size := by obtain ⟨c, A, -⟩ := F; exact A.lt
theorem own_A.ext (F : own_A Z h a ty n f) (E : Ext h h') : own_A Z h' a ty n f := by obtain ⟨c, A, r⟩ := F; exact ⟨c, A.ext E, r⟩
theorem own_A.other (F : own_A Z h b ty n f) (W : Wr h h' a sl v) (q : b ≠ a) : own_A Z h' b ty n f := by obtain ⟨c, A, r⟩ := F; exact ⟨c, A.other W q, r⟩
theorem own_A.keep (F : own_A Z h a ty n f) (K : Keep h h' ws) (q : a ∉ ws) : own_A Z h' a ty n f := by obtain ⟨c, A, r⟩ := F; exact ⟨c, ⟨K.2.1 a c A.1 q, A.2⟩, r⟩
theorem own_A.congr {g : Nat → Int32} (F : own_A Z h a ty n f) (q : ∀ j, j < n → f j = g j) : own_A Z h a ty n g := by obtain ⟨c, A, r1, r2, r3, r4⟩ := F; exact ⟨c, A, r1, r2, fun j hj => by rw [← q j hj]; exact r3 j hj, fun j hj => by rw [← q j hj]; exact r4 j hj⟩
theorem own_A.new {k : ClassId} {z : Int32} (A : Arr Z h a (newA k ty z) ty) (q : ¬ z < 0) (hz : z.toNatClampNeg = n) (hd : defaultValue ty = .int 0 := by rfl) : own_A Z h a ty n (fun _ => 0) := by
  subst hz
  exact ⟨_, A, sz_new _ _ _, (back32 q).2, fun j hj => by simp [newA, hj, hd], fun j hj => by rw [← hd]; cases ty <;> rfl⟩
theorem own_A.set (F : own_A Z h a ty n f) (hj : own_ix j i) (W : Wr h h' a j.toNatClampNeg (.int x)) (hf : fits ty (.int x) = true) : own_A Z h' a ty n (own_up f i x) := by
  obtain ⟨c, A, r1, r2, r3, r4⟩ := F
  obtain ⟨hj1, rfl⟩ := hj
  refine ⟨_, A.same W, by rw [sz_set]; exact r1, r2, fun k hk => ?_, fun k hk => ?_⟩ <;> by_cases q : k = j.toNatClampNeg
  · subst q; simp [Cell.setSlot, own_up, r1, hk]
  · simp only [Cell.setSlot, own_up, if_neg q]; rw [Array.getElem?_setIfInBounds_ne (Ne.symm q)]; exact r3 k hk
  · simp only [own_up, if_pos q]; exact hf
  · simp only [own_up, if_neg q]; exact r4 k hk
theorem own_in (hj : own_ix j i) (hi : i < n) {c : Cell} (hc : c.slots.size = n) : ¬ (j < 0 ∨ c.slots.size ≤ j.toNatClampNeg) := by
  rintro (q | q)
  · exact hj.1 q
  · rw [hj.2, hc] at q; omega
theorem own_stB (X : Stand p l e R s m args below meth c T locs cells slots) (hx : p.tables.exec = Jvm.exec) (hZ : Z.Warmed39 s.vm) (eT : T.heap = h) (A : own_A Z h a .byte n f) (hj : own_ix j i) (hi : i < n) (hd : decode c.code pc = .ok (.bastore, 1)) :
    ∃ T' h', Stand p l e R s m args below meth c T' (locs ++ [⟨a, j.toNatClampNeg⟩]) cells slots ∧ T'.heap = h' ∧ Wr h h' a j.toNatClampNeg (.int (nar .byte x)) ∧ own_A Z h' a .byte n (own_up f i (nar .byte x)) ∧ ∀ t, Steps p.tables e below (T'.setTop (mkF m (pc + 1) Ls rest)) t → Steps p.tables e below (T.setTop (mkF m pc Ls (.int x :: .int j :: .ref a :: rest))) t := by
  have A0 := A
  obtain ⟨cl, A1, r1, r2, r3, r4⟩ := A
  obtain ⟨T', h', X', e', W, st⟩ := stB X hx hZ eT A1 (j := j) (x := x) (own_in hj hi r1) (g := mkF m pc Ls (.int x :: .int j :: .ref a :: rest)) rfl rfl hd
  exact ⟨T', h', X', e', W, A0.set hj W (fits_nar_byte x), st⟩
theorem own_stI (X : Stand p l e R s m args below meth c T locs cells slots) (hx : p.tables.exec = Jvm.exec) (hZ : Z.Warmed39 s.vm) (eT : T.heap = h) (A : own_A Z h a .int n f) (hj : own_ix j i) (hi : i < n) (hd : decode c.code pc = .ok (.iastore, 1)) :
    ∃ T' h', Stand p l e R s m args below meth c T' (locs ++ [⟨a, j.toNatClampNeg⟩]) cells slots ∧ T'.heap = h' ∧ Wr h h' a j.toNatClampNeg (.int x) ∧ own_A Z h' a .int n (own_up f i x) ∧ ∀ t, Steps p.tables e below (T'.setTop (mkF m (pc + 1) Ls rest)) t → Steps p.tables e below (T.setTop (mkF m pc Ls (.int x :: .int j :: .ref a :: rest))) t := by
  have A0 := A
  obtain ⟨cl, A1, r1, r2, r3, r4⟩ := A
  obtain ⟨T', h', X', e', W, st⟩ := stI X hx hZ eT A1 (j := j) (x := x) (own_in hj hi r1) (g := mkF m pc Ls (.int x :: .int j :: .ref a :: rest)) rfl rfl hd
  exact ⟨T', h', X', e', W, A0.set hj W rfl, st⟩
theorem own_ldB (X : Stand p l e R s m args below meth c T locs cells slots) (hx : p.tables.exec = Jvm.exec) (hZ : Z.Warmed39 s.vm) (eT : T.heap = h) (A : own_A Z h a .byte n f) (hj : own_ix j i) (hi : i < n) (hd : decode c.code pc = .ok (.baload, 1)) (t : State)
    (k : Steps p.tables e below (T.setTop (mkF m (pc + 1) Ls (.int (f i) :: rest))) t) : Steps p.tables e below (T.setTop (mkF m pc Ls (.int j :: .ref a :: rest))) t := by
  obtain ⟨cl, A1, r1, r2, r3, r4⟩ := A
  exact X.baloadBytes hx (j := j) (v := .int (f i)) (by rw [eT]; exact A1.1) (State.isArrayOf_alike hZ.alike A1.2.1) A1.2.2 (own_in hj hi r1) (by rw [hj.2]; exact r3 i hi) (g := mkF m pc Ls (.int j :: .ref a :: rest)) rfl rfl hd t k
theorem own_ldI (X : Stand p l e R s m args below meth c T locs cells slots) (hx : p.tables.exec = Jvm.exec) (hZ : Z.Warmed39 s.vm) (eT : T.heap = h) (A : own_A Z h a .int n f) (hj : own_ix j i) (hi : i < n) (hd : decode c.code pc = .ok (.iaload, 1)) (t : State)
    (k : Steps p.tables e below (T.setTop (mkF m (pc + 1) Ls (.int (f i) :: rest))) t) : Steps p.tables e below (T.setTop (mkF m pc Ls (.int j :: .ref a :: rest))) t := by
  obtain ⟨cl, A1, r1, r2, r3, r4⟩ := A
  exact X.iaload hx (j := j) (v := .int (f i)) (by rw [eT]; exact A1.1) (State.isArrayOf_alike hZ.alike A1.2.1) A1.2.2 (own_in hj hi r1) (by rw [hj.2]; exact r3 i hi) (g := mkF m pc Ls (.int j :: .ref a :: rest)) rfl rfl hd t k
theorem own_len {z : Int32} (X : Stand p l e R s m args below meth c T locs cells slots) (hx : p.tables.exec = Jvm.exec) (hZ : Z.Warmed39 s.vm) (eT : T.heap = h) (A : own_A Z h a ty n f) (hz : n.toInt32 = z) (hd : decode c.code pc = .ok (.arraylength, 1)) (t : State)
    (k : Steps p.tables e below (T.setTop (mkF m (pc + 1) Ls (.int z :: rest))) t) : Steps p.tables e below (T.setTop (mkF m pc Ls (.ref a :: rest))) t := by
  obtain ⟨cl, A1, r1, r2, r3, r4⟩ := A
  subst hz
  refine X.arraylength hx (by rw [eT]; exact A1.1) (State.isArrayOf_alike hZ.alike A1.2.1) (g := mkF m pc Ls (.ref a :: rest)) rfl rfl hd t ?_
  rw [r1]; exact k
theorem own_clone (X : Stand p l e R s m args below meth c T locs cells slots) (hx : p.tables.exec = Jvm.exec) (hZ : Z.Warmed39 s.vm) {a0 : Array Value} {own ad : String} {index : Nat} (hown : s.vm.findClass own = some m.cls)
    (w1 : (Cond.methodLink own index ⟨ad, "clone", "()Ljava/lang/Object;"⟩).before a0 Z = true) (w2 : (Cond.sameMethod ad "java/lang/Object" "clone" "()Ljava/lang/Object;").before a0 Z = true) (w3 : (Cond.native ⟨"java/lang/Object", "clone", "()Ljava/lang/Object;"⟩).before a0 Z = true)
    (w4 : (Cond.instanceMethod ⟨"java/lang/Object", "clone", "()Ljava/lang/Object;"⟩).before a0 Z = true) (w5 : (Cond.selects ad ⟨ad, "clone", "()Ljava/lang/Object;"⟩ ⟨"java/lang/Object", "clone", "()Ljava/lang/Object;"⟩).before a0 Z = true) (w6 : (Cond.castable ad "java/lang/Cloneable").before a0 Z = true)
    (eT : T.heap = h) (A : own_A Z h a ty n f) (E : Exa Z h a ad) (hsize : Ls.size = c.maxLocals) (hd : decode c.code pc = .ok (.invokevirtual index, 3))
    (hf : 1 ≤ R.frames) {W cap : Nat} (hW : 2 * 0 + (rest.map fun v => v.category).sum ≤ W) (hl : W + 14 ≤ R.locals) (hcap : n ≤ cap) (hc : cells + 1 ≤ R.cells) (hsl : slots + cap ≤ R.slots) :
    ∃ T' h', Stand p l e R s m args below meth c T' locs (cells + 1) (slots + cap) ∧ T'.heap = h' ∧ Ext h h' ∧ own_A Z h' h.size ty n f ∧ Exa Z h' h.size ad ∧
      ∀ t, Steps p.tables e below (T'.setTop (mkF m (pc + 3) Ls (.ref h.size :: rest))) t → Steps p.tables e below (T.setTop (mkF m pc Ls (.ref a :: rest))) t := by
  obtain ⟨cl, A1, r1, r2, r3, r4⟩ := A
  have FC : FitC Z cl := fitC_of A1 fun i hi v hv => by rw [r1] at hi; rw [r3 i hi] at hv; cases hv; exact r4 i hi
  obtain ⟨T', h', X', e', ex, A', E', st⟩ := cloneA X hx hZ hown w1 w2 w3 w4 w5 w6 eT A1 E FC (g := mkF m pc Ls (.ref a :: rest)) rfl hsize rfl hd hf hW hl (by rw [r1]; exact hcap) hc hsl
  exact ⟨T', h', X', e', ex, ⟨cloneOf cl, A', r1, r2, r3, r4⟩, E', st⟩
theorem own_selP {s : State} {args : Array Value} {y : MethodName} {n : Nat} (hin : (Cond.instantiable y.cls n).before args s = true) (hpriv : s.PrivateAt y) (hinst : (Cond.instanceMethod y).before args s = true) (hy : y.cls ≠ "java/lang/invoke/MethodHandle" ∧ y.cls ≠ "java/lang/invoke/VarHandle") : (Cond.selects y.cls y y).before args s = true := by
  obtain ⟨c, k, h1, h2, -, h4, -⟩ := Cond.instantiable_spec hin
  exact selects_self_of_private h1 h2 (Bool.or_eq_false_iff.mp h4).1 hpriv hinst hy
theorem own_ixa (h : own_ix j i) (k : Nat) (hi : i + k < 2 ^ 31) : own_ix (j + Int32.ofNat k) (i + k) := by
  obtain ⟨h1, h2⟩ := h
  have e0 : (0 : Int32).toInt = 0 := rfl
  have e1 : (Int32.ofNat k).toInt = k := Int32.toInt_ofNat_of_lt (by omega)
  rw [Int32.lt_iff_toInt_lt, e0] at h1
  simp only [Int32.toNatClampNeg] at h2
  have h3 := c_iadd j (Int32.ofNat k); have h4 := rng32 (j + Int32.ofNat k)
  rw [e1] at h3
  refine ⟨by rw [Int32.lt_iff_toInt_lt, e0]; omega, ?_⟩
  simp only [Int32.toNatClampNeg]; omega
theorem own_ixI (h : own_ix j i) : j.toInt = i := by
  obtain ⟨h1, h2⟩ := h
  have e0 : (0 : Int32).toInt = 0 := rfl
  rw [Int32.lt_iff_toInt_lt, e0] at h1
  simp only [Int32.toNatClampNeg] at h2; omega
theorem own_ixof (h : j.toInt = i) : own_ix j i := by
  have e0 : (0 : Int32).toInt = 0 := rfl
  refine ⟨by rw [Int32.lt_iff_toInt_lt, e0]; omega, ?_⟩
  simp only [Int32.toNatClampNeg]; omega
theorem own_ixs (h : ¬ j < 0) : own_ix j j.toNatClampNeg := ⟨h, rfl⟩
theorem own_and3 (x : Int32) (k : Nat) (hk : k < 2 ^ 31) : ¬ (x &&& Int32.ofNat k) < 0 ∧ (x &&& Int32.ofNat k).toNatClampNeg ≤ k := by
  have h0 : 0 ≤ (Int32.ofNat k).toInt := by rw [Int32.toInt_ofNat_of_lt hk]; omega
  have h1 := (c_andS x (Int32.ofNat k)).2.2 h0
  have e0 : (0 : Int32).toInt = 0 := rfl
  refine ⟨by rw [Int32.lt_iff_toInt_lt, e0]; omega, ?_⟩
  have hb : (x &&& Int32.ofNat k).toBitVec.toNat ≤ k := by
    have : (x &&& Int32.ofNat k).toBitVec.toNat = x.toBitVec.toNat &&& (Int32.ofNat k).toBitVec.toNat := by rw [Int32.toBitVec_and, BitVec.toNat_and]
    rw [this]
    refine Nat.le_trans Nat.and_le_right ?_
    show (BitVec.ofNat 32 k).toNat ≤ k
    rw [BitVec.toNat_ofNat]; exact Nat.mod_le _ _
  have e : (x &&& Int32.ofNat k).toInt = ((x &&& Int32.ofNat k).toBitVec.toNat : Int) := by
    show (x &&& Int32.ofNat k).toBitVec.toInt = _
    rw [BitVec.toInt_eq_toNat_cond]; split
    · rfl
    · omega
  simp only [Int32.toNatClampNeg, e]; omega
end Own

def own_beg (c : Nat) : Option (Nat × Nat × Nat) :=
  if 194 ≤ c ∧ c ≤ 223 then some (1, 128, 191) else if 224 ≤ c ∧ c ≤ 239 then some (2, (if c = 224 then 160 else 128), (if c = 237 then 159 else 191)) else if 240 ≤ c ∧ c ≤ 244 then some (3, (if c = 240 then 144 else 128), (if c = 244 then 143 else 191)) else none
theorem own_begN {k : Nat} (h1 : ¬ (194 ≤ k ∧ k ≤ 223)) (h2 : ¬ (224 ≤ k ∧ k ≤ 239)) (h3 : ¬ (240 ≤ k ∧ k ≤ 244)) : own_beg k = none := by unfold own_beg; rw [if_neg h1, if_neg h2, if_neg h3]
theorem own_beg1 {k : Nat} (h1 : 194 ≤ k ∧ k ≤ 223) : own_beg k = some (1, 128, 191) := by unfold own_beg; rw [if_pos h1]
theorem own_beg2 {k lo hi : Nat} (h1 : 224 ≤ k ∧ k ≤ 239) (h2 : (if k = 224 then 160 else 128) = lo) (h3 : (if k = 237 then 159 else 191) = hi) : own_beg k = some (2, lo, hi) := by unfold own_beg; rw [if_neg (by omega), if_pos h1, h2, h3]
theorem own_beg3 {k lo hi : Nat} (h1 : 240 ≤ k ∧ k ≤ 244) (h2 : (if k = 240 then 144 else 128) = lo) (h3 : (if k = 244 then 143 else 191) = hi) : own_beg k = some (3, lo, hi) := by unfold own_beg; rw [if_neg (by omega), if_neg (by omega), if_pos h1, h2, h3]
theorem own_begK {k nd lo hi : Nat} (h : own_beg k = some (nd, lo, hi)) : 1 ≤ nd ∧ nd ≤ 3 ∧ 128 ≤ lo ∧ lo ≤ 255 ∧ hi ≤ 191 := by
  unfold own_beg at h
  split at h
  · cases h; decide
  · split at h
    · cases h; refine ⟨by decide, by decide, ?_, ?_, ?_⟩ <;> split <;> decide
    · split at h
      · cases h; refine ⟨by decide, by decide, ?_, ?_, ?_⟩ <;> split <;> decide
      · cases h
def own_stp (s : Nat × Nat × Nat) (c : Nat) : Option (Nat × Nat × Nat) :=
  if 0 < s.1 then (if s.2.1 ≤ c ∧ c ≤ s.2.2 then some (s.1 - 1, 128, 191) else none) else if c < 128 then some s else own_beg c
theorem own_stpY {nd lo hi c : Nat} (h : 0 < nd) (h1 : lo ≤ c ∧ c ≤ hi) : own_stp (nd, lo, hi) c = some (nd - 1, 128, 191) := by unfold own_stp; rw [if_pos h, if_pos h1]
theorem own_stpX {nd lo hi c : Nat} (h : 0 < nd) (h1 : ¬ (lo ≤ c ∧ c ≤ hi)) : own_stp (nd, lo, hi) c = none := by unfold own_stp; rw [if_pos h, if_neg h1]
theorem own_stpA {nd lo hi c : Nat} (h : ¬ 0 < nd) (h1 : c < 128) : own_stp (nd, lo, hi) c = some (nd, lo, hi) := by unfold own_stp; rw [if_neg h, if_pos h1]
theorem own_stpB {nd lo hi c : Nat} (h : ¬ 0 < nd) (h1 : ¬ c < 128) : own_stp (nd, lo, hi) c = own_beg c := by unfold own_stp; rw [if_neg h, if_neg h1]
def own_run (b : Nat → Nat) : Nat → Nat → Nat × Nat × Nat → Nat → Sum Nat (Nat × Nat × Nat)
  | 0, _, s, _ => .inr s
  | t + 1, i, s, q => match own_stp s (b i) with
    | none => .inl q
    | some s' => own_run b t (i + 1) s' (if s'.1 = 0 then i + 1 else q)
theorem own_runN {b : Nat → Nat} {t i q : Nat} {s : Nat × Nat × Nat} (h : own_stp s (b i) = none) : own_run b (t + 1) i s q = .inl q := by rw [own_run, h]
theorem own_runS {b : Nat → Nat} {t i q : Nat} {s s' : Nat × Nat × Nat} (h : own_stp s (b i) = some s') : own_run b (t + 1) i s q = own_run b t (i + 1) s' (if s'.1 = 0 then i + 1 else q) := by rw [own_run, h]
theorem own_runZ {b : Nat → Nat} {t i q : Nat} {s s' : Nat × Nat × Nat} (h : own_stp s (b i) = some s') (h0 : s'.1 = 0) : own_run b (t + 1) i s q = own_run b t (i + 1) s' (i + 1) := by rw [own_runS h, if_pos h0]
theorem own_runG {b : Nat → Nat} {t i q : Nat} {s s' : Nat × Nat × Nat} (h : own_stp s (b i) = some s') (h0 : ¬ s'.1 = 0) : own_run b (t + 1) i s q = own_run b t (i + 1) s' q := by rw [own_runS h, if_neg h0]
def own_ok (s : Nat × Nat × Nat) : Prop := s.1 ≤ 3 ∧ 128 ≤ s.2.1 ∧ s.2.1 ≤ 255 ∧ s.2.2 ≤ 191 ∧ (s.1 = 0 → s.2.1 = 128 ∧ s.2.2 = 191)
def own_by (f : Nat → Int32) (j : Nat) : Nat := ((f j).toInt % 256).toNat
theorem own_byI (f : Nat → Int32) (j : Nat) : ((f j) &&& (255 : Int32)).toInt = own_by f j := by
  have h := c_mask (f j) 255 8 (by decide) (by decide)
  rw [show ((2 ^ 8 : Nat) : Int) = 256 from rfl] at h
  rw [h, own_by]; omega
theorem own_byl (f : Nat → Int32) (j : Nat) : own_by f j < 256 := by unfold own_by; omega
theorem own_oI {n : Nat} (h : n < 1000) : (Int32.ofNat n).toInt = n := Int32.toInt_ofNat_of_lt (by omega)
theorem own_osub {n : Nat} (h : n < 1000) (h0 : 0 < n) : Int32.ofNat n - (1 : Int32) = Int32.ofNat (n - 1) := by
  rw [← Int32.toInt_inj, own_oI (by omega)]
  have q1 := c_isub (Int32.ofNat n) 1; have q2 := rng32 (Int32.ofNat n - 1); rw [own_oI h, show (1 : Int32).toInt = 1 from rfl] at q1
  omega
theorem own_o0 {n : Nat} (h : n < 1000) (h0 : Int32.ofNat n = (0 : Int32)) : n = 0 := by
  have := own_eq32 h0; rw [own_oI h, show (0 : Int32).toInt = 0 from rfl] at this; omega
theorem own_on {n : Nat} (h : n < 1000) (h0 : ¬ n = 0) : ¬ Int32.ofNat n = (0 : Int32) := fun q => h0 (own_o0 h q)
theorem own_b1_d0 : decode prog_31_method_1_code 0 = .ok (.aload_n 0, 1) := by decide +kernel
theorem own_b1_d1 : decode prog_31_method_1_code 1 = .ok (.invokespecial 1, 3) := by decide +kernel
theorem own_b1_d4 : decode prog_31_method_1_code 4 = .ok (.aload_n 0, 1) := by decide +kernel
theorem own_b1_d5 : decode prog_31_method_1_code 5 = .ok (.sipush 128, 3) := by decide +kernel
theorem own_b1_d8 : decode prog_31_method_1_code 8 = .ok (.putfield 9, 3) := by decide +kernel
theorem own_b1_d11 : decode prog_31_method_1_code 11 = .ok (.aload_n 0, 1) := by decide +kernel
theorem own_b1_d12 : decode prog_31_method_1_code 12 = .ok (.sipush 191, 3) := by decide +kernel
theorem own_b1_d15 : decode prog_31_method_1_code 15 = .ok (.putfield 13, 3) := by decide +kernel
theorem own_b1_d18 : decode prog_31_method_1_code 18 = .ok (.return_, 1) := by decide +kernel
theorem own_pn0 : plainName "com/example/mapwright/mapwright/Utf8Check" = true := by first | (simp [plainName, overriddenIn]; done) | decide +kernel
theorem own_ef_rm1 (m : MethodId) (x0 : Addr) : entryFrame m #[(.ref x0)] 1 = mkF m 0 #[.val (.ref x0)] [] := by first | (simp [entryFrame, mkF, argsToLocals, Value.category]; done) | rfl
def Q1 (Z : State) (a : Addr) (h0 : Heap) (n0 : Nat) (v : Option Value) (h : Heap) (L : List Loc) : Prop := v = none ∧ Fr n0 L ∧ Keep h0 h [a] ∧ Fld Z h a "com/example/mapwright/mapwright/Utf8Check" "needed" "I" (.int (Int32.ofNat 0)) ∧ Fld Z h a "com/example/mapwright/mapwright/Utf8Check" "least" "I" (.int (Int32.ofNat 128)) ∧ Fld Z h a "com/example/mapwright/mapwright/Utf8Check" "greatest" "I" (.int (Int32.ofNat 191))
set_option maxRecDepth 65536 in
set_option maxHeartbeats 40000000 in
theorem rm1 (l : Launch) (Z : State) (a0 : Array Value) (hw : ∀ d ∈ tables_1, d.before a0 Z = true) (ws : List Jvm.Cond) (a : Addr) (h0 : Heap) (n0 : Nat) (Z0 : n0 ≤ h0.size) (E : Exa Z h0 a "com/example/mapwright/mapwright/Utf8Check") (F0 : Fld Z h0 a "com/example/mapwright/mapwright/Utf8Check" "needed" "I" (.int (0 : Int32))) (F1 : Fld Z h0 a "com/example/mapwright/mapwright/Utf8Check" "least" "I" (.int (0 : Int32))) (F2 : Fld Z h0 a "com/example/mapwright/mapwright/Utf8Check" "greatest" "I" (.int (0 : Int32))) (ga : n0 ≤ a) :
    MetFree l (⟨"com/example/mapwright/mapwright/Utf8Check", "<init>", "()V"⟩ : MethodName) (head1 (Jvm.Cond.code (⟨"com/example/mapwright/mapwright/Utf8Check", "<init>", "()V"⟩ : MethodName) prog_31_method_1_code 1 none :: ws) ({ frames := 1, cells := 0, slots := 0, locals := 12 } : Room)) (fun aa_ U_ => aa_ = #[(.ref a)] ∧ Z.Warmed39 U_.vm ∧ U_.heap = h0) (fun _ _ _ _ _ => True) (fun _ U_ o_ U1_ => ∃ v_ L_, o_ = .returned v_ ∧ Q1 Z a h0 n0 v_ U1_.heap L_ ∧ FrameEnd U_ o_ U1_ L_ ({ frames := 1, cells := 0, slots := 0, locals := 12 } : Room).cells ({ frames := 1, cells := 0, slots := 0, locals := 12 } : Room).slots) := by
  refine MetFree.of_bodySF (plainFor_of_name own_pn0) hisR ?_
  intro p e s m args below meth c s₁ Bd hml0 hP hK
  obtain ⟨rfl, hZ, hh⟩ := hP
  have hx := Bd.exec
  have hby := Bd.bytes
  have hlk := Bd.notSynchronized
  have hml : c.maxLocals = 1 := hml0
  have hown : s.vm.findClass "com/example/mapwright/mapwright/Utf8Check" = some m.cls := findClass_of_methodNamed Bd.named
  have hnm := (name_of_methodNamed Bd.named Bd.method).1
  have X0 : Stand p l e ({ frames := 1, cells := 0, slots := 0, locals := 12 } : Room) s m #[(.ref a)] below meth c s₁ [] 0 0 := Stand.of_body Bd
  have e0 : s₁.heap = h0 := by rw [← hh, Bd.state]; rfl
  have N0 := Fr.nil n0
  show own_E p e below s (Q1 Z a h0 n0) ({ frames := 1, cells := 0, slots := 0, locals := 12 } : Room).cells ({ frames := 1, cells := 0, slots := 0, locals := 12 } : Room).slots (s₁.setTop (entryFrame m #[(.ref a)] 1))
  refine own_st (B := s₁.setTop (mkF m 0 #[.val (.ref a)] [])) (fun t_ k_ => castTop (own_ef_rm1 m a) k_) ?_
  have K0 : Keep h0 h0 [a] := Keep.refl _ _
  refine own_st (B := s₁.setTop (mkF m 1 #[.val (.ref a)] [(.ref a)])) (fun t_ k_ => XS.aloadN X0.here hx rfl (hb hby own_b1_d0) rfl rfl k_) ?_
  obtain ⟨T1, X1, e1, st1⟩ := initO X0 hx hZ hown (hw _ (List.mem_of_getElem? (i := 8) rfl)) (hw _ (List.mem_of_getElem? (i := 9) rfl)) (hw _ (List.mem_of_getElem? (i := 10) rfl)) e0 (g := (mkF m 1 #[.val (.ref a)] [(.ref a)])) rfl (by rw [hml]; rfl) rfl (hb hby own_b1_d1) (by decide) (W := 0) (by show 2 * 0 + _ ≤ _; exact Nat.le_of_eq rfl) (by decide)
  refine own_st (B := T1.setTop (mkF m 4 #[.val (.ref a)] [])) st1 ?_
  refine own_st (B := T1.setTop (mkF m 5 #[.val (.ref a)] [(.ref a)])) (fun t_ k_ => XS.aloadN X1.here hx rfl (hb hby own_b1_d4) rfl rfl k_) ?_
  refine own_st (B := T1.setTop (mkF m 8 #[.val (.ref a)] [(.int (128 : Int32)), (.ref a)])) (fun t_ k_ => XS.sipush X1.here hx rfl (hb hby own_b1_d5) k_) ?_
  obtain ⟨T2, h2, X2, e2, W2, st2⟩ := putF X1 hx hZ hown (host := "") (Or.inl (hw _ (List.mem_of_getElem? (i := 11) rfl))) Via.refl e1 F1 E (Or.inl (hw _ (List.mem_of_getElem? (i := 12) rfl))) (hw _ (List.mem_of_getElem? (i := 3) rfl)) (ty := .int) (by decide) rfl rfl (g := (mkF m 8 #[.val (.ref a)] [(.int (128 : Int32)), (.ref a)])) rfl rfl (hb hby own_b1_d8)
  have Fw2 := F1.same W2
  have N2 := Fr.snoc X2 N0 ga
  have Z3 := Nat.le_trans Z0 (Keep.of_wr W2).1
  have K4 := K0.wr W2 (Or.inl (List.mem_of_getElem? (i := 0) rfl))
  refine own_st (B := T2.setTop (mkF m 11 #[.val (.ref a)] [])) st2 ?_
  refine own_st (B := T2.setTop (mkF m 12 #[.val (.ref a)] [(.ref a)])) (fun t_ k_ => XS.aloadN X2.here hx rfl (hb hby own_b1_d11) rfl rfl k_) ?_
  refine own_st (B := T2.setTop (mkF m 15 #[.val (.ref a)] [(.int (191 : Int32)), (.ref a)])) (fun t_ k_ => XS.sipush X2.here hx rfl (hb hby own_b1_d12) k_) ?_
  have u5 := E.wr W2
  have u6 := F2.other W2 (Or.inr (slot_ne (Or.inl (hw _ (List.mem_of_getElem? (i := 14) rfl))) (Or.inl (hw _ (List.mem_of_getElem? (i := 12) rfl))) (by decide) (t := .int) (t' := .int) (by decide) (by decide)))
  obtain ⟨T7, h7, X7, e7, W7, st7⟩ := putF X2 hx hZ hown (host := "") (Or.inl (hw _ (List.mem_of_getElem? (i := 13) rfl))) Via.refl e2 u6 u5 (Or.inl (hw _ (List.mem_of_getElem? (i := 14) rfl))) (hw _ (List.mem_of_getElem? (i := 3) rfl)) (ty := .int) (by decide) rfl rfl (g := (mkF m 15 #[.val (.ref a)] [(.int (191 : Int32)), (.ref a)])) rfl rfl (hb hby own_b1_d15)
  have Fw7 := u6.same W7
  have N7 := Fr.snoc X7 N2 ga
  have Z8 := Nat.le_trans Z3 (Keep.of_wr W7).1
  have K9 := K4.wr W7 (Or.inl (List.mem_of_getElem? (i := 0) rfl))
  refine own_st (B := T7.setTop (mkF m 18 #[.val (.ref a)] [])) st7 ?_
  refine own_retV X7 hx Bd.returns hlk (hb hby own_b1_d18) (by decide) (by decide) ?_
  show Q1 Z a h0 n0 _ T7.heap _
  rw [e7]
  have u10 := F0.other W2 (Or.inr (slot_ne (Or.inl (hw _ (List.mem_of_getElem? (i := 26) rfl))) (Or.inl (hw _ (List.mem_of_getElem? (i := 12) rfl))) (by decide) (t := .int) (t' := .int) (by decide) (by decide)))
  have u11 := u10.other W7 (Or.inr (slot_ne (Or.inl (hw _ (List.mem_of_getElem? (i := 26) rfl))) (Or.inl (hw _ (List.mem_of_getElem? (i := 14) rfl))) (by decide) (t := .int) (t' := .int) (by decide) (by decide)))
  have u12 := Fw2.other W7 (Or.inr (slot_ne (Or.inl (hw _ (List.mem_of_getElem? (i := 12) rfl))) (Or.inl (hw _ (List.mem_of_getElem? (i := 14) rfl))) (by decide) (t := .int) (t' := .int) (by decide) (by decide)))
  exact ⟨rfl, N7, K9, u11, u12, Fw7⟩
theorem own_b4_d0 : decode prog_31_method_3_code 0 = .ok (.aload_n 0, 1) := by decide +kernel
theorem own_b4_d1 : decode prog_31_method_3_code 1 = .ok (.getfield 16, 3) := by decide +kernel
theorem own_b4_d4 : decode prog_31_method_3_code 4 = .ok (.ifCond .ne 7, 3) := by decide +kernel
theorem own_b4_d7 : decode prog_31_method_3_code 7 = .ok (.iconst 1, 1) := by decide +kernel
theorem own_b4_d8 : decode prog_31_method_3_code 8 = .ok (.goto 4, 3) := by decide +kernel
theorem own_b4_d11 : decode prog_31_method_3_code 11 = .ok (.iconst 0, 1) := by decide +kernel
theorem own_b4_d12 : decode prog_31_method_3_code 12 = .ok (.ireturn, 1) := by decide +kernel
theorem own_ef_rm4 (m : MethodId) (x0 : Addr) : entryFrame m #[(.ref x0)] 1 = mkF m 0 #[.val (.ref x0)] [] := by first | (simp [entryFrame, mkF, argsToLocals, Value.category]; done) | rfl
def Q4 (Z : State) (a : Addr) (k : Nat) (h0 : Heap) (n0 : Nat) (v : Option Value) (h : Heap) (L : List Loc) : Prop := v = some (.int (own_b (decide (k = 0)))) ∧ Fr n0 L ∧ h = h0
set_option maxRecDepth 65536 in
set_option maxHeartbeats 40000000 in
theorem rm4 (l : Launch) (Z : State) (a0 : Array Value) (hw : ∀ d ∈ tables_1, d.before a0 Z = true) (ws : List Jvm.Cond) (a : Addr) (k : Nat) (h0 : Heap) (n0 : Nat) (Z0 : n0 ≤ h0.size) (F : Fld Z h0 a "com/example/mapwright/mapwright/Utf8Check" "needed" "I" (.int (Int32.ofNat k))) (hk : k < 1000) :
    MetFree l (⟨"com/example/mapwright/mapwright/Utf8Check", "complete", "()Z"⟩ : MethodName) (head1 (Jvm.Cond.code (⟨"com/example/mapwright/mapwright/Utf8Check", "complete", "()Z"⟩ : MethodName) prog_31_method_3_code 1 (some .boolean) :: ws) ({ frames := 0, cells := 0, slots := 0, locals := 0 } : Room)) (fun aa_ U_ => aa_ = #[(.ref a)] ∧ Z.Warmed39 U_.vm ∧ U_.heap = h0) (fun _ _ _ _ _ => True) (fun _ U_ o_ U1_ => ∃ v_ L_, o_ = .returned v_ ∧ Q4 Z a k h0 n0 v_ U1_.heap L_ ∧ FrameEnd U_ o_ U1_ L_ ({ frames := 0, cells := 0, slots := 0, locals := 0 } : Room).cells ({ frames := 0, cells := 0, slots := 0, locals := 0 } : Room).slots) := by
  refine MetFree.of_bodySF (plainFor_of_name own_pn0) hisR ?_
  intro p e s m args below meth c s₁ Bd hml0 hP hK
  obtain ⟨rfl, hZ, hh⟩ := hP
  have hx := Bd.exec
  have hby := Bd.bytes
  have hlk := Bd.notSynchronized
  have hml : c.maxLocals = 1 := hml0
  have hown : s.vm.findClass "com/example/mapwright/mapwright/Utf8Check" = some m.cls := findClass_of_methodNamed Bd.named
  have hnm := (name_of_methodNamed Bd.named Bd.method).1
  have X0 : Stand p l e ({ frames := 0, cells := 0, slots := 0, locals := 0 } : Room) s m #[(.ref a)] below meth c s₁ [] 0 0 := Stand.of_body Bd
  have e0 : s₁.heap = h0 := by rw [← hh, Bd.state]; rfl
  have N0 := Fr.nil n0
  show own_E p e below s (Q4 Z a k h0 n0) ({ frames := 0, cells := 0, slots := 0, locals := 0 } : Room).cells ({ frames := 0, cells := 0, slots := 0, locals := 0 } : Room).slots (s₁.setTop (entryFrame m #[(.ref a)] 1))
  refine own_st (B := s₁.setTop (mkF m 0 #[.val (.ref a)] [])) (fun t_ k_ => castTop (own_ef_rm4 m a) k_) ?_
  refine own_st (B := s₁.setTop (mkF m 1 #[.val (.ref a)] [(.ref a)])) (fun t_ k_ => XS.aloadN X0.here hx rfl (hb hby own_b4_d0) rfl rfl k_) ?_
  obtain ⟨T1, X1, e1, st1⟩ := getF X0 hx hZ hown (host := "") (Or.inl (hw _ (List.mem_of_getElem? (i := 25) rfl))) Via.refl e0 F (g := (mkF m 1 #[.val (.ref a)] [(.ref a)])) rfl rfl (hb hby own_b4_d1)
  refine own_st (B := T1.setTop (mkF m 4 #[.val (.ref a)] [(.int (Int32.ofNat k))])) st1 ?_
  by_cases hc2 : (Int32.ofNat k) = (0 : Int32)
  · have hd2 := own_eq32 hc2
    rw [show (0 : Int32).toInt = 0 from rfl] at hd2
    refine own_st (B := T1.setTop (mkF m 7 #[.val (.ref a)] [])) (fun t_ k_ => XS.ifNo X1.here hx rfl (hb hby own_b4_d4) rfl ((if0 _ _).trans (teq hc2).2) k_) ?_
    refine own_st (B := T1.setTop (mkF m 8 #[.val (.ref a)] [(.int (1 : Int32))])) (fun t_ k_ => XS.iconst X1.here hx rfl (hb hby own_b4_d7) k_) ?_
    refine own_st (B := T1.setTop (mkF m 12 #[.val (.ref a)] [(.int (1 : Int32))])) (fun t_ k_ => XS.goto X1.here hx rfl (pc0 := 8) (pc' := 12) rfl (hb hby own_b4_d8) (by decide) (by decide) k_) ?_
    refine own_retN X1 hx (t := .boolean) Bd.returns (by simp) hlk (hb hby own_b4_d12) (z' := (1 : Int32)) (by first | rfl | exact own_nb _) (by decide) (by decide) ?_
    show Q4 Z a k h0 n0 _ T1.heap _
    rw [e1]
    exact ⟨by rw [own_b1 (own_o0 hk hc2)], N0, rfl⟩
  · have hd2 := own_neq32 hc2
    rw [show (0 : Int32).toInt = 0 from rfl] at hd2
    refine own_st (B := T1.setTop (mkF m 11 #[.val (.ref a)] [])) (fun t_ k_ => XS.ifYes X1.here hx rfl (pc0 := 4) (pc' := 11) rfl (hb hby own_b4_d4) rfl ((if0 _ _).trans (feq hc2).2) (by decide) (by decide) k_) ?_
    refine own_st (B := T1.setTop (mkF m 12 #[.val (.ref a)] [(.int (0 : Int32))])) (fun t_ k_ => XS.iconst X1.here hx rfl (hb hby own_b4_d11) k_) ?_
    refine own_retN X1 hx (t := .boolean) Bd.returns (by simp) hlk (hb hby own_b4_d12) (z' := (0 : Int32)) (by first | rfl | exact own_nb _) (by decide) (by decide) ?_
    show Q4 Z a k h0 n0 _ T1.heap _
    rw [e1]
    exact ⟨by rw [own_bz (fun q' => hc2 (by rw [q']; rfl))], N0, rfl⟩
theorem own_b8_d0 : decode prog_31_method_5_code 0 = .ok (.iload_n 1, 1) := by decide +kernel
theorem own_b8_d1 : decode prog_31_method_5_code 1 = .ok (.sipush 194, 3) := by decide +kernel
theorem own_b8_d4 : decode prog_31_method_5_code 4 = .ok (.if_icmp .lt 18, 3) := by decide +kernel
theorem own_b8_d7 : decode prog_31_method_5_code 7 = .ok (.iload_n 1, 1) := by decide +kernel
theorem own_b8_d8 : decode prog_31_method_5_code 8 = .ok (.sipush 223, 3) := by decide +kernel
theorem own_b8_d11 : decode prog_31_method_5_code 11 = .ok (.if_icmp .gt 11, 3) := by decide +kernel
theorem own_b8_d14 : decode prog_31_method_5_code 14 = .ok (.aload_n 0, 1) := by decide +kernel
theorem own_b8_d15 : decode prog_31_method_5_code 15 = .ok (.iconst 1, 1) := by decide +kernel
theorem own_b8_d16 : decode prog_31_method_5_code 16 = .ok (.putfield 16, 3) := by decide +kernel
theorem own_b8_d19 : decode prog_31_method_5_code 19 = .ok (.goto 129, 3) := by decide +kernel
theorem own_b8_d22 : decode prog_31_method_5_code 22 = .ok (.iload_n 1, 1) := by decide +kernel
theorem own_b8_d23 : decode prog_31_method_5_code 23 = .ok (.sipush 224, 3) := by decide +kernel
theorem own_b8_d26 : decode prog_31_method_5_code 26 = .ok (.if_icmp .lt 58, 3) := by decide +kernel
theorem own_b8_d29 : decode prog_31_method_5_code 29 = .ok (.iload_n 1, 1) := by decide +kernel
theorem own_b8_d30 : decode prog_31_method_5_code 30 = .ok (.sipush 239, 3) := by decide +kernel
theorem own_b8_d33 : decode prog_31_method_5_code 33 = .ok (.if_icmp .gt 51, 3) := by decide +kernel
theorem own_b8_d36 : decode prog_31_method_5_code 36 = .ok (.aload_n 0, 1) := by decide +kernel
theorem own_b8_d37 : decode prog_31_method_5_code 37 = .ok (.iconst 2, 1) := by decide +kernel
theorem own_b8_d38 : decode prog_31_method_5_code 38 = .ok (.putfield 16, 3) := by decide +kernel
theorem own_b8_d41 : decode prog_31_method_5_code 41 = .ok (.aload_n 0, 1) := by decide +kernel
theorem own_b8_d42 : decode prog_31_method_5_code 42 = .ok (.iload_n 1, 1) := by decide +kernel
theorem own_b8_d43 : decode prog_31_method_5_code 43 = .ok (.sipush 224, 3) := by decide +kernel
theorem own_b8_d46 : decode prog_31_method_5_code 46 = .ok (.if_icmp .ne 9, 3) := by decide +kernel
theorem own_b8_d49 : decode prog_31_method_5_code 49 = .ok (.sipush 160, 3) := by decide +kernel
theorem own_b8_d52 : decode prog_31_method_5_code 52 = .ok (.goto 6, 3) := by decide +kernel
theorem own_b8_d55 : decode prog_31_method_5_code 55 = .ok (.sipush 128, 3) := by decide +kernel
theorem own_b8_d58 : decode prog_31_method_5_code 58 = .ok (.putfield 9, 3) := by decide +kernel
theorem own_b8_d61 : decode prog_31_method_5_code 61 = .ok (.aload_n 0, 1) := by decide +kernel
theorem own_b8_d62 : decode prog_31_method_5_code 62 = .ok (.iload_n 1, 1) := by decide +kernel
theorem own_b8_d63 : decode prog_31_method_5_code 63 = .ok (.sipush 237, 3) := by decide +kernel
theorem own_b8_d66 : decode prog_31_method_5_code 66 = .ok (.if_icmp .ne 9, 3) := by decide +kernel
theorem own_b8_d69 : decode prog_31_method_5_code 69 = .ok (.sipush 159, 3) := by decide +kernel
theorem own_b8_d72 : decode prog_31_method_5_code 72 = .ok (.goto 6, 3) := by decide +kernel
theorem own_b8_d75 : decode prog_31_method_5_code 75 = .ok (.sipush 191, 3) := by decide +kernel
theorem own_b8_d78 : decode prog_31_method_5_code 78 = .ok (.putfield 13, 3) := by decide +kernel
theorem own_b8_d81 : decode prog_31_method_5_code 81 = .ok (.goto 67, 3) := by decide +kernel
theorem own_b8_d84 : decode prog_31_method_5_code 84 = .ok (.iload_n 1, 1) := by decide +kernel
theorem own_b8_d85 : decode prog_31_method_5_code 85 = .ok (.sipush 240, 3) := by decide +kernel
theorem own_b8_d88 : decode prog_31_method_5_code 88 = .ok (.if_icmp .lt 58, 3) := by decide +kernel
theorem own_b8_d91 : decode prog_31_method_5_code 91 = .ok (.iload_n 1, 1) := by decide +kernel
theorem own_b8_d92 : decode prog_31_method_5_code 92 = .ok (.sipush 244, 3) := by decide +kernel
theorem own_b8_d95 : decode prog_31_method_5_code 95 = .ok (.if_icmp .gt 51, 3) := by decide +kernel
theorem own_b8_d98 : decode prog_31_method_5_code 98 = .ok (.aload_n 0, 1) := by decide +kernel
theorem own_b8_d99 : decode prog_31_method_5_code 99 = .ok (.iconst 3, 1) := by decide +kernel
theorem own_b8_d100 : decode prog_31_method_5_code 100 = .ok (.putfield 16, 3) := by decide +kernel
theorem own_b8_d103 : decode prog_31_method_5_code 103 = .ok (.aload_n 0, 1) := by decide +kernel
theorem own_b8_d104 : decode prog_31_method_5_code 104 = .ok (.iload_n 1, 1) := by decide +kernel
theorem own_b8_d105 : decode prog_31_method_5_code 105 = .ok (.sipush 240, 3) := by decide +kernel
theorem own_b8_d108 : decode prog_31_method_5_code 108 = .ok (.if_icmp .ne 9, 3) := by decide +kernel
theorem own_b8_d111 : decode prog_31_method_5_code 111 = .ok (.sipush 144, 3) := by decide +kernel
theorem own_b8_d114 : decode prog_31_method_5_code 114 = .ok (.goto 6, 3) := by decide +kernel
theorem own_b8_d117 : decode prog_31_method_5_code 117 = .ok (.sipush 128, 3) := by decide +kernel
theorem own_b8_d120 : decode prog_31_method_5_code 120 = .ok (.putfield 9, 3) := by decide +kernel
theorem own_b8_d123 : decode prog_31_method_5_code 123 = .ok (.aload_n 0, 1) := by decide +kernel
theorem own_b8_d124 : decode prog_31_method_5_code 124 = .ok (.iload_n 1, 1) := by decide +kernel
theorem own_b8_d125 : decode prog_31_method_5_code 125 = .ok (.sipush 244, 3) := by decide +kernel
theorem own_b8_d128 : decode prog_31_method_5_code 128 = .ok (.if_icmp .ne 9, 3) := by decide +kernel
theorem own_b8_d131 : decode prog_31_method_5_code 131 = .ok (.sipush 143, 3) := by decide +kernel
theorem own_b8_d134 : decode prog_31_method_5_code 134 = .ok (.goto 6, 3) := by decide +kernel
theorem own_b8_d137 : decode prog_31_method_5_code 137 = .ok (.sipush 191, 3) := by decide +kernel
theorem own_b8_d140 : decode prog_31_method_5_code 140 = .ok (.putfield 13, 3) := by decide +kernel
theorem own_b8_d143 : decode prog_31_method_5_code 143 = .ok (.goto 5, 3) := by decide +kernel
theorem own_b8_d146 : decode prog_31_method_5_code 146 = .ok (.iconst 0, 1) := by decide +kernel
theorem own_b8_d147 : decode prog_31_method_5_code 147 = .ok (.ireturn, 1) := by decide +kernel
theorem own_b8_d148 : decode prog_31_method_5_code 148 = .ok (.iconst 1, 1) := by decide +kernel
theorem own_b8_d149 : decode prog_31_method_5_code 149 = .ok (.ireturn, 1) := by decide +kernel
theorem own_ef_rm8 (m : MethodId) (x0 : Addr) (x1 : Int32) : entryFrame m #[(.ref x0), (.int x1)] 2 = mkF m 0 #[.val (.ref x0), .val (.int x1)] [] := by first | (simp [entryFrame, mkF, argsToLocals, Value.category]; done) | rfl
def Q8 (Z : State) (a : Addr) (x : Int32) (k : Nat) (y : Int32) (h0 : Heap) (n0 : Nat) (v : Option Value) (h : Heap) (L : List Loc) : Prop := (own_beg k = none ∧ v = some (.int 0) ∧ Fr n0 L ∧ Keep h0 h [a]) ∨ ∃ nd lo hi : Nat, own_beg k = some (nd, lo, hi) ∧ v = some (.int 1) ∧ Fr n0 L ∧ Keep h0 h [a] ∧ Fld Z h a "com/example/mapwright/mapwright/Utf8Check" "needed" "I" (.int (Int32.ofNat nd)) ∧ Fld Z h a "com/example/mapwright/mapwright/Utf8Check" "least" "I" (.int (Int32.ofNat lo)) ∧ Fld Z h a "com/example/mapwright/mapwright/Utf8Check" "greatest" "I" (.int (Int32.ofNat hi))
set_option maxRecDepth 65536 in
set_option maxHeartbeats 40000000 in
theorem rm8 (l : Launch) (Z : State) (a0 : Array Value) (hw : ∀ d ∈ tables_1, d.before a0 Z = true) (ws : List Jvm.Cond) (a : Addr) (x : Int32) (k : Nat) (y : Int32) (h0 : Heap) (n0 : Nat) (Z0 : n0 ≤ h0.size) (E : Exa Z h0 a "com/example/mapwright/mapwright/Utf8Check") (F0 : Fld Z h0 a "com/example/mapwright/mapwright/Utf8Check" "needed" "I" (.int y)) (F1 : Fld Z h0 a "com/example/mapwright/mapwright/Utf8Check" "least" "I" (.int (Int32.ofNat 128))) (F2 : Fld Z h0 a "com/example/mapwright/mapwright/Utf8Check" "greatest" "I" (.int (Int32.ofNat 191))) (ga : n0 ≤ a) (hk : x.toInt = k) :
    MetFree l (⟨"com/example/mapwright/mapwright/Utf8Check", "begin", "(I)Z"⟩ : MethodName) (head1 (Jvm.Cond.code (⟨"com/example/mapwright/mapwright/Utf8Check", "begin", "(I)Z"⟩ : MethodName) prog_31_method_5_code 2 (some .boolean) :: ws) ({ frames := 0, cells := 0, slots := 0, locals := 0 } : Room)) (fun aa_ U_ => aa_ = #[(.ref a), (.int x)] ∧ Z.Warmed39 U_.vm ∧ U_.heap = h0) (fun _ _ _ _ _ => True) (fun _ U_ o_ U1_ => ∃ v_ L_, o_ = .returned v_ ∧ Q8 Z a x k y h0 n0 v_ U1_.heap L_ ∧ FrameEnd U_ o_ U1_ L_ ({ frames := 0, cells := 0, slots := 0, locals := 0 } : Room).cells ({ frames := 0, cells := 0, slots := 0, locals := 0 } : Room).slots) := by
  refine MetFree.of_bodySF (plainFor_of_name own_pn0) hisR ?_
  intro p e s m args below meth c s₁ Bd hml0 hP hK
  obtain ⟨rfl, hZ, hh⟩ := hP
  have hx := Bd.exec
  have hby := Bd.bytes
  have hlk := Bd.notSynchronized
  have hml : c.maxLocals = 2 := hml0
  have hown : s.vm.findClass "com/example/mapwright/mapwright/Utf8Check" = some m.cls := findClass_of_methodNamed Bd.named
  have hnm := (name_of_methodNamed Bd.named Bd.method).1
  have X0 : Stand p l e ({ frames := 0, cells := 0, slots := 0, locals := 0 } : Room) s m #[(.ref a), (.int x)] below meth c s₁ [] 0 0 := Stand.of_body Bd
  have e0 : s₁.heap = h0 := by rw [← hh, Bd.state]; rfl
  have N0 := Fr.nil n0
  show own_E p e below s (Q8 Z a x k y h0 n0) ({ frames := 0, cells := 0, slots := 0, locals := 0 } : Room).cells ({ frames := 0, cells := 0, slots := 0, locals := 0 } : Room).slots (s₁.setTop (entryFrame m #[(.ref a), (.int x)] 2))
  refine own_st (B := s₁.setTop (mkF m 0 #[.val (.ref a), .val (.int x)] [])) (fun t_ k_ => castTop (own_ef_rm8 m a x) k_) ?_
  have K0 : Keep h0 h0 [a] := Keep.refl _ _
  refine own_st (B := s₁.setTop (mkF m 1 #[.val (.ref a), .val (.int x)] [(.int x)])) (fun t_ k_ => XS.iloadN X0.here hx rfl (hb hby own_b8_d0) rfl k_) ?_
  refine own_st (B := s₁.setTop (mkF m 4 #[.val (.ref a), .val (.int x)] [(.int (194 : Int32)), (.int x)])) (fun t_ k_ => XS.sipush X0.here hx rfl (hb hby own_b8_d1) k_) ?_
  by_cases hc1 : x < (194 : Int32)
  · have hd1 := own_lt32 hc1
    rw [show (194 : Int32).toInt = 194 from rfl] at hd1
    refine own_st (B := s₁.setTop (mkF m 22 #[.val (.ref a), .val (.int x)] [])) (fun t_ k_ => XS.icmpYes X0.here hx rfl (pc0 := 4) (pc' := 22) rfl (hb hby own_b8_d4) rfl (tlt hc1).1 (by decide) (by decide) k_) ?_
    refine own_st (B := s₁.setTop (mkF m 23 #[.val (.ref a), .val (.int x)] [(.int x)])) (fun t_ k_ => XS.iloadN X0.here hx rfl (hb hby own_b8_d22) rfl k_) ?_
    refine own_st (B := s₁.setTop (mkF m 26 #[.val (.ref a), .val (.int x)] [(.int (224 : Int32)), (.int x)])) (fun t_ k_ => XS.sipush X0.here hx rfl (hb hby own_b8_d23) k_) ?_
    by_cases hc2 : x < (224 : Int32)
    · have hd2 := own_lt32 hc2
      rw [show (224 : Int32).toInt = 224 from rfl] at hd2
      refine own_st (B := s₁.setTop (mkF m 84 #[.val (.ref a), .val (.int x)] [])) (fun t_ k_ => XS.icmpYes X0.here hx rfl (pc0 := 26) (pc' := 84) rfl (hb hby own_b8_d26) rfl (tlt hc2).1 (by decide) (by decide) k_) ?_
      refine own_st (B := s₁.setTop (mkF m 85 #[.val (.ref a), .val (.int x)] [(.int x)])) (fun t_ k_ => XS.iloadN X0.here hx rfl (hb hby own_b8_d84) rfl k_) ?_
      refine own_st (B := s₁.setTop (mkF m 88 #[.val (.ref a), .val (.int x)] [(.int (240 : Int32)), (.int x)])) (fun t_ k_ => XS.sipush X0.here hx rfl (hb hby own_b8_d85) k_) ?_
      by_cases hc3 : x < (240 : Int32)
      · have hd3 := own_lt32 hc3
        rw [show (240 : Int32).toInt = 240 from rfl] at hd3
        refine own_st (B := s₁.setTop (mkF m 146 #[.val (.ref a), .val (.int x)] [])) (fun t_ k_ => XS.icmpYes X0.here hx rfl (pc0 := 88) (pc' := 146) rfl (hb hby own_b8_d88) rfl (tlt hc3).1 (by decide) (by decide) k_) ?_
        refine own_st (B := s₁.setTop (mkF m 147 #[.val (.ref a), .val (.int x)] [(.int (0 : Int32))])) (fun t_ k_ => XS.iconst X0.here hx rfl (hb hby own_b8_d146) k_) ?_
        refine own_retN X0 hx (t := .boolean) Bd.returns (by simp) hlk (hb hby own_b8_d147) (z' := (0 : Int32)) (by first | rfl | exact own_nb _) (by decide) (by decide) ?_
        show Q8 Z a x k y h0 n0 _ s₁.heap _
        rw [e0]
        exact Or.inl ⟨own_begN (by omega) (by omega) (by omega), rfl, N0, K0⟩
      · have hd3 := own_nlt32 hc3
        rw [show (240 : Int32).toInt = 240 from rfl] at hd3
        refine own_st (B := s₁.setTop (mkF m 91 #[.val (.ref a), .val (.int x)] [])) (fun t_ k_ => XS.icmpNo X0.here hx rfl (hb hby own_b8_d88) rfl (flt hc3).1 k_) ?_
        refine own_st (B := s₁.setTop (mkF m 92 #[.val (.ref a), .val (.int x)] [(.int x)])) (fun t_ k_ => XS.iloadN X0.here hx rfl (hb hby own_b8_d91) rfl k_) ?_
        refine own_st (B := s₁.setTop (mkF m 95 #[.val (.ref a), .val (.int x)] [(.int (244 : Int32)), (.int x)])) (fun t_ k_ => XS.sipush X0.here hx rfl (hb hby own_b8_d92) k_) ?_
        by_cases hc4 : (244 : Int32) < x
        · have hd4 := own_lt32 hc4
          rw [show (244 : Int32).toInt = 244 from rfl] at hd4
          refine own_st (B := s₁.setTop (mkF m 146 #[.val (.ref a), .val (.int x)] [])) (fun t_ k_ => XS.icmpYes X0.here hx rfl (pc0 := 95) (pc' := 146) rfl (hb hby own_b8_d95) rfl (tlt hc4).2.2.1 (by decide) (by decide) k_) ?_
          refine own_st (B := s₁.setTop (mkF m 147 #[.val (.ref a), .val (.int x)] [(.int (0 : Int32))])) (fun t_ k_ => XS.iconst X0.here hx rfl (hb hby own_b8_d146) k_) ?_
          refine own_retN X0 hx (t := .boolean) Bd.returns (by simp) hlk (hb hby own_b8_d147) (z' := (0 : Int32)) (by first | rfl | exact own_nb _) (by decide) (by decide) ?_
          show Q8 Z a x k y h0 n0 _ s₁.heap _
          rw [e0]
          exact Or.inl ⟨own_begN (by omega) (by omega) (by omega), rfl, N0, K0⟩
        · have hd4 := own_nlt32 hc4
          rw [show (244 : Int32).toInt = 244 from rfl] at hd4
          refine own_st (B := s₁.setTop (mkF m 98 #[.val (.ref a), .val (.int x)] [])) (fun t_ k_ => XS.icmpNo X0.here hx rfl (hb hby own_b8_d95) rfl (flt hc4).2.2.1 k_) ?_
          refine own_st (B := s₁.setTop (mkF m 99 #[.val (.ref a), .val (.int x)] [(.ref a)])) (fun t_ k_ => XS.aloadN X0.here hx rfl (hb hby own_b8_d98) rfl rfl k_) ?_
          refine own_st (B := s₁.setTop (mkF m 100 #[.val (.ref a), .val (.int x)] [(.int (3 : Int32)), (.ref a)])) (fun t_ k_ => XS.iconst X0.here hx rfl (hb hby own_b8_d99) k_) ?_
          obtain ⟨T5, h5, X5, e5, W5, st5⟩ := putF X0 hx hZ hown (host := "") (Or.inl (hw _ (List.mem_of_getElem? (i := 25) rfl))) Via.refl e0 F0 E (Or.inl (hw _ (List.mem_of_getElem? (i := 26) rfl))) (hw _ (List.mem_of_getElem? (i := 3) rfl)) (ty := .int) (by decide) rfl rfl (g := (mkF m 100 #[.val (.ref a), .val (.int x)] [(.int (3 : Int32)), (.ref a)])) rfl rfl (hb hby own_b8_d100)
          have Fw5 := F0.same W5
          have N5 := Fr.snoc X5 N0 ga
          have Z6 := Nat.le_trans Z0 (Keep.of_wr W5).1
          have K7 := K0.wr W5 (Or.inl (List.mem_of_getElem? (i := 0) rfl))
          refine own_st (B := T5.setTop (mkF m 103 #[.val (.ref a), .val (.int x)] [])) st5 ?_
          refine own_st (B := T5.setTop (mkF m 104 #[.val (.ref a), .val (.int x)] [(.ref a)])) (fun t_ k_ => XS.aloadN X5.here hx rfl (hb hby own_b8_d103) rfl rfl k_) ?_
          refine own_st (B := T5.setTop (mkF m 105 #[.val (.ref a), .val (.int x)] [(.int x), (.ref a)])) (fun t_ k_ => XS.iloadN X5.here hx rfl (hb hby own_b8_d104) rfl k_) ?_
          refine own_st (B := T5.setTop (mkF m 108 #[.val (.ref a), .val (.int x)] [(.int (240 : Int32)), (.int x), (.ref a)])) (fun t_ k_ => XS.sipush X5.here hx rfl (hb hby own_b8_d105) k_) ?_
          by_cases hc8 : x = (240 : Int32)
          · have hd8 := own_eq32 hc8
            rw [show (240 : Int32).toInt = 240 from rfl] at hd8
            refine own_st (B := T5.setTop (mkF m 111 #[.val (.ref a), .val (.int x)] [(.ref a)])) (fun t_ k_ => XS.icmpNo X5.here hx rfl (hb hby own_b8_d108) rfl (teq hc8).2 k_) ?_
            refine own_st (B := T5.setTop (mkF m 114 #[.val (.ref a), .val (.int x)] [(.int (144 : Int32)), (.ref a)])) (fun t_ k_ => XS.sipush X5.here hx rfl (hb hby own_b8_d111) k_) ?_
            refine own_st (B := T5.setTop (mkF m 120 #[.val (.ref a), .val (.int x)] [(.int (144 : Int32)), (.ref a)])) (fun t_ k_ => XS.goto X5.here hx rfl (pc0 := 114) (pc' := 120) rfl (hb hby own_b8_d114) (by decide) (by decide) k_) ?_
            have u9 := E.wr W5
            have u10 := F1.other W5 (Or.inr (slot_ne (Or.inl (hw _ (List.mem_of_getElem? (i := 12) rfl))) (Or.inl (hw _ (List.mem_of_getElem? (i := 26) rfl))) (by decide) (t := .int) (t' := .int) (by decide) (by decide)))
            obtain ⟨T11, h11, X11, e11, W11, st11⟩ := putF X5 hx hZ hown (host := "") (Or.inl (hw _ (List.mem_of_getElem? (i := 11) rfl))) Via.refl e5 u10 u9 (Or.inl (hw _ (List.mem_of_getElem? (i := 12) rfl))) (hw _ (List.mem_of_getElem? (i := 3) rfl)) (ty := .int) (by decide) rfl rfl (g := (mkF m 120 #[.val (.ref a), .val (.int x)] [(.int (144 : Int32)), (.ref a)])) rfl rfl (hb hby own_b8_d120)
            have Fw11 := u10.same W11
            have N11 := Fr.snoc X11 N5 ga
            have Z12 := Nat.le_trans Z6 (Keep.of_wr W11).1
            have K13 := K7.wr W11 (Or.inl (List.mem_of_getElem? (i := 0) rfl))
            refine own_st (B := T11.setTop (mkF m 123 #[.val (.ref a), .val (.int x)] [])) st11 ?_
            refine own_st (B := T11.setTop (mkF m 124 #[.val (.ref a), .val (.int x)] [(.ref a)])) (fun t_ k_ => XS.aloadN X11.here hx rfl (hb hby own_b8_d123) rfl rfl k_) ?_
            refine own_st (B := T11.setTop (mkF m 125 #[.val (.ref a), .val (.int x)] [(.int x), (.ref a)])) (fun t_ k_ => XS.iloadN X11.here hx rfl (hb hby own_b8_d124) rfl k_) ?_
            refine own_st (B := T11.setTop (mkF m 128 #[.val (.ref a), .val (.int x)] [(.int (244 : Int32)), (.int x), (.ref a)])) (fun t_ k_ => XS.sipush X11.here hx rfl (hb hby own_b8_d125) k_) ?_
            by_cases hc14 : x = (244 : Int32)
            · have hd14 := own_eq32 hc14
              rw [show (244 : Int32).toInt = 244 from rfl] at hd14
              refine own_st (B := T11.setTop (mkF m 131 #[.val (.ref a), .val (.int x)] [(.ref a)])) (fun t_ k_ => XS.icmpNo X11.here hx rfl (hb hby own_b8_d128) rfl (teq hc14).2 k_) ?_
              refine own_st (B := T11.setTop (mkF m 134 #[.val (.ref a), .val (.int x)] [(.int (143 : Int32)), (.ref a)])) (fun t_ k_ => XS.sipush X11.here hx rfl (hb hby own_b8_d131) k_) ?_
              refine own_st (B := T11.setTop (mkF m 140 #[.val (.ref a), .val (.int x)] [(.int (143 : Int32)), (.ref a)])) (fun t_ k_ => XS.goto X11.here hx rfl (pc0 := 134) (pc' := 140) rfl (hb hby own_b8_d134) (by decide) (by decide) k_) ?_
              have u15 := u9.wr W11
              have u16 := F2.other W5 (Or.inr (slot_ne (Or.inl (hw _ (List.mem_of_getElem? (i := 14) rfl))) (Or.inl (hw _ (List.mem_of_getElem? (i := 26) rfl))) (by decide) (t := .int) (t' := .int) (by decide) (by decide)))
              have u17 := u16.other W11 (Or.inr (slot_ne (Or.inl (hw _ (List.mem_of_getElem? (i := 14) rfl))) (Or.inl (hw _ (List.mem_of_getElem? (i := 12) rfl))) (by decide) (t := .int) (t' := .int) (by decide) (by decide)))
              obtain ⟨T18, h18, X18, e18, W18, st18⟩ := putF X11 hx hZ hown (host := "") (Or.inl (hw _ (List.mem_of_getElem? (i := 13) rfl))) Via.refl e11 u17 u15 (Or.inl (hw _ (List.mem_of_getElem? (i := 14) rfl))) (hw _ (List.mem_of_getElem? (i := 3) rfl)) (ty := .int) (by decide) rfl rfl (g := (mkF m 140 #[.val (.ref a), .val (.int x)] [(.int (143 : Int32)), (.ref a)])) rfl rfl (hb hby own_b8_d140)
              have Fw18 := u17.same W18
              have N18 := Fr.snoc X18 N11 ga
              have Z19 := Nat.le_trans Z12 (Keep.of_wr W18).1
              have K20 := K13.wr W18 (Or.inl (List.mem_of_getElem? (i := 0) rfl))
              refine own_st (B := T18.setTop (mkF m 143 #[.val (.ref a), .val (.int x)] [])) st18 ?_
              refine own_st (B := T18.setTop (mkF m 148 #[.val (.ref a), .val (.int x)] [])) (fun t_ k_ => XS.goto X18.here hx rfl (pc0 := 143) (pc' := 148) rfl (hb hby own_b8_d143) (by decide) (by decide) k_) ?_
              refine own_st (B := T18.setTop (mkF m 149 #[.val (.ref a), .val (.int x)] [(.int (1 : Int32))])) (fun t_ k_ => XS.iconst X18.here hx rfl (hb hby own_b8_d148) k_) ?_
              refine own_retN X18 hx (t := .boolean) Bd.returns (by simp) hlk (hb hby own_b8_d149) (z' := (1 : Int32)) (by first | rfl | exact own_nb _) (by decide) (by decide) ?_
              show Q8 Z a x k y h0 n0 _ T18.heap _
              rw [e18]
              have u21 := Fw5.other W11 (Or.inr (slot_ne (Or.inl (hw _ (List.mem_of_getElem? (i := 26) rfl))) (Or.inl (hw _ (List.mem_of_getElem? (i := 12) rfl))) (by decide) (t := .int) (t' := .int) (by decide) (by decide)))
              have u22 := u21.other W18 (Or.inr (slot_ne (Or.inl (hw _ (List.mem_of_getElem? (i := 26) rfl))) (Or.inl (hw _ (List.mem_of_getElem? (i := 14) rfl))) (by decide) (t := .int) (t' := .int) (by decide) (by decide)))
              have u23 := Fw11.other W18 (Or.inr (slot_ne (Or.inl (hw _ (List.mem_of_getElem? (i := 12) rfl))) (Or.inl (hw _ (List.mem_of_getElem? (i := 14) rfl))) (by decide) (t := .int) (t' := .int) (by decide) (by decide)))
              exact Or.inr ⟨3, 144, 143, (own_beg3 (by omega) (if_pos (by omega)) (if_pos (by omega))), rfl, N18, K20, u22, u23, Fw18⟩
            · have hd14 := own_neq32 hc14
              rw [show (244 : Int32).toInt = 244 from rfl] at hd14
              refine own_st (B := T11.setTop (mkF m 137 #[.val (.ref a), .val (.int x)] [(.ref a)])) (fun t_ k_ => XS.icmpYes X11.here hx rfl (pc0 := 128) (pc' := 137) rfl (hb hby own_b8_d128) rfl (feq hc14).2 (by decide) (by decide) k_) ?_
              refine own_st (B := T11.setTop (mkF m 140 #[.val (.ref a), .val (.int x)] [(.int (191 : Int32)), (.ref a)])) (fun t_ k_ => XS.sipush X11.here hx rfl (hb hby own_b8_d137) k_) ?_
              have u24 := u9.wr W11
              have u25 := F2.other W5 (Or.inr (slot_ne (Or.inl (hw _ (List.mem_of_getElem? (i := 14) rfl))) (Or.inl (hw _ (List.mem_of_getElem? (i := 26) rfl))) (by decide) (t := .int) (t' := .int) (by decide) (by decide)))
              have u26 := u25.other W11 (Or.inr (slot_ne (Or.inl (hw _ (List.mem_of_getElem? (i := 14) rfl))) (Or.inl (hw _ (List.mem_of_getElem? (i := 12) rfl))) (by decide) (t := .int) (t' := .int) (by decide) (by decide)))
              obtain ⟨T27, h27, X27, e27, W27, st27⟩ := putF X11 hx hZ hown (host := "") (Or.inl (hw _ (List.mem_of_getElem? (i := 13) rfl))) Via.refl e11 u26 u24 (Or.inl (hw _ (List.mem_of_getElem? (i := 14) rfl))) (hw _ (List.mem_of_getElem? (i := 3) rfl)) (ty := .int) (by decide) rfl rfl (g := (mkF m 140 #[.val (.ref a), .val (.int x)] [(.int (191 : Int32)), (.ref a)])) rfl rfl (hb hby own_b8_d140)
              have Fw27 := u26.same W27
              have N27 := Fr.snoc X27 N11 ga
              have Z28 := Nat.le_trans Z12 (Keep.of_wr W27).1
              have K29 := K13.wr W27 (Or.inl (List.mem_of_getElem? (i := 0) rfl))
              refine own_st (B := T27.setTop (mkF m 143 #[.val (.ref a), .val (.int x)] [])) st27 ?_
              refine own_st (B := T27.setTop (mkF m 148 #[.val (.ref a), .val (.int x)] [])) (fun t_ k_ => XS.goto X27.here hx rfl (pc0 := 143) (pc' := 148) rfl (hb hby own_b8_d143) (by decide) (by decide) k_) ?_
              refine own_st (B := T27.setTop (mkF m 149 #[.val (.ref a), .val (.int x)] [(.int (1 : Int32))])) (fun t_ k_ => XS.iconst X27.here hx rfl (hb hby own_b8_d148) k_) ?_
              refine own_retN X27 hx (t := .boolean) Bd.returns (by simp) hlk (hb hby own_b8_d149) (z' := (1 : Int32)) (by first | rfl | exact own_nb _) (by decide) (by decide) ?_
              show Q8 Z a x k y h0 n0 _ T27.heap _
              rw [e27]
              have u30 := Fw5.other W11 (Or.inr (slot_ne (Or.inl (hw _ (List.mem_of_getElem? (i := 26) rfl))) (Or.inl (hw _ (List.mem_of_getElem? (i := 12) rfl))) (by decide) (t := .int) (t' := .int) (by decide) (by decide)))
              have u31 := u30.other W27 (Or.inr (slot_ne (Or.inl (hw _ (List.mem_of_getElem? (i := 26) rfl))) (Or.inl (hw _ (List.mem_of_getElem? (i := 14) rfl))) (by decide) (t := .int) (t' := .int) (by decide) (by decide)))
              have u32 := Fw11.other W27 (Or.inr (slot_ne (Or.inl (hw _ (List.mem_of_getElem? (i := 12) rfl))) (Or.inl (hw _ (List.mem_of_getElem? (i := 14) rfl))) (by decide) (t := .int) (t' := .int) (by decide) (by decide)))
              exact Or.inr ⟨3, 144, 191, (own_beg3 (by omega) (if_pos (by omega)) (if_neg (by omega))), rfl, N27, K29, u31, u32, Fw27⟩
          · have hd8 := own_neq32 hc8
            rw [show (240 : Int32).toInt = 240 from rfl] at hd8
            refine own_st (B := T5.setTop (mkF m 117 #[.val (.ref a), .val (.int x)] [(.ref a)])) (fun t_ k_ => XS.icmpYes X5.here hx rfl (pc0 := 108) (pc' := 117) rfl (hb hby own_b8_d108) rfl (feq hc8).2 (by decide) (by decide) k_) ?_
            refine own_st (B := T5.setTop (mkF m 120 #[.val (.ref a), .val (.int x)] [(.int (128 : Int32)), (.ref a)])) (fun t_ k_ => XS.sipush X5.here hx rfl (hb hby own_b8_d117) k_) ?_
            have u33 := E.wr W5
            have u34 := F1.other W5 (Or.inr (slot_ne (Or.inl (hw _ (List.mem_of_getElem? (i := 12) rfl))) (Or.inl (hw _ (List.mem_of_getElem? (i := 26) rfl))) (by decide) (t := .int) (t' := .int) (by decide) (by decide)))
            obtain ⟨T35, h35, X35, e35, W35, st35⟩ := putF X5 hx hZ hown (host := "") (Or.inl (hw _ (List.mem_of_getElem? (i := 11) rfl))) Via.refl e5 u34 u33 (Or.inl (hw _ (List.mem_of_getElem? (i := 12) rfl))) (hw _ (List.mem_of_getElem? (i := 3) rfl)) (ty := .int) (by decide) rfl rfl (g := (mkF m 120 #[.val (.ref a), .val (.int x)] [(.int (128 : Int32)), (.ref a)])) rfl rfl (hb hby own_b8_d120)
            have Fw35 := u34.same W35
            have N35 := Fr.snoc X35 N5 ga
            have Z36 := Nat.le_trans Z6 (Keep.of_wr W35).1
            have K37 := K7.wr W35 (Or.inl (List.mem_of_getElem? (i := 0) rfl))
            refine own_st (B := T35.setTop (mkF m 123 #[.val (.ref a), .val (.int x)] [])) st35 ?_
            refine own_st (B := T35.setTop (mkF m 124 #[.val (.ref a), .val (.int x)] [(.ref a)])) (fun t_ k_ => XS.aloadN X35.here hx rfl (hb hby own_b8_d123) rfl rfl k_) ?_
            refine own_st (B := T35.setTop (mkF m 125 #[.val (.ref a), .val (.int x)] [(.int x), (.ref a)])) (fun t_ k_ => XS.iloadN X35.here hx rfl (hb hby own_b8_d124) rfl k_) ?_
            refine own_st (B := T35.setTop (mkF m 128 #[.val (.ref a), .val (.int x)] [(.int (244 : Int32)), (.int x), (.ref a)])) (fun t_ k_ => XS.sipush X35.here hx rfl (hb hby own_b8_d125) k_) ?_
            by_cases hc38 : x = (244 : Int32)
            · have hd38 := own_eq32 hc38
              rw [show (244 : Int32).toInt = 244 from rfl] at hd38
              refine own_st (B := T35.setTop (mkF m 131 #[.val (.ref a), .val (.int x)] [(.ref a)])) (fun t_ k_ => XS.icmpNo X35.here hx rfl (hb hby own_b8_d128) rfl (teq hc38).2 k_) ?_
              refine own_st (B := T35.setTop (mkF m 134 #[.val (.ref a), .val (.int x)] [(.int (143 : Int32)), (.ref a)])) (fun t_ k_ => XS.sipush X35.here hx rfl (hb hby own_b8_d131) k_) ?_
              refine own_st (B := T35.setTop (mkF m 140 #[.val (.ref a), .val (.int x)] [(.int (143 : Int32)), (.ref a)])) (fun t_ k_ => XS.goto X35.here hx rfl (pc0 := 134) (pc' := 140) rfl (hb hby own_b8_d134) (by decide) (by decide) k_) ?_
              have u39 := u33.wr W35
              have u40 := F2.other W5 (Or.inr (slot_ne (Or.inl (hw _ (List.mem_of_getElem? (i := 14) rfl))) (Or.inl (hw _ (List.mem_of_getElem? (i := 26) rfl))) (by decide) (t := .int) (t' := .int) (by decide) (by decide)))
              have u41 := u40.other W35 (Or.inr (slot_ne (Or.inl (hw _ (List.mem_of_getElem? (i := 14) rfl))) (Or.inl (hw _ (List.mem_of_getElem? (i := 12) rfl))) (by decide) (t := .int) (t' := .int) (by decide) (by decide)))
              obtain ⟨T42, h42, X42, e42, W42, st42⟩ := putF X35 hx hZ hown (host := "") (Or.inl (hw _ (List.mem_of_getElem? (i := 13) rfl))) Via.refl e35 u41 u39 (Or.inl (hw _ (List.mem_of_getElem? (i := 14) rfl))) (hw _ (List.mem_of_getElem? (i := 3) rfl)) (ty := .int) (by decide) rfl rfl (g := (mkF m 140 #[.val (.ref a), .val (.int x)] [(.int (143 : Int32)), (.ref a)])) rfl rfl (hb hby own_b8_d140)
              have Fw42 := u41.same W42
              have N42 := Fr.snoc X42 N35 ga
              have Z43 := Nat.le_trans Z36 (Keep.of_wr W42).1
              have K44 := K37.wr W42 (Or.inl (List.mem_of_getElem? (i := 0) rfl))
              refine own_st (B := T42.setTop (mkF m 143 #[.val (.ref a), .val (.int x)] [])) st42 ?_
              refine own_st (B := T42.setTop (mkF m 148 #[.val (.ref a), .val (.int x)] [])) (fun t_ k_ => XS.goto X42.here hx rfl (pc0 := 143) (pc' := 148) rfl (hb hby own_b8_d143) (by decide) (by decide) k_) ?_
              refine own_st (B := T42.setTop (mkF m 149 #[.val (.ref a), .val (.int x)] [(.int (1 : Int32))])) (fun t_ k_ => XS.iconst X42.here hx rfl (hb hby own_b8_d148) k_) ?_
              refine own_retN X42 hx (t := .boolean) Bd.returns (by simp) hlk (hb hby own_b8_d149) (z' := (1 : Int32)) (by first | rfl | exact own_nb _) (by decide) (by decide) ?_
              show Q8 Z a x k y h0 n0 _ T42.heap _
              rw [e42]
              have u45 := Fw5.other W35 (Or.inr (slot_ne (Or.inl (hw _ (List.mem_of_getElem? (i := 26) rfl))) (Or.inl (hw _ (List.mem_of_getElem? (i := 12) rfl))) (by decide) (t := .int) (t' := .int) (by decide) (by decide)))
              have u46 := u45.other W42 (Or.inr (slot_ne (Or.inl (hw _ (List.mem_of_getElem? (i := 26) rfl))) (Or.inl (hw _ (List.mem_of_getElem? (i := 14) rfl))) (by decide) (t := .int) (t' := .int) (by decide) (by decide)))
              have u47 := Fw35.other W42 (Or.inr (slot_ne (Or.inl (hw _ (List.mem_of_getElem? (i := 12) rfl))) (Or.inl (hw _ (List.mem_of_getElem? (i := 14) rfl))) (by decide) (t := .int) (t' := .int) (by decide) (by decide)))
              exact Or.inr ⟨3, 128, 143, (own_beg3 (by omega) (if_neg (by omega)) (if_pos (by omega))), rfl, N42, K44, u46, u47, Fw42⟩
            · have hd38 := own_neq32 hc38
              rw [show (244 : Int32).toInt = 244 from rfl] at hd38
              refine own_st (B := T35.setTop (mkF m 137 #[.val (.ref a), .val (.int x)] [(.ref a)])) (fun t_ k_ => XS.icmpYes X35.here hx rfl (pc0 := 128) (pc' := 137) rfl (hb hby own_b8_d128) rfl (feq hc38).2 (by decide) (by decide) k_) ?_
              refine own_st (B := T35.setTop (mkF m 140 #[.val (.ref a), .val (.int x)] [(.int (191 : Int32)), (.ref a)])) (fun t_ k_ => XS.sipush X35.here hx rfl (hb hby own_b8_d137) k_) ?_
              have u48 := u33.wr W35
              have u49 := F2.other W5 (Or.inr (slot_ne (Or.inl (hw _ (List.mem_of_getElem? (i := 14) rfl))) (Or.inl (hw _ (List.mem_of_getElem? (i := 26) rfl))) (by decide) (t := .int) (t' := .int) (by decide) (by decide)))
              have u50 := u49.other W35 (Or.inr (slot_ne (Or.inl (hw _ (List.mem_of_getElem? (i := 14) rfl))) (Or.inl (hw _ (List.mem_of_getElem? (i := 12) rfl))) (by decide) (t := .int) (t' := .int) (by decide) (by decide)))
              obtain ⟨T51, h51, X51, e51, W51, st51⟩ := putF X35 hx hZ hown (host := "") (Or.inl (hw _ (List.mem_of_getElem? (i := 13) rfl))) Via.refl e35 u50 u48 (Or.inl (hw _ (List.mem_of_getElem? (i := 14) rfl))) (hw _ (List.mem_of_getElem? (i := 3) rfl)) (ty := .int) (by decide) rfl rfl (g := (mkF m 140 #[.val (.ref a), .val (.int x)] [(.int (191 : Int32)), (.ref a)])) rfl rfl (hb hby own_b8_d140)
              have Fw51 := u50.same W51
              have N51 := Fr.snoc X51 N35 ga
              have Z52 := Nat.le_trans Z36 (Keep.of_wr W51).1
              have K53 := K37.wr W51 (Or.inl (List.mem_of_getElem? (i := 0) rfl))
              refine own_st (B := T51.setTop (mkF m 143 #[.val (.ref a), .val (.int x)] [])) st51 ?_
              refine own_st (B := T51.setTop (mkF m 148 #[.val (.ref a), .val (.int x)] [])) (fun t_ k_ => XS.goto X51.here hx rfl (pc0 := 143) (pc' := 148) rfl (hb hby own_b8_d143) (by decide) (by decide) k_) ?_
              refine own_st (B := T51.setTop (mkF m 149 #[.val (.ref a), .val (.int x)] [(.int (1 : Int32))])) (fun t_ k_ => XS.iconst X51.here hx rfl (hb hby own_b8_d148) k_) ?_
              refine own_retN X51 hx (t := .boolean) Bd.returns (by simp) hlk (hb hby own_b8_d149) (z' := (1 : Int32)) (by first | rfl | exact own_nb _) (by decide) (by decide) ?_
              show Q8 Z a x k y h0 n0 _ T51.heap _
              rw [e51]
              have u54 := Fw5.other W35 (Or.inr (slot_ne (Or.inl (hw _ (List.mem_of_getElem? (i := 26) rfl))) (Or.inl (hw _ (List.mem_of_getElem? (i := 12) rfl))) (by decide) (t := .int) (t' := .int) (by decide) (by decide)))
              have u55 := u54.other W51 (Or.inr (slot_ne (Or.inl (hw _ (List.mem_of_getElem? (i := 26) rfl))) (Or.inl (hw _ (List.mem_of_getElem? (i := 14) rfl))) (by decide) (t := .int) (t' := .int) (by decide) (by decide)))
              have u56 := Fw35.other W51 (Or.inr (slot_ne (Or.inl (hw _ (List.mem_of_getElem? (i := 12) rfl))) (Or.inl (hw _ (List.mem_of_getElem? (i := 14) rfl))) (by decide) (t := .int) (t' := .int) (by decide) (by decide)))
              exact Or.inr ⟨3, 128, 191, (own_beg3 (by omega) (if_neg (by omega)) (if_neg (by omega))), rfl, N51, K53, u55, u56, Fw51⟩
    · have hd2 := own_nlt32 hc2
      rw [show (224 : Int32).toInt = 224 from rfl] at hd2
      refine own_st (B := s₁.setTop (mkF m 29 #[.val (.ref a), .val (.int x)] [])) (fun t_ k_ => XS.icmpNo X0.here hx rfl (hb hby own_b8_d26) rfl (flt hc2).1 k_) ?_
      refine own_st (B := s₁.setTop (mkF m 30 #[.val (.ref a), .val (.int x)] [(.int x)])) (fun t_ k_ => XS.iloadN X0.here hx rfl (hb hby own_b8_d29) rfl k_) ?_
      refine own_st (B := s₁.setTop (mkF m 33 #[.val (.ref a), .val (.int x)] [(.int (239 : Int32)), (.int x)])) (fun t_ k_ => XS.sipush X0.here hx rfl (hb hby own_b8_d30) k_) ?_
      by_cases hc57 : (239 : Int32) < x
      · have hd57 := own_lt32 hc57
        rw [show (239 : Int32).toInt = 239 from rfl] at hd57
        refine own_st (B := s₁.setTop (mkF m 84 #[.val (.ref a), .val (.int x)] [])) (fun t_ k_ => XS.icmpYes X0.here hx rfl (pc0 := 33) (pc' := 84) rfl (hb hby own_b8_d33) rfl (tlt hc57).2.2.1 (by decide) (by decide) k_) ?_
        refine own_st (B := s₁.setTop (mkF m 85 #[.val (.ref a), .val (.int x)] [(.int x)])) (fun t_ k_ => XS.iloadN X0.here hx rfl (hb hby own_b8_d84) rfl k_) ?_
        refine own_st (B := s₁.setTop (mkF m 88 #[.val (.ref a), .val (.int x)] [(.int (240 : Int32)), (.int x)])) (fun t_ k_ => XS.sipush X0.here hx rfl (hb hby own_b8_d85) k_) ?_
        by_cases hc58 : x < (240 : Int32)
        · have hd58 := own_lt32 hc58
          rw [show (240 : Int32).toInt = 240 from rfl] at hd58
          refine own_st (B := s₁.setTop (mkF m 146 #[.val (.ref a), .val (.int x)] [])) (fun t_ k_ => XS.icmpYes X0.here hx rfl (pc0 := 88) (pc' := 146) rfl (hb hby own_b8_d88) rfl (tlt hc58).1 (by decide) (by decide) k_) ?_
          refine own_st (B := s₁.setTop (mkF m 147 #[.val (.ref a), .val (.int x)] [(.int (0 : Int32))])) (fun t_ k_ => XS.iconst X0.here hx rfl (hb hby own_b8_d146) k_) ?_
          refine own_retN X0 hx (t := .boolean) Bd.returns (by simp) hlk (hb hby own_b8_d147) (z' := (0 : Int32)) (by first | rfl | exact own_nb _) (by decide) (by decide) ?_
          show Q8 Z a x k y h0 n0 _ s₁.heap _
          rw [e0]
          exact Or.inl ⟨own_begN (by omega) (by omega) (by omega), rfl, N0, K0⟩
        · have hd58 := own_nlt32 hc58
          rw [show (240 : Int32).toInt = 240 from rfl] at hd58
          refine own_st (B := s₁.setTop (mkF m 91 #[.val (.ref a), .val (.int x)] [])) (fun t_ k_ => XS.icmpNo X0.here hx rfl (hb hby own_b8_d88) rfl (flt hc58).1 k_) ?_
          refine own_st (B := s₁.setTop (mkF m 92 #[.val (.ref a), .val (.int x)] [(.int x)])) (fun t_ k_ => XS.iloadN X0.here hx rfl (hb hby own_b8_d91) rfl k_) ?_
          refine own_st (B := s₁.setTop (mkF m 95 #[.val (.ref a), .val (.int x)] [(.int (244 : Int32)), (.int x)])) (fun t_ k_ => XS.sipush X0.here hx rfl (hb hby own_b8_d92) k_) ?_
          by_cases hc59 : (244 : Int32) < x
          · have hd59 := own_lt32 hc59
            rw [show (244 : Int32).toInt = 244 from rfl] at hd59
            refine own_st (B := s₁.setTop (mkF m 146 #[.val (.ref a), .val (.int x)] [])) (fun t_ k_ => XS.icmpYes X0.here hx rfl (pc0 := 95) (pc' := 146) rfl (hb hby own_b8_d95) rfl (tlt hc59).2.2.1 (by decide) (by decide) k_) ?_
            refine own_st (B := s₁.setTop (mkF m 147 #[.val (.ref a), .val (.int x)] [(.int (0 : Int32))])) (fun t_ k_ => XS.iconst X0.here hx rfl (hb hby own_b8_d146) k_) ?_
            refine own_retN X0 hx (t := .boolean) Bd.returns (by simp) hlk (hb hby own_b8_d147) (z' := (0 : Int32)) (by first | rfl | exact own_nb _) (by decide) (by decide) ?_
            show Q8 Z a x k y h0 n0 _ s₁.heap _
            rw [e0]
            exact Or.inl ⟨own_begN (by omega) (by omega) (by omega), rfl, N0, K0⟩
          · have hd59 := own_nlt32 hc59
            rw [show (244 : Int32).toInt = 244 from rfl] at hd59
            refine own_st (B := s₁.setTop (mkF m 98 #[.val (.ref a), .val (.int x)] [])) (fun t_ k_ => XS.icmpNo X0.here hx rfl (hb hby own_b8_d95) rfl (flt hc59).2.2.1 k_) ?_
            refine own_st (B := s₁.setTop (mkF m 99 #[.val (.ref a), .val (.int x)] [(.ref a)])) (fun t_ k_ => XS.aloadN X0.here hx rfl (hb hby own_b8_d98) rfl rfl k_) ?_
            refine own_st (B := s₁.setTop (mkF m 100 #[.val (.ref a), .val (.int x)] [(.int (3 : Int32)), (.ref a)])) (fun t_ k_ => XS.iconst X0.here hx rfl (hb hby own_b8_d99) k_) ?_
            obtain ⟨T60, h60, X60, e60, W60, st60⟩ := putF X0 hx hZ hown (host := "") (Or.inl (hw _ (List.mem_of_getElem? (i := 25) rfl))) Via.refl e0 F0 E (Or.inl (hw _ (List.mem_of_getElem? (i := 26) rfl))) (hw _ (List.mem_of_getElem? (i := 3) rfl)) (ty := .int) (by decide) rfl rfl (g := (mkF m 100 #[.val (.ref a), .val (.int x)] [(.int (3 : Int32)), (.ref a)])) rfl rfl (hb hby own_b8_d100)
            have Fw60 := F0.same W60
            have N60 := Fr.snoc X60 N0 ga
            have Z61 := Nat.le_trans Z0 (Keep.of_wr W60).1
            have K62 := K0.wr W60 (Or.inl (List.mem_of_getElem? (i := 0) rfl))
            refine own_st (B := T60.setTop (mkF m 103 #[.val (.ref a), .val (.int x)] [])) st60 ?_
            refine own_st (B := T60.setTop (mkF m 104 #[.val (.ref a), .val (.int x)] [(.ref a)])) (fun t_ k_ => XS.aloadN X60.here hx rfl (hb hby own_b8_d103) rfl rfl k_) ?_
            refine own_st (B := T60.setTop (mkF m 105 #[.val (.ref a), .val (.int x)] [(.int x), (.ref a)])) (fun t_ k_ => XS.iloadN X60.here hx rfl (hb hby own_b8_d104) rfl k_) ?_
            refine own_st (B := T60.setTop (mkF m 108 #[.val (.ref a), .val (.int x)] [(.int (240 : Int32)), (.int x), (.ref a)])) (fun t_ k_ => XS.sipush X60.here hx rfl (hb hby own_b8_d105) k_) ?_
            by_cases hc63 : x = (240 : Int32)
            · have hd63 := own_eq32 hc63
              rw [show (240 : Int32).toInt = 240 from rfl] at hd63
              refine own_st (B := T60.setTop (mkF m 111 #[.val (.ref a), .val (.int x)] [(.ref a)])) (fun t_ k_ => XS.icmpNo X60.here hx rfl (hb hby own_b8_d108) rfl (teq hc63).2 k_) ?_
              refine own_st (B := T60.setTop (mkF m 114 #[.val (.ref a), .val (.int x)] [(.int (144 : Int32)), (.ref a)])) (fun t_ k_ => XS.sipush X60.here hx rfl (hb hby own_b8_d111) k_) ?_
              refine own_st (B := T60.setTop (mkF m 120 #[.val (.ref a), .val (.int x)] [(.int (144 : Int32)), (.ref a)])) (fun t_ k_ => XS.goto X60.here hx rfl (pc0 := 114) (pc' := 120) rfl (hb hby own_b8_d114) (by decide) (by decide) k_) ?_
              have u64 := E.wr W60
              have u65 := F1.other W60 (Or.inr (slot_ne (Or.inl (hw _ (List.mem_of_getElem? (i := 12) rfl))) (Or.inl (hw _ (List.mem_of_getElem? (i := 26) rfl))) (by decide) (t := .int) (t' := .int) (by decide) (by decide)))
              obtain ⟨T66, h66, X66, e66, W66, st66⟩ := putF X60 hx hZ hown (host := "") (Or.inl (hw _ (List.mem_of_getElem? (i := 11) rfl))) Via.refl e60 u65 u64 (Or.inl (hw _ (List.mem_of_getElem? (i := 12) rfl))) (hw _ (List.mem_of_getElem? (i := 3) rfl)) (ty := .int) (by decide) rfl rfl (g := (mkF m 120 #[.val (.ref a), .val (.int x)] [(.int (144 : Int32)), (.ref a)])) rfl rfl (hb hby own_b8_d120)
              have Fw66 := u65.same W66
              have N66 := Fr.snoc X66 N60 ga
              have Z67 := Nat.le_trans Z61 (Keep.of_wr W66).1
              have K68 := K62.wr W66 (Or.inl (List.mem_of_getElem? (i := 0) rfl))
              refine own_st (B := T66.setTop (mkF m 123 #[.val (.ref a), .val (.int x)] [])) st66 ?_
              refine own_st (B := T66.setTop (mkF m 124 #[.val (.ref a), .val (.int x)] [(.ref a)])) (fun t_ k_ => XS.aloadN X66.here hx rfl (hb hby own_b8_d123) rfl rfl k_) ?_
              refine own_st (B := T66.setTop (mkF m 125 #[.val (.ref a), .val (.int x)] [(.int x), (.ref a)])) (fun t_ k_ => XS.iloadN X66.here hx rfl (hb hby own_b8_d124) rfl k_) ?_
              refine own_st (B := T66.setTop (mkF m 128 #[.val (.ref a), .val (.int x)] [(.int (244 : Int32)), (.int x), (.ref a)])) (fun t_ k_ => XS.sipush X66.here hx rfl (hb hby own_b8_d125) k_) ?_
              by_cases hc69 : x = (244 : Int32)
              · have hd69 := own_eq32 hc69
                rw [show (244 : Int32).toInt = 244 from rfl] at hd69
                refine own_st (B := T66.setTop (mkF m 131 #[.val (.ref a), .val (.int x)] [(.ref a)])) (fun t_ k_ => XS.icmpNo X66.here hx rfl (hb hby own_b8_d128) rfl (teq hc69).2 k_) ?_
                refine own_st (B := T66.setTop (mkF m 134 #[.val (.ref a), .val (.int x)] [(.int (143 : Int32)), (.ref a)])) (fun t_ k_ => XS.sipush X66.here hx rfl (hb hby own_b8_d131) k_) ?_
                refine own_st (B := T66.setTop (mkF m 140 #[.val (.ref a), .val (.int x)] [(.int (143 : Int32)), (.ref a)])) (fun t_ k_ => XS.goto X66.here hx rfl (pc0 := 134) (pc' := 140) rfl (hb hby own_b8_d134) (by decide) (by decide) k_) ?_
                have u70 := u64.wr W66
                have u71 := F2.other W60 (Or.inr (slot_ne (Or.inl (hw _ (List.mem_of_getElem? (i := 14) rfl))) (Or.inl (hw _ (List.mem_of_getElem? (i := 26) rfl))) (by decide) (t := .int) (t' := .int) (by decide) (by decide)))
                have u72 := u71.other W66 (Or.inr (slot_ne (Or.inl (hw _ (List.mem_of_getElem? (i := 14) rfl))) (Or.inl (hw _ (List.mem_of_getElem? (i := 12) rfl))) (by decide) (t := .int) (t' := .int) (by decide) (by decide)))
                obtain ⟨T73, h73, X73, e73, W73, st73⟩ := putF X66 hx hZ hown (host := "") (Or.inl (hw _ (List.mem_of_getElem? (i := 13) rfl))) Via.refl e66 u72 u70 (Or.inl (hw _ (List.mem_of_getElem? (i := 14) rfl))) (hw _ (List.mem_of_getElem? (i := 3) rfl)) (ty := .int) (by decide) rfl rfl (g := (mkF m 140 #[.val (.ref a), .val (.int x)] [(.int (143 : Int32)), (.ref a)])) rfl rfl (hb hby own_b8_d140)
                have Fw73 := u72.same W73
                have N73 := Fr.snoc X73 N66 ga
                have Z74 := Nat.le_trans Z67 (Keep.of_wr W73).1
                have K75 := K68.wr W73 (Or.inl (List.mem_of_getElem? (i := 0) rfl))
                refine own_st (B := T73.setTop (mkF m 143 #[.val (.ref a), .val (.int x)] [])) st73 ?_
                refine own_st (B := T73.setTop (mkF m 148 #[.val (.ref a), .val (.int x)] [])) (fun t_ k_ => XS.goto X73.here hx rfl (pc0 := 143) (pc' := 148) rfl (hb hby own_b8_d143) (by decide) (by decide) k_) ?_
                refine own_st (B := T73.setTop (mkF m 149 #[.val (.ref a), .val (.int x)] [(.int (1 : Int32))])) (fun t_ k_ => XS.iconst X73.here hx rfl (hb hby own_b8_d148) k_) ?_
                refine own_retN X73 hx (t := .boolean) Bd.returns (by simp) hlk (hb hby own_b8_d149) (z' := (1 : Int32)) (by first | rfl | exact own_nb _) (by decide) (by decide) ?_
                show Q8 Z a x k y h0 n0 _ T73.heap _
                rw [e73]
                have u76 := Fw60.other W66 (Or.inr (slot_ne (Or.inl (hw _ (List.mem_of_getElem? (i := 26) rfl))) (Or.inl (hw _ (List.mem_of_getElem? (i := 12) rfl))) (by decide) (t := .int) (t' := .int) (by decide) (by decide)))
                have u77 := u76.other W73 (Or.inr (slot_ne (Or.inl (hw _ (List.mem_of_getElem? (i := 26) rfl))) (Or.inl (hw _ (List.mem_of_getElem? (i := 14) rfl))) (by decide) (t := .int) (t' := .int) (by decide) (by decide)))
                have u78 := Fw66.other W73 (Or.inr (slot_ne (Or.inl (hw _ (List.mem_of_getElem? (i := 12) rfl))) (Or.inl (hw _ (List.mem_of_getElem? (i := 14) rfl))) (by decide) (t := .int) (t' := .int) (by decide) (by decide)))
                exact Or.inr ⟨3, 144, 143, (own_beg3 (by omega) (if_pos (by omega)) (if_pos (by omega))), rfl, N73, K75, u77, u78, Fw73⟩
              · have hd69 := own_neq32 hc69
                rw [show (244 : Int32).toInt = 244 from rfl] at hd69
                refine own_st (B := T66.setTop (mkF m 137 #[.val (.ref a), .val (.int x)] [(.ref a)])) (fun t_ k_ => XS.icmpYes X66.here hx rfl (pc0 := 128) (pc' := 137) rfl (hb hby own_b8_d128) rfl (feq hc69).2 (by decide) (by decide) k_) ?_
                refine own_st (B := T66.setTop (mkF m 140 #[.val (.ref a), .val (.int x)] [(.int (191 : Int32)), (.ref a)])) (fun t_ k_ => XS.sipush X66.here hx rfl (hb hby own_b8_d137) k_) ?_
                have u79 := u64.wr W66
                have u80 := F2.other W60 (Or.inr (slot_ne (Or.inl (hw _ (List.mem_of_getElem? (i := 14) rfl))) (Or.inl (hw _ (List.mem_of_getElem? (i := 26) rfl))) (by decide) (t := .int) (t' := .int) (by decide) (by decide)))
                have u81 := u80.other W66 (Or.inr (slot_ne (Or.inl (hw _ (List.mem_of_getElem? (i := 14) rfl))) (Or.inl (hw _ (List.mem_of_getElem? (i := 12) rfl))) (by decide) (t := .int) (t' := .int) (by decide) (by decide)))
                obtain ⟨T82, h82, X82, e82, W82, st82⟩ := putF X66 hx hZ hown (host := "") (Or.inl (hw _ (List.mem_of_getElem? (i := 13) rfl))) Via.refl e66 u81 u79 (Or.inl (hw _ (List.mem_of_getElem? (i := 14) rfl))) (hw _ (List.mem_of_getElem? (i := 3) rfl)) (ty := .int) (by decide) rfl rfl (g := (mkF m 140 #[.val (.ref a), .val (.int x)] [(.int (191 : Int32)), (.ref a)])) rfl rfl (hb hby own_b8_d140)
                have Fw82 := u81.same W82
                have N82 := Fr.snoc X82 N66 ga
                have Z83 := Nat.le_trans Z67 (Keep.of_wr W82).1
                have K84 := K68.wr W82 (Or.inl (List.mem_of_getElem? (i := 0) rfl))
                refine own_st (B := T82.setTop (mkF m 143 #[.val (.ref a), .val (.int x)] [])) st82 ?_
                refine own_st (B := T82.setTop (mkF m 148 #[.val (.ref a), .val (.int x)] [])) (fun t_ k_ => XS.goto X82.here hx rfl (pc0 := 143) (pc' := 148) rfl (hb hby own_b8_d143) (by decide) (by decide) k_) ?_
                refine own_st (B := T82.setTop (mkF m 149 #[.val (.ref a), .val (.int x)] [(.int (1 : Int32))])) (fun t_ k_ => XS.iconst X82.here hx rfl (hb hby own_b8_d148) k_) ?_
                refine own_retN X82 hx (t := .boolean) Bd.returns (by simp) hlk (hb hby own_b8_d149) (z' := (1 : Int32)) (by first | rfl | exact own_nb _) (by decide) (by decide) ?_
                show Q8 Z a x k y h0 n0 _ T82.heap _
                rw [e82]
                have u85 := Fw60.other W66 (Or.inr (slot_ne (Or.inl (hw _ (List.mem_of_getElem? (i := 26) rfl))) (Or.inl (hw _ (List.mem_of_getElem? (i := 12) rfl))) (by decide) (t := .int) (t' := .int) (by decide) (by decide)))
                have u86 := u85.other W82 (Or.inr (slot_ne (Or.inl (hw _ (List.mem_of_getElem? (i := 26) rfl))) (Or.inl (hw _ (List.mem_of_getElem? (i := 14) rfl))) (by decide) (t := .int) (t' := .int) (by decide) (by decide)))
                have u87 := Fw66.other W82 (Or.inr (slot_ne (Or.inl (hw _ (List.mem_of_getElem? (i := 12) rfl))) (Or.inl (hw _ (List.mem_of_getElem? (i := 14) rfl))) (by decide) (t := .int) (t' := .int) (by decide) (by decide)))
                exact Or.inr ⟨3, 144, 191, (own_beg3 (by omega) (if_pos (by omega)) (if_neg (by omega))), rfl, N82, K84, u86, u87, Fw82⟩
            · have hd63 := own_neq32 hc63
              rw [show (240 : Int32).toInt = 240 from rfl] at hd63
              refine own_st (B := T60.setTop (mkF m 117 #[.val (.ref a), .val (.int x)] [(.ref a)])) (fun t_ k_ => XS.icmpYes X60.here hx rfl (pc0 := 108) (pc' := 117) rfl (hb hby own_b8_d108) rfl (feq hc63).2 (by decide) (by decide) k_) ?_
              refine own_st (B := T60.setTop (mkF m 120 #[.val (.ref a), .val (.int x)] [(.int (128 : Int32)), (.ref a)])) (fun t_ k_ => XS.sipush X60.here hx rfl (hb hby own_b8_d117) k_) ?_
              have u88 := E.wr W60
              have u89 := F1.other W60 (Or.inr (slot_ne (Or.inl (hw _ (List.mem_of_getElem? (i := 12) rfl))) (Or.inl (hw _ (List.mem_of_getElem? (i := 26) rfl))) (by decide) (t := .int) (t' := .int) (by decide) (by decide)))
              obtain ⟨T90, h90, X90, e90, W90, st90⟩ := putF X60 hx hZ hown (host := "") (Or.inl (hw _ (List.mem_of_getElem? (i := 11) rfl))) Via.refl e60 u89 u88 (Or.inl (hw _ (List.mem_of_getElem? (i := 12) rfl))) (hw _ (List.mem_of_getElem? (i := 3) rfl)) (ty := .int) (by decide) rfl rfl (g := (mkF m 120 #[.val (.ref a), .val (.int x)] [(.int (128 : Int32)), (.ref a)])) rfl rfl (hb hby own_b8_d120)
              have Fw90 := u89.same W90
              have N90 := Fr.snoc X90 N60 ga
              have Z91 := Nat.le_trans Z61 (Keep.of_wr W90).1
              have K92 := K62.wr W90 (Or.inl (List.mem_of_getElem? (i := 0) rfl))
              refine own_st (B := T90.setTop (mkF m 123 #[.val (.ref a), .val (.int x)] [])) st90 ?_
              refine own_st (B := T90.setTop (mkF m 124 #[.val (.ref a), .val (.int x)] [(.ref a)])) (fun t_ k_ => XS.aloadN X90.here hx rfl (hb hby own_b8_d123) rfl rfl k_) ?_
              refine own_st (B := T90.setTop (mkF m 125 #[.val (.ref a), .val (.int x)] [(.int x), (.ref a)])) (fun t_ k_ => XS.iloadN X90.here hx rfl (hb hby own_b8_d124) rfl k_) ?_
              refine own_st (B := T90.setTop (mkF m 128 #[.val (.ref a), .val (.int x)] [(.int (244 : Int32)), (.int x), (.ref a)])) (fun t_ k_ => XS.sipush X90.here hx rfl (hb hby own_b8_d125) k_) ?_
              by_cases hc93 : x = (244 : Int32)
              · have hd93 := own_eq32 hc93
                rw [show (244 : Int32).toInt = 244 from rfl] at hd93
                refine own_st (B := T90.setTop (mkF m 131 #[.val (.ref a), .val (.int x)] [(.ref a)])) (fun t_ k_ => XS.icmpNo X90.here hx rfl (hb hby own_b8_d128) rfl (teq hc93).2 k_) ?_
                refine own_st (B := T90.setTop (mkF m 134 #[.val (.ref a), .val (.int x)] [(.int (143 : Int32)), (.ref a)])) (fun t_ k_ => XS.sipush X90.here hx rfl (hb hby own_b8_d131) k_) ?_
                refine own_st (B := T90.setTop (mkF m 140 #[.val (.ref a), .val (.int x)] [(.int (143 : Int32)), (.ref a)])) (fun t_ k_ => XS.goto X90.here hx rfl (pc0 := 134) (pc' := 140) rfl (hb hby own_b8_d134) (by decide) (by decide) k_) ?_
                have u94 := u88.wr W90
                have u95 := F2.other W60 (Or.inr (slot_ne (Or.inl (hw _ (List.mem_of_getElem? (i := 14) rfl))) (Or.inl (hw _ (List.mem_of_getElem? (i := 26) rfl))) (by decide) (t := .int) (t' := .int) (by decide) (by decide)))
                have u96 := u95.other W90 (Or.inr (slot_ne (Or.inl (hw _ (List.mem_of_getElem? (i := 14) rfl))) (Or.inl (hw _ (List.mem_of_getElem? (i := 12) rfl))) (by decide) (t := .int) (t' := .int) (by decide) (by decide)))
                obtain ⟨T97, h97, X97, e97, W97, st97⟩ := putF X90 hx hZ hown (host := "") (Or.inl (hw _ (List.mem_of_getElem? (i := 13) rfl))) Via.refl e90 u96 u94 (Or.inl (hw _ (List.mem_of_getElem? (i := 14) rfl))) (hw _ (List.mem_of_getElem? (i := 3) rfl)) (ty := .int) (by decide) rfl rfl (g := (mkF m 140 #[.val (.ref a), .val (.int x)] [(.int (143 : Int32)), (.ref a)])) rfl rfl (hb hby own_b8_d140)
                have Fw97 := u96.same W97
                have N97 := Fr.snoc X97 N90 ga
                have Z98 := Nat.le_trans Z91 (Keep.of_wr W97).1
                have K99 := K92.wr W97 (Or.inl (List.mem_of_getElem? (i := 0) rfl))
                refine own_st (B := T97.setTop (mkF m 143 #[.val (.ref a), .val (.int x)] [])) st97 ?_
                refine own_st (B := T97.setTop (mkF m 148 #[.val (.ref a), .val (.int x)] [])) (fun t_ k_ => XS.goto X97.here hx rfl (pc0 := 143) (pc' := 148) rfl (hb hby own_b8_d143) (by decide) (by decide) k_) ?_
                refine own_st (B := T97.setTop (mkF m 149 #[.val (.ref a), .val (.int x)] [(.int (1 : Int32))])) (fun t_ k_ => XS.iconst X97.here hx rfl (hb hby own_b8_d148) k_) ?_
                refine own_retN X97 hx (t := .boolean) Bd.returns (by simp) hlk (hb hby own_b8_d149) (z' := (1 : Int32)) (by first | rfl | exact own_nb _) (by decide) (by decide) ?_
                show Q8 Z a x k y h0 n0 _ T97.heap _
                rw [e97]
                have u100 := Fw60.other W90 (Or.inr (slot_ne (Or.inl (hw _ (List.mem_of_getElem? (i := 26) rfl))) (Or.inl (hw _ (List.mem_of_getElem? (i := 12) rfl))) (by decide) (t := .int) (t' := .int) (by decide) (by decide)))
                have u101 := u100.other W97 (Or.inr (slot_ne (Or.inl (hw _ (List.mem_of_getElem? (i := 26) rfl))) (Or.inl (hw _ (List.mem_of_getElem? (i := 14) rfl))) (by decide) (t := .int) (t' := .int) (by decide) (by decide)))
                have u102 := Fw90.other W97 (Or.inr (slot_ne (Or.inl (hw _ (List.mem_of_getElem? (i := 12) rfl))) (Or.inl (hw _ (List.mem_of_getElem? (i := 14) rfl))) (by decide) (t := .int) (t' := .int) (by decide) (by decide)))
                exact Or.inr ⟨3, 128, 143, (own_beg3 (by omega) (if_neg (by omega)) (if_pos (by omega))), rfl, N97, K99, u101, u102, Fw97⟩
              · have hd93 := own_neq32 hc93
                rw [show (244 : Int32).toInt = 244 from rfl] at hd93
                refine own_st (B := T90.setTop (mkF m 137 #[.val (.ref a), .val (.int x)] [(.ref a)])) (fun t_ k_ => XS.icmpYes X90.here hx rfl (pc0 := 128) (pc' := 137) rfl (hb hby own_b8_d128) rfl (feq hc93).2 (by decide) (by decide) k_) ?_
                refine own_st (B := T90.setTop (mkF m 140 #[.val (.ref a), .val (.int x)] [(.int (191 : Int32)), (.ref a)])) (fun t_ k_ => XS.sipush X90.here hx rfl (hb hby own_b8_d137) k_) ?_
                have u103 := u88.wr W90
                have u104 := F2.other W60 (Or.inr (slot_ne (Or.inl (hw _ (List.mem_of_getElem? (i := 14) rfl))) (Or.inl (hw _ (List.mem_of_getElem? (i := 26) rfl))) (by decide) (t := .int) (t' := .int) (by decide) (by decide)))
                have u105 := u104.other W90 (Or.inr (slot_ne (Or.inl (hw _ (List.mem_of_getElem? (i := 14) rfl))) (Or.inl (hw _ (List.mem_of_getElem? (i := 12) rfl))) (by decide) (t := .int) (t' := .int) (by decide) (by decide)))
                obtain ⟨T106, h106, X106, e106, W106, st106⟩ := putF X90 hx hZ hown (host := "") (Or.inl (hw _ (List.mem_of_getElem? (i := 13) rfl))) Via.refl e90 u105 u103 (Or.inl (hw _ (List.mem_of_getElem? (i := 14) rfl))) (hw _ (List.mem_of_getElem? (i := 3) rfl)) (ty := .int) (by decide) rfl rfl (g := (mkF m 140 #[.val (.ref a), .val (.int x)] [(.int (191 : Int32)), (.ref a)])) rfl rfl (hb hby own_b8_d140)
                have Fw106 := u105.same W106
                have N106 := Fr.snoc X106 N90 ga
                have Z107 := Nat.le_trans Z91 (Keep.of_wr W106).1
                have K108 := K92.wr W106 (Or.inl (List.mem_of_getElem? (i := 0) rfl))
                refine own_st (B := T106.setTop (mkF m 143 #[.val (.ref a), .val (.int x)] [])) st106 ?_
                refine own_st (B := T106.setTop (mkF m 148 #[.val (.ref a), .val (.int x)] [])) (fun t_ k_ => XS.goto X106.here hx rfl (pc0 := 143) (pc' := 148) rfl (hb hby own_b8_d143) (by decide) (by decide) k_) ?_
                refine own_st (B := T106.setTop (mkF m 149 #[.val (.ref a), .val (.int x)] [(.int (1 : Int32))])) (fun t_ k_ => XS.iconst X106.here hx rfl (hb hby own_b8_d148) k_) ?_
                refine own_retN X106 hx (t := .boolean) Bd.returns (by simp) hlk (hb hby own_b8_d149) (z' := (1 : Int32)) (by first | rfl | exact own_nb _) (by decide) (by decide) ?_
                show Q8 Z a x k y h0 n0 _ T106.heap _
                rw [e106]
                have u109 := Fw60.other W90 (Or.inr (slot_ne (Or.inl (hw _ (List.mem_of_getElem? (i := 26) rfl))) (Or.inl (hw _ (List.mem_of_getElem? (i := 12) rfl))) (by decide) (t := .int) (t' := .int) (by decide) (by decide)))
                have u110 := u109.other W106 (Or.inr (slot_ne (Or.inl (hw _ (List.mem_of_getElem? (i := 26) rfl))) (Or.inl (hw _ (List.mem_of_getElem? (i := 14) rfl))) (by decide) (t := .int) (t' := .int) (by decide) (by decide)))
                have u111 := Fw90.other W106 (Or.inr (slot_ne (Or.inl (hw _ (List.mem_of_getElem? (i := 12) rfl))) (Or.inl (hw _ (List.mem_of_getElem? (i := 14) rfl))) (by decide) (t := .int) (t' := .int) (by decide) (by decide)))
                exact Or.inr ⟨3, 128, 191, (own_beg3 (by omega) (if_neg (by omega)) (if_neg (by omega))), rfl, N106, K108, u110, u111, Fw106⟩
      · have hd57 := own_nlt32 hc57
        rw [show (239 : Int32).toInt = 239 from rfl] at hd57
        refine own_st (B := s₁.setTop (mkF m 36 #[.val (.ref a), .val (.int x)] [])) (fun t_ k_ => XS.icmpNo X0.here hx rfl (hb hby own_b8_d33) rfl (flt hc57).2.2.1 k_) ?_
        refine own_st (B := s₁.setTop (mkF m 37 #[.val (.ref a), .val (.int x)] [(.ref a)])) (fun t_ k_ => XS.aloadN X0.here hx rfl (hb hby own_b8_d36) rfl rfl k_) ?_
        refine own_st (B := s₁.setTop (mkF m 38 #[.val (.ref a), .val (.int x)] [(.int (2 : Int32)), (.ref a)])) (fun t_ k_ => XS.iconst X0.here hx rfl (hb hby own_b8_d37) k_) ?_
        obtain ⟨T112, h112, X112, e112, W112, st112⟩ := putF X0 hx hZ hown (host := "") (Or.inl (hw _ (List.mem_of_getElem? (i := 25) rfl))) Via.refl e0 F0 E (Or.inl (hw _ (List.mem_of_getElem? (i := 26) rfl))) (hw _ (List.mem_of_getElem? (i := 3) rfl)) (ty := .int) (by decide) rfl rfl (g := (mkF m 38 #[.val (.ref a), .val (.int x)] [(.int (2 : Int32)), (.ref a)])) rfl rfl (hb hby own_b8_d38)
        have Fw112 := F0.same W112
        have N112 := Fr.snoc X112 N0 ga
        have Z113 := Nat.le_trans Z0 (Keep.of_wr W112).1
        have K114 := K0.wr W112 (Or.inl (List.mem_of_getElem? (i := 0) rfl))
        refine own_st (B := T112.setTop (mkF m 41 #[.val (.ref a), .val (.int x)] [])) st112 ?_
        refine own_st (B := T112.setTop (mkF m 42 #[.val (.ref a), .val (.int x)] [(.ref a)])) (fun t_ k_ => XS.aloadN X112.here hx rfl (hb hby own_b8_d41) rfl rfl k_) ?_
        refine own_st (B := T112.setTop (mkF m 43 #[.val (.ref a), .val (.int x)] [(.int x), (.ref a)])) (fun t_ k_ => XS.iloadN X112.here hx rfl (hb hby own_b8_d42) rfl k_) ?_
        refine own_st (B := T112.setTop (mkF m 46 #[.val (.ref a), .val (.int x)] [(.int (224 : Int32)), (.int x), (.ref a)])) (fun t_ k_ => XS.sipush X112.here hx rfl (hb hby own_b8_d43) k_) ?_
        by_cases hc115 : x = (224 : Int32)
        · have hd115 := own_eq32 hc115
          rw [show (224 : Int32).toInt = 224 from rfl] at hd115
          refine own_st (B := T112.setTop (mkF m 49 #[.val (.ref a), .val (.int x)] [(.ref a)])) (fun t_ k_ => XS.icmpNo X112.here hx rfl (hb hby own_b8_d46) rfl (teq hc115).2 k_) ?_
          refine own_st (B := T112.setTop (mkF m 52 #[.val (.ref a), .val (.int x)] [(.int (160 : Int32)), (.ref a)])) (fun t_ k_ => XS.sipush X112.here hx rfl (hb hby own_b8_d49) k_) ?_
          refine own_st (B := T112.setTop (mkF m 58 #[.val (.ref a), .val (.int x)] [(.int (160 : Int32)), (.ref a)])) (fun t_ k_ => XS.goto X112.here hx rfl (pc0 := 52) (pc' := 58) rfl (hb hby own_b8_d52) (by decide) (by decide) k_) ?_
          have u116 := E.wr W112
          have u117 := F1.other W112 (Or.inr (slot_ne (Or.inl (hw _ (List.mem_of_getElem? (i := 12) rfl))) (Or.inl (hw _ (List.mem_of_getElem? (i := 26) rfl))) (by decide) (t := .int) (t' := .int) (by decide) (by decide)))
          obtain ⟨T118, h118, X118, e118, W118, st118⟩ := putF X112 hx hZ hown (host := "") (Or.inl (hw _ (List.mem_of_getElem? (i := 11) rfl))) Via.refl e112 u117 u116 (Or.inl (hw _ (List.mem_of_getElem? (i := 12) rfl))) (hw _ (List.mem_of_getElem? (i := 3) rfl)) (ty := .int) (by decide) rfl rfl (g := (mkF m 58 #[.val (.ref a), .val (.int x)] [(.int (160 : Int32)), (.ref a)])) rfl rfl (hb hby own_b8_d58)
          have Fw118 := u117.same W118
          have N118 := Fr.snoc X118 N112 ga
          have Z119 := Nat.le_trans Z113 (Keep.of_wr W118).1
          have K120 := K114.wr W118 (Or.inl (List.mem_of_getElem? (i := 0) rfl))
          refine own_st (B := T118.setTop (mkF m 61 #[.val (.ref a), .val (.int x)] [])) st118 ?_
          refine own_st (B := T118.setTop (mkF m 62 #[.val (.ref a), .val (.int x)] [(.ref a)])) (fun t_ k_ => XS.aloadN X118.here hx rfl (hb hby own_b8_d61) rfl rfl k_) ?_
          refine own_st (B := T118.setTop (mkF m 63 #[.val (.ref a), .val (.int x)] [(.int x), (.ref a)])) (fun t_ k_ => XS.iloadN X118.here hx rfl (hb hby own_b8_d62) rfl k_) ?_
          refine own_st (B := T118.setTop (mkF m 66 #[.val (.ref a), .val (.int x)] [(.int (237 : Int32)), (.int x), (.ref a)])) (fun t_ k_ => XS.sipush X118.here hx rfl (hb hby own_b8_d63) k_) ?_
          by_cases hc121 : x = (237 : Int32)
          · have hd121 := own_eq32 hc121
            rw [show (237 : Int32).toInt = 237 from rfl] at hd121
            refine own_st (B := T118.setTop (mkF m 69 #[.val (.ref a), .val (.int x)] [(.ref a)])) (fun t_ k_ => XS.icmpNo X118.here hx rfl (hb hby own_b8_d66) rfl (teq hc121).2 k_) ?_
            refine own_st (B := T118.setTop (mkF m 72 #[.val (.ref a), .val (.int x)] [(.int (159 : Int32)), (.ref a)])) (fun t_ k_ => XS.sipush X118.here hx rfl (hb hby own_b8_d69) k_) ?_
            refine own_st (B := T118.setTop (mkF m 78 #[.val (.ref a), .val (.int x)] [(.int (159 : Int32)), (.ref a)])) (fun t_ k_ => XS.goto X118.here hx rfl (pc0 := 72) (pc' := 78) rfl (hb hby own_b8_d72) (by decide) (by decide) k_) ?_
            have u122 := u116.wr W118
            have u123 := F2.other W112 (Or.inr (slot_ne (Or.inl (hw _ (List.mem_of_getElem? (i := 14) rfl))) (Or.inl (hw _ (List.mem_of_getElem? (i := 26) rfl))) (by decide) (t := .int) (t' := .int) (by decide) (by decide)))
            have u124 := u123.other W118 (Or.inr (slot_ne (Or.inl (hw _ (List.mem_of_getElem? (i := 14) rfl))) (Or.inl (hw _ (List.mem_of_getElem? (i := 12) rfl))) (by decide) (t := .int) (t' := .int) (by decide) (by decide)))
            obtain ⟨T125, h125, X125, e125, W125, st125⟩ := putF X118 hx hZ hown (host := "") (Or.inl (hw _ (List.mem_of_getElem? (i := 13) rfl))) Via.refl e118 u124 u122 (Or.inl (hw _ (List.mem_of_getElem? (i := 14) rfl))) (hw _ (List.mem_of_getElem? (i := 3) rfl)) (ty := .int) (by decide) rfl rfl (g := (mkF m 78 #[.val (.ref a), .val (.int x)] [(.int (159 : Int32)), (.ref a)])) rfl rfl (hb hby own_b8_d78)
            have Fw125 := u124.same W125
            have N125 := Fr.snoc X125 N118 ga
            have Z126 := Nat.le_trans Z119 (Keep.of_wr W125).1
            have K127 := K120.wr W125 (Or.inl (List.mem_of_getElem? (i := 0) rfl))
            refine own_st (B := T125.setTop (mkF m 81 #[.val (.ref a), .val (.int x)] [])) st125 ?_
            refine own_st (B := T125.setTop (mkF m 148 #[.val (.ref a), .val (.int x)] [])) (fun t_ k_ => XS.goto X125.here hx rfl (pc0 := 81) (pc' := 148) rfl (hb hby own_b8_d81) (by decide) (by decide) k_) ?_
            refine own_st (B := T125.setTop (mkF m 149 #[.val (.ref a), .val (.int x)] [(.int (1 : Int32))])) (fun t_ k_ => XS.iconst X125.here hx rfl (hb hby own_b8_d148) k_) ?_
            refine own_retN X125 hx (t := .boolean) Bd.returns (by simp) hlk (hb hby own_b8_d149) (z' := (1 : Int32)) (by first | rfl | exact own_nb _) (by decide) (by decide) ?_
            show Q8 Z a x k y h0 n0 _ T125.heap _
            rw [e125]
            have u128 := Fw112.other W118 (Or.inr (slot_ne (Or.inl (hw _ (List.mem_of_getElem? (i := 26) rfl))) (Or.inl (hw _ (List.mem_of_getElem? (i := 12) rfl))) (by decide) (t := .int) (t' := .int) (by decide) (by decide)))
            have u129 := u128.other W125 (Or.inr (slot_ne (Or.inl (hw _ (List.mem_of_getElem? (i := 26) rfl))) (Or.inl (hw _ (List.mem_of_getElem? (i := 14) rfl))) (by decide) (t := .int) (t' := .int) (by decide) (by decide)))
            have u130 := Fw118.other W125 (Or.inr (slot_ne (Or.inl (hw _ (List.mem_of_getElem? (i := 12) rfl))) (Or.inl (hw _ (List.mem_of_getElem? (i := 14) rfl))) (by decide) (t := .int) (t' := .int) (by decide) (by decide)))
            exact Or.inr ⟨2, 160, 159, (own_beg2 (by omega) (if_pos (by omega)) (if_pos (by omega))), rfl, N125, K127, u129, u130, Fw125⟩
          · have hd121 := own_neq32 hc121
            rw [show (237 : Int32).toInt = 237 from rfl] at hd121
            refine own_st (B := T118.setTop (mkF m 75 #[.val (.ref a), .val (.int x)] [(.ref a)])) (fun t_ k_ => XS.icmpYes X118.here hx rfl (pc0 := 66) (pc' := 75) rfl (hb hby own_b8_d66) rfl (feq hc121).2 (by decide) (by decide) k_) ?_
            refine own_st (B := T118.setTop (mkF m 78 #[.val (.ref a), .val (.int x)] [(.int (191 : Int32)), (.ref a)])) (fun t_ k_ => XS.sipush X118.here hx rfl (hb hby own_b8_d75) k_) ?_
            have u131 := u116.wr W118
            have u132 := F2.other W112 (Or.inr (slot_ne (Or.inl (hw _ (List.mem_of_getElem? (i := 14) rfl))) (Or.inl (hw _ (List.mem_of_getElem? (i := 26) rfl))) (by decide) (t := .int) (t' := .int) (by decide) (by decide)))
            have u133 := u132.other W118 (Or.inr (slot_ne (Or.inl (hw _ (List.mem_of_getElem? (i := 14) rfl))) (Or.inl (hw _ (List.mem_of_getElem? (i := 12) rfl))) (by decide) (t := .int) (t' := .int) (by decide) (by decide)))
            obtain ⟨T134, h134, X134, e134, W134, st134⟩ := putF X118 hx hZ hown (host := "") (Or.inl (hw _ (List.mem_of_getElem? (i := 13) rfl))) Via.refl e118 u133 u131 (Or.inl (hw _ (List.mem_of_getElem? (i := 14) rfl))) (hw _ (List.mem_of_getElem? (i := 3) rfl)) (ty := .int) (by decide) rfl rfl (g := (mkF m 78 #[.val (.ref a), .val (.int x)] [(.int (191 : Int32)), (.ref a)])) rfl rfl (hb hby own_b8_d78)
            have Fw134 := u133.same W134
            have N134 := Fr.snoc X134 N118 ga
            have Z135 := Nat.le_trans Z119 (Keep.of_wr W134).1
            have K136 := K120.wr W134 (Or.inl (List.mem_of_getElem? (i := 0) rfl))
            refine own_st (B := T134.setTop (mkF m 81 #[.val (.ref a), .val (.int x)] [])) st134 ?_
            refine own_st (B := T134.setTop (mkF m 148 #[.val (.ref a), .val (.int x)] [])) (fun t_ k_ => XS.goto X134.here hx rfl (pc0 := 81) (pc' := 148) rfl (hb hby own_b8_d81) (by decide) (by decide) k_) ?_
            refine own_st (B := T134.setTop (mkF m 149 #[.val (.ref a), .val (.int x)] [(.int (1 : Int32))])) (fun t_ k_ => XS.iconst X134.here hx rfl (hb hby own_b8_d148) k_) ?_
            refine own_retN X134 hx (t := .boolean) Bd.returns (by simp) hlk (hb hby own_b8_d149) (z' := (1 : Int32)) (by first | rfl | exact own_nb _) (by decide) (by decide) ?_
            show Q8 Z a x k y h0 n0 _ T134.heap _
            rw [e134]
            have u137 := Fw112.other W118 (Or.inr (slot_ne (Or.inl (hw _ (List.mem_of_getElem? (i := 26) rfl))) (Or.inl (hw _ (List.mem_of_getElem? (i := 12) rfl))) (by decide) (t := .int) (t' := .int) (by decide) (by decide)))
            have u138 := u137.other W134 (Or.inr (slot_ne (Or.inl (hw _ (List.mem_of_getElem? (i := 26) rfl))) (Or.inl (hw _ (List.mem_of_getElem? (i := 14) rfl))) (by decide) (t := .int) (t' := .int) (by decide) (by decide)))
            have u139 := Fw118.other W134 (Or.inr (slot_ne (Or.inl (hw _ (List.mem_of_getElem? (i := 12) rfl))) (Or.inl (hw _ (List.mem_of_getElem? (i := 14) rfl))) (by decide) (t := .int) (t' := .int) (by decide) (by decide)))
            exact Or.inr ⟨2, 160, 191, (own_beg2 (by omega) (if_pos (by omega)) (if_neg (by omega))), rfl, N134, K136, u138, u139, Fw134⟩
        · have hd115 := own_neq32 hc115
          rw [show (224 : Int32).toInt = 224 from rfl] at hd115
          refine own_st (B := T112.setTop (mkF m 55 #[.val (.ref a), .val (.int x)] [(.ref a)])) (fun t_ k_ => XS.icmpYes X112.here hx rfl (pc0 := 46) (pc' := 55) rfl (hb hby own_b8_d46) rfl (feq hc115).2 (by decide) (by decide) k_) ?_
          refine own_st (B := T112.setTop (mkF m 58 #[.val (.ref a), .val (.int x)] [(.int (128 : Int32)), (.ref a)])) (fun t_ k_ => XS.sipush X112.here hx rfl (hb hby own_b8_d55) k_) ?_
          have u140 := E.wr W112
          have u141 := F1.other W112 (Or.inr (slot_ne (Or.inl (hw _ (List.mem_of_getElem? (i := 12) rfl))) (Or.inl (hw _ (List.mem_of_getElem? (i := 26) rfl))) (by decide) (t := .int) (t' := .int) (by decide) (by decide)))
          obtain ⟨T142, h142, X142, e142, W142, st142⟩ := putF X112 hx hZ hown (host := "") (Or.inl (hw _ (List.mem_of_getElem? (i := 11) rfl))) Via.refl e112 u141 u140 (Or.inl (hw _ (List.mem_of_getElem? (i := 12) rfl))) (hw _ (List.mem_of_getElem? (i := 3) rfl)) (ty := .int) (by decide) rfl rfl (g := (mkF m 58 #[.val (.ref a), .val (.int x)] [(.int (128 : Int32)), (.ref a)])) rfl rfl (hb hby own_b8_d58)
          have Fw142 := u141.same W142
          have N142 := Fr.snoc X142 N112 ga
          have Z143 := Nat.le_trans Z113 (Keep.of_wr W142).1
          have K144 := K114.wr W142 (Or.inl (List.mem_of_getElem? (i := 0) rfl))
          refine own_st (B := T142.setTop (mkF m 61 #[.val (.ref a), .val (.int x)] [])) st142 ?_
          refine own_st (B := T142.setTop (mkF m 62 #[.val (.ref a), .val (.int x)] [(.ref a)])) (fun t_ k_ => XS.aloadN X142.here hx rfl (hb hby own_b8_d61) rfl rfl k_) ?_
          refine own_st (B := T142.setTop (mkF m 63 #[.val (.ref a), .val (.int x)] [(.int x), (.ref a)])) (fun t_ k_ => XS.iloadN X142.here hx rfl (hb hby own_b8_d62) rfl k_) ?_
          refine own_st (B := T142.setTop (mkF m 66 #[.val (.ref a), .val (.int x)] [(.int (237 : Int32)), (.int x), (.ref a)])) (fun t_ k_ => XS.sipush X142.here hx rfl (hb hby own_b8_d63) k_) ?_
          by_cases hc145 : x = (237 : Int32)
          · have hd145 := own_eq32 hc145
            rw [show (237 : Int32).toInt = 237 from rfl] at hd145
            refine own_st (B := T142.setTop (mkF m 69 #[.val (.ref a), .val (.int x)] [(.ref a)])) (fun t_ k_ => XS.icmpNo X142.here hx rfl (hb hby own_b8_d66) rfl (teq hc145).2 k_) ?_
            refine own_st (B := T142.setTop (mkF m 72 #[.val (.ref a), .val (.int x)] [(.int (159 : Int32)), (.ref a)])) (fun t_ k_ => XS.sipush X142.here hx rfl (hb hby own_b8_d69) k_) ?_
            refine own_st (B := T142.setTop (mkF m 78 #[.val (.ref a), .val (.int x)] [(.int (159 : Int32)), (.ref a)])) (fun t_ k_ => XS.goto X142.here hx rfl (pc0 := 72) (pc' := 78) rfl (hb hby own_b8_d72) (by decide) (by decide) k_) ?_
            have u146 := u140.wr W142
            have u147 := F2.other W112 (Or.inr (slot_ne (Or.inl (hw _ (List.mem_of_getElem? (i := 14) rfl))) (Or.inl (hw _ (List.mem_of_getElem? (i := 26) rfl))) (by decide) (t := .int) (t' := .int) (by decide) (by decide)))
            have u148 := u147.other W142 (Or.inr (slot_ne (Or.inl (hw _ (List.mem_of_getElem? (i := 14) rfl))) (Or.inl (hw _ (List.mem_of_getElem? (i := 12) rfl))) (by decide) (t := .int) (t' := .int) (by decide) (by decide)))
            obtain ⟨T149, h149, X149, e149, W149, st149⟩ := putF X142 hx hZ hown (host := "") (Or.inl (hw _ (List.mem_of_getElem? (i := 13) rfl))) Via.refl e142 u148 u146 (Or.inl (hw _ (List.mem_of_getElem? (i := 14) rfl))) (hw _ (List.mem_of_getElem? (i := 3) rfl)) (ty := .int) (by decide) rfl rfl (g := (mkF m 78 #[.val (.ref a), .val (.int x)] [(.int (159 : Int32)), (.ref a)])) rfl rfl (hb hby own_b8_d78)
            have Fw149 := u148.same W149
            have N149 := Fr.snoc X149 N142 ga
            have Z150 := Nat.le_trans Z143 (Keep.of_wr W149).1
            have K151 := K144.wr W149 (Or.inl (List.mem_of_getElem? (i := 0) rfl))
            refine own_st (B := T149.setTop (mkF m 81 #[.val (.ref a), .val (.int x)] [])) st149 ?_
            refine own_st (B := T149.setTop (mkF m 148 #[.val (.ref a), .val (.int x)] [])) (fun t_ k_ => XS.goto X149.here hx rfl (pc0 := 81) (pc' := 148) rfl (hb hby own_b8_d81) (by decide) (by decide) k_) ?_
            refine own_st (B := T149.setTop (mkF m 149 #[.val (.ref a), .val (.int x)] [(.int (1 : Int32))])) (fun t_ k_ => XS.iconst X149.here hx rfl (hb hby own_b8_d148) k_) ?_
            refine own_retN X149 hx (t := .boolean) Bd.returns (by simp) hlk (hb hby own_b8_d149) (z' := (1 : Int32)) (by first | rfl | exact own_nb _) (by decide) (by decide) ?_
            show Q8 Z a x k y h0 n0 _ T149.heap _
            rw [e149]
            have u152 := Fw112.other W142 (Or.inr (slot_ne (Or.inl (hw _ (List.mem_of_getElem? (i := 26) rfl))) (Or.inl (hw _ (List.mem_of_getElem? (i := 12) rfl))) (by decide) (t := .int) (t' := .int) (by decide) (by decide)))
            have u153 := u152.other W149 (Or.inr (slot_ne (Or.inl (hw _ (List.mem_of_getElem? (i := 26) rfl))) (Or.inl (hw _ (List.mem_of_getElem? (i := 14) rfl))) (by decide) (t := .int) (t' := .int) (by decide) (by decide)))
            have u154 := Fw142.other W149 (Or.inr (slot_ne (Or.inl (hw _ (List.mem_of_getElem? (i := 12) rfl))) (Or.inl (hw _ (List.mem_of_getElem? (i := 14) rfl))) (by decide) (t := .int) (t' := .int) (by decide) (by decide)))
            exact Or.inr ⟨2, 128, 159, (own_beg2 (by omega) (if_neg (by omega)) (if_pos (by omega))), rfl, N149, K151, u153, u154, Fw149⟩
          · have hd145 := own_neq32 hc145
            rw [show (237 : Int32).toInt = 237 from rfl] at hd145
            refine own_st (B := T142.setTop (mkF m 75 #[.val (.ref a), .val (.int x)] [(.ref a)])) (fun t_ k_ => XS.icmpYes X142.here hx rfl (pc0 := 66) (pc' := 75) rfl (hb hby own_b8_d66) rfl (feq hc145).2 (by decide) (by decide) k_) ?_
            refine own_st (B := T142.setTop (mkF m 78 #[.val (.ref a), .val (.int x)] [(.int (191 : Int32)), (.ref a)])) (fun t_ k_ => XS.sipush X142.here hx rfl (hb hby own_b8_d75) k_) ?_
            have u155 := u140.wr W142
            have u156 := F2.other W112 (Or.inr (slot_ne (Or.inl (hw _ (List.mem_of_getElem? (i := 14) rfl))) (Or.inl (hw _ (List.mem_of_getElem? (i := 26) rfl))) (by decide) (t := .int) (t' := .int) (by decide) (by decide)))
            have u157 := u156.other W142 (Or.inr (slot_ne (Or.inl (hw _ (List.mem_of_getElem? (i := 14) rfl))) (Or.inl (hw _ (List.mem_of_getElem? (i := 12) rfl))) (by decide) (t := .int) (t' := .int) (by decide) (by decide)))
            obtain ⟨T158, h158, X158, e158, W158, st158⟩ := putF X142 hx hZ hown (host := "") (Or.inl (hw _ (List.mem_of_getElem? (i := 13) rfl))) Via.refl e142 u157 u155 (Or.inl (hw _ (List.mem_of_getElem? (i := 14) rfl))) (hw _ (List.mem_of_getElem? (i := 3) rfl)) (ty := .int) (by decide) rfl rfl (g := (mkF m 78 #[.val (.ref a), .val (.int x)] [(.int (191 : Int32)), (.ref a)])) rfl rfl (hb hby own_b8_d78)
            have Fw158 := u157.same W158
            have N158 := Fr.snoc X158 N142 ga
            have Z159 := Nat.le_trans Z143 (Keep.of_wr W158).1
            have K160 := K144.wr W158 (Or.inl (List.mem_of_getElem? (i := 0) rfl))
            refine own_st (B := T158.setTop (mkF m 81 #[.val (.ref a), .val (.int x)] [])) st158 ?_
            refine own_st (B := T158.setTop (mkF m 148 #[.val (.ref a), .val (.int x)] [])) (fun t_ k_ => XS.goto X158.here hx rfl (pc0 := 81) (pc' := 148) rfl (hb hby own_b8_d81) (by decide) (by decide) k_) ?_
            refine own_st (B := T158.setTop (mkF m 149 #[.val (.ref a), .val (.int x)] [(.int (1 : Int32))])) (fun t_ k_ => XS.iconst X158.here hx rfl (hb hby own_b8_d148) k_) ?_
            refine own_retN X158 hx (t := .boolean) Bd.returns (by simp) hlk (hb hby own_b8_d149) (z' := (1 : Int32)) (by first | rfl | exact own_nb _) (by decide) (by decide) ?_
            show Q8 Z a x k y h0 n0 _ T158.heap _
            rw [e158]
            have u161 := Fw112.other W142 (Or.inr (slot_ne (Or.inl (hw _ (List.mem_of_getElem? (i := 26) rfl))) (Or.inl (hw _ (List.mem_of_getElem? (i := 12) rfl))) (by decide) (t := .int) (t' := .int) (by decide) (by decide)))
            have u162 := u161.other W158 (Or.inr (slot_ne (Or.inl (hw _ (List.mem_of_getElem? (i := 26) rfl))) (Or.inl (hw _ (List.mem_of_getElem? (i := 14) rfl))) (by decide) (t := .int) (t' := .int) (by decide) (by decide)))
            have u163 := Fw142.other W158 (Or.inr (slot_ne (Or.inl (hw _ (List.mem_of_getElem? (i := 12) rfl))) (Or.inl (hw _ (List.mem_of_getElem? (i := 14) rfl))) (by decide) (t := .int) (t' := .int) (by decide) (by decide)))
            exact Or.inr ⟨2, 128, 191, (own_beg2 (by omega) (if_neg (by omega)) (if_neg (by omega))), rfl, N158, K160, u162, u163, Fw158⟩
  · have hd1 := own_nlt32 hc1
    rw [show (194 : Int32).toInt = 194 from rfl] at hd1
    refine own_st (B := s₁.setTop (mkF m 7 #[.val (.ref a), .val (.int x)] [])) (fun t_ k_ => XS.icmpNo X0.here hx rfl (hb hby own_b8_d4) rfl (flt hc1).1 k_) ?_
    refine own_st (B := s₁.setTop (mkF m 8 #[.val (.ref a), .val (.int x)] [(.int x)])) (fun t_ k_ => XS.iloadN X0.here hx rfl (hb hby own_b8_d7) rfl k_) ?_
    refine own_st (B := s₁.setTop (mkF m 11 #[.val (.ref a), .val (.int x)] [(.int (223 : Int32)), (.int x)])) (fun t_ k_ => XS.sipush X0.here hx rfl (hb hby own_b8_d8) k_) ?_
    by_cases hc164 : (223 : Int32) < x
    · have hd164 := own_lt32 hc164
      rw [show (223 : Int32).toInt = 223 from rfl] at hd164
      refine own_st (B := s₁.setTop (mkF m 22 #[.val (.ref a), .val (.int x)] [])) (fun t_ k_ => XS.icmpYes X0.here hx rfl (pc0 := 11) (pc' := 22) rfl (hb hby own_b8_d11) rfl (tlt hc164).2.2.1 (by decide) (by decide) k_) ?_
      refine own_st (B := s₁.setTop (mkF m 23 #[.val (.ref a), .val (.int x)] [(.int x)])) (fun t_ k_ => XS.iloadN X0.here hx rfl (hb hby own_b8_d22) rfl k_) ?_
      refine own_st (B := s₁.setTop (mkF m 26 #[.val (.ref a), .val (.int x)] [(.int (224 : Int32)), (.int x)])) (fun t_ k_ => XS.sipush X0.here hx rfl (hb hby own_b8_d23) k_) ?_
      by_cases hc165 : x < (224 : Int32)
      · have hd165 := own_lt32 hc165
        rw [show (224 : Int32).toInt = 224 from rfl] at hd165
        refine own_st (B := s₁.setTop (mkF m 84 #[.val (.ref a), .val (.int x)] [])) (fun t_ k_ => XS.icmpYes X0.here hx rfl (pc0 := 26) (pc' := 84) rfl (hb hby own_b8_d26) rfl (tlt hc165).1 (by decide) (by decide) k_) ?_
        refine own_st (B := s₁.setTop (mkF m 85 #[.val (.ref a), .val (.int x)] [(.int x)])) (fun t_ k_ => XS.iloadN X0.here hx rfl (hb hby own_b8_d84) rfl k_) ?_
        refine own_st (B := s₁.setTop (mkF m 88 #[.val (.ref a), .val (.int x)] [(.int (240 : Int32)), (.int x)])) (fun t_ k_ => XS.sipush X0.here hx rfl (hb hby own_b8_d85) k_) ?_
        by_cases hc166 : x < (240 : Int32)
        · have hd166 := own_lt32 hc166
          rw [show (240 : Int32).toInt = 240 from rfl] at hd166
          refine own_st (B := s₁.setTop (mkF m 146 #[.val (.ref a), .val (.int x)] [])) (fun t_ k_ => XS.icmpYes X0.here hx rfl (pc0 := 88) (pc' := 146) rfl (hb hby own_b8_d88) rfl (tlt hc166).1 (by decide) (by decide) k_) ?_
          refine own_st (B := s₁.setTop (mkF m 147 #[.val (.ref a), .val (.int x)] [(.int (0 : Int32))])) (fun t_ k_ => XS.iconst X0.here hx rfl (hb hby own_b8_d146) k_) ?_
          refine own_retN X0 hx (t := .boolean) Bd.returns (by simp) hlk (hb hby own_b8_d147) (z' := (0 : Int32)) (by first | rfl | exact own_nb _) (by decide) (by decide) ?_
          show Q8 Z a x k y h0 n0 _ s₁.heap _
          rw [e0]
          exact Or.inl ⟨own_begN (by omega) (by omega) (by omega), rfl, N0, K0⟩
        · have hd166 := own_nlt32 hc166
          rw [show (240 : Int32).toInt = 240 from rfl] at hd166
          refine own_st (B := s₁.setTop (mkF m 91 #[.val (.ref a), .val (.int x)] [])) (fun t_ k_ => XS.icmpNo X0.here hx rfl (hb hby own_b8_d88) rfl (flt hc166).1 k_) ?_
          refine own_st (B := s₁.setTop (mkF m 92 #[.val (.ref a), .val (.int x)] [(.int x)])) (fun t_ k_ => XS.iloadN X0.here hx rfl (hb hby own_b8_d91) rfl k_) ?_
          refine own_st (B := s₁.setTop (mkF m 95 #[.val (.ref a), .val (.int x)] [(.int (244 : Int32)), (.int x)])) (fun t_ k_ => XS.sipush X0.here hx rfl (hb hby own_b8_d92) k_) ?_
          by_cases hc167 : (244 : Int32) < x
          · have hd167 := own_lt32 hc167
            rw [show (244 : Int32).toInt = 244 from rfl] at hd167
            refine own_st (B := s₁.setTop (mkF m 146 #[.val (.ref a), .val (.int x)] [])) (fun t_ k_ => XS.icmpYes X0.here hx rfl (pc0 := 95) (pc' := 146) rfl (hb hby own_b8_d95) rfl (tlt hc167).2.2.1 (by decide) (by decide) k_) ?_
            refine own_st (B := s₁.setTop (mkF m 147 #[.val (.ref a), .val (.int x)] [(.int (0 : Int32))])) (fun t_ k_ => XS.iconst X0.here hx rfl (hb hby own_b8_d146) k_) ?_
            refine own_retN X0 hx (t := .boolean) Bd.returns (by simp) hlk (hb hby own_b8_d147) (z' := (0 : Int32)) (by first | rfl | exact own_nb _) (by decide) (by decide) ?_
            show Q8 Z a x k y h0 n0 _ s₁.heap _
            rw [e0]
            exact Or.inl ⟨own_begN (by omega) (by omega) (by omega), rfl, N0, K0⟩
          · have hd167 := own_nlt32 hc167
            rw [show (244 : Int32).toInt = 244 from rfl] at hd167
            refine own_st (B := s₁.setTop (mkF m 98 #[.val (.ref a), .val (.int x)] [])) (fun t_ k_ => XS.icmpNo X0.here hx rfl (hb hby own_b8_d95) rfl (flt hc167).2.2.1 k_) ?_
            refine own_st (B := s₁.setTop (mkF m 99 #[.val (.ref a), .val (.int x)] [(.ref a)])) (fun t_ k_ => XS.aloadN X0.here hx rfl (hb hby own_b8_d98) rfl rfl k_) ?_
            refine own_st (B := s₁.setTop (mkF m 100 #[.val (.ref a), .val (.int x)] [(.int (3 : Int32)), (.ref a)])) (fun t_ k_ => XS.iconst X0.here hx rfl (hb hby own_b8_d99) k_) ?_
            obtain ⟨T168, h168, X168, e168, W168, st168⟩ := putF X0 hx hZ hown (host := "") (Or.inl (hw _ (List.mem_of_getElem? (i := 25) rfl))) Via.refl e0 F0 E (Or.inl (hw _ (List.mem_of_getElem? (i := 26) rfl))) (hw _ (List.mem_of_getElem? (i := 3) rfl)) (ty := .int) (by decide) rfl rfl (g := (mkF m 100 #[.val (.ref a), .val (.int x)] [(.int (3 : Int32)), (.ref a)])) rfl rfl (hb hby own_b8_d100)
            have Fw168 := F0.same W168
            have N168 := Fr.snoc X168 N0 ga
            have Z169 := Nat.le_trans Z0 (Keep.of_wr W168).1
            have K170 := K0.wr W168 (Or.inl (List.mem_of_getElem? (i := 0) rfl))
            refine own_st (B := T168.setTop (mkF m 103 #[.val (.ref a), .val (.int x)] [])) st168 ?_
            refine own_st (B := T168.setTop (mkF m 104 #[.val (.ref a), .val (.int x)] [(.ref a)])) (fun t_ k_ => XS.aloadN X168.here hx rfl (hb hby own_b8_d103) rfl rfl k_) ?_
            refine own_st (B := T168.setTop (mkF m 105 #[.val (.ref a), .val (.int x)] [(.int x), (.ref a)])) (fun t_ k_ => XS.iloadN X168.here hx rfl (hb hby own_b8_d104) rfl k_) ?_
            refine own_st (B := T168.setTop (mkF m 108 #[.val (.ref a), .val (.int x)] [(.int (240 : Int32)), (.int x), (.ref a)])) (fun t_ k_ => XS.sipush X168.here hx rfl (hb hby own_b8_d105) k_) ?_
            by_cases hc171 : x = (240 : Int32)
            · have hd171 := own_eq32 hc171
              rw [show (240 : Int32).toInt = 240 from rfl] at hd171
              refine own_st (B := T168.setTop (mkF m 111 #[.val (.ref a), .val (.int x)] [(.ref a)])) (fun t_ k_ => XS.icmpNo X168.here hx rfl (hb hby own_b8_d108) rfl (teq hc171).2 k_) ?_
              refine own_st (B := T168.setTop (mkF m 114 #[.val (.ref a), .val (.int x)] [(.int (144 : Int32)), (.ref a)])) (fun t_ k_ => XS.sipush X168.here hx rfl (hb hby own_b8_d111) k_) ?_
              refine own_st (B := T168.setTop (mkF m 120 #[.val (.ref a), .val (.int x)] [(.int (144 : Int32)), (.ref a)])) (fun t_ k_ => XS.goto X168.here hx rfl (pc0 := 114) (pc' := 120) rfl (hb hby own_b8_d114) (by decide) (by decide) k_) ?_
              have u172 := E.wr W168
              have u173 := F1.other W168 (Or.inr (slot_ne (Or.inl (hw _ (List.mem_of_getElem? (i := 12) rfl))) (Or.inl (hw _ (List.mem_of_getElem? (i := 26) rfl))) (by decide) (t := .int) (t' := .int) (by decide) (by decide)))
              obtain ⟨T174, h174, X174, e174, W174, st174⟩ := putF X168 hx hZ hown (host := "") (Or.inl (hw _ (List.mem_of_getElem? (i := 11) rfl))) Via.refl e168 u173 u172 (Or.inl (hw _ (List.mem_of_getElem? (i := 12) rfl))) (hw _ (List.mem_of_getElem? (i := 3) rfl)) (ty := .int) (by decide) rfl rfl (g := (mkF m 120 #[.val (.ref a), .val (.int x)] [(.int (144 : Int32)), (.ref a)])) rfl rfl (hb hby own_b8_d120)
              have Fw174 := u173.same W174
              have N174 := Fr.snoc X174 N168 ga
              have Z175 := Nat.le_trans Z169 (Keep.of_wr W174).1
              have K176 := K170.wr W174 (Or.inl (List.mem_of_getElem? (i := 0) rfl))
              refine own_st (B := T174.setTop (mkF m 123 #[.val (.ref a), .val (.int x)] [])) st174 ?_
              refine own_st (B := T174.setTop (mkF m 124 #[.val (.ref a), .val (.int x)] [(.ref a)])) (fun t_ k_ => XS.aloadN X174.here hx rfl (hb hby own_b8_d123) rfl rfl k_) ?_
              refine own_st (B := T174.setTop (mkF m 125 #[.val (.ref a), .val (.int x)] [(.int x), (.ref a)])) (fun t_ k_ => XS.iloadN X174.here hx rfl (hb hby own_b8_d124) rfl k_) ?_
              refine own_st (B := T174.setTop (mkF m 128 #[.val (.ref a), .val (.int x)] [(.int (244 : Int32)), (.int x), (.ref a)])) (fun t_ k_ => XS.sipush X174.here hx rfl (hb hby own_b8_d125) k_) ?_
              by_cases hc177 : x = (244 : Int32)
              · have hd177 := own_eq32 hc177
                rw [show (244 : Int32).toInt = 244 from rfl] at hd177
                refine own_st (B := T174.setTop (mkF m 131 #[.val (.ref a), .val (.int x)] [(.ref a)])) (fun t_ k_ => XS.icmpNo X174.here hx rfl (hb hby own_b8_d128) rfl (teq hc177).2 k_) ?_
                refine own_st (B := T174.setTop (mkF m 134 #[.val (.ref a), .val (.int x)] [(.int (143 : Int32)), (.ref a)])) (fun t_ k_ => XS.sipush X174.here hx rfl (hb hby own_b8_d131) k_) ?_
                refine own_st (B := T174.setTop (mkF m 140 #[.val (.ref a), .val (.int x)] [(.int (143 : Int32)), (.ref a)])) (fun t_ k_ => XS.goto X174.here hx rfl (pc0 := 134) (pc' := 140) rfl (hb hby own_b8_d134) (by decide) (by decide) k_) ?_
                have u178 := u172.wr W174
                have u179 := F2.other W168 (Or.inr (slot_ne (Or.inl (hw _ (List.mem_of_getElem? (i := 14) rfl))) (Or.inl (hw _ (List.mem_of_getElem? (i := 26) rfl))) (by decide) (t := .int) (t' := .int) (by decide) (by decide)))
                have u180 := u179.other W174 (Or.inr (slot_ne (Or.inl (hw _ (List.mem_of_getElem? (i := 14) rfl))) (Or.inl (hw _ (List.mem_of_getElem? (i := 12) rfl))) (by decide) (t := .int) (t' := .int) (by decide) (by decide)))
                obtain ⟨T181, h181, X181, e181, W181, st181⟩ := putF X174 hx hZ hown (host := "") (Or.inl (hw _ (List.mem_of_getElem? (i := 13) rfl))) Via.refl e174 u180 u178 (Or.inl (hw _ (List.mem_of_getElem? (i := 14) rfl))) (hw _ (List.mem_of_getElem? (i := 3) rfl)) (ty := .int) (by decide) rfl rfl (g := (mkF m 140 #[.val (.ref a), .val (.int x)] [(.int (143 : Int32)), (.ref a)])) rfl rfl (hb hby own_b8_d140)
                have Fw181 := u180.same W181
                have N181 := Fr.snoc X181 N174 ga
                have Z182 := Nat.le_trans Z175 (Keep.of_wr W181).1
                have K183 := K176.wr W181 (Or.inl (List.mem_of_getElem? (i := 0) rfl))
                refine own_st (B := T181.setTop (mkF m 143 #[.val (.ref a), .val (.int x)] [])) st181 ?_
                refine own_st (B := T181.setTop (mkF m 148 #[.val (.ref a), .val (.int x)] [])) (fun t_ k_ => XS.goto X181.here hx rfl (pc0 := 143) (pc' := 148) rfl (hb hby own_b8_d143) (by decide) (by decide) k_) ?_
                refine own_st (B := T181.setTop (mkF m 149 #[.val (.ref a), .val (.int x)] [(.int (1 : Int32))])) (fun t_ k_ => XS.iconst X181.here hx rfl (hb hby own_b8_d148) k_) ?_
                refine own_retN X181 hx (t := .boolean) Bd.returns (by simp) hlk (hb hby own_b8_d149) (z' := (1 : Int32)) (by first | rfl | exact own_nb _) (by decide) (by decide) ?_
                show Q8 Z a x k y h0 n0 _ T181.heap _
                rw [e181]
                have u184 := Fw168.other W174 (Or.inr (slot_ne (Or.inl (hw _ (List.mem_of_getElem? (i := 26) rfl))) (Or.inl (hw _ (List.mem_of_getElem? (i := 12) rfl))) (by decide) (t := .int) (t' := .int) (by decide) (by decide)))
                have u185 := u184.other W181 (Or.inr (slot_ne (Or.inl (hw _ (List.mem_of_getElem? (i := 26) rfl))) (Or.inl (hw _ (List.mem_of_getElem? (i := 14) rfl))) (by decide) (t := .int) (t' := .int) (by decide) (by decide)))
                have u186 := Fw174.other W181 (Or.inr (slot_ne (Or.inl (hw _ (List.mem_of_getElem? (i := 12) rfl))) (Or.inl (hw _ (List.mem_of_getElem? (i := 14) rfl))) (by decide) (t := .int) (t' := .int) (by decide) (by decide)))
                exact Or.inr ⟨3, 144, 143, (own_beg3 (by omega) (if_pos (by omega)) (if_pos (by omega))), rfl, N181, K183, u185, u186, Fw181⟩
              · have hd177 := own_neq32 hc177
                rw [show (244 : Int32).toInt = 244 from rfl] at hd177
                refine own_st (B := T174.setTop (mkF m 137 #[.val (.ref a), .val (.int x)] [(.ref a)])) (fun t_ k_ => XS.icmpYes X174.here hx rfl (pc0 := 128) (pc' := 137) rfl (hb hby own_b8_d128) rfl (feq hc177).2 (by decide) (by decide) k_) ?_
                refine own_st (B := T174.setTop (mkF m 140 #[.val (.ref a), .val (.int x)] [(.int (191 : Int32)), (.ref a)])) (fun t_ k_ => XS.sipush X174.here hx rfl (hb hby own_b8_d137) k_) ?_
                have u187 := u172.wr W174
                have u188 := F2.other W168 (Or.inr (slot_ne (Or.inl (hw _ (List.mem_of_getElem? (i := 14) rfl))) (Or.inl (hw _ (List.mem_of_getElem? (i := 26) rfl))) (by decide) (t := .int) (t' := .int) (by decide) (by decide)))
                have u189 := u188.other W174 (Or.inr (slot_ne (Or.inl (hw _ (List.mem_of_getElem? (i := 14) rfl))) (Or.inl (hw _ (List.mem_of_getElem? (i := 12) rfl))) (by decide) (t := .int) (t' := .int) (by decide) (by decide)))
                obtain ⟨T190, h190, X190, e190, W190, st190⟩ := putF X174 hx hZ hown (host := "") (Or.inl (hw _ (List.mem_of_getElem? (i := 13) rfl))) Via.refl e174 u189 u187 (Or.inl (hw _ (List.mem_of_getElem? (i := 14) rfl))) (hw _ (List.mem_of_getElem? (i := 3) rfl)) (ty := .int) (by decide) rfl rfl (g := (mkF m 140 #[.val (.ref a), .val (.int x)] [(.int (191 : Int32)), (.ref a)])) rfl rfl (hb hby own_b8_d140)
                have Fw190 := u189.same W190
                have N190 := Fr.snoc X190 N174 ga
                have Z191 := Nat.le_trans Z175 (Keep.of_wr W190).1
                have K192 := K176.wr W190 (Or.inl (List.mem_of_getElem? (i := 0) rfl))
                refine own_st (B := T190.setTop (mkF m 143 #[.val (.ref a), .val (.int x)] [])) st190 ?_
                refine own_st (B := T190.setTop (mkF m 148 #[.val (.ref a), .val (.int x)] [])) (fun t_ k_ => XS.goto X190.here hx rfl (pc0 := 143) (pc' := 148) rfl (hb hby own_b8_d143) (by decide) (by decide) k_) ?_
                refine own_st (B := T190.setTop (mkF m 149 #[.val (.ref a), .val (.int x)] [(.int (1 : Int32))])) (fun t_ k_ => XS.iconst X190.here hx rfl (hb hby own_b8_d148) k_) ?_
                refine own_retN X190 hx (t := .boolean) Bd.returns (by simp) hlk (hb hby own_b8_d149) (z' := (1 : Int32)) (by first | rfl | exact own_nb _) (by decide) (by decide) ?_
                show Q8 Z a x k y h0 n0 _ T190.heap _
                rw [e190]
                have u193 := Fw168.other W174 (Or.inr (slot_ne (Or.inl (hw _ (List.mem_of_getElem? (i := 26) rfl))) (Or.inl (hw _ (List.mem_of_getElem? (i := 12) rfl))) (by decide) (t := .int) (t' := .int) (by decide) (by decide)))
                have u194 := u193.other W190 (Or.inr (slot_ne (Or.inl (hw _ (List.mem_of_getElem? (i := 26) rfl))) (Or.inl (hw _ (List.mem_of_getElem? (i := 14) rfl))) (by decide) (t := .int) (t' := .int) (by decide) (by decide)))
                have u195 := Fw174.other W190 (Or.inr (slot_ne (Or.inl (hw _ (List.mem_of_getElem? (i := 12) rfl))) (Or.inl (hw _ (List.mem_of_getElem? (i := 14) rfl))) (by decide) (t := .int) (t' := .int) (by decide) (by decide)))
                exact Or.inr ⟨3, 144, 191, (own_beg3 (by omega) (if_pos (by omega)) (if_neg (by omega))), rfl, N190, K192, u194, u195, Fw190⟩
            · have hd171 := own_neq32 hc171
              rw [show (240 : Int32).toInt = 240 from rfl] at hd171
              refine own_st (B := T168.setTop (mkF m 117 #[.val (.ref a), .val (.int x)] [(.ref a)])) (fun t_ k_ => XS.icmpYes X168.here hx rfl (pc0 := 108) (pc' := 117) rfl (hb hby own_b8_d108) rfl (feq hc171).2 (by decide) (by decide) k_) ?_
              refine own_st (B := T168.setTop (mkF m 120 #[.val (.ref a), .val (.int x)] [(.int (128 : Int32)), (.ref a)])) (fun t_ k_ => XS.sipush X168.here hx rfl (hb hby own_b8_d117) k_) ?_
              have u196 := E.wr W168
              have u197 := F1.other W168 (Or.inr (slot_ne (Or.inl (hw _ (List.mem_of_getElem? (i := 12) rfl))) (Or.inl (hw _ (List.mem_of_getElem? (i := 26) rfl))) (by decide) (t := .int) (t' := .int) (by decide) (by decide)))
              obtain ⟨T198, h198, X198, e198, W198, st198⟩ := putF X168 hx hZ hown (host := "") (Or.inl (hw _ (List.mem_of_getElem? (i := 11) rfl))) Via.refl e168 u197 u196 (Or.inl (hw _ (List.mem_of_getElem? (i := 12) rfl))) (hw _ (List.mem_of_getElem? (i := 3) rfl)) (ty := .int) (by decide) rfl rfl (g := (mkF m 120 #[.val (.ref a), .val (.int x)] [(.int (128 : Int32)), (.ref a)])) rfl rfl (hb hby own_b8_d120)
              have Fw198 := u197.same W198
              have N198 := Fr.snoc X198 N168 ga
              have Z199 := Nat.le_trans Z169 (Keep.of_wr W198).1
              have K200 := K170.wr W198 (Or.inl (List.mem_of_getElem? (i := 0) rfl))
              refine own_st (B := T198.setTop (mkF m 123 #[.val (.ref a), .val (.int x)] [])) st198 ?_
              refine own_st (B := T198.setTop (mkF m 124 #[.val (.ref a), .val (.int x)] [(.ref a)])) (fun t_ k_ => XS.aloadN X198.here hx rfl (hb hby own_b8_d123) rfl rfl k_) ?_
              refine own_st (B := T198.setTop (mkF m 125 #[.val (.ref a), .val (.int x)] [(.int x), (.ref a)])) (fun t_ k_ => XS.iloadN X198.here hx rfl (hb hby own_b8_d124) rfl k_) ?_
              refine own_st (B := T198.setTop (mkF m 128 #[.val (.ref a), .val (.int x)] [(.int (244 : Int32)), (.int x), (.ref a)])) (fun t_ k_ => XS.sipush X198.here hx rfl (hb hby own_b8_d125) k_) ?_
              by_cases hc201 : x = (244 : Int32)
              · have hd201 := own_eq32 hc201
                rw [show (244 : Int32).toInt = 244 from rfl] at hd201
                refine own_st (B := T198.setTop (mkF m 131 #[.val (.ref a), .val (.int x)] [(.ref a)])) (fun t_ k_ => XS.icmpNo X198.here hx rfl (hb hby own_b8_d128) rfl (teq hc201).2 k_) ?_
                refine own_st (B := T198.setTop (mkF m 134 #[.val (.ref a), .val (.int x)] [(.int (143 : Int32)), (.ref a)])) (fun t_ k_ => XS.sipush X198.here hx rfl (hb hby own_b8_d131) k_) ?_
                refine own_st (B := T198.setTop (mkF m 140 #[.val (.ref a), .val (.int x)] [(.int (143 : Int32)), (.ref a)])) (fun t_ k_ => XS.goto X198.here hx rfl (pc0 := 134) (pc' := 140) rfl (hb hby own_b8_d134) (by decide) (by decide) k_) ?_
                have u202 := u196.wr W198
                have u203 := F2.other W168 (Or.inr (slot_ne (Or.inl (hw _ (List.mem_of_getElem? (i := 14) rfl))) (Or.inl (hw _ (List.mem_of_getElem? (i := 26) rfl))) (by decide) (t := .int) (t' := .int) (by decide) (by decide)))
                have u204 := u203.other W198 (Or.inr (slot_ne (Or.inl (hw _ (List.mem_of_getElem? (i := 14) rfl))) (Or.inl (hw _ (List.mem_of_getElem? (i := 12) rfl))) (by decide) (t := .int) (t' := .int) (by decide) (by decide)))
                obtain ⟨T205, h205, X205, e205, W205, st205⟩ := putF X198 hx hZ hown (host := "") (Or.inl (hw _ (List.mem_of_getElem? (i := 13) rfl))) Via.refl e198 u204 u202 (Or.inl (hw _ (List.mem_of_getElem? (i := 14) rfl))) (hw _ (List.mem_of_getElem? (i := 3) rfl)) (ty := .int) (by decide) rfl rfl (g := (mkF m 140 #[.val (.ref a), .val (.int x)] [(.int (143 : Int32)), (.ref a)])) rfl rfl (hb hby own_b8_d140)
                have Fw205 := u204.same W205
                have N205 := Fr.snoc X205 N198 ga
                have Z206 := Nat.le_trans Z199 (Keep.of_wr W205).1
                have K207 := K200.wr W205 (Or.inl (List.mem_of_getElem? (i := 0) rfl))
                refine own_st (B := T205.setTop (mkF m 143 #[.val (.ref a), .val (.int x)] [])) st205 ?_
                refine own_st (B := T205.setTop (mkF m 148 #[.val (.ref a), .val (.int x)] [])) (fun t_ k_ => XS.goto X205.here hx rfl (pc0 := 143) (pc' := 148) rfl (hb hby own_b8_d143) (by decide) (by decide) k_) ?_
                refine own_st (B := T205.setTop (mkF m 149 #[.val (.ref a), .val (.int x)] [(.int (1 : Int32))])) (fun t_ k_ => XS.iconst X205.here hx rfl (hb hby own_b8_d148) k_) ?_
                refine own_retN X205 hx (t := .boolean) Bd.returns (by simp) hlk (hb hby own_b8_d149) (z' := (1 : Int32)) (by first | rfl | exact own_nb _) (by decide) (by decide) ?_
                show Q8 Z a x k y h0 n0 _ T205.heap _
                rw [e205]
                have u208 := Fw168.other W198 (Or.inr (slot_ne (Or.inl (hw _ (List.mem_of_getElem? (i := 26) rfl))) (Or.inl (hw _ (List.mem_of_getElem? (i := 12) rfl))) (by decide) (t := .int) (t' := .int) (by decide) (by decide)))
                have u209 := u208.other W205 (Or.inr (slot_ne (Or.inl (hw _ (List.mem_of_getElem? (i := 26) rfl))) (Or.inl (hw _ (List.mem_of_getElem? (i := 14) rfl))) (by decide) (t := .int) (t' := .int) (by decide) (by decide)))
                have u210 := Fw198.other W205 (Or.inr (slot_ne (Or.inl (hw _ (List.mem_of_getElem? (i := 12) rfl))) (Or.inl (hw _ (List.mem_of_getElem? (i := 14) rfl))) (by decide) (t := .int) (t' := .int) (by decide) (by decide)))
                exact Or.inr ⟨3, 128, 143, (own_beg3 (by omega) (if_neg (by omega)) (if_pos (by omega))), rfl, N205, K207, u209, u210, Fw205⟩
              · have hd201 := own_neq32 hc201
                rw [show (244 : Int32).toInt = 244 from rfl] at hd201
                refine own_st (B := T198.setTop (mkF m 137 #[.val (.ref a), .val (.int x)] [(.ref a)])) (fun t_ k_ => XS.icmpYes X198.here hx rfl (pc0 := 128) (pc' := 137) rfl (hb hby own_b8_d128) rfl (feq hc201).2 (by decide) (by decide) k_) ?_
                refine own_st (B := T198.setTop (mkF m 140 #[.val (.ref a), .val (.int x)] [(.int (191 : Int32)), (.ref a)])) (fun t_ k_ => XS.sipush X198.here hx rfl (hb hby own_b8_d137) k_) ?_
                have u211 := u196.wr W198
                have u212 := F2.other W168 (Or.inr (slot_ne (Or.inl (hw _ (List.mem_of_getElem? (i := 14) rfl))) (Or.inl (hw _ (List.mem_of_getElem? (i := 26) rfl))) (by decide) (t := .int) (t' := .int) (by decide) (by decide)))
                have u213 := u212.other W198 (Or.inr (slot_ne (Or.inl (hw _ (List.mem_of_getElem? (i := 14) rfl))) (Or.inl (hw _ (List.mem_of_getElem? (i := 12) rfl))) (by decide) (t := .int) (t' := .int) (by decide) (by decide)))
                obtain ⟨T214, h214, X214, e214, W214, st214⟩ := putF X198 hx hZ hown (host := "") (Or.inl (hw _ (List.mem_of_getElem? (i := 13) rfl))) Via.refl e198 u213 u211 (Or.inl (hw _ (List.mem_of_getElem? (i := 14) rfl))) (hw _ (List.mem_of_getElem? (i := 3) rfl)) (ty := .int) (by decide) rfl rfl (g := (mkF m 140 #[.val (.ref a), .val (.int x)] [(.int (191 : Int32)), (.ref a)])) rfl rfl (hb hby own_b8_d140)
                have Fw214 := u213.same W214
                have N214 := Fr.snoc X214 N198 ga
                have Z215 := Nat.le_trans Z199 (Keep.of_wr W214).1
                have K216 := K200.wr W214 (Or.inl (List.mem_of_getElem? (i := 0) rfl))
                refine own_st (B := T214.setTop (mkF m 143 #[.val (.ref a), .val (.int x)] [])) st214 ?_
                refine own_st (B := T214.setTop (mkF m 148 #[.val (.ref a), .val (.int x)] [])) (fun t_ k_ => XS.goto X214.here hx rfl (pc0 := 143) (pc' := 148) rfl (hb hby own_b8_d143) (by decide) (by decide) k_) ?_
                refine own_st (B := T214.setTop (mkF m 149 #[.val (.ref a), .val (.int x)] [(.int (1 : Int32))])) (fun t_ k_ => XS.iconst X214.here hx rfl (hb hby own_b8_d148) k_) ?_
                refine own_retN X214 hx (t := .boolean) Bd.returns (by simp) hlk (hb hby own_b8_d149) (z' := (1 : Int32)) (by first | rfl | exact own_nb _) (by decide) (by decide) ?_
                show Q8 Z a x k y h0 n0 _ T214.heap _
                rw [e214]
                have u217 := Fw168.other W198 (Or.inr (slot_ne (Or.inl (hw _ (List.mem_of_getElem? (i := 26) rfl))) (Or.inl (hw _ (List.mem_of_getElem? (i := 12) rfl))) (by decide) (t := .int) (t' := .int) (by decide) (by decide)))
                have u218 := u217.other W214 (Or.inr (slot_ne (Or.inl (hw _ (List.mem_of_getElem? (i := 26) rfl))) (Or.inl (hw _ (List.mem_of_getElem? (i := 14) rfl))) (by decide) (t := .int) (t' := .int) (by decide) (by decide)))
                have u219 := Fw198.other W214 (Or.inr (slot_ne (Or.inl (hw _ (List.mem_of_getElem? (i := 12) rfl))) (Or.inl (hw _ (List.mem_of_getElem? (i := 14) rfl))) (by decide) (t := .int) (t' := .int) (by decide) (by decide)))
                exact Or.inr ⟨3, 128, 191, (own_beg3 (by omega) (if_neg (by omega)) (if_neg (by omega))), rfl, N214, K216, u218, u219, Fw214⟩
      · have hd165 := own_nlt32 hc165
        rw [show (224 : Int32).toInt = 224 from rfl] at hd165
        refine own_st (B := s₁.setTop (mkF m 29 #[.val (.ref a), .val (.int x)] [])) (fun t_ k_ => XS.icmpNo X0.here hx rfl (hb hby own_b8_d26) rfl (flt hc165).1 k_) ?_
        refine own_st (B := s₁.setTop (mkF m 30 #[.val (.ref a), .val (.int x)] [(.int x)])) (fun t_ k_ => XS.iloadN X0.here hx rfl (hb hby own_b8_d29) rfl k_) ?_
        refine own_st (B := s₁.setTop (mkF m 33 #[.val (.ref a), .val (.int x)] [(.int (239 : Int32)), (.int x)])) (fun t_ k_ => XS.sipush X0.here hx rfl (hb hby own_b8_d30) k_) ?_
        by_cases hc220 : (239 : Int32) < x
        · have hd220 := own_lt32 hc220
          rw [show (239 : Int32).toInt = 239 from rfl] at hd220
          refine own_st (B := s₁.setTop (mkF m 84 #[.val (.ref a), .val (.int x)] [])) (fun t_ k_ => XS.icmpYes X0.here hx rfl (pc0 := 33) (pc' := 84) rfl (hb hby own_b8_d33) rfl (tlt hc220).2.2.1 (by decide) (by decide) k_) ?_
          refine own_st (B := s₁.setTop (mkF m 85 #[.val (.ref a), .val (.int x)] [(.int x)])) (fun t_ k_ => XS.iloadN X0.here hx rfl (hb hby own_b8_d84) rfl k_) ?_
          refine own_st (B := s₁.setTop (mkF m 88 #[.val (.ref a), .val (.int x)] [(.int (240 : Int32)), (.int x)])) (fun t_ k_ => XS.sipush X0.here hx rfl (hb hby own_b8_d85) k_) ?_
          by_cases hc221 : x < (240 : Int32)
          · have hd221 := own_lt32 hc221
            rw [show (240 : Int32).toInt = 240 from rfl] at hd221
            refine own_st (B := s₁.setTop (mkF m 146 #[.val (.ref a), .val (.int x)] [])) (fun t_ k_ => XS.icmpYes X0.here hx rfl (pc0 := 88) (pc' := 146) rfl (hb hby own_b8_d88) rfl (tlt hc221).1 (by decide) (by decide) k_) ?_
            refine own_st (B := s₁.setTop (mkF m 147 #[.val (.ref a), .val (.int x)] [(.int (0 : Int32))])) (fun t_ k_ => XS.iconst X0.here hx rfl (hb hby own_b8_d146) k_) ?_
            refine own_retN X0 hx (t := .boolean) Bd.returns (by simp) hlk (hb hby own_b8_d147) (z' := (0 : Int32)) (by first | rfl | exact own_nb _) (by decide) (by decide) ?_
            show Q8 Z a x k y h0 n0 _ s₁.heap _
            rw [e0]
            exact Or.inl ⟨own_begN (by omega) (by omega) (by omega), rfl, N0, K0⟩
          · have hd221 := own_nlt32 hc221
            rw [show (240 : Int32).toInt = 240 from rfl] at hd221
            refine own_st (B := s₁.setTop (mkF m 91 #[.val (.ref a), .val (.int x)] [])) (fun t_ k_ => XS.icmpNo X0.here hx rfl (hb hby own_b8_d88) rfl (flt hc221).1 k_) ?_
            refine own_st (B := s₁.setTop (mkF m 92 #[.val (.ref a), .val (.int x)] [(.int x)])) (fun t_ k_ => XS.iloadN X0.here hx rfl (hb hby own_b8_d91) rfl k_) ?_
            refine own_st (B := s₁.setTop (mkF m 95 #[.val (.ref a), .val (.int x)] [(.int (244 : Int32)), (.int x)])) (fun t_ k_ => XS.sipush X0.here hx rfl (hb hby own_b8_d92) k_) ?_
            by_cases hc222 : (244 : Int32) < x
            · have hd222 := own_lt32 hc222
              rw [show (244 : Int32).toInt = 244 from rfl] at hd222
              refine own_st (B := s₁.setTop (mkF m 146 #[.val (.ref a), .val (.int x)] [])) (fun t_ k_ => XS.icmpYes X0.here hx rfl (pc0 := 95) (pc' := 146) rfl (hb hby own_b8_d95) rfl (tlt hc222).2.2.1 (by decide) (by decide) k_) ?_
              refine own_st (B := s₁.setTop (mkF m 147 #[.val (.ref a), .val (.int x)] [(.int (0 : Int32))])) (fun t_ k_ => XS.iconst X0.here hx rfl (hb hby own_b8_d146) k_) ?_
              refine own_retN X0 hx (t := .boolean) Bd.returns (by simp) hlk (hb hby own_b8_d147) (z' := (0 : Int32)) (by first | rfl | exact own_nb _) (by decide) (by decide) ?_
              show Q8 Z a x k y h0 n0 _ s₁.heap _
              rw [e0]
              exact Or.inl ⟨own_begN (by omega) (by omega) (by omega), rfl, N0, K0⟩
            · have hd222 := own_nlt32 hc222
              rw [show (244 : Int32).toInt = 244 from rfl] at hd222
              refine own_st (B := s₁.setTop (mkF m 98 #[.val (.ref a), .val (.int x)] [])) (fun t_ k_ => XS.icmpNo X0.here hx rfl (hb hby own_b8_d95) rfl (flt hc222).2.2.1 k_) ?_
              refine own_st (B := s₁.setTop (mkF m 99 #[.val (.ref a), .val (.int x)] [(.ref a)])) (fun t_ k_ => XS.aloadN X0.here hx rfl (hb hby own_b8_d98) rfl rfl k_) ?_
              refine own_st (B := s₁.setTop (mkF m 100 #[.val (.ref a), .val (.int x)] [(.int (3 : Int32)), (.ref a)])) (fun t_ k_ => XS.iconst X0.here hx rfl (hb hby own_b8_d99) k_) ?_
              obtain ⟨T223, h223, X223, e223, W223, st223⟩ := putF X0 hx hZ hown (host := "") (Or.inl (hw _ (List.mem_of_getElem? (i := 25) rfl))) Via.refl e0 F0 E (Or.inl (hw _ (List.mem_of_getElem? (i := 26) rfl))) (hw _ (List.mem_of_getElem? (i := 3) rfl)) (ty := .int) (by decide) rfl rfl (g := (mkF m 100 #[.val (.ref a), .val (.int x)] [(.int (3 : Int32)), (.ref a)])) rfl rfl (hb hby own_b8_d100)
              have Fw223 := F0.same W223
              have N223 := Fr.snoc X223 N0 ga
              have Z224 := Nat.le_trans Z0 (Keep.of_wr W223).1
              have K225 := K0.wr W223 (Or.inl (List.mem_of_getElem? (i := 0) rfl))
              refine own_st (B := T223.setTop (mkF m 103 #[.val (.ref a), .val (.int x)] [])) st223 ?_
              refine own_st (B := T223.setTop (mkF m 104 #[.val (.ref a), .val (.int x)] [(.ref a)])) (fun t_ k_ => XS.aloadN X223.here hx rfl (hb hby own_b8_d103) rfl rfl k_) ?_
              refine own_st (B := T223.setTop (mkF m 105 #[.val (.ref a), .val (.int x)] [(.int x), (.ref a)])) (fun t_ k_ => XS.iloadN X223.here hx rfl (hb hby own_b8_d104) rfl k_) ?_
              refine own_st (B := T223.setTop (mkF m 108 #[.val (.ref a), .val (.int x)] [(.int (240 : Int32)), (.int x), (.ref a)])) (fun t_ k_ => XS.sipush X223.here hx rfl (hb hby own_b8_d105) k_) ?_
              by_cases hc226 : x = (240 : Int32)
              · have hd226 := own_eq32 hc226
                rw [show (240 : Int32).toInt = 240 from rfl] at hd226
                refine own_st (B := T223.setTop (mkF m 111 #[.val (.ref a), .val (.int x)] [(.ref a)])) (fun t_ k_ => XS.icmpNo X223.here hx rfl (hb hby own_b8_d108) rfl (teq hc226).2 k_) ?_
                refine own_st (B := T223.setTop (mkF m 114 #[.val (.ref a), .val (.int x)] [(.int (144 : Int32)), (.ref a)])) (fun t_ k_ => XS.sipush X223.here hx rfl (hb hby own_b8_d111) k_) ?_
                refine own_st (B := T223.setTop (mkF m 120 #[.val (.ref a), .val (.int x)] [(.int (144 : Int32)), (.ref a)])) (fun t_ k_ => XS.goto X223.here hx rfl (pc0 := 114) (pc' := 120) rfl (hb hby own_b8_d114) (by decide) (by decide) k_) ?_
                have u227 := E.wr W223
                have u228 := F1.other W223 (Or.inr (slot_ne (Or.inl (hw _ (List.mem_of_getElem? (i := 12) rfl))) (Or.inl (hw _ (List.mem_of_getElem? (i := 26) rfl))) (by decide) (t := .int) (t' := .int) (by decide) (by decide)))
                obtain ⟨T229, h229, X229, e229, W229, st229⟩ := putF X223 hx hZ hown (host := "") (Or.inl (hw _ (List.mem_of_getElem? (i := 11) rfl))) Via.refl e223 u228 u227 (Or.inl (hw _ (List.mem_of_getElem? (i := 12) rfl))) (hw _ (List.mem_of_getElem? (i := 3) rfl)) (ty := .int) (by decide) rfl rfl (g := (mkF m 120 #[.val (.ref a), .val (.int x)] [(.int (144 : Int32)), (.ref a)])) rfl rfl (hb hby own_b8_d120)
                have Fw229 := u228.same W229
                have N229 := Fr.snoc X229 N223 ga
                have Z230 := Nat.le_trans Z224 (Keep.of_wr W229).1
                have K231 := K225.wr W229 (Or.inl (List.mem_of_getElem? (i := 0) rfl))
                refine own_st (B := T229.setTop (mkF m 123 #[.val (.ref a), .val (.int x)] [])) st229 ?_
                refine own_st (B := T229.setTop (mkF m 124 #[.val (.ref a), .val (.int x)] [(.ref a)])) (fun t_ k_ => XS.aloadN X229.here hx rfl (hb hby own_b8_d123) rfl rfl k_) ?_
                refine own_st (B := T229.setTop (mkF m 125 #[.val (.ref a), .val (.int x)] [(.int x), (.ref a)])) (fun t_ k_ => XS.iloadN X229.here hx rfl (hb hby own_b8_d124) rfl k_) ?_
                refine own_st (B := T229.setTop (mkF m 128 #[.val (.ref a), .val (.int x)] [(.int (244 : Int32)), (.int x), (.ref a)])) (fun t_ k_ => XS.sipush X229.here hx rfl (hb hby own_b8_d125) k_) ?_
                by_cases hc232 : x = (244 : Int32)
                · have hd232 := own_eq32 hc232
                  rw [show (244 : Int32).toInt = 244 from rfl] at hd232
                  refine own_st (B := T229.setTop (mkF m 131 #[.val (.ref a), .val (.int x)] [(.ref a)])) (fun t_ k_ => XS.icmpNo X229.here hx rfl (hb hby own_b8_d128) rfl (teq hc232).2 k_) ?_
                  refine own_st (B := T229.setTop (mkF m 134 #[.val (.ref a), .val (.int x)] [(.int (143 : Int32)), (.ref a)])) (fun t_ k_ => XS.sipush X229.here hx rfl (hb hby own_b8_d131) k_) ?_
                  refine own_st (B := T229.setTop (mkF m 140 #[.val (.ref a), .val (.int x)] [(.int (143 : Int32)), (.ref a)])) (fun t_ k_ => XS.goto X229.here hx rfl (pc0 := 134) (pc' := 140) rfl (hb hby own_b8_d134) (by decide) (by decide) k_) ?_
                  have u233 := u227.wr W229
                  have u234 := F2.other W223 (Or.inr (slot_ne (Or.inl (hw _ (List.mem_of_getElem? (i := 14) rfl))) (Or.inl (hw _ (List.mem_of_getElem? (i := 26) rfl))) (by decide) (t := .int) (t' := .int) (by decide) (by decide)))
                  have u235 := u234.other W229 (Or.inr (slot_ne (Or.inl (hw _ (List.mem_of_getElem? (i := 14) rfl))) (Or.inl (hw _ (List.mem_of_getElem? (i := 12) rfl))) (by decide) (t := .int) (t' := .int) (by decide) (by decide)))
                  obtain ⟨T236, h236, X236, e236, W236, st236⟩ := putF X229 hx hZ hown (host := "") (Or.inl (hw _ (List.mem_of_getElem? (i := 13) rfl))) Via.refl e229 u235 u233 (Or.inl (hw _ (List.mem_of_getElem? (i := 14) rfl))) (hw _ (List.mem_of_getElem? (i := 3) rfl)) (ty := .int) (by decide) rfl rfl (g := (mkF m 140 #[.val (.ref a), .val (.int x)] [(.int (143 : Int32)), (.ref a)])) rfl rfl (hb hby own_b8_d140)
                  have Fw236 := u235.same W236
                  have N236 := Fr.snoc X236 N229 ga
                  have Z237 := Nat.le_trans Z230 (Keep.of_wr W236).1
                  have K238 := K231.wr W236 (Or.inl (List.mem_of_getElem? (i := 0) rfl))
                  refine own_st (B := T236.setTop (mkF m 143 #[.val (.ref a), .val (.int x)] [])) st236 ?_
                  refine own_st (B := T236.setTop (mkF m 148 #[.val (.ref a), .val (.int x)] [])) (fun t_ k_ => XS.goto X236.here hx rfl (pc0 := 143) (pc' := 148) rfl (hb hby own_b8_d143) (by decide) (by decide) k_) ?_
                  refine own_st (B := T236.setTop (mkF m 149 #[.val (.ref a), .val (.int x)] [(.int (1 : Int32))])) (fun t_ k_ => XS.iconst X236.here hx rfl (hb hby own_b8_d148) k_) ?_
                  refine own_retN X236 hx (t := .boolean) Bd.returns (by simp) hlk (hb hby own_b8_d149) (z' := (1 : Int32)) (by first | rfl | exact own_nb _) (by decide) (by decide) ?_
                  show Q8 Z a x k y h0 n0 _ T236.heap _
                  rw [e236]
                  have u239 := Fw223.other W229 (Or.inr (slot_ne (Or.inl (hw _ (List.mem_of_getElem? (i := 26) rfl))) (Or.inl (hw _ (List.mem_of_getElem? (i := 12) rfl))) (by decide) (t := .int) (t' := .int) (by decide) (by decide)))
                  have u240 := u239.other W236 (Or.inr (slot_ne (Or.inl (hw _ (List.mem_of_getElem? (i := 26) rfl))) (Or.inl (hw _ (List.mem_of_getElem? (i := 14) rfl))) (by decide) (t := .int) (t' := .int) (by decide) (by decide)))
                  have u241 := Fw229.other W236 (Or.inr (slot_ne (Or.inl (hw _ (List.mem_of_getElem? (i := 12) rfl))) (Or.inl (hw _ (List.mem_of_getElem? (i := 14) rfl))) (by decide) (t := .int) (t' := .int) (by decide) (by decide)))
                  exact Or.inr ⟨3, 144, 143, (own_beg3 (by omega) (if_pos (by omega)) (if_pos (by omega))), rfl, N236, K238, u240, u241, Fw236⟩
                · have hd232 := own_neq32 hc232
                  rw [show (244 : Int32).toInt = 244 from rfl] at hd232
                  refine own_st (B := T229.setTop (mkF m 137 #[.val (.ref a), .val (.int x)] [(.ref a)])) (fun t_ k_ => XS.icmpYes X229.here hx rfl (pc0 := 128) (pc' := 137) rfl (hb hby own_b8_d128) rfl (feq hc232).2 (by decide) (by decide) k_) ?_
                  refine own_st (B := T229.setTop (mkF m 140 #[.val (.ref a), .val (.int x)] [(.int (191 : Int32)), (.ref a)])) (fun t_ k_ => XS.sipush X229.here hx rfl (hb hby own_b8_d137) k_) ?_
                  have u242 := u227.wr W229
                  have u243 := F2.other W223 (Or.inr (slot_ne (Or.inl (hw _ (List.mem_of_getElem? (i := 14) rfl))) (Or.inl (hw _ (List.mem_of_getElem? (i := 26) rfl))) (by decide) (t := .int) (t' := .int) (by decide) (by decide)))
                  have u244 := u243.other W229 (Or.inr (slot_ne (Or.inl (hw _ (List.mem_of_getElem? (i := 14) rfl))) (Or.inl (hw _ (List.mem_of_getElem? (i := 12) rfl))) (by decide) (t := .int) (t' := .int) (by decide) (by decide)))
                  obtain ⟨T245, h245, X245, e245, W245, st245⟩ := putF X229 hx hZ hown (host := "") (Or.inl (hw _ (List.mem_of_getElem? (i := 13) rfl))) Via.refl e229 u244 u242 (Or.inl (hw _ (List.mem_of_getElem? (i := 14) rfl))) (hw _ (List.mem_of_getElem? (i := 3) rfl)) (ty := .int) (by decide) rfl rfl (g := (mkF m 140 #[.val (.ref a), .val (.int x)] [(.int (191 : Int32)), (.ref a)])) rfl rfl (hb hby own_b8_d140)
                  have Fw245 := u244.same W245
                  have N245 := Fr.snoc X245 N229 ga
                  have Z246 := Nat.le_trans Z230 (Keep.of_wr W245).1
                  have K247 := K231.wr W245 (Or.inl (List.mem_of_getElem? (i := 0) rfl))
                  refine own_st (B := T245.setTop (mkF m 143 #[.val (.ref a), .val (.int x)] [])) st245 ?_
                  refine own_st (B := T245.setTop (mkF m 148 #[.val (.ref a), .val (.int x)] [])) (fun t_ k_ => XS.goto X245.here hx rfl (pc0 := 143) (pc' := 148) rfl (hb hby own_b8_d143) (by decide) (by decide) k_) ?_
                  refine own_st (B := T245.setTop (mkF m 149 #[.val (.ref a), .val (.int x)] [(.int (1 : Int32))])) (fun t_ k_ => XS.iconst X245.here hx rfl (hb hby own_b8_d148) k_) ?_
                  refine own_retN X245 hx (t := .boolean) Bd.returns (by simp) hlk (hb hby own_b8_d149) (z' := (1 : Int32)) (by first | rfl | exact own_nb _) (by decide) (by decide) ?_
                  show Q8 Z a x k y h0 n0 _ T245.heap _
                  rw [e245]
                  have u248 := Fw223.other W229 (Or.inr (slot_ne (Or.inl (hw _ (List.mem_of_getElem? (i := 26) rfl))) (Or.inl (hw _ (List.mem_of_getElem? (i := 12) rfl))) (by decide) (t := .int) (t' := .int) (by decide) (by decide)))
                  have u249 := u248.other W245 (Or.inr (slot_ne (Or.inl (hw _ (List.mem_of_getElem? (i := 26) rfl))) (Or.inl (hw _ (List.mem_of_getElem? (i := 14) rfl))) (by decide) (t := .int) (t' := .int) (by decide) (by decide)))
                  have u250 := Fw229.other W245 (Or.inr (slot_ne (Or.inl (hw _ (List.mem_of_getElem? (i := 12) rfl))) (Or.inl (hw _ (List.mem_of_getElem? (i := 14) rfl))) (by decide) (t := .int) (t' := .int) (by decide) (by decide)))
                  exact Or.inr ⟨3, 144, 191, (own_beg3 (by omega) (if_pos (by omega)) (if_neg (by omega))), rfl, N245, K247, u249, u250, Fw245⟩
              · have hd226 := own_neq32 hc226
                rw [show (240 : Int32).toInt = 240 from rfl] at hd226
                refine own_st (B := T223.setTop (mkF m 117 #[.val (.ref a), .val (.int x)] [(.ref a)])) (fun t_ k_ => XS.icmpYes X223.here hx rfl (pc0 := 108) (pc' := 117) rfl (hb hby own_b8_d108) rfl (feq hc226).2 (by decide) (by decide) k_) ?_
                refine own_st (B := T223.setTop (mkF m 120 #[.val (.ref a), .val (.int x)] [(.int (128 : Int32)), (.ref a)])) (fun t_ k_ => XS.sipush X223.here hx rfl (hb hby own_b8_d117) k_) ?_
                have u251 := E.wr W223
                have u252 := F1.other W223 (Or.inr (slot_ne (Or.inl (hw _ (List.mem_of_getElem? (i := 12) rfl))) (Or.inl (hw _ (List.mem_of_getElem? (i := 26) rfl))) (by decide) (t := .int) (t' := .int) (by decide) (by decide)))
                obtain ⟨T253, h253, X253, e253, W253, st253⟩ := putF X223 hx hZ hown (host := "") (Or.inl (hw _ (List.mem_of_getElem? (i := 11) rfl))) Via.refl e223 u252 u251 (Or.inl (hw _ (List.mem_of_getElem? (i := 12) rfl))) (hw _ (List.mem_of_getElem? (i := 3) rfl)) (ty := .int) (by decide) rfl rfl (g := (mkF m 120 #[.val (.ref a), .val (.int x)] [(.int (128 : Int32)), (.ref a)])) rfl rfl (hb hby own_b8_d120)
                have Fw253 := u252.same W253
                have N253 := Fr.snoc X253 N223 ga
                have Z254 := Nat.le_trans Z224 (Keep.of_wr W253).1
                have K255 := K225.wr W253 (Or.inl (List.mem_of_getElem? (i := 0) rfl))
                refine own_st (B := T253.setTop (mkF m 123 #[.val (.ref a), .val (.int x)] [])) st253 ?_
                refine own_st (B := T253.setTop (mkF m 124 #[.val (.ref a), .val (.int x)] [(.ref a)])) (fun t_ k_ => XS.aloadN X253.here hx rfl (hb hby own_b8_d123) rfl rfl k_) ?_
                refine own_st (B := T253.setTop (mkF m 125 #[.val (.ref a), .val (.int x)] [(.int x), (.ref a)])) (fun t_ k_ => XS.iloadN X253.here hx rfl (hb hby own_b8_d124) rfl k_) ?_
                refine own_st (B := T253.setTop (mkF m 128 #[.val (.ref a), .val (.int x)] [(.int (244 : Int32)), (.int x), (.ref a)])) (fun t_ k_ => XS.sipush X253.here hx rfl (hb hby own_b8_d125) k_) ?_
                by_cases hc256 : x = (244 : Int32)
                · have hd256 := own_eq32 hc256
                  rw [show (244 : Int32).toInt = 244 from rfl] at hd256
                  refine own_st (B := T253.setTop (mkF m 131 #[.val (.ref a), .val (.int x)] [(.ref a)])) (fun t_ k_ => XS.icmpNo X253.here hx rfl (hb hby own_b8_d128) rfl (teq hc256).2 k_) ?_
                  refine own_st (B := T253.setTop (mkF m 134 #[.val (.ref a), .val (.int x)] [(.int (143 : Int32)), (.ref a)])) (fun t_ k_ => XS.sipush X253.here hx rfl (hb hby own_b8_d131) k_) ?_
                  refine own_st (B := T253.setTop (mkF m 140 #[.val (.ref a), .val (.int x)] [(.int (143 : Int32)), (.ref a)])) (fun t_ k_ => XS.goto X253.here hx rfl (pc0 := 134) (pc' := 140) rfl (hb hby own_b8_d134) (by decide) (by decide) k_) ?_
                  have u257 := u251.wr W253
                  have u258 := F2.other W223 (Or.inr (slot_ne (Or.inl (hw _ (List.mem_of_getElem? (i := 14) rfl))) (Or.inl (hw _ (List.mem_of_getElem? (i := 26) rfl))) (by decide) (t := .int) (t' := .int) (by decide) (by decide)))
                  have u259 := u258.other W253 (Or.inr (slot_ne (Or.inl (hw _ (List.mem_of_getElem? (i := 14) rfl))) (Or.inl (hw _ (List.mem_of_getElem? (i := 12) rfl))) (by decide) (t := .int) (t' := .int) (by decide) (by decide)))
                  obtain ⟨T260, h260, X260, e260, W260, st260⟩ := putF X253 hx hZ hown (host := "") (Or.inl (hw _ (List.mem_of_getElem? (i := 13) rfl))) Via.refl e253 u259 u257 (Or.inl (hw _ (List.mem_of_getElem? (i := 14) rfl))) (hw _ (List.mem_of_getElem? (i := 3) rfl)) (ty := .int) (by decide) rfl rfl (g := (mkF m 140 #[.val (.ref a), .val (.int x)] [(.int (143 : Int32)), (.ref a)])) rfl rfl (hb hby own_b8_d140)
                  have Fw260 := u259.same W260
                  have N260 := Fr.snoc X260 N253 ga
                  have Z261 := Nat.le_trans Z254 (Keep.of_wr W260).1
                  have K262 := K255.wr W260 (Or.inl (List.mem_of_getElem? (i := 0) rfl))
                  refine own_st (B := T260.setTop (mkF m 143 #[.val (.ref a), .val (.int x)] [])) st260 ?_
                  refine own_st (B := T260.setTop (mkF m 148 #[.val (.ref a), .val (.int x)] [])) (fun t_ k_ => XS.goto X260.here hx rfl (pc0 := 143) (pc' := 148) rfl (hb hby own_b8_d143) (by decide) (by decide) k_) ?_
                  refine own_st (B := T260.setTop (mkF m 149 #[.val (.ref a), .val (.int x)] [(.int (1 : Int32))])) (fun t_ k_ => XS.iconst X260.here hx rfl (hb hby own_b8_d148) k_) ?_
                  refine own_retN X260 hx (t := .boolean) Bd.returns (by simp) hlk (hb hby own_b8_d149) (z' := (1 : Int32)) (by first | rfl | exact own_nb _) (by decide) (by decide) ?_
                  show Q8 Z a x k y h0 n0 _ T260.heap _
                  rw [e260]
                  have u263 := Fw223.other W253 (Or.inr (slot_ne (Or.inl (hw _ (List.mem_of_getElem? (i := 26) rfl))) (Or.inl (hw _ (List.mem_of_getElem? (i := 12) rfl))) (by decide) (t := .int) (t' := .int) (by decide) (by decide)))
                  have u264 := u263.other W260 (Or.inr (slot_ne (Or.inl (hw _ (List.mem_of_getElem? (i := 26) rfl))) (Or.inl (hw _ (List.mem_of_getElem? (i := 14) rfl))) (by decide) (t := .int) (t' := .int) (by decide) (by decide)))
                  have u265 := Fw253.other W260 (Or.inr (slot_ne (Or.inl (hw _ (List.mem_of_getElem? (i := 12) rfl))) (Or.inl (hw _ (List.mem_of_getElem? (i := 14) rfl))) (by decide) (t := .int) (t' := .int) (by decide) (by decide)))
                  exact Or.inr ⟨3, 128, 143, (own_beg3 (by omega) (if_neg (by omega)) (if_pos (by omega))), rfl, N260, K262, u264, u265, Fw260⟩
                · have hd256 := own_neq32 hc256
                  rw [show (244 : Int32).toInt = 244 from rfl] at hd256
                  refine own_st (B := T253.setTop (mkF m 137 #[.val (.ref a), .val (.int x)] [(.ref a)])) (fun t_ k_ => XS.icmpYes X253.here hx rfl (pc0 := 128) (pc' := 137) rfl (hb hby own_b8_d128) rfl (feq hc256).2 (by decide) (by decide) k_) ?_
                  refine own_st (B := T253.setTop (mkF m 140 #[.val (.ref a), .val (.int x)] [(.int (191 : Int32)), (.ref a)])) (fun t_ k_ => XS.sipush X253.here hx rfl (hb hby own_b8_d137) k_) ?_
                  have u266 := u251.wr W253
                  have u267 := F2.other W223 (Or.inr (slot_ne (Or.inl (hw _ (List.mem_of_getElem? (i := 14) rfl))) (Or.inl (hw _ (List.mem_of_getElem? (i := 26) rfl))) (by decide) (t := .int) (t' := .int) (by decide) (by decide)))
                  have u268 := u267.other W253 (Or.inr (slot_ne (Or.inl (hw _ (List.mem_of_getElem? (i := 14) rfl))) (Or.inl (hw _ (List.mem_of_getElem? (i := 12) rfl))) (by decide) (t := .int) (t' := .int) (by decide) (by decide)))
                  obtain ⟨T269, h269, X269, e269, W269, st269⟩ := putF X253 hx hZ hown (host := "") (Or.inl (hw _ (List.mem_of_getElem? (i := 13) rfl))) Via.refl e253 u268 u266 (Or.inl (hw _ (List.mem_of_getElem? (i := 14) rfl))) (hw _ (List.mem_of_getElem? (i := 3) rfl)) (ty := .int) (by decide) rfl rfl (g := (mkF m 140 #[.val (.ref a), .val (.int x)] [(.int (191 : Int32)), (.ref a)])) rfl rfl (hb hby own_b8_d140)
                  have Fw269 := u268.same W269
                  have N269 := Fr.snoc X269 N253 ga
                  have Z270 := Nat.le_trans Z254 (Keep.of_wr W269).1
                  have K271 := K255.wr W269 (Or.inl (List.mem_of_getElem? (i := 0) rfl))
                  refine own_st (B := T269.setTop (mkF m 143 #[.val (.ref a), .val (.int x)] [])) st269 ?_
                  refine own_st (B := T269.setTop (mkF m 148 #[.val (.ref a), .val (.int x)] [])) (fun t_ k_ => XS.goto X269.here hx rfl (pc0 := 143) (pc' := 148) rfl (hb hby own_b8_d143) (by decide) (by decide) k_) ?_
                  refine own_st (B := T269.setTop (mkF m 149 #[.val (.ref a), .val (.int x)] [(.int (1 : Int32))])) (fun t_ k_ => XS.iconst X269.here hx rfl (hb hby own_b8_d148) k_) ?_
                  refine own_retN X269 hx (t := .boolean) Bd.returns (by simp) hlk (hb hby own_b8_d149) (z' := (1 : Int32)) (by first | rfl | exact own_nb _) (by decide) (by decide) ?_
                  show Q8 Z a x k y h0 n0 _ T269.heap _
                  rw [e269]
                  have u272 := Fw223.other W253 (Or.inr (slot_ne (Or.inl (hw _ (List.mem_of_getElem? (i := 26) rfl))) (Or.inl (hw _ (List.mem_of_getElem? (i := 12) rfl))) (by decide) (t := .int) (t' := .int) (by decide) (by decide)))
                  have u273 := u272.other W269 (Or.inr (slot_ne (Or.inl (hw _ (List.mem_of_getElem? (i := 26) rfl))) (Or.inl (hw _ (List.mem_of_getElem? (i := 14) rfl))) (by decide) (t := .int) (t' := .int) (by decide) (by decide)))
                  have u274 := Fw253.other W269 (Or.inr (slot_ne (Or.inl (hw _ (List.mem_of_getElem? (i := 12) rfl))) (Or.inl (hw _ (List.mem_of_getElem? (i := 14) rfl))) (by decide) (t := .int) (t' := .int) (by decide) (by decide)))
                  exact Or.inr ⟨3, 128, 191, (own_beg3 (by omega) (if_neg (by omega)) (if_neg (by omega))), rfl, N269, K271, u273, u274, Fw269⟩
        · have hd220 := own_nlt32 hc220
          rw [show (239 : Int32).toInt = 239 from rfl] at hd220
          refine own_st (B := s₁.setTop (mkF m 36 #[.val (.ref a), .val (.int x)] [])) (fun t_ k_ => XS.icmpNo X0.here hx rfl (hb hby own_b8_d33) rfl (flt hc220).2.2.1 k_) ?_
          refine own_st (B := s₁.setTop (mkF m 37 #[.val (.ref a), .val (.int x)] [(.ref a)])) (fun t_ k_ => XS.aloadN X0.here hx rfl (hb hby own_b8_d36) rfl rfl k_) ?_
          refine own_st (B := s₁.setTop (mkF m 38 #[.val (.ref a), .val (.int x)] [(.int (2 : Int32)), (.ref a)])) (fun t_ k_ => XS.iconst X0.here hx rfl (hb hby own_b8_d37) k_) ?_
          obtain ⟨T275, h275, X275, e275, W275, st275⟩ := putF X0 hx hZ hown (host := "") (Or.inl (hw _ (List.mem_of_getElem? (i := 25) rfl))) Via.refl e0 F0 E (Or.inl (hw _ (List.mem_of_getElem? (i := 26) rfl))) (hw _ (List.mem_of_getElem? (i := 3) rfl)) (ty := .int) (by decide) rfl rfl (g := (mkF m 38 #[.val (.ref a), .val (.int x)] [(.int (2 : Int32)), (.ref a)])) rfl rfl (hb hby own_b8_d38)
          have Fw275 := F0.same W275
          have N275 := Fr.snoc X275 N0 ga
          have Z276 := Nat.le_trans Z0 (Keep.of_wr W275).1
          have K277 := K0.wr W275 (Or.inl (List.mem_of_getElem? (i := 0) rfl))
          refine own_st (B := T275.setTop (mkF m 41 #[.val (.ref a), .val (.int x)] [])) st275 ?_
          refine own_st (B := T275.setTop (mkF m 42 #[.val (.ref a), .val (.int x)] [(.ref a)])) (fun t_ k_ => XS.aloadN X275.here hx rfl (hb hby own_b8_d41) rfl rfl k_) ?_
          refine own_st (B := T275.setTop (mkF m 43 #[.val (.ref a), .val (.int x)] [(.int x), (.ref a)])) (fun t_ k_ => XS.iloadN X275.here hx rfl (hb hby own_b8_d42) rfl k_) ?_
          refine own_st (B := T275.setTop (mkF m 46 #[.val (.ref a), .val (.int x)] [(.int (224 : Int32)), (.int x), (.ref a)])) (fun t_ k_ => XS.sipush X275.here hx rfl (hb hby own_b8_d43) k_) ?_
          by_cases hc278 : x = (224 : Int32)
          · have hd278 := own_eq32 hc278
            rw [show (224 : Int32).toInt = 224 from rfl] at hd278
            refine own_st (B := T275.setTop (mkF m 49 #[.val (.ref a), .val (.int x)] [(.ref a)])) (fun t_ k_ => XS.icmpNo X275.here hx rfl (hb hby own_b8_d46) rfl (teq hc278).2 k_) ?_
            refine own_st (B := T275.setTop (mkF m 52 #[.val (.ref a), .val (.int x)] [(.int (160 : Int32)), (.ref a)])) (fun t_ k_ => XS.sipush X275.here hx rfl (hb hby own_b8_d49) k_) ?_
            refine own_st (B := T275.setTop (mkF m 58 #[.val (.ref a), .val (.int x)] [(.int (160 : Int32)), (.ref a)])) (fun t_ k_ => XS.goto X275.here hx rfl (pc0 := 52) (pc' := 58) rfl (hb hby own_b8_d52) (by decide) (by decide) k_) ?_
            have u279 := E.wr W275
            have u280 := F1.other W275 (Or.inr (slot_ne (Or.inl (hw _ (List.mem_of_getElem? (i := 12) rfl))) (Or.inl (hw _ (List.mem_of_getElem? (i := 26) rfl))) (by decide) (t := .int) (t' := .int) (by decide) (by decide)))
            obtain ⟨T281, h281, X281, e281, W281, st281⟩ := putF X275 hx hZ hown (host := "") (Or.inl (hw _ (List.mem_of_getElem? (i := 11) rfl))) Via.refl e275 u280 u279 (Or.inl (hw _ (List.mem_of_getElem? (i := 12) rfl))) (hw _ (List.mem_of_getElem? (i := 3) rfl)) (ty := .int) (by decide) rfl rfl (g := (mkF m 58 #[.val (.ref a), .val (.int x)] [(.int (160 : Int32)), (.ref a)])) rfl rfl (hb hby own_b8_d58)
            have Fw281 := u280.same W281
            have N281 := Fr.snoc X281 N275 ga
            have Z282 := Nat.le_trans Z276 (Keep.of_wr W281).1
            have K283 := K277.wr W281 (Or.inl (List.mem_of_getElem? (i := 0) rfl))
            refine own_st (B := T281.setTop (mkF m 61 #[.val (.ref a), .val (.int x)] [])) st281 ?_
            refine own_st (B := T281.setTop (mkF m 62 #[.val (.ref a), .val (.int x)] [(.ref a)])) (fun t_ k_ => XS.aloadN X281.here hx rfl (hb hby own_b8_d61) rfl rfl k_) ?_
            refine own_st (B := T281.setTop (mkF m 63 #[.val (.ref a), .val (.int x)] [(.int x), (.ref a)])) (fun t_ k_ => XS.iloadN X281.here hx rfl (hb hby own_b8_d62) rfl k_) ?_
            refine own_st (B := T281.setTop (mkF m 66 #[.val (.ref a), .val (.int x)] [(.int (237 : Int32)), (.int x), (.ref a)])) (fun t_ k_ => XS.sipush X281.here hx rfl (hb hby own_b8_d63) k_) ?_
            by_cases hc284 : x = (237 : Int32)
            · have hd284 := own_eq32 hc284
              rw [show (237 : Int32).toInt = 237 from rfl] at hd284
              refine own_st (B := T281.setTop (mkF m 69 #[.val (.ref a), .val (.int x)] [(.ref a)])) (fun t_ k_ => XS.icmpNo X281.here hx rfl (hb hby own_b8_d66) rfl (teq hc284).2 k_) ?_
              refine own_st (B := T281.setTop (mkF m 72 #[.val (.ref a), .val (.int x)] [(.int (159 : Int32)), (.ref a)])) (fun t_ k_ => XS.sipush X281.here hx rfl (hb hby own_b8_d69) k_) ?_
              refine own_st (B := T281.setTop (mkF m 78 #[.val (.ref a), .val (.int x)] [(.int (159 : Int32)), (.ref a)])) (fun t_ k_ => XS.goto X281.here hx rfl (pc0 := 72) (pc' := 78) rfl (hb hby own_b8_d72) (by decide) (by decide) k_) ?_
              have u285 := u279.wr W281
              have u286 := F2.other W275 (Or.inr (slot_ne (Or.inl (hw _ (List.mem_of_getElem? (i := 14) rfl))) (Or.inl (hw _ (List.mem_of_getElem? (i := 26) rfl))) (by decide) (t := .int) (t' := .int) (by decide) (by decide)))
              have u287 := u286.other W281 (Or.inr (slot_ne (Or.inl (hw _ (List.mem_of_getElem? (i := 14) rfl))) (Or.inl (hw _ (List.mem_of_getElem? (i := 12) rfl))) (by decide) (t := .int) (t' := .int) (by decide) (by decide)))
              obtain ⟨T288, h288, X288, e288, W288, st288⟩ := putF X281 hx hZ hown (host := "") (Or.inl (hw _ (List.mem_of_getElem? (i := 13) rfl))) Via.refl e281 u287 u285 (Or.inl (hw _ (List.mem_of_getElem? (i := 14) rfl))) (hw _ (List.mem_of_getElem? (i := 3) rfl)) (ty := .int) (by decide) rfl rfl (g := (mkF m 78 #[.val (.ref a), .val (.int x)] [(.int (159 : Int32)), (.ref a)])) rfl rfl (hb hby own_b8_d78)
              have Fw288 := u287.same W288
              have N288 := Fr.snoc X288 N281 ga
              have Z289 := Nat.le_trans Z282 (Keep.of_wr W288).1
              have K290 := K283.wr W288 (Or.inl (List.mem_of_getElem? (i := 0) rfl))
              refine own_st (B := T288.setTop (mkF m 81 #[.val (.ref a), .val (.int x)] [])) st288 ?_
              refine own_st (B := T288.setTop (mkF m 148 #[.val (.ref a), .val (.int x)] [])) (fun t_ k_ => XS.goto X288.here hx rfl (pc0 := 81) (pc' := 148) rfl (hb hby own_b8_d81) (by decide) (by decide) k_) ?_
              refine own_st (B := T288.setTop (mkF m 149 #[.val (.ref a), .val (.int x)] [(.int (1 : Int32))])) (fun t_ k_ => XS.iconst X288.here hx rfl (hb hby own_b8_d148) k_) ?_
              refine own_retN X288 hx (t := .boolean) Bd.returns (by simp) hlk (hb hby own_b8_d149) (z' := (1 : Int32)) (by first | rfl | exact own_nb _) (by decide) (by decide) ?_
              show Q8 Z a x k y h0 n0 _ T288.heap _
              rw [e288]
              have u291 := Fw275.other W281 (Or.inr (slot_ne (Or.inl (hw _ (List.mem_of_getElem? (i := 26) rfl))) (Or.inl (hw _ (List.mem_of_getElem? (i := 12) rfl))) (by decide) (t := .int) (t' := .int) (by decide) (by decide)))
              have u292 := u291.other W288 (Or.inr (slot_ne (Or.inl (hw _ (List.mem_of_getElem? (i := 26) rfl))) (Or.inl (hw _ (List.mem_of_getElem? (i := 14) rfl))) (by decide) (t := .int) (t' := .int) (by decide) (by decide)))
              have u293 := Fw281.other W288 (Or.inr (slot_ne (Or.inl (hw _ (List.mem_of_getElem? (i := 12) rfl))) (Or.inl (hw _ (List.mem_of_getElem? (i := 14) rfl))) (by decide) (t := .int) (t' := .int) (by decide) (by decide)))
              exact Or.inr ⟨2, 160, 159, (own_beg2 (by omega) (if_pos (by omega)) (if_pos (by omega))), rfl, N288, K290, u292, u293, Fw288⟩
            · have hd284 := own_neq32 hc284
              rw [show (237 : Int32).toInt = 237 from rfl] at hd284
              refine own_st (B := T281.setTop (mkF m 75 #[.val (.ref a), .val (.int x)] [(.ref a)])) (fun t_ k_ => XS.icmpYes X281.here hx rfl (pc0 := 66) (pc' := 75) rfl (hb hby own_b8_d66) rfl (feq hc284).2 (by decide) (by decide) k_) ?_
              refine own_st (B := T281.setTop (mkF m 78 #[.val (.ref a), .val (.int x)] [(.int (191 : Int32)), (.ref a)])) (fun t_ k_ => XS.sipush X281.here hx rfl (hb hby own_b8_d75) k_) ?_
              have u294 := u279.wr W281
              have u295 := F2.other W275 (Or.inr (slot_ne (Or.inl (hw _ (List.mem_of_getElem? (i := 14) rfl))) (Or.inl (hw _ (List.mem_of_getElem? (i := 26) rfl))) (by decide) (t := .int) (t' := .int) (by decide) (by decide)))
              have u296 := u295.other W281 (Or.inr (slot_ne (Or.inl (hw _ (List.mem_of_getElem? (i := 14) rfl))) (Or.inl (hw _ (List.mem_of_getElem? (i := 12) rfl))) (by decide) (t := .int) (t' := .int) (by decide) (by decide)))
              obtain ⟨T297, h297, X297, e297, W297, st297⟩ := putF X281 hx hZ hown (host := "") (Or.inl (hw _ (List.mem_of_getElem? (i := 13) rfl))) Via.refl e281 u296 u294 (Or.inl (hw _ (List.mem_of_getElem? (i := 14) rfl))) (hw _ (List.mem_of_getElem? (i := 3) rfl)) (ty := .int) (by decide) rfl rfl (g := (mkF m 78 #[.val (.ref a), .val (.int x)] [(.int (191 : Int32)), (.ref a)])) rfl rfl (hb hby own_b8_d78)
              have Fw297 := u296.same W297
              have N297 := Fr.snoc X297 N281 ga
              have Z298 := Nat.le_trans Z282 (Keep.of_wr W297).1
              have K299 := K283.wr W297 (Or.inl (List.mem_of_getElem? (i := 0) rfl))
              refine own_st (B := T297.setTop (mkF m 81 #[.val (.ref a), .val (.int x)] [])) st297 ?_
              refine own_st (B := T297.setTop (mkF m 148 #[.val (.ref a), .val (.int x)] [])) (fun t_ k_ => XS.goto X297.here hx rfl (pc0 := 81) (pc' := 148) rfl (hb hby own_b8_d81) (by decide) (by decide) k_) ?_
              refine own_st (B := T297.setTop (mkF m 149 #[.val (.ref a), .val (.int x)] [(.int (1 : Int32))])) (fun t_ k_ => XS.iconst X297.here hx rfl (hb hby own_b8_d148) k_) ?_
              refine own_retN X297 hx (t := .boolean) Bd.returns (by simp) hlk (hb hby own_b8_d149) (z' := (1 : Int32)) (by first | rfl | exact own_nb _) (by decide) (by decide) ?_
              show Q8 Z a x k y h0 n0 _ T297.heap _
              rw [e297]
              have u300 := Fw275.other W281 (Or.inr (slot_ne (Or.inl (hw _ (List.mem_of_getElem? (i := 26) rfl))) (Or.inl (hw _ (List.mem_of_getElem? (i := 12) rfl))) (by decide) (t := .int) (t' := .int) (by decide) (by decide)))
              have u301 := u300.other W297 (Or.inr (slot_ne (Or.inl (hw _ (List.mem_of_getElem? (i := 26) rfl))) (Or.inl (hw _ (List.mem_of_getElem? (i := 14) rfl))) (by decide) (t := .int) (t' := .int) (by decide) (by decide)))
              have u302 := Fw281.other W297 (Or.inr (slot_ne (Or.inl (hw _ (List.mem_of_getElem? (i := 12) rfl))) (Or.inl (hw _ (List.mem_of_getElem? (i := 14) rfl))) (by decide) (t := .int) (t' := .int) (by decide) (by decide)))
              exact Or.inr ⟨2, 160, 191, (own_beg2 (by omega) (if_pos (by omega)) (if_neg (by omega))), rfl, N297, K299, u301, u302, Fw297⟩
          · have hd278 := own_neq32 hc278
            rw [show (224 : Int32).toInt = 224 from rfl] at hd278
            refine own_st (B := T275.setTop (mkF m 55 #[.val (.ref a), .val (.int x)] [(.ref a)])) (fun t_ k_ => XS.icmpYes X275.here hx rfl (pc0 := 46) (pc' := 55) rfl (hb hby own_b8_d46) rfl (feq hc278).2 (by decide) (by decide) k_) ?_
            refine own_st (B := T275.setTop (mkF m 58 #[.val (.ref a), .val (.int x)] [(.int (128 : Int32)), (.ref a)])) (fun t_ k_ => XS.sipush X275.here hx rfl (hb hby own_b8_d55) k_) ?_
            have u303 := E.wr W275
            have u304 := F1.other W275 (Or.inr (slot_ne (Or.inl (hw _ (List.mem_of_getElem? (i := 12) rfl))) (Or.inl (hw _ (List.mem_of_getElem? (i := 26) rfl))) (by decide) (t := .int) (t' := .int) (by decide) (by decide)))
            obtain ⟨T305, h305, X305, e305, W305, st305⟩ := putF X275 hx hZ hown (host := "") (Or.inl (hw _ (List.mem_of_getElem? (i := 11) rfl))) Via.refl e275 u304 u303 (Or.inl (hw _ (List.mem_of_getElem? (i := 12) rfl))) (hw _ (List.mem_of_getElem? (i := 3) rfl)) (ty := .int) (by decide) rfl rfl (g := (mkF m 58 #[.val (.ref a), .val (.int x)] [(.int (128 : Int32)), (.ref a)])) rfl rfl (hb hby own_b8_d58)
            have Fw305 := u304.same W305
            have N305 := Fr.snoc X305 N275 ga
            have Z306 := Nat.le_trans Z276 (Keep.of_wr W305).1
            have K307 := K277.wr W305 (Or.inl (List.mem_of_getElem? (i := 0) rfl))
            refine own_st (B := T305.setTop (mkF m 61 #[.val (.ref a), .val (.int x)] [])) st305 ?_
            refine own_st (B := T305.setTop (mkF m 62 #[.val (.ref a), .val (.int x)] [(.ref a)])) (fun t_ k_ => XS.aloadN X305.here hx rfl (hb hby own_b8_d61) rfl rfl k_) ?_
            refine own_st (B := T305.setTop (mkF m 63 #[.val (.ref a), .val (.int x)] [(.int x), (.ref a)])) (fun t_ k_ => XS.iloadN X305.here hx rfl (hb hby own_b8_d62) rfl k_) ?_
            refine own_st (B := T305.setTop (mkF m 66 #[.val (.ref a), .val (.int x)] [(.int (237 : Int32)), (.int x), (.ref a)])) (fun t_ k_ => XS.sipush X305.here hx rfl (hb hby own_b8_d63) k_) ?_
            by_cases hc308 : x = (237 : Int32)
            · have hd308 := own_eq32 hc308
              rw [show (237 : Int32).toInt = 237 from rfl] at hd308
              refine own_st (B := T305.setTop (mkF m 69 #[.val (.ref a), .val (.int x)] [(.ref a)])) (fun t_ k_ => XS.icmpNo X305.here hx rfl (hb hby own_b8_d66) rfl (teq hc308).2 k_) ?_
              refine own_st (B := T305.setTop (mkF m 72 #[.val (.ref a), .val (.int x)] [(.int (159 : Int32)), (.ref a)])) (fun t_ k_ => XS.sipush X305.here hx rfl (hb hby own_b8_d69) k_) ?_
              refine own_st (B := T305.setTop (mkF m 78 #[.val (.ref a), .val (.int x)] [(.int (159 : Int32)), (.ref a)])) (fun t_ k_ => XS.goto X305.here hx rfl (pc0 := 72) (pc' := 78) rfl (hb hby own_b8_d72) (by decide) (by decide) k_) ?_
              have u309 := u303.wr W305
              have u310 := F2.other W275 (Or.inr (slot_ne (Or.inl (hw _ (List.mem_of_getElem? (i := 14) rfl))) (Or.inl (hw _ (List.mem_of_getElem? (i := 26) rfl))) (by decide) (t := .int) (t' := .int) (by decide) (by decide)))
              have u311 := u310.other W305 (Or.inr (slot_ne (Or.inl (hw _ (List.mem_of_getElem? (i := 14) rfl))) (Or.inl (hw _ (List.mem_of_getElem? (i := 12) rfl))) (by decide) (t := .int) (t' := .int) (by decide) (by decide)))
              obtain ⟨T312, h312, X312, e312, W312, st312⟩ := putF X305 hx hZ hown (host := "") (Or.inl (hw _ (List.mem_of_getElem? (i := 13) rfl))) Via.refl e305 u311 u309 (Or.inl (hw _ (List.mem_of_getElem? (i := 14) rfl))) (hw _ (List.mem_of_getElem? (i := 3) rfl)) (ty := .int) (by decide) rfl rfl (g := (mkF m 78 #[.val (.ref a), .val (.int x)] [(.int (159 : Int32)), (.ref a)])) rfl rfl (hb hby own_b8_d78)
              have Fw312 := u311.same W312
              have N312 := Fr.snoc X312 N305 ga
              have Z313 := Nat.le_trans Z306 (Keep.of_wr W312).1
              have K314 := K307.wr W312 (Or.inl (List.mem_of_getElem? (i := 0) rfl))
              refine own_st (B := T312.setTop (mkF m 81 #[.val (.ref a), .val (.int x)] [])) st312 ?_
              refine own_st (B := T312.setTop (mkF m 148 #[.val (.ref a), .val (.int x)] [])) (fun t_ k_ => XS.goto X312.here hx rfl (pc0 := 81) (pc' := 148) rfl (hb hby own_b8_d81) (by decide) (by decide) k_) ?_
              refine own_st (B := T312.setTop (mkF m 149 #[.val (.ref a), .val (.int x)] [(.int (1 : Int32))])) (fun t_ k_ => XS.iconst X312.here hx rfl (hb hby own_b8_d148) k_) ?_
              refine own_retN X312 hx (t := .boolean) Bd.returns (by simp) hlk (hb hby own_b8_d149) (z' := (1 : Int32)) (by first | rfl | exact own_nb _) (by decide) (by decide) ?_
              show Q8 Z a x k y h0 n0 _ T312.heap _
              rw [e312]
              have u315 := Fw275.other W305 (Or.inr (slot_ne (Or.inl (hw _ (List.mem_of_getElem? (i := 26) rfl))) (Or.inl (hw _ (List.mem_of_getElem? (i := 12) rfl))) (by decide) (t := .int) (t' := .int) (by decide) (by decide)))
              have u316 := u315.other W312 (Or.inr (slot_ne (Or.inl (hw _ (List.mem_of_getElem? (i := 26) rfl))) (Or.inl (hw _ (List.mem_of_getElem? (i := 14) rfl))) (by decide) (t := .int) (t' := .int) (by decide) (by decide)))
              have u317 := Fw305.other W312 (Or.inr (slot_ne (Or.inl (hw _ (List.mem_of_getElem? (i := 12) rfl))) (Or.inl (hw _ (List.mem_of_getElem? (i := 14) rfl))) (by decide) (t := .int) (t' := .int) (by decide) (by decide)))
              exact Or.inr ⟨2, 128, 159, (own_beg2 (by omega) (if_neg (by omega)) (if_pos (by omega))), rfl, N312, K314, u316, u317, Fw312⟩
            · have hd308 := own_neq32 hc308
              rw [show (237 : Int32).toInt = 237 from rfl] at hd308
              refine own_st (B := T305.setTop (mkF m 75 #[.val (.ref a), .val (.int x)] [(.ref a)])) (fun t_ k_ => XS.icmpYes X305.here hx rfl (pc0 := 66) (pc' := 75) rfl (hb hby own_b8_d66) rfl (feq hc308).2 (by decide) (by decide) k_) ?_
              refine own_st (B := T305.setTop (mkF m 78 #[.val (.ref a), .val (.int x)] [(.int (191 : Int32)), (.ref a)])) (fun t_ k_ => XS.sipush X305.here hx rfl (hb hby own_b8_d75) k_) ?_
              have u318 := u303.wr W305
              have u319 := F2.other W275 (Or.inr (slot_ne (Or.inl (hw _ (List.mem_of_getElem? (i := 14) rfl))) (Or.inl (hw _ (List.mem_of_getElem? (i := 26) rfl))) (by decide) (t := .int) (t' := .int) (by decide) (by decide)))
              have u320 := u319.other W305 (Or.inr (slot_ne (Or.inl (hw _ (List.mem_of_getElem? (i := 14) rfl))) (Or.inl (hw _ (List.mem_of_getElem? (i := 12) rfl))) (by decide) (t := .int) (t' := .int) (by decide) (by decide)))
              obtain ⟨T321, h321, X321, e321, W321, st321⟩ := putF X305 hx hZ hown (host := "") (Or.inl (hw _ (List.mem_of_getElem? (i := 13) rfl))) Via.refl e305 u320 u318 (Or.inl (hw _ (List.mem_of_getElem? (i := 14) rfl))) (hw _ (List.mem_of_getElem? (i := 3) rfl)) (ty := .int) (by decide) rfl rfl (g := (mkF m 78 #[.val (.ref a), .val (.int x)] [(.int (191 : Int32)), (.ref a)])) rfl rfl (hb hby own_b8_d78)
              have Fw321 := u320.same W321
              have N321 := Fr.snoc X321 N305 ga
              have Z322 := Nat.le_trans Z306 (Keep.of_wr W321).1
              have K323 := K307.wr W321 (Or.inl (List.mem_of_getElem? (i := 0) rfl))
              refine own_st (B := T321.setTop (mkF m 81 #[.val (.ref a), .val (.int x)] [])) st321 ?_
              refine own_st (B := T321.setTop (mkF m 148 #[.val (.ref a), .val (.int x)] [])) (fun t_ k_ => XS.goto X321.here hx rfl (pc0 := 81) (pc' := 148) rfl (hb hby own_b8_d81) (by decide) (by decide) k_) ?_
              refine own_st (B := T321.setTop (mkF m 149 #[.val (.ref a), .val (.int x)] [(.int (1 : Int32))])) (fun t_ k_ => XS.iconst X321.here hx rfl (hb hby own_b8_d148) k_) ?_
              refine own_retN X321 hx (t := .boolean) Bd.returns (by simp) hlk (hb hby own_b8_d149) (z' := (1 : Int32)) (by first | rfl | exact own_nb _) (by decide) (by decide) ?_
              show Q8 Z a x k y h0 n0 _ T321.heap _
              rw [e321]
              have u324 := Fw275.other W305 (Or.inr (slot_ne (Or.inl (hw _ (List.mem_of_getElem? (i := 26) rfl))) (Or.inl (hw _ (List.mem_of_getElem? (i := 12) rfl))) (by decide) (t := .int) (t' := .int) (by decide) (by decide)))
              have u325 := u324.other W321 (Or.inr (slot_ne (Or.inl (hw _ (List.mem_of_getElem? (i := 26) rfl))) (Or.inl (hw _ (List.mem_of_getElem? (i := 14) rfl))) (by decide) (t := .int) (t' := .int) (by decide) (by decide)))
              have u326 := Fw305.other W321 (Or.inr (slot_ne (Or.inl (hw _ (List.mem_of_getElem? (i := 12) rfl))) (Or.inl (hw _ (List.mem_of_getElem? (i := 14) rfl))) (by decide) (t := .int) (t' := .int) (by decide) (by decide)))
              exact Or.inr ⟨2, 128, 191, (own_beg2 (by omega) (if_neg (by omega)) (if_neg (by omega))), rfl, N321, K323, u325, u326, Fw321⟩
    · have hd164 := own_nlt32 hc164
      rw [show (223 : Int32).toInt = 223 from rfl] at hd164
      refine own_st (B := s₁.setTop (mkF m 14 #[.val (.ref a), .val (.int x)] [])) (fun t_ k_ => XS.icmpNo X0.here hx rfl (hb hby own_b8_d11) rfl (flt hc164).2.2.1 k_) ?_
      refine own_st (B := s₁.setTop (mkF m 15 #[.val (.ref a), .val (.int x)] [(.ref a)])) (fun t_ k_ => XS.aloadN X0.here hx rfl (hb hby own_b8_d14) rfl rfl k_) ?_
      refine own_st (B := s₁.setTop (mkF m 16 #[.val (.ref a), .val (.int x)] [(.int (1 : Int32)), (.ref a)])) (fun t_ k_ => XS.iconst X0.here hx rfl (hb hby own_b8_d15) k_) ?_
      obtain ⟨T327, h327, X327, e327, W327, st327⟩ := putF X0 hx hZ hown (host := "") (Or.inl (hw _ (List.mem_of_getElem? (i := 25) rfl))) Via.refl e0 F0 E (Or.inl (hw _ (List.mem_of_getElem? (i := 26) rfl))) (hw _ (List.mem_of_getElem? (i := 3) rfl)) (ty := .int) (by decide) rfl rfl (g := (mkF m 16 #[.val (.ref a), .val (.int x)] [(.int (1 : Int32)), (.ref a)])) rfl rfl (hb hby own_b8_d16)
      have Fw327 := F0.same W327
      have N327 := Fr.snoc X327 N0 ga
      have Z328 := Nat.le_trans Z0 (Keep.of_wr W327).1
      have K329 := K0.wr W327 (Or.inl (List.mem_of_getElem? (i := 0) rfl))
      refine own_st (B := T327.setTop (mkF m 19 #[.val (.ref a), .val (.int x)] [])) st327 ?_
      refine own_st (B := T327.setTop (mkF m 148 #[.val (.ref a), .val (.int x)] [])) (fun t_ k_ => XS.goto X327.here hx rfl (pc0 := 19) (pc' := 148) rfl (hb hby own_b8_d19) (by decide) (by decide) k_) ?_
      refine own_st (B := T327.setTop (mkF m 149 #[.val (.ref a), .val (.int x)] [(.int (1 : Int32))])) (fun t_ k_ => XS.iconst X327.here hx rfl (hb hby own_b8_d148) k_) ?_
      refine own_retN X327 hx (t := .boolean) Bd.returns (by simp) hlk (hb hby own_b8_d149) (z' := (1 : Int32)) (by first | rfl | exact own_nb _) (by decide) (by decide) ?_
      show Q8 Z a x k y h0 n0 _ T327.heap _
      rw [e327]
      have u330 := F1.other W327 (Or.inr (slot_ne (Or.inl (hw _ (List.mem_of_getElem? (i := 12) rfl))) (Or.inl (hw _ (List.mem_of_getElem? (i := 26) rfl))) (by decide) (t := .int) (t' := .int) (by decide) (by decide)))
      have u331 := F2.other W327 (Or.inr (slot_ne (Or.inl (hw _ (List.mem_of_getElem? (i := 14) rfl))) (Or.inl (hw _ (List.mem_of_getElem? (i := 26) rfl))) (by decide) (t := .int) (t' := .int) (by decide) (by decide)))
      exact Or.inr ⟨1, 128, 191, (own_beg1 (by omega)), rfl, N327, K329, Fw327, u330, u331⟩
theorem own_pd0 : parseMethodDescriptor "(I)Z" = some ⟨[.int], some .boolean⟩ := by decide +kernel
theorem own_b3_d0 : decode prog_31_method_2_code 0 = .ok (.iload_n 2, 1) := by decide +kernel
theorem own_b3_d1 : decode prog_31_method_2_code 1 = .ok (.istore 4, 2) := by decide +kernel
theorem own_b3_d3 : decode prog_31_method_2_code 3 = .ok (.iload_n 2, 1) := by decide +kernel
theorem own_b3_d4 : decode prog_31_method_2_code 4 = .ok (.istore 5, 2) := by decide +kernel
theorem own_b3_d6 : decode prog_31_method_2_code 6 = .ok (.iload 5, 2) := by decide +kernel
theorem own_b3_d8 : decode prog_31_method_2_code 8 = .ok (.iload_n 3, 1) := by decide +kernel
theorem own_b3_d9 : decode prog_31_method_2_code 9 = .ok (.if_icmp .ge 107, 3) := by decide +kernel
theorem own_b3_d12 : decode prog_31_method_2_code 12 = .ok (.aload_n 1, 1) := by decide +kernel
theorem own_b3_d13 : decode prog_31_method_2_code 13 = .ok (.iload 5, 2) := by decide +kernel
theorem own_b3_d15 : decode prog_31_method_2_code 15 = .ok (.baload, 1) := by decide +kernel
theorem own_b3_d16 : decode prog_31_method_2_code 16 = .ok (.sipush 255, 3) := by decide +kernel
theorem own_b3_d19 : decode prog_31_method_2_code 19 = .ok (.iand, 1) := by decide +kernel
theorem own_b3_d20 : decode prog_31_method_2_code 20 = .ok (.istore 6, 2) := by decide +kernel
theorem own_b3_d22 : decode prog_31_method_2_code 22 = .ok (.aload_n 0, 1) := by decide +kernel
theorem own_b3_d23 : decode prog_31_method_2_code 23 = .ok (.getfield 16, 3) := by decide +kernel
theorem own_b3_d26 : decode prog_31_method_2_code 26 = .ok (.ifCond .le 51, 3) := by decide +kernel
theorem own_b3_d29 : decode prog_31_method_2_code 29 = .ok (.iload 6, 2) := by decide +kernel
theorem own_b3_d31 : decode prog_31_method_2_code 31 = .ok (.aload_n 0, 1) := by decide +kernel
theorem own_b3_d32 : decode prog_31_method_2_code 32 = .ok (.getfield 9, 3) := by decide +kernel
theorem own_b3_d35 : decode prog_31_method_2_code 35 = .ok (.if_icmp .lt 12, 3) := by decide +kernel
theorem own_b3_d38 : decode prog_31_method_2_code 38 = .ok (.iload 6, 2) := by decide +kernel
theorem own_b3_d40 : decode prog_31_method_2_code 40 = .ok (.aload_n 0, 1) := by decide +kernel
theorem own_b3_d41 : decode prog_31_method_2_code 41 = .ok (.getfield 13, 3) := by decide +kernel
theorem own_b3_d44 : decode prog_31_method_2_code 44 = .ok (.if_icmp .le 6, 3) := by decide +kernel
theorem own_b3_d47 : decode prog_31_method_2_code 47 = .ok (.iload 4, 2) := by decide +kernel
theorem own_b3_d49 : decode prog_31_method_2_code 49 = .ok (.ireturn, 1) := by decide +kernel
theorem own_b3_d50 : decode prog_31_method_2_code 50 = .ok (.aload_n 0, 1) := by decide +kernel
theorem own_b3_d51 : decode prog_31_method_2_code 51 = .ok (.sipush 128, 3) := by decide +kernel
theorem own_b3_d54 : decode prog_31_method_2_code 54 = .ok (.putfield 9, 3) := by decide +kernel
theorem own_b3_d57 : decode prog_31_method_2_code 57 = .ok (.aload_n 0, 1) := by decide +kernel
theorem own_b3_d58 : decode prog_31_method_2_code 58 = .ok (.sipush 191, 3) := by decide +kernel
theorem own_b3_d61 : decode prog_31_method_2_code 61 = .ok (.putfield 13, 3) := by decide +kernel
theorem own_b3_d64 : decode prog_31_method_2_code 64 = .ok (.aload_n 0, 1) := by decide +kernel
theorem own_b3_d65 : decode prog_31_method_2_code 65 = .ok (.dup, 1) := by decide +kernel
theorem own_b3_d66 : decode prog_31_method_2_code 66 = .ok (.getfield 16, 3) := by decide +kernel
theorem own_b3_d69 : decode prog_31_method_2_code 69 = .ok (.iconst 1, 1) := by decide +kernel
theorem own_b3_d70 : decode prog_31_method_2_code 70 = .ok (.isub, 1) := by decide +kernel
theorem own_b3_d71 : decode prog_31_method_2_code 71 = .ok (.putfield 16, 3) := by decide +kernel
theorem own_b3_d74 : decode prog_31_method_2_code 74 = .ok (.goto 23, 3) := by decide +kernel
theorem own_b3_d77 : decode prog_31_method_2_code 77 = .ok (.iload 6, 2) := by decide +kernel
theorem own_b3_d79 : decode prog_31_method_2_code 79 = .ok (.sipush 128, 3) := by decide +kernel
theorem own_b3_d82 : decode prog_31_method_2_code 82 = .ok (.if_icmp .lt 15, 3) := by decide +kernel
theorem own_b3_d85 : decode prog_31_method_2_code 85 = .ok (.aload_n 0, 1) := by decide +kernel
theorem own_b3_d86 : decode prog_31_method_2_code 86 = .ok (.iload 6, 2) := by decide +kernel
theorem own_b3_d88 : decode prog_31_method_2_code 88 = .ok (.invokevirtual 19, 3) := by decide +kernel
theorem own_b3_d91 : decode prog_31_method_2_code 91 = .ok (.ifCond .ne 6, 3) := by decide +kernel
theorem own_b3_d94 : decode prog_31_method_2_code 94 = .ok (.iload 4, 2) := by decide +kernel
theorem own_b3_d96 : decode prog_31_method_2_code 96 = .ok (.ireturn, 1) := by decide +kernel
theorem own_b3_d97 : decode prog_31_method_2_code 97 = .ok (.aload_n 0, 1) := by decide +kernel
theorem own_b3_d98 : decode prog_31_method_2_code 98 = .ok (.getfield 16, 3) := by decide +kernel
theorem own_b3_d101 : decode prog_31_method_2_code 101 = .ok (.ifCond .ne 9, 3) := by decide +kernel
theorem own_b3_d104 : decode prog_31_method_2_code 104 = .ok (.iload 5, 2) := by decide +kernel
theorem own_b3_d106 : decode prog_31_method_2_code 106 = .ok (.iconst 1, 1) := by decide +kernel
theorem own_b3_d107 : decode prog_31_method_2_code 107 = .ok (.iadd, 1) := by decide +kernel
theorem own_b3_d108 : decode prog_31_method_2_code 108 = .ok (.istore 4, 2) := by decide +kernel
theorem own_b3_d110 : decode prog_31_method_2_code 110 = .ok (.iinc 5 1, 3) := by decide +kernel
theorem own_b3_d113 : decode prog_31_method_2_code 113 = .ok (.goto (-107), 3) := by decide +kernel
theorem own_b3_d116 : decode prog_31_method_2_code 116 = .ok (.iload_n 3, 1) := by decide +kernel
theorem own_b3_d117 : decode prog_31_method_2_code 117 = .ok (.ireturn, 1) := by decide +kernel
theorem own_ef_rm3 (m : MethodId) (x0 : Addr) (x1 : Addr) (x2 : Int32) (x3 : Int32) : entryFrame m #[(.ref x0), (.ref x1), (.int x2), (.int x3)] 7 = mkF m 0 #[.val (.ref x0), .val (.ref x1), .val (.int x2), .val (.int x3), .unset, .unset, .unset] [] := by first | (simp [entryFrame, mkF, argsToLocals, Value.category]; done) | rfl
def Q3 (Z : State) (a : Addr) (d : Addr) (x2 : Int32) (x3 : Int32) (ka : Nat) (kt : Nat) (n : Nat) (f : Nat → Int32) (nd : Nat) (lo : Nat) (hi : Nat) (h0 : Heap) (n0 : Nat) (v : Option Value) (h : Heap) (L : List Loc) : Prop := (∃ (sq : Nat) (y : Int32), own_run (own_by f) (kt - ka) ka (nd, lo, hi) ka = .inl sq ∧ v = some (.int y) ∧ own_ix y sq ∧ Fr n0 L ∧ Keep h0 h [a]) ∨ ∃ nd' lo' hi' : Nat, own_run (own_by f) (kt - ka) ka (nd, lo, hi) ka = .inr (nd', lo', hi') ∧ own_ok (nd', lo', hi') ∧ v = some (.int x3) ∧ Fr n0 L ∧ Keep h0 h [a] ∧ Fld Z h a "com/example/mapwright/mapwright/Utf8Check" "needed" "I" (.int (Int32.ofNat nd')) ∧ Fld Z h a "com/example/mapwright/mapwright/Utf8Check" "least" "I" (.int (Int32.ofNat lo')) ∧ Fld Z h a "com/example/mapwright/mapwright/Utf8Check" "greatest" "I" (.int (Int32.ofNat hi'))
set_option maxRecDepth 65536 in
set_option maxHeartbeats 40000000 in
theorem rm3 (l : Launch) (Z : State) (a0 : Array Value) (hw : ∀ d ∈ tables_1, d.before a0 Z = true) (ws : List Jvm.Cond) (a : Addr) (d : Addr) (x2 : Int32) (x3 : Int32) (ka : Nat) (kt : Nat) (n : Nat) (f : Nat → Int32) (nd : Nat) (lo : Nat) (hi : Nat) (h0 : Heap) (n0 : Nat) (Z0 : n0 ≤ h0.size) (E : Exa Z h0 a "com/example/mapwright/mapwright/Utf8Check") (F0 : Fld Z h0 a "com/example/mapwright/mapwright/Utf8Check" "needed" "I" (.int (Int32.ofNat nd))) (F1 : Fld Z h0 a "com/example/mapwright/mapwright/Utf8Check" "least" "I" (.int (Int32.ofNat lo))) (F2 : Fld Z h0 a "com/example/mapwright/mapwright/Utf8Check" "greatest" "I" (.int (Int32.ofNat hi))) (A : own_A Z h0 d .byte n f) (ga : n0 ≤ a) (hne : a ≠ d) (hk : own_ix x2 ka) (ht : own_ix x3 kt) (hl : ka ≤ kt) (hn : kt ≤ n) (hs : n < 100) (hst : own_ok (nd, lo, hi)) :
    MetFree l (⟨"com/example/mapwright/mapwright/Utf8Check", "check", "([BII)I"⟩ : MethodName) (head1 (Jvm.Cond.code (⟨"com/example/mapwright/mapwright/Utf8Check", "check", "([BII)I"⟩ : MethodName) prog_31_method_2_code 7 (some .int) :: ws) ({ frames := 1, cells := 0, slots := 0, locals := 13 } : Room)) (fun aa_ U_ => aa_ = #[(.ref a), (.ref d), (.int x2), (.int x3)] ∧ Z.Warmed39 U_.vm ∧ U_.heap = h0) (fun _ _ _ _ _ => True) (fun _ U_ o_ U1_ => ∃ v_ L_, o_ = .returned v_ ∧ Q3 Z a d x2 x3 ka kt n f nd lo hi h0 n0 v_ U1_.heap L_ ∧ FrameEnd U_ o_ U1_ L_ ({ frames := 1, cells := 0, slots := 0, locals := 13 } : Room).cells ({ frames := 1, cells := 0, slots := 0, locals := 13 } : Room).slots) := by
  refine MetFree.of_bodySF (plainFor_of_name own_pn0) hisR ?_
  intro p e s m args below meth c s₁ Bd hml0 hP hK
  obtain ⟨rfl, hZ, hh⟩ := hP
  have hx := Bd.exec
  have hby := Bd.bytes
  have hlk := Bd.notSynchronized
  have hml : c.maxLocals = 7 := hml0
  have hown : s.vm.findClass "com/example/mapwright/mapwright/Utf8Check" = some m.cls := findClass_of_methodNamed Bd.named
  have hnm := (name_of_methodNamed Bd.named Bd.method).1
  have X0 : Stand p l e ({ frames := 1, cells := 0, slots := 0, locals := 13 } : Room) s m #[(.ref a), (.ref d), (.int x2), (.int x3)] below meth c s₁ [] 0 0 := Stand.of_body Bd
  have e0 : s₁.heap = h0 := by rw [← hh, Bd.state]; rfl
  have N0 := Fr.nil n0
  show own_E p e below s (Q3 Z a d x2 x3 ka kt n f nd lo hi h0 n0) ({ frames := 1, cells := 0, slots := 0, locals := 13 } : Room).cells ({ frames := 1, cells := 0, slots := 0, locals := 13 } : Room).slots (s₁.setTop (entryFrame m #[(.ref a), (.ref d), (.int x2), (.int x3)] 7))
  refine own_st (B := s₁.setTop (mkF m 0 #[.val (.ref a), .val (.ref d), .val (.int x2), .val (.int x3), .unset, .unset, .unset] [])) (fun t_ k_ => castTop (own_ef_rm3 m a d x2 x3) k_) ?_
  have K0 : Keep h0 h0 [a] := Keep.refl _ _
  refine own_st (B := s₁.setTop (mkF m 1 #[.val (.ref a), .val (.ref d), .val (.int x2), .val (.int x3), .unset, .unset, .unset] [(.int x2)])) (fun t_ k_ => XS.iloadN X0.here hx rfl (hb hby own_b3_d0) rfl k_) ?_
  refine own_st (B := s₁.setTop (mkF m 3 #[.val (.ref a), .val (.ref d), .val (.int x2), .val (.int x3), .val (.int x2), .unset, .unset] [])) (fun t_ k_ => XS.istore X0.here hx rfl (hb hby own_b3_d1) rfl (l' := #[.val (.ref a), .val (.ref d), .val (.int x2), .val (.int x3), .val (.int x2), .unset, .unset]) rfl k_) ?_
  refine own_st (B := s₁.setTop (mkF m 4 #[.val (.ref a), .val (.ref d), .val (.int x2), .val (.int x3), .val (.int x2), .unset, .unset] [(.int x2)])) (fun t_ k_ => XS.iloadN X0.here hx rfl (hb hby own_b3_d3) rfl k_) ?_
  refine own_st (B := s₁.setTop (mkF m 6 #[.val (.ref a), .val (.ref d), .val (.int x2), .val (.int x3), .val (.int x2), .val (.int x2), .unset] [])) (fun t_ k_ => XS.istore X0.here hx rfl (hb hby own_b3_d4) rfl (l' := #[.val (.ref a), .val (.ref d), .val (.int x2), .val (.int x3), .val (.int x2), .val (.int x2), .unset]) rfl k_) ?_
  have lp1 : ∀ (q : Nat) (Tlp1 : State) (lolp1 : List Loc) (Xlp1 : Stand p l e ({ frames := 1, cells := 0, slots := 0, locals := 13 } : Room) s m #[(.ref a), (.ref d), (.int x2), (.int x3)] below meth c Tlp1 lolp1 0 0) (hlp1 : Heap) (elp1 : Tlp1.heap = hlp1) (Nlp1 : Fr n0 lolp1) (i : Nat) (j : Int32) (sq : Nat) (y : Int32) (r1 : Nat) (r2 : Nat) (r3 : Nat) (s6 : Slot) (EL : Exa Z hlp1 a "com/example/mapwright/mapwright/Utf8Check") (FnL : Fld Z hlp1 a "com/example/mapwright/mapwright/Utf8Check" "needed" "I" (.int (Int32.ofNat r1))) (FlL : Fld Z hlp1 a "com/example/mapwright/mapwright/Utf8Check" "least" "I" (.int (Int32.ofNat r2))) (FgL : Fld Z hlp1 a "com/example/mapwright/mapwright/Utf8Check" "greatest" "I" (.int (Int32.ofNat r3))) (AL : own_A Z hlp1 d .byte n f) (KL : Keep h0 hlp1 [a]) (ZL : n0 ≤ hlp1.size), (q + i = kt) → (own_ix j i) → (own_ix y sq) → (own_ok (r1, r2, r3)) → (own_run (own_by f) q i (r1, r2, r3) sq = own_run (own_by f) (kt - ka) ka (nd, lo, hi) ka) → (s6 = .unset ∨ ∃ w, s6 = .val w ∧ w.category = 1) → own_E p e below s (Q3 Z a d x2 x3 ka kt n f nd lo hi h0 n0) ({ frames := 1, cells := 0, slots := 0, locals := 13 } : Room).cells ({ frames := 1, cells := 0, slots := 0, locals := 13 } : Room).slots (Tlp1.setTop (mkF m 6 #[.val (.ref a), .val (.ref d), .val (.int x2), .val (.int x3), .val (.int y), .val (.int j), s6] [])) := by
    intro q
    induction q using Nat.strongRecOn with
    | _ q ih =>
      intro Tlp1 lolp1 Xlp1 hlp1 elp1 Nlp1 i j sq y r1 r2 r3 s6 EL FnL FlL FgL AL KL ZL hq hj hy hok hrun hs6
      have hji := own_ixI hj; have hti := own_ixI ht
      have hok1 : r1 ≤ 3 := hok.1; have hok2 : 128 ≤ r2 := hok.2.1; have hok3 : r2 ≤ 255 := hok.2.2.1; have hok4 : r3 ≤ 191 := hok.2.2.2.1
      refine own_st (B := Tlp1.setTop (mkF m 8 #[.val (.ref a), .val (.ref d), .val (.int x2), .val (.int x3), .val (.int y), .val (.int j), s6] [(.int j)])) (fun t_ k_ => XS.iload Xlp1.here hx rfl (hb hby own_b3_d6) rfl k_) ?_
      refine own_st (B := Tlp1.setTop (mkF m 9 #[.val (.ref a), .val (.ref d), .val (.int x2), .val (.int x3), .val (.int y), .val (.int j), s6] [(.int x3), (.int j)])) (fun t_ k_ => XS.iloadN Xlp1.here hx rfl (hb hby own_b3_d8) rfl k_) ?_
      by_cases hc2 : j < x3
      · have hd2 := own_lt32 hc2
        refine own_st (B := Tlp1.setTop (mkF m 12 #[.val (.ref a), .val (.ref d), .val (.int x2), .val (.int x3), .val (.int y), .val (.int j), s6] [])) (fun t_ k_ => XS.icmpNo Xlp1.here hx rfl (hb hby own_b3_d9) rfl (tlt hc2).2.1 k_) ?_
        obtain ⟨q', rfl⟩ : ∃ q', q = q' + 1 := ⟨q - 1, by omega⟩
        have hbl := own_byl f i; have hcI := own_byI f i
        have h1I := own_oI (n := r1) (by omega); have h2I := own_oI (n := r2) (by omega); have h3I := own_oI (n := r3) (by omega)
        refine own_st (B := Tlp1.setTop (mkF m 13 #[.val (.ref a), .val (.ref d), .val (.int x2), .val (.int x3), .val (.int y), .val (.int j), s6] [(.ref d)])) (fun t_ k_ => XS.aloadN Xlp1.here hx rfl (hb hby own_b3_d12) rfl rfl k_) ?_
        refine own_st (B := Tlp1.setTop (mkF m 15 #[.val (.ref a), .val (.ref d), .val (.int x2), .val (.int x3), .val (.int y), .val (.int j), s6] [(.int j), (.ref d)])) (fun t_ k_ => XS.iload Xlp1.here hx rfl (hb hby own_b3_d13) rfl k_) ?_
        refine own_st (B := Tlp1.setTop (mkF m 16 #[.val (.ref a), .val (.ref d), .val (.int x2), .val (.int x3), .val (.int y), .val (.int j), s6] [(.int (f i))])) (fun t_ k_ => own_ldB Xlp1 hx hZ elp1 AL (i := i) hj (by omega) (hb hby own_b3_d15) t_ k_) ?_
        refine own_st (B := Tlp1.setTop (mkF m 19 #[.val (.ref a), .val (.ref d), .val (.int x2), .val (.int x3), .val (.int y), .val (.int j), s6] [(.int (255 : Int32)), (.int (f i))])) (fun t_ k_ => XS.sipush Xlp1.here hx rfl (hb hby own_b3_d16) k_) ?_
        refine own_st (B := Tlp1.setTop (mkF m 20 #[.val (.ref a), .val (.ref d), .val (.int x2), .val (.int x3), .val (.int y), .val (.int j), s6] [(.int ((f i) &&& (255 : Int32)))])) (fun t_ k_ => XS.iand Xlp1.here hx rfl (hb hby own_b3_d19) rfl k_) ?_
        refine own_st (B := Tlp1.setTop (mkF m 22 #[.val (.ref a), .val (.ref d), .val (.int x2), .val (.int x3), .val (.int y), .val (.int j), .val (.int ((f i) &&& (255 : Int32)))] [])) (fun t_ k_ => XS.istore Xlp1.here hx rfl (hb hby own_b3_d20) rfl (l' := #[.val (.ref a), .val (.ref d), .val (.int x2), .val (.int x3), .val (.int y), .val (.int j), .val (.int ((f i) &&& (255 : Int32)))]) (own_stV rfl hs6 rfl) k_) ?_
        obtain ⟨cc, hcc⟩ : ∃ z, z = ((f i) &&& (255 : Int32)) := ⟨_, rfl⟩
        rw [← hcc] at hcI ⊢
        refine own_st (B := Tlp1.setTop (mkF m 23 #[.val (.ref a), .val (.ref d), .val (.int x2), .val (.int x3), .val (.int y), .val (.int j), .val (.int cc)] [(.ref a)])) (fun t_ k_ => XS.aloadN Xlp1.here hx rfl (hb hby own_b3_d22) rfl rfl k_) ?_
        obtain ⟨T3, X3, e3, st3⟩ := getF Xlp1 hx hZ hown (host := "") (Or.inl (hw _ (List.mem_of_getElem? (i := 25) rfl))) Via.refl elp1 FnL (g := (mkF m 23 #[.val (.ref a), .val (.ref d), .val (.int x2), .val (.int x3), .val (.int y), .val (.int j), .val (.int cc)] [(.ref a)])) rfl rfl (hb hby own_b3_d23)
        refine own_st (B := T3.setTop (mkF m 26 #[.val (.ref a), .val (.ref d), .val (.int x2), .val (.int x3), .val (.int y), .val (.int j), .val (.int cc)] [(.int (Int32.ofNat r1))])) st3 ?_
        by_cases hc4 : (0 : Int32) < (Int32.ofNat r1)
        · have hd4 := own_lt32 hc4
          rw [show (0 : Int32).toInt = 0 from rfl] at hd4
          refine own_st (B := T3.setTop (mkF m 29 #[.val (.ref a), .val (.ref d), .val (.int x2), .val (.int x3), .val (.int y), .val (.int j), .val (.int cc)] [])) (fun t_ k_ => XS.ifNo X3.here hx rfl (hb hby own_b3_d26) rfl ((if0 _ _).trans (tlt hc4).2.2.2) k_) ?_
          have h01 : 0 < r1 := by omega
          refine own_st (B := T3.setTop (mkF m 31 #[.val (.ref a), .val (.ref d), .val (.int x2), .val (.int x3), .val (.int y), .val (.int j), .val (.int cc)] [(.int cc)])) (fun t_ k_ => XS.iload X3.here hx rfl (hb hby own_b3_d29) rfl k_) ?_
          refine own_st (B := T3.setTop (mkF m 32 #[.val (.ref a), .val (.ref d), .val (.int x2), .val (.int x3), .val (.int y), .val (.int j), .val (.int cc)] [(.ref a), (.int cc)])) (fun t_ k_ => XS.aloadN X3.here hx rfl (hb hby own_b3_d31) rfl rfl k_) ?_
          obtain ⟨T5, X5, e5, st5⟩ := getF X3 hx hZ hown (host := "") (Or.inl (hw _ (List.mem_of_getElem? (i := 11) rfl))) Via.refl e3 FlL (g := (mkF m 32 #[.val (.ref a), .val (.ref d), .val (.int x2), .val (.int x3), .val (.int y), .val (.int j), .val (.int cc)] [(.ref a), (.int cc)])) rfl rfl (hb hby own_b3_d32)
          refine own_st (B := T5.setTop (mkF m 35 #[.val (.ref a), .val (.ref d), .val (.int x2), .val (.int x3), .val (.int y), .val (.int j), .val (.int cc)] [(.int (Int32.ofNat r2)), (.int cc)])) st5 ?_
          by_cases hc6 : cc < (Int32.ofNat r2)
          · have hd6 := own_lt32 hc6
            refine own_st (B := T5.setTop (mkF m 47 #[.val (.ref a), .val (.ref d), .val (.int x2), .val (.int x3), .val (.int y), .val (.int j), .val (.int cc)] [])) (fun t_ k_ => XS.icmpYes X5.here hx rfl (pc0 := 35) (pc' := 47) rfl (hb hby own_b3_d35) rfl (tlt hc6).1 (by decide) (by decide) k_) ?_
            refine own_st (B := T5.setTop (mkF m 49 #[.val (.ref a), .val (.ref d), .val (.int x2), .val (.int x3), .val (.int y), .val (.int j), .val (.int cc)] [(.int y)])) (fun t_ k_ => XS.iload X5.here hx rfl (hb hby own_b3_d47) rfl k_) ?_
            refine own_retI X5 hx Bd.returns hlk (hb hby own_b3_d49) (by decide) (by decide) ?_
            show Q3 Z a d x2 x3 ka kt n f nd lo hi h0 n0 _ T5.heap _
            rw [e5]
            exact Or.inl ⟨sq, y, hrun.symm.trans (own_runN (own_stpX h01 (by omega))), rfl, hy, Nlp1, KL⟩
          · have hd6 := own_nlt32 hc6
            refine own_st (B := T5.setTop (mkF m 38 #[.val (.ref a), .val (.ref d), .val (.int x2), .val (.int x3), .val (.int y), .val (.int j), .val (.int cc)] [])) (fun t_ k_ => XS.icmpNo X5.here hx rfl (hb hby own_b3_d35) rfl (flt hc6).1 k_) ?_
            refine own_st (B := T5.setTop (mkF m 40 #[.val (.ref a), .val (.ref d), .val (.int x2), .val (.int x3), .val (.int y), .val (.int j), .val (.int cc)] [(.int cc)])) (fun t_ k_ => XS.iload X5.here hx rfl (hb hby own_b3_d38) rfl k_) ?_
            refine own_st (B := T5.setTop (mkF m 41 #[.val (.ref a), .val (.ref d), .val (.int x2), .val (.int x3), .val (.int y), .val (.int j), .val (.int cc)] [(.ref a), (.int cc)])) (fun t_ k_ => XS.aloadN X5.here hx rfl (hb hby own_b3_d40) rfl rfl k_) ?_
            obtain ⟨T7, X7, e7, st7⟩ := getF X5 hx hZ hown (host := "") (Or.inl (hw _ (List.mem_of_getElem? (i := 13) rfl))) Via.refl e5 FgL (g := (mkF m 41 #[.val (.ref a), .val (.ref d), .val (.int x2), .val (.int x3), .val (.int y), .val (.int j), .val (.int cc)] [(.ref a), (.int cc)])) rfl rfl (hb hby own_b3_d41)
            refine own_st (B := T7.setTop (mkF m 44 #[.val (.ref a), .val (.ref d), .val (.int x2), .val (.int x3), .val (.int y), .val (.int j), .val (.int cc)] [(.int (Int32.ofNat r3)), (.int cc)])) st7 ?_
            by_cases hc8 : (Int32.ofNat r3) < cc
            · have hd8 := own_lt32 hc8
              refine own_st (B := T7.setTop (mkF m 47 #[.val (.ref a), .val (.ref d), .val (.int x2), .val (.int x3), .val (.int y), .val (.int j), .val (.int cc)] [])) (fun t_ k_ => XS.icmpNo X7.here hx rfl (hb hby own_b3_d44) rfl (tlt hc8).2.2.2 k_) ?_
              refine own_st (B := T7.setTop (mkF m 49 #[.val (.ref a), .val (.ref d), .val (.int x2), .val (.int x3), .val (.int y), .val (.int j), .val (.int cc)] [(.int y)])) (fun t_ k_ => XS.iload X7.here hx rfl (hb hby own_b3_d47) rfl k_) ?_
              refine own_retI X7 hx Bd.returns hlk (hb hby own_b3_d49) (by decide) (by decide) ?_
              show Q3 Z a d x2 x3 ka kt n f nd lo hi h0 n0 _ T7.heap _
              rw [e7]
              exact Or.inl ⟨sq, y, hrun.symm.trans (own_runN (own_stpX h01 (by omega))), rfl, hy, Nlp1, KL⟩
            · have hd8 := own_nlt32 hc8
              refine own_st (B := T7.setTop (mkF m 50 #[.val (.ref a), .val (.ref d), .val (.int x2), .val (.int x3), .val (.int y), .val (.int j), .val (.int cc)] [])) (fun t_ k_ => XS.icmpYes X7.here hx rfl (pc0 := 44) (pc' := 50) rfl (hb hby own_b3_d44) rfl (flt hc8).2.2.2 (by decide) (by decide) k_) ?_
              have hrg : r2 ≤ own_by f i ∧ own_by f i ≤ r3 := by omega
              refine own_st (B := T7.setTop (mkF m 51 #[.val (.ref a), .val (.ref d), .val (.int x2), .val (.int x3), .val (.int y), .val (.int j), .val (.int cc)] [(.ref a)])) (fun t_ k_ => XS.aloadN X7.here hx rfl (hb hby own_b3_d50) rfl rfl k_) ?_
              refine own_st (B := T7.setTop (mkF m 54 #[.val (.ref a), .val (.ref d), .val (.int x2), .val (.int x3), .val (.int y), .val (.int j), .val (.int cc)] [(.int (128 : Int32)), (.ref a)])) (fun t_ k_ => XS.sipush X7.here hx rfl (hb hby own_b3_d51) k_) ?_
              obtain ⟨T9, h9, X9, e9, W9, st9⟩ := putF X7 hx hZ hown (host := "") (Or.inl (hw _ (List.mem_of_getElem? (i := 11) rfl))) Via.refl e7 FlL EL (Or.inl (hw _ (List.mem_of_getElem? (i := 12) rfl))) (hw _ (List.mem_of_getElem? (i := 3) rfl)) (ty := .int) (by decide) rfl rfl (g := (mkF m 54 #[.val (.ref a), .val (.ref d), .val (.int x2), .val (.int x3), .val (.int y), .val (.int j), .val (.int cc)] [(.int (128 : Int32)), (.ref a)])) rfl rfl (hb hby own_b3_d54)
              have Fw9 := FlL.same W9
              have N9 := Fr.snoc X9 Nlp1 ga
              have Z10 := Nat.le_trans ZL (Keep.of_wr W9).1
              have K11 := KL.wr W9 (Or.inl (List.mem_of_getElem? (i := 0) rfl))
              refine own_st (B := T9.setTop (mkF m 57 #[.val (.ref a), .val (.ref d), .val (.int x2), .val (.int x3), .val (.int y), .val (.int j), .val (.int cc)] [])) st9 ?_
              refine own_st (B := T9.setTop (mkF m 58 #[.val (.ref a), .val (.ref d), .val (.int x2), .val (.int x3), .val (.int y), .val (.int j), .val (.int cc)] [(.ref a)])) (fun t_ k_ => XS.aloadN X9.here hx rfl (hb hby own_b3_d57) rfl rfl k_) ?_
              refine own_st (B := T9.setTop (mkF m 61 #[.val (.ref a), .val (.ref d), .val (.int x2), .val (.int x3), .val (.int y), .val (.int j), .val (.int cc)] [(.int (191 : Int32)), (.ref a)])) (fun t_ k_ => XS.sipush X9.here hx rfl (hb hby own_b3_d58) k_) ?_
              have u12 := EL.wr W9
              have u13 := FgL.other W9 (Or.inr (slot_ne (Or.inl (hw _ (List.mem_of_getElem? (i := 14) rfl))) (Or.inl (hw _ (List.mem_of_getElem? (i := 12) rfl))) (by decide) (t := .int) (t' := .int) (by decide) (by decide)))
              obtain ⟨T14, h14, X14, e14, W14, st14⟩ := putF X9 hx hZ hown (host := "") (Or.inl (hw _ (List.mem_of_getElem? (i := 13) rfl))) Via.refl e9 u13 u12 (Or.inl (hw _ (List.mem_of_getElem? (i := 14) rfl))) (hw _ (List.mem_of_getElem? (i := 3) rfl)) (ty := .int) (by decide) rfl rfl (g := (mkF m 61 #[.val (.ref a), .val (.ref d), .val (.int x2), .val (.int x3), .val (.int y), .val (.int j), .val (.int cc)] [(.int (191 : Int32)), (.ref a)])) rfl rfl (hb hby own_b3_d61)
              have Fw14 := u13.same W14
              have N14 := Fr.snoc X14 N9 ga
              have Z15 := Nat.le_trans Z10 (Keep.of_wr W14).1
              have K16 := K11.wr W14 (Or.inl (List.mem_of_getElem? (i := 0) rfl))
              refine own_st (B := T14.setTop (mkF m 64 #[.val (.ref a), .val (.ref d), .val (.int x2), .val (.int x3), .val (.int y), .val (.int j), .val (.int cc)] [])) st14 ?_
              refine own_st (B := T14.setTop (mkF m 65 #[.val (.ref a), .val (.ref d), .val (.int x2), .val (.int x3), .val (.int y), .val (.int j), .val (.int cc)] [(.ref a)])) (fun t_ k_ => XS.aloadN X14.here hx rfl (hb hby own_b3_d64) rfl rfl k_) ?_
              refine own_st (B := T14.setTop (mkF m 66 #[.val (.ref a), .val (.ref d), .val (.int x2), .val (.int x3), .val (.int y), .val (.int j), .val (.int cc)] [(.ref a), (.ref a)])) (fun t_ k_ => XS.dup X14.here hx rfl (hb hby own_b3_d65) rfl rfl k_) ?_
              have u17 := FnL.other W9 (Or.inr (slot_ne (Or.inl (hw _ (List.mem_of_getElem? (i := 26) rfl))) (Or.inl (hw _ (List.mem_of_getElem? (i := 12) rfl))) (by decide) (t := .int) (t' := .int) (by decide) (by decide)))
              have u18 := u17.other W14 (Or.inr (slot_ne (Or.inl (hw _ (List.mem_of_getElem? (i := 26) rfl))) (Or.inl (hw _ (List.mem_of_getElem? (i := 14) rfl))) (by decide) (t := .int) (t' := .int) (by decide) (by decide)))
              obtain ⟨T19, X19, e19, st19⟩ := getF X14 hx hZ hown (host := "") (Or.inl (hw _ (List.mem_of_getElem? (i := 25) rfl))) Via.refl e14 u18 (g := (mkF m 66 #[.val (.ref a), .val (.ref d), .val (.int x2), .val (.int x3), .val (.int y), .val (.int j), .val (.int cc)] [(.ref a), (.ref a)])) rfl rfl (hb hby own_b3_d66)
              refine own_st (B := T19.setTop (mkF m 69 #[.val (.ref a), .val (.ref d), .val (.int x2), .val (.int x3), .val (.int y), .val (.int j), .val (.int cc)] [(.int (Int32.ofNat r1)), (.ref a)])) st19 ?_
              refine own_st (B := T19.setTop (mkF m 70 #[.val (.ref a), .val (.ref d), .val (.int x2), .val (.int x3), .val (.int y), .val (.int j), .val (.int cc)] [(.int (1 : Int32)), (.int (Int32.ofNat r1)), (.ref a)])) (fun t_ k_ => XS.iconst X19.here hx rfl (hb hby own_b3_d69) k_) ?_
              refine own_st (B := T19.setTop (mkF m 71 #[.val (.ref a), .val (.ref d), .val (.int x2), .val (.int x3), .val (.int y), .val (.int j), .val (.int cc)] [(.int ((Int32.ofNat r1) - (1 : Int32))), (.ref a)])) (fun t_ k_ => XS.isub X19.here hx rfl (hb hby own_b3_d70) rfl k_) ?_
              have u20 := u12.wr W14
              obtain ⟨T21, h21, X21, e21, W21, st21⟩ := putF X19 hx hZ hown (host := "") (Or.inl (hw _ (List.mem_of_getElem? (i := 25) rfl))) Via.refl e19 u18 u20 (Or.inl (hw _ (List.mem_of_getElem? (i := 26) rfl))) (hw _ (List.mem_of_getElem? (i := 3) rfl)) (ty := .int) (by decide) rfl rfl (g := (mkF m 71 #[.val (.ref a), .val (.ref d), .val (.int x2), .val (.int x3), .val (.int y), .val (.int j), .val (.int cc)] [(.int ((Int32.ofNat r1) - (1 : Int32))), (.ref a)])) rfl rfl (hb hby own_b3_d71)
              have Fw21 := u18.same W21
              have N21 := Fr.snoc X21 N14 ga
              have Z22 := Nat.le_trans Z15 (Keep.of_wr W21).1
              have K23 := K16.wr W21 (Or.inl (List.mem_of_getElem? (i := 0) rfl))
              refine own_st (B := T21.setTop (mkF m 74 #[.val (.ref a), .val (.ref d), .val (.int x2), .val (.int x3), .val (.int y), .val (.int j), .val (.int cc)] [])) st21 ?_
              rw [own_osub (by omega) h01] at Fw21
              refine own_st (B := T21.setTop (mkF m 97 #[.val (.ref a), .val (.ref d), .val (.int x2), .val (.int x3), .val (.int y), .val (.int j), .val (.int cc)] [])) (fun t_ k_ => XS.goto X21.here hx rfl (pc0 := 74) (pc' := 97) rfl (hb hby own_b3_d74) (by decide) (by decide) k_) ?_
              refine own_st (B := T21.setTop (mkF m 98 #[.val (.ref a), .val (.ref d), .val (.int x2), .val (.int x3), .val (.int y), .val (.int j), .val (.int cc)] [(.ref a)])) (fun t_ k_ => XS.aloadN X21.here hx rfl (hb hby own_b3_d97) rfl rfl k_) ?_
              obtain ⟨T24, X24, e24, st24⟩ := getF X21 hx hZ hown (host := "") (Or.inl (hw _ (List.mem_of_getElem? (i := 25) rfl))) Via.refl e21 Fw21 (g := (mkF m 98 #[.val (.ref a), .val (.ref d), .val (.int x2), .val (.int x3), .val (.int y), .val (.int j), .val (.int cc)] [(.ref a)])) rfl rfl (hb hby own_b3_d98)
              refine own_st (B := T24.setTop (mkF m 101 #[.val (.ref a), .val (.ref d), .val (.int x2), .val (.int x3), .val (.int y), .val (.int j), .val (.int cc)] [(.int (Int32.ofNat (r1 - 1)))])) st24 ?_
              by_cases hc25 : (Int32.ofNat (r1 - 1)) = (0 : Int32)
              · have hd25 := own_eq32 hc25
                rw [show (0 : Int32).toInt = 0 from rfl] at hd25
                refine own_st (B := T24.setTop (mkF m 104 #[.val (.ref a), .val (.ref d), .val (.int x2), .val (.int x3), .val (.int y), .val (.int j), .val (.int cc)] [])) (fun t_ k_ => XS.ifNo X24.here hx rfl (hb hby own_b3_d101) rfl ((if0 _ _).trans (teq hc25).2) k_) ?_
                have hz0 : r1 - 1 = 0 := own_o0 (by omega) hc25
                refine own_st (B := T24.setTop (mkF m 106 #[.val (.ref a), .val (.ref d), .val (.int x2), .val (.int x3), .val (.int y), .val (.int j), .val (.int cc)] [(.int j)])) (fun t_ k_ => XS.iload X24.here hx rfl (hb hby own_b3_d104) rfl k_) ?_
                refine own_st (B := T24.setTop (mkF m 107 #[.val (.ref a), .val (.ref d), .val (.int x2), .val (.int x3), .val (.int y), .val (.int j), .val (.int cc)] [(.int (1 : Int32)), (.int j)])) (fun t_ k_ => XS.iconst X24.here hx rfl (hb hby own_b3_d106) k_) ?_
                refine own_st (B := T24.setTop (mkF m 108 #[.val (.ref a), .val (.ref d), .val (.int x2), .val (.int x3), .val (.int y), .val (.int j), .val (.int cc)] [(.int (j + (1 : Int32)))])) (fun t_ k_ => XS.iadd X24.here hx rfl (hb hby own_b3_d107) rfl k_) ?_
                refine own_st (B := T24.setTop (mkF m 110 #[.val (.ref a), .val (.ref d), .val (.int x2), .val (.int x3), .val (.int (j + (1 : Int32))), .val (.int j), .val (.int cc)] [])) (fun t_ k_ => XS.istore X24.here hx rfl (hb hby own_b3_d108) rfl (l' := #[.val (.ref a), .val (.ref d), .val (.int x2), .val (.int x3), .val (.int (j + (1 : Int32))), .val (.int j), .val (.int cc)]) rfl k_) ?_
                refine own_st (B := T24.setTop (mkF m 113 #[.val (.ref a), .val (.ref d), .val (.int x2), .val (.int x3), .val (.int (j + (1 : Int32))), .val (.int (j + (1 : Int32))), .val (.int cc)] [])) (fun t_ k_ => XS.iinc X24.here hx rfl (hb hby own_b3_d110) rfl (l' := #[.val (.ref a), .val (.ref d), .val (.int x2), .val (.int x3), .val (.int (j + (1 : Int32))), .val (.int (j + (1 : Int32))), .val (.int cc)]) rfl k_) ?_
                refine own_st (B := T24.setTop (mkF m 6 #[.val (.ref a), .val (.ref d), .val (.int x2), .val (.int x3), .val (.int (j + (1 : Int32))), .val (.int (j + (1 : Int32))), .val (.int cc)] [])) (fun t_ k_ => XS.goto X24.here hx rfl (pc0 := 113) (pc' := 6) rfl (hb hby own_b3_d113) (by decide) (by decide) k_) ?_
                have u26 := u20.wr W21
                have u27 := Fw9.other W14 (Or.inr (slot_ne (Or.inl (hw _ (List.mem_of_getElem? (i := 12) rfl))) (Or.inl (hw _ (List.mem_of_getElem? (i := 14) rfl))) (by decide) (t := .int) (t' := .int) (by decide) (by decide)))
                have u28 := u27.other W21 (Or.inr (slot_ne (Or.inl (hw _ (List.mem_of_getElem? (i := 12) rfl))) (Or.inl (hw _ (List.mem_of_getElem? (i := 26) rfl))) (by decide) (t := .int) (t' := .int) (by decide) (by decide)))
                have u29 := Fw14.other W21 (Or.inr (slot_ne (Or.inl (hw _ (List.mem_of_getElem? (i := 14) rfl))) (Or.inl (hw _ (List.mem_of_getElem? (i := 26) rfl))) (by decide) (t := .int) (t' := .int) (by decide) (by decide)))
                have u30 := AL.other W9 (Ne.symm hne)
                have u31 := u30.other W14 (Ne.symm hne)
                have u32 := u31.other W21 (Ne.symm hne)
                exact ih q' (by omega) _ _ X24 _ e24 N21 (i + 1) (j + (1 : Int32)) (i + 1) (j + (1 : Int32)) (r1 - 1) 128 191 (.val (.int cc)) u26 Fw21 u28 u29 u32 K23 Z22 (by omega) (own_ixa hj 1 (by omega)) (own_ixa hj 1 (by omega)) ⟨by show r1 - 1 ≤ 3; omega, Nat.le_refl 128, by show 128 ≤ 255; decide, Nat.le_refl 191, fun _ => ⟨rfl, rfl⟩⟩ ((own_runZ (own_stpY h01 hrg) (by show r1 - 1 = 0; omega)).symm.trans hrun) (Or.inr ⟨_, rfl, rfl⟩)
              · have hd25 := own_neq32 hc25
                rw [show (0 : Int32).toInt = 0 from rfl] at hd25
                refine own_st (B := T24.setTop (mkF m 110 #[.val (.ref a), .val (.ref d), .val (.int x2), .val (.int x3), .val (.int y), .val (.int j), .val (.int cc)] [])) (fun t_ k_ => XS.ifYes X24.here hx rfl (pc0 := 101) (pc' := 110) rfl (hb hby own_b3_d101) rfl ((if0 _ _).trans (feq hc25).2) (by decide) (by decide) k_) ?_
                have hz0 : ¬ r1 - 1 = 0 := fun q1 => hc25 (by rw [q1]; rfl)
                refine own_st (B := T24.setTop (mkF m 113 #[.val (.ref a), .val (.ref d), .val (.int x2), .val (.int x3), .val (.int y), .val (.int (j + (1 : Int32))), .val (.int cc)] [])) (fun t_ k_ => XS.iinc X24.here hx rfl (hb hby own_b3_d110) rfl (l' := #[.val (.ref a), .val (.ref d), .val (.int x2), .val (.int x3), .val (.int y), .val (.int (j + (1 : Int32))), .val (.int cc)]) rfl k_) ?_
                refine own_st (B := T24.setTop (mkF m 6 #[.val (.ref a), .val (.ref d), .val (.int x2), .val (.int x3), .val (.int y), .val (.int (j + (1 : Int32))), .val (.int cc)] [])) (fun t_ k_ => XS.goto X24.here hx rfl (pc0 := 113) (pc' := 6) rfl (hb hby own_b3_d113) (by decide) (by decide) k_) ?_
                have u33 := u20.wr W21
                have u34 := Fw9.other W14 (Or.inr (slot_ne (Or.inl (hw _ (List.mem_of_getElem? (i := 12) rfl))) (Or.inl (hw _ (List.mem_of_getElem? (i := 14) rfl))) (by decide) (t := .int) (t' := .int) (by decide) (by decide)))
                have u35 := u34.other W21 (Or.inr (slot_ne (Or.inl (hw _ (List.mem_of_getElem? (i := 12) rfl))) (Or.inl (hw _ (List.mem_of_getElem? (i := 26) rfl))) (by decide) (t := .int) (t' := .int) (by decide) (by decide)))
                have u36 := Fw14.other W21 (Or.inr (slot_ne (Or.inl (hw _ (List.mem_of_getElem? (i := 14) rfl))) (Or.inl (hw _ (List.mem_of_getElem? (i := 26) rfl))) (by decide) (t := .int) (t' := .int) (by decide) (by decide)))
                have u37 := AL.other W9 (Ne.symm hne)
                have u38 := u37.other W14 (Ne.symm hne)
                have u39 := u38.other W21 (Ne.symm hne)
                exact ih q' (by omega) _ _ X24 _ e24 N21 (i + 1) (j + (1 : Int32)) sq y (r1 - 1) 128 191 (.val (.int cc)) u33 Fw21 u35 u36 u39 K23 Z22 (by omega) (own_ixa hj 1 (by omega)) hy ⟨by show r1 - 1 ≤ 3; omega, Nat.le_refl 128, by show 128 ≤ 255; decide, Nat.le_refl 191, fun _ => ⟨rfl, rfl⟩⟩ ((own_runG (own_stpY h01 hrg) (by show ¬ r1 - 1 = 0; omega)).symm.trans hrun) (Or.inr ⟨_, rfl, rfl⟩)
        · have hd4 := own_nlt32 hc4
          rw [show (0 : Int32).toInt = 0 from rfl] at hd4
          refine own_st (B := T3.setTop (mkF m 77 #[.val (.ref a), .val (.ref d), .val (.int x2), .val (.int x3), .val (.int y), .val (.int j), .val (.int cc)] [])) (fun t_ k_ => XS.ifYes X3.here hx rfl (pc0 := 26) (pc' := 77) rfl (hb hby own_b3_d26) rfl ((if0 _ _).trans (flt hc4).2.2.2) (by decide) (by decide) k_) ?_
          have h01 : ¬ 0 < r1 := by omega
          have hr23 := hok.2.2.2.2 (show r1 = 0 by omega)
          have hr2 : r2 = 128 := hr23.1; have hr3 : r3 = 191 := hr23.2
          refine own_st (B := T3.setTop (mkF m 79 #[.val (.ref a), .val (.ref d), .val (.int x2), .val (.int x3), .val (.int y), .val (.int j), .val (.int cc)] [(.int cc)])) (fun t_ k_ => XS.iload X3.here hx rfl (hb hby own_b3_d77) rfl k_) ?_
          refine own_st (B := T3.setTop (mkF m 82 #[.val (.ref a), .val (.ref d), .val (.int x2), .val (.int x3), .val (.int y), .val (.int j), .val (.int cc)] [(.int (128 : Int32)), (.int cc)])) (fun t_ k_ => XS.sipush X3.here hx rfl (hb hby own_b3_d79) k_) ?_
          by_cases hc40 : cc < (128 : Int32)
          · have hd40 := own_lt32 hc40
            rw [show (128 : Int32).toInt = 128 from rfl] at hd40
            refine own_st (B := T3.setTop (mkF m 97 #[.val (.ref a), .val (.ref d), .val (.int x2), .val (.int x3), .val (.int y), .val (.int j), .val (.int cc)] [])) (fun t_ k_ => XS.icmpYes X3.here hx rfl (pc0 := 82) (pc' := 97) rfl (hb hby own_b3_d82) rfl (tlt hc40).1 (by decide) (by decide) k_) ?_
            have h128 : own_by f i < 128 := by omega
            refine own_st (B := T3.setTop (mkF m 98 #[.val (.ref a), .val (.ref d), .val (.int x2), .val (.int x3), .val (.int y), .val (.int j), .val (.int cc)] [(.ref a)])) (fun t_ k_ => XS.aloadN X3.here hx rfl (hb hby own_b3_d97) rfl rfl k_) ?_
            obtain ⟨T41, X41, e41, st41⟩ := getF X3 hx hZ hown (host := "") (Or.inl (hw _ (List.mem_of_getElem? (i := 25) rfl))) Via.refl e3 FnL (g := (mkF m 98 #[.val (.ref a), .val (.ref d), .val (.int x2), .val (.int x3), .val (.int y), .val (.int j), .val (.int cc)] [(.ref a)])) rfl rfl (hb hby own_b3_d98)
            refine own_st (B := T41.setTop (mkF m 101 #[.val (.ref a), .val (.ref d), .val (.int x2), .val (.int x3), .val (.int y), .val (.int j), .val (.int cc)] [(.int (Int32.ofNat r1))])) st41 ?_
            have hc42 : (Int32.ofNat r1) = (0 : Int32) := by rw [show r1 = 0 by omega]; rfl
            have hd42 := own_eq32 hc42
            rw [show (0 : Int32).toInt = 0 from rfl] at hd42
            refine own_st (B := T41.setTop (mkF m 104 #[.val (.ref a), .val (.ref d), .val (.int x2), .val (.int x3), .val (.int y), .val (.int j), .val (.int cc)] [])) (fun t_ k_ => XS.ifNo X41.here hx rfl (hb hby own_b3_d101) rfl ((if0 _ _).trans (teq hc42).2) k_) ?_
            refine own_st (B := T41.setTop (mkF m 106 #[.val (.ref a), .val (.ref d), .val (.int x2), .val (.int x3), .val (.int y), .val (.int j), .val (.int cc)] [(.int j)])) (fun t_ k_ => XS.iload X41.here hx rfl (hb hby own_b3_d104) rfl k_) ?_
            refine own_st (B := T41.setTop (mkF m 107 #[.val (.ref a), .val (.ref d), .val (.int x2), .val (.int x3), .val (.int y), .val (.int j), .val (.int cc)] [(.int (1 : Int32)), (.int j)])) (fun t_ k_ => XS.iconst X41.here hx rfl (hb hby own_b3_d106) k_) ?_
            refine own_st (B := T41.setTop (mkF m 108 #[.val (.ref a), .val (.ref d), .val (.int x2), .val (.int x3), .val (.int y), .val (.int j), .val (.int cc)] [(.int (j + (1 : Int32)))])) (fun t_ k_ => XS.iadd X41.here hx rfl (hb hby own_b3_d107) rfl k_) ?_
            refine own_st (B := T41.setTop (mkF m 110 #[.val (.ref a), .val (.ref d), .val (.int x2), .val (.int x3), .val (.int (j + (1 : Int32))), .val (.int j), .val (.int cc)] [])) (fun t_ k_ => XS.istore X41.here hx rfl (hb hby own_b3_d108) rfl (l' := #[.val (.ref a), .val (.ref d), .val (.int x2), .val (.int x3), .val (.int (j + (1 : Int32))), .val (.int j), .val (.int cc)]) rfl k_) ?_
            refine own_st (B := T41.setTop (mkF m 113 #[.val (.ref a), .val (.ref d), .val (.int x2), .val (.int x3), .val (.int (j + (1 : Int32))), .val (.int (j + (1 : Int32))), .val (.int cc)] [])) (fun t_ k_ => XS.iinc X41.here hx rfl (hb hby own_b3_d110) rfl (l' := #[.val (.ref a), .val (.ref d), .val (.int x2), .val (.int x3), .val (.int (j + (1 : Int32))), .val (.int (j + (1 : Int32))), .val (.int cc)]) rfl k_) ?_
            refine own_st (B := T41.setTop (mkF m 6 #[.val (.ref a), .val (.ref d), .val (.int x2), .val (.int x3), .val (.int (j + (1 : Int32))), .val (.int (j + (1 : Int32))), .val (.int cc)] [])) (fun t_ k_ => XS.goto X41.here hx rfl (pc0 := 113) (pc' := 6) rfl (hb hby own_b3_d113) (by decide) (by decide) k_) ?_
            exact ih q' (by omega) _ _ X41 _ e41 Nlp1 (i + 1) (j + (1 : Int32)) (i + 1) (j + (1 : Int32)) r1 r2 r3 (.val (.int cc)) EL FnL FlL FgL AL KL ZL (by omega) (own_ixa hj 1 (by omega)) (own_ixa hj 1 (by omega)) hok ((own_runZ (own_stpA h01 h128) (by show r1 = 0; omega)).symm.trans hrun) (Or.inr ⟨_, rfl, rfl⟩)
          · have hd40 := own_nlt32 hc40
            rw [show (128 : Int32).toInt = 128 from rfl] at hd40
            refine own_st (B := T3.setTop (mkF m 85 #[.val (.ref a), .val (.ref d), .val (.int x2), .val (.int x3), .val (.int y), .val (.int j), .val (.int cc)] [])) (fun t_ k_ => XS.icmpNo X3.here hx rfl (hb hby own_b3_d82) rfl (flt hc40).1 k_) ?_
            have h128 : ¬ own_by f i < 128 := by omega
            refine own_st (B := T3.setTop (mkF m 86 #[.val (.ref a), .val (.ref d), .val (.int x2), .val (.int x3), .val (.int y), .val (.int j), .val (.int cc)] [(.ref a)])) (fun t_ k_ => XS.aloadN X3.here hx rfl (hb hby own_b3_d85) rfl rfl k_) ?_
            refine own_st (B := T3.setTop (mkF m 88 #[.val (.ref a), .val (.ref d), .val (.int x2), .val (.int x3), .val (.int y), .val (.int j), .val (.int cc)] [(.int cc), (.ref a)])) (fun t_ k_ => XS.iload X3.here hx rfl (hb hby own_b3_d86) rfl k_) ?_
            obtain ⟨cq43, q43, q43'⟩ := EL.cell
            obtain ⟨_, _, ⟨T43, Lq43, kq43, nq43⟩, -, X43, ⟨Lc43, hQ43, lq43, yq43, zq43⟩, st43⟩ := X3.privateBack hx (y := (⟨"com/example/mapwright/mapwright/Utf8Check", "begin", "(I)Z"⟩ : MethodName)) hown (mvT hZ (hw _ (List.mem_of_getElem? (i := 37) rfl))) (mvT hZ (hw _ (List.mem_of_getElem? (i := 38) rfl))) (own_selP (y := (⟨"com/example/mapwright/mapwright/Utf8Check", "begin", "(I)Z"⟩ : MethodName)) (mvT hZ (hw _ (List.mem_of_getElem? (i := 3) rfl))) (Cond.privateMethod_at (mvP hZ (hw _ (List.mem_of_getElem? (i := 39) rfl)) (args := #[]))) (mvT hZ (hw _ (List.mem_of_getElem? (i := 38) rfl))) (by decide)) (Cond.privateMethod_at (mvP hZ (hw _ (List.mem_of_getElem? (i := 39) rfl)) (args := #[]))) (mvT hZ (hw _ (List.mem_of_getElem? (i := 40) rfl))) (by decide) (backOf (W := 0) (rm8 l Z a0 hw [] a cc (own_by f i) (Int32.ofNat r1) hlp1 n0 ZL EL FnL (hr2 ▸ FlL) (hr3 ▸ FgL) ga hcI) hZ (hw _ (List.mem_of_getElem? (i := 40) rfl)) (hw _ (List.mem_of_getElem? (i := 4) rfl)) (by decide) (by decide)) (g := (mkF m 88 #[.val (.ref a), .val (.ref d), .val (.int x2), .val (.int x3), .val (.int y), .val (.int j), .val (.int cc)] [(.int cc), (.ref a)])) rfl (by rw [hml]; rfl) (Steps.refl _) (a := a) (by rw [e3]; exact q43) q43' (argsL := [(.int cc)]) (rest := []) (lenOf own_pd0 rfl) rfl (by show 2 * 0 + _ ≤ _; exact Nat.le_of_eq rfl) (hb hby own_b3_d88) (fun _ _ => ⟨rfl, e3, (by decide : 0 + 0 ≤ _), (by decide : 0 + 0 ≤ _)⟩)
            dsimp only [Pt.U, Pt.locs, Pt.cells, Pt.slots] at X43 lq43 yq43 zq43 st43 hQ43
            rw [lq43, yq43, zq43] at X43
            have X43 : Stand p l e _ s m _ below meth c T43 _ 0 0 := X43
            rcases hQ43 with hQ43 | hQ43
            · obtain ⟨hbg, rfl, N43q, K43⟩ := hQ43
              have N43 := Fr.app Nlp1 N43q
              have Z44 := Nat.le_trans ZL K43.1
              have K45 := KL.trans K43 (allS (Or.inl (List.mem_of_getElem? (i := 0) rfl)) all0)
              refine own_st (B := T43.setTop (mkF m 91 #[.val (.ref a), .val (.ref d), .val (.int x2), .val (.int x3), .val (.int y), .val (.int j), .val (.int cc)] [(.int (0 : Int32))])) (fun t_ k_ => st43.trans k_) ?_
              refine own_st (B := T43.setTop (mkF m 94 #[.val (.ref a), .val (.ref d), .val (.int x2), .val (.int x3), .val (.int y), .val (.int j), .val (.int cc)] [])) (fun t_ k_ => XS.ifNo X43.here hx rfl (hb hby own_b3_d91) rfl ((if0 _ _).trans (teq (by decide : (0 : Int32) = (0 : Int32))).2) k_) ?_
              refine own_st (B := T43.setTop (mkF m 96 #[.val (.ref a), .val (.ref d), .val (.int x2), .val (.int x3), .val (.int y), .val (.int j), .val (.int cc)] [(.int y)])) (fun t_ k_ => XS.iload X43.here hx rfl (hb hby own_b3_d94) rfl k_) ?_
              refine own_retI X43 hx Bd.returns hlk (hb hby own_b3_d96) (by decide) (by decide) ?_
              show Q3 Z a d x2 x3 ka kt n f nd lo hi h0 n0 _ T43.heap _
              exact Or.inl ⟨sq, y, hrun.symm.trans (own_runN ((own_stpB h01 h128).trans hbg)), rfl, hy, N43, K45⟩
            · obtain ⟨m1, m2, m3, hbg, rfl, N43q, K43, Fn43, Fl43, Fg43⟩ := hQ43
              have N43 := Fr.app Nlp1 N43q
              have Z46 := Nat.le_trans ZL K43.1
              have K47 := KL.trans K43 (allS (Or.inl (List.mem_of_getElem? (i := 0) rfl)) all0)
              have hbk := own_begK hbg
              refine own_st (B := T43.setTop (mkF m 91 #[.val (.ref a), .val (.ref d), .val (.int x2), .val (.int x3), .val (.int y), .val (.int j), .val (.int cc)] [(.int (1 : Int32))])) (fun t_ k_ => st43.trans k_) ?_
              refine own_st (B := T43.setTop (mkF m 97 #[.val (.ref a), .val (.ref d), .val (.int x2), .val (.int x3), .val (.int y), .val (.int j), .val (.int cc)] [])) (fun t_ k_ => XS.ifYes X43.here hx rfl (pc0 := 91) (pc' := 97) rfl (hb hby own_b3_d91) rfl ((if0 _ _).trans (feq (by decide : ¬ ((1 : Int32) = (0 : Int32)))).2) (by decide) (by decide) k_) ?_
              refine own_st (B := T43.setTop (mkF m 98 #[.val (.ref a), .val (.ref d), .val (.int x2), .val (.int x3), .val (.int y), .val (.int j), .val (.int cc)] [(.ref a)])) (fun t_ k_ => XS.aloadN X43.here hx rfl (hb hby own_b3_d97) rfl rfl k_) ?_
              obtain ⟨T48, X48, e48, st48⟩ := getF X43 hx hZ hown (host := "") (Or.inl (hw _ (List.mem_of_getElem? (i := 25) rfl))) Via.refl rfl Fn43 (g := (mkF m 98 #[.val (.ref a), .val (.ref d), .val (.int x2), .val (.int x3), .val (.int y), .val (.int j), .val (.int cc)] [(.ref a)])) rfl rfl (hb hby own_b3_d98)
              refine own_st (B := T48.setTop (mkF m 101 #[.val (.ref a), .val (.ref d), .val (.int x2), .val (.int x3), .val (.int y), .val (.int j), .val (.int cc)] [(.int (Int32.ofNat m1))])) st48 ?_
              have hc49 : ¬ ((Int32.ofNat m1) = (0 : Int32)) := own_on (by omega) (by omega)
              have hd49 := own_neq32 hc49
              rw [show (0 : Int32).toInt = 0 from rfl] at hd49
              refine own_st (B := T48.setTop (mkF m 110 #[.val (.ref a), .val (.ref d), .val (.int x2), .val (.int x3), .val (.int y), .val (.int j), .val (.int cc)] [])) (fun t_ k_ => XS.ifYes X48.here hx rfl (pc0 := 101) (pc' := 110) rfl (hb hby own_b3_d101) rfl ((if0 _ _).trans (feq hc49).2) (by decide) (by decide) k_) ?_
              refine own_st (B := T48.setTop (mkF m 113 #[.val (.ref a), .val (.ref d), .val (.int x2), .val (.int x3), .val (.int y), .val (.int (j + (1 : Int32))), .val (.int cc)] [])) (fun t_ k_ => XS.iinc X48.here hx rfl (hb hby own_b3_d110) rfl (l' := #[.val (.ref a), .val (.ref d), .val (.int x2), .val (.int x3), .val (.int y), .val (.int (j + (1 : Int32))), .val (.int cc)]) rfl k_) ?_
              refine own_st (B := T48.setTop (mkF m 6 #[.val (.ref a), .val (.ref d), .val (.int x2), .val (.int x3), .val (.int y), .val (.int (j + (1 : Int32))), .val (.int cc)] [])) (fun t_ k_ => XS.goto X48.here hx rfl (pc0 := 113) (pc' := 6) rfl (hb hby own_b3_d113) (by decide) (by decide) k_) ?_
              have u50 := EL.keep K43
              have u51 := AL.keep K43 (ninS (Ne.symm hne) nin0)
              exact ih q' (by omega) _ _ X48 _ e48 N43 (i + 1) (j + (1 : Int32)) sq y m1 m2 m3 (.val (.int cc)) u50 Fn43 Fl43 Fg43 u51 K47 Z46 (by omega) (own_ixa hj 1 (by omega)) hy ⟨by show m1 ≤ 3; omega, by show 128 ≤ m2; omega, by show m2 ≤ 255; omega, by show m3 ≤ 191; omega, fun q1 => absurd q1 (by show ¬ m1 = 0; omega)⟩ ((own_runG ((own_stpB h01 h128).trans hbg) (by show ¬ m1 = 0; omega)).symm.trans hrun) (Or.inr ⟨_, rfl, rfl⟩)
      · have hd2 := own_nlt32 hc2
        refine own_st (B := Tlp1.setTop (mkF m 116 #[.val (.ref a), .val (.ref d), .val (.int x2), .val (.int x3), .val (.int y), .val (.int j), s6] [])) (fun t_ k_ => XS.icmpYes Xlp1.here hx rfl (pc0 := 9) (pc' := 116) rfl (hb hby own_b3_d9) rfl (flt hc2).2.1 (by decide) (by decide) k_) ?_
        refine own_st (B := Tlp1.setTop (mkF m 117 #[.val (.ref a), .val (.ref d), .val (.int x2), .val (.int x3), .val (.int y), .val (.int j), s6] [(.int x3)])) (fun t_ k_ => XS.iloadN Xlp1.here hx rfl (hb hby own_b3_d116) rfl k_) ?_
        refine own_retI Xlp1 hx Bd.returns hlk (hb hby own_b3_d117) (by decide) (by decide) ?_
        show Q3 Z a d x2 x3 ka kt n f nd lo hi h0 n0 _ Tlp1.heap _
        rw [elp1]
        exact Or.inr ⟨r1, r2, r3, hrun.symm.trans (by rw [show q = 0 by omega]; rfl), hok, rfl, Nlp1, KL, FnL, FlL, FgL⟩
  exact lp1 (kt - ka) _ _ X0 _ e0 N0 ka x2 ka x2 nd lo hi .unset E F0 F1 F2 A K0 Z0 (by omega) hk hk hst rfl (Or.inl rfl)
def own_cont (x : Int32) : Bool := decide (128 ≤ x.toInt % 256 ∧ x.toInt % 256 ≤ 191)
def own_sl (k : Int) : Int32 := if k < 128 then 1 else if k < 224 then 2 else if k < 240 then 3 else 4
def own_slN (k : Nat) : Nat := if k < 128 then 1 else if k < 224 then 2 else if k < 240 then 3 else 4
theorem own_slI (k : Nat) : (own_sl k).toInt = own_slN k := by
  unfold own_sl own_slN
  by_cases h1 : k < 128
  · rw [if_pos (by omega), if_pos h1]; rfl
  · rw [if_neg (by omega), if_neg h1]
    by_cases h2 : k < 224
    · rw [if_pos (by omega), if_pos h2]; rfl
    · rw [if_neg (by omega), if_neg h2]
      by_cases h3 : k < 240
      · rw [if_pos (by omega), if_pos h3]; rfl
      · rw [if_neg (by omega), if_neg h3]; rfl
theorem own_slb (k : Nat) : 1 ≤ own_slN k ∧ own_slN k ≤ 4 := by unfold own_slN; split <;> (try split) <;> (try split) <;> omega
theorem own_cE (f : Nat → Int32) (j : Nat) : own_cont (f j) = decide (128 ≤ own_by f j ∧ own_by f j ≤ 191) := by
  unfold own_cont own_by; rw [decide_eq_decide]; omega
theorem own_cF {f : Nat → Int32} {j : Nat} (h : own_cont (f j) = false) : ¬ (128 ≤ own_by f j ∧ own_by f j ≤ 191) := by rw [own_cE] at h; exact of_decide_eq_false h
theorem own_cT {f : Nat → Int32} {j : Nat} (h : ¬ own_cont (f j) = false) : 128 ≤ own_by f j ∧ own_by f j ≤ 191 := by rw [own_cE, Bool.not_eq_false] at h; exact of_decide_eq_true h
def own_pos (f : Nat → Int32) (i nd : Nat) : Prop := (i = 0 ∧ nd = 0) ∨ ∃ j0, j0 < i ∧ ¬ (128 ≤ own_by f j0 ∧ own_by f j0 ≤ 191) ∧ (∀ x, j0 < x → x < i → 128 ≤ own_by f x ∧ own_by f x ≤ 191) ∧ i + nd = j0 + own_slN (own_by f j0)
theorem own_wh {f : Nat → Int32} {kn nd t : Nat} (hp : own_pos f kn nd) (hk : kn ≤ 4) (ht : t + 1 ≤ kn) (hc : ∀ s, s < t → 128 ≤ own_by f (kn - 1 - s) ∧ own_by f (kn - 1 - s) ≤ 191) (hs : kn = t + 1 ∨ ¬ (128 ≤ own_by f (kn - (t + 1)) ∧ own_by f (kn - (t + 1)) ≤ 191) ∨ t = 3) : (kn - (t + 1)) + own_slN (own_by f (kn - (t + 1))) = kn + nd := by
  rcases hp with ⟨h0, -⟩ | ⟨j0, h1, h2, h3, h4⟩
  · omega
  · have e : j0 = kn - (t + 1) := by
      rcases Nat.lt_trichotomy j0 (kn - (t + 1)) with q | q | q
      · rcases hs with hs | hs | hs
        · omega
        · exact absurd (h3 _ q (by omega)) hs
        · omega
      · exact q
      · have := hc (kn - 1 - j0) (by omega)
        rw [show kn - 1 - (kn - 1 - j0) = j0 by omega] at this
        exact absurd this h2
    rw [← e]; omega
theorem own_ixm {j : Int32} {i : Nat} (h : own_ix j i) (h0 : 0 < i) (hi : i < 100) : own_ix (j - (1 : Int32)) (i - 1) := by
  have h1 := own_ixI h; have q1 := c_isub j 1; have q2 := rng32 (j - 1); rw [show (1 : Int32).toInt = 1 from rfl] at q1
  exact own_ixof (by omega)
theorem own_ixd {j : Int32} {i : Nat} (h : own_ix j i) (h0 : 0 < i) (hi : i < 100) : own_ix (j + (-1 : Int32)) (i - 1) := by
  have h1 := own_ixI h; have q1 := c_iadd j (-1); have q2 := rng32 (j + (-1)); rw [show (-1 : Int32).toInt = -1 from by decide] at q1
  exact own_ixof (by omega)
theorem own_sum {j : Int32} {a b : Nat} (h : own_ix j a) (ha : a < 100) : (j + own_sl ((b : Nat) : Int)).toInt = ((a + own_slN b : Nat) : Int) := by
  have h1 := own_ixI h; have q1 := c_iadd j (own_sl b); have q2 := rng32 (j + own_sl b); have q3 := own_slI b; have q4 := own_slb b
  omega
theorem own_runP {f : Nat → Int32} {s' : Nat × Nat × Nat} : ∀ (t i : Nat) (s : Nat × Nat × Nat) (q : Nat), own_ok s → own_pos f i s.1 → own_run (own_by f) t i s q = .inr s' → own_pos f (i + t) s'.1
  | 0, i, s, q, _, hp, hr => by cases hr; exact hp
  | t + 1, i, (nd, lo, hi), q, hok, hp, hr => by
    obtain ⟨o1, o2, o3, o4, o5⟩ := hok
    dsimp only at o1 o2 o3 o4 o5 hp
    rw [show i + (t + 1) = (i + 1) + t by omega]
    by_cases h0 : 0 < nd
    · by_cases h1 : lo ≤ own_by f i ∧ own_by f i ≤ hi
      · rw [own_runS (own_stpY h0 h1)] at hr
        refine own_runP t (i + 1) _ _ ⟨by show nd - 1 ≤ 3; omega, Nat.le_refl 128, by show 128 ≤ 255; decide, Nat.le_refl 191, fun _ => ⟨rfl, rfl⟩⟩ ?_ hr
        rcases hp with ⟨-, hp⟩ | ⟨j0, h2, h3, h4, h5⟩
        · omega
        · refine Or.inr ⟨j0, by omega, h3, fun x hx1 hx2 => ?_, by show i + 1 + (nd - 1) = _; omega⟩
          by_cases hx : x = i
          · subst hx; omega
          · exact h4 x hx1 (by omega)
      · rw [own_runN (own_stpX h0 h1)] at hr; cases hr
    · by_cases h1 : own_by f i < 128
      · rw [own_runS (own_stpA h0 h1)] at hr
        refine own_runP t (i + 1) _ _ ⟨o1, o2, o3, o4, o5⟩ ?_ hr
        refine Or.inr ⟨i, by omega, by omega, fun x hx1 hx2 => by omega, ?_⟩
        show i + 1 + nd = _
        unfold own_slN; rw [if_pos h1]; omega
      · cases hb : own_beg (own_by f i) with
        | none => rw [own_runN ((own_stpB h0 h1).trans hb)] at hr; cases hr
        | some s1 =>
          obtain ⟨m1, m2, m3⟩ := s1
          rw [own_runS ((own_stpB h0 h1).trans hb)] at hr
          have hk := own_begK hb
          refine own_runP t (i + 1) _ _ ⟨by show m1 ≤ 3; omega, by show 128 ≤ m2; omega, by show m2 ≤ 255; omega, by show m3 ≤ 191; omega, fun q1 => absurd q1 (by show ¬ m1 = 0; omega)⟩ ?_ hr
          have hm : 194 ≤ own_by f i ∧ m1 + 1 = own_slN (own_by f i) := by
            unfold own_beg at hb; unfold own_slN
            by_cases c1 : 194 ≤ own_by f i ∧ own_by f i ≤ 223
            · rw [if_pos c1] at hb; cases hb; rw [if_neg h1, if_pos (by omega)]; exact ⟨c1.1, rfl⟩
            · rw [if_neg c1] at hb
              by_cases c2 : 224 ≤ own_by f i ∧ own_by f i ≤ 239
              · rw [if_pos c2] at hb; cases hb; rw [if_neg h1, if_neg (by omega), if_pos (by omega)]; exact ⟨by omega, rfl⟩
              · rw [if_neg c2] at hb
                by_cases c3 : 240 ≤ own_by f i ∧ own_by f i ≤ 244
                · rw [if_pos c3] at hb; cases hb; rw [if_neg h1, if_neg (by omega), if_neg (by omega)]; exact ⟨by omega, rfl⟩
                · rw [if_neg c3] at hb; cases hb
          exact Or.inr ⟨i, by omega, by omega, fun x hx1 hx2 => by omega, by show i + 1 + m1 = _; omega⟩
theorem own_runL {b : Nat → Nat} {sq : Nat} : ∀ (t i : Nat) (s : Nat × Nat × Nat) (q : Nat), q ≤ i → own_run b t i s q = .inl sq → sq < i + t
  | 0, i, s, q, _, hr => by cases hr
  | t + 1, i, s, q, hq, hr => by
    cases hs : own_stp s (b i) with
    | none => rw [own_runN hs] at hr; cases hr; omega
    | some s1 =>
      rw [own_runS hs] at hr
      have := own_runL t (i + 1) s1 _ (by split <;> omega) hr
      omega
theorem own_r5 (x : Int32) : 0 ≤ ((x &&& (2147483647 : Int32)) % (5 : Int32)).toInt ∧ ((x &&& (2147483647 : Int32)) % (5 : Int32)).toInt < 5 := by
  have h1 := c_and x 2147483647 (by decide)
  have h2 := (c_irem (x &&& 2147483647) 5 5 rfl).1 h1.1
  omega
theorem own_rv (x y : Int32) (hy : 0 ≤ y.toInt) (hy5 : y.toInt < 5) : ¬ (y + (1 : Int32) = 0) ∧ 0 ≤ ((x &&& (2147483647 : Int32)) % (y + (1 : Int32))).toInt ∧ ((x &&& (2147483647 : Int32)) % (y + (1 : Int32))).toInt ≤ y.toInt := by
  have h1 := c_and x 2147483647 (by decide)
  have h0 := c_iadd y 1; have hr := rng32 (y + 1)
  rw [show (1 : Int32).toInt = 1 from rfl] at h0
  have h2 := (c_iremV (x &&& 2147483647) (y + 1)).1 h1.1 (by omega)
  refine ⟨fun q => ?_, by omega, by omega⟩
  have := own_eq32 q; rw [show (0 : Int32).toInt = 0 from rfl] at this; omega
theorem own_b6_d0 : decode method_2_code 0 = .ok (.iload_n 0, 1) := by decide +kernel
theorem own_b6_d1 : decode method_2_code 1 = .ok (.sipush 255, 3) := by decide +kernel
theorem own_b6_d4 : decode method_2_code 4 = .ok (.iand, 1) := by decide +kernel
theorem own_b6_d5 : decode method_2_code 5 = .ok (.istore_n 1, 1) := by decide +kernel
theorem own_b6_d6 : decode method_2_code 6 = .ok (.iload_n 1, 1) := by decide +kernel
theorem own_b6_d7 : decode method_2_code 7 = .ok (.sipush 128, 3) := by decide +kernel
theorem own_b6_d10 : decode method_2_code 10 = .ok (.if_icmp .lt 14, 3) := by decide +kernel
theorem own_b6_d13 : decode method_2_code 13 = .ok (.iload_n 1, 1) := by decide +kernel
theorem own_b6_d14 : decode method_2_code 14 = .ok (.sipush 191, 3) := by decide +kernel
theorem own_b6_d17 : decode method_2_code 17 = .ok (.if_icmp .gt 7, 3) := by decide +kernel
theorem own_b6_d20 : decode method_2_code 20 = .ok (.iconst 1, 1) := by decide +kernel
theorem own_b6_d21 : decode method_2_code 21 = .ok (.goto 4, 3) := by decide +kernel
theorem own_b6_d24 : decode method_2_code 24 = .ok (.iconst 0, 1) := by decide +kernel
theorem own_b6_d25 : decode method_2_code 25 = .ok (.ireturn, 1) := by decide +kernel
theorem own_pn1 : plainName "com/example/mapwright/mapwright/Utf8CheckCompletePinLaw" = true := by first | (simp [plainName, overriddenIn]; done) | decide +kernel
theorem own_ef_rm6 (m : MethodId) (x0 : Int32) : entryFrame m #[(.int x0)] 2 = mkF m 0 #[.val (.int x0), .unset] [] := by first | (simp [entryFrame, mkF, argsToLocals, Value.category]; done) | rfl
def Q6 (Z : State) (x : Int32) (h0 : Heap) (n0 : Nat) (v : Option Value) (h : Heap) (L : List Loc) : Prop := v = some (.int (own_b (own_cont x))) ∧ Fr n0 L ∧ h = h0
set_option maxRecDepth 65536 in
set_option maxHeartbeats 40000000 in
theorem rm6 (l : Launch) (Z : State) (a0 : Array Value) (hw : ∀ d ∈ tables_1, d.before a0 Z = true) (ws : List Jvm.Cond) (x : Int32) (h0 : Heap) (n0 : Nat) (Z0 : n0 ≤ h0.size) :
    MetFree l (⟨"com/example/mapwright/mapwright/Utf8CheckCompletePinLaw", "cont", "(B)Z"⟩ : MethodName) (head1 (Jvm.Cond.code (⟨"com/example/mapwright/mapwright/Utf8CheckCompletePinLaw", "cont", "(B)Z"⟩ : MethodName) method_2_code 2 (some .boolean) :: ws) ({ frames := 0, cells := 0, slots := 0, locals := 0 } : Room)) (fun aa_ U_ => aa_ = #[(.int x)] ∧ Z.Warmed39 U_.vm ∧ U_.heap = h0) (fun _ _ _ _ _ => True) (fun _ U_ o_ U1_ => ∃ v_ L_, o_ = .returned v_ ∧ Q6 Z x h0 n0 v_ U1_.heap L_ ∧ FrameEnd U_ o_ U1_ L_ ({ frames := 0, cells := 0, slots := 0, locals := 0 } : Room).cells ({ frames := 0, cells := 0, slots := 0, locals := 0 } : Room).slots) := by
  refine MetFree.of_bodySF (plainFor_of_name own_pn1) hisR ?_
  intro p e s m args below meth c s₁ Bd hml0 hP hK
  obtain ⟨rfl, hZ, hh⟩ := hP
  have hx := Bd.exec
  have hby := Bd.bytes
  have hlk := Bd.notSynchronized
  have hml : c.maxLocals = 2 := hml0
  have hown : s.vm.findClass "com/example/mapwright/mapwright/Utf8CheckCompletePinLaw" = some m.cls := findClass_of_methodNamed Bd.named
  have hnm := (name_of_methodNamed Bd.named Bd.method).1
  have X0 : Stand p l e ({ frames := 0, cells := 0, slots := 0, locals := 0 } : Room) s m #[(.int x)] below meth c s₁ [] 0 0 := Stand.of_body Bd
  have e0 : s₁.heap = h0 := by rw [← hh, Bd.state]; rfl
  have N0 := Fr.nil n0
  show own_E p e below s (Q6 Z x h0 n0) ({ frames := 0, cells := 0, slots := 0, locals := 0 } : Room).cells ({ frames := 0, cells := 0, slots := 0, locals := 0 } : Room).slots (s₁.setTop (entryFrame m #[(.int x)] 2))
  refine own_st (B := s₁.setTop (mkF m 0 #[.val (.int x), .unset] [])) (fun t_ k_ => castTop (own_ef_rm6 m x) k_) ?_
  have hcm := c_mask x 255 8 (by decide) (by decide); rw [show ((2 ^ 8 : Nat) : Int) = 256 from rfl] at hcm
  refine own_st (B := s₁.setTop (mkF m 1 #[.val (.int x), .unset] [(.int x)])) (fun t_ k_ => XS.iloadN X0.here hx rfl (hb hby own_b6_d0) rfl k_) ?_
  refine own_st (B := s₁.setTop (mkF m 4 #[.val (.int x), .unset] [(.int (255 : Int32)), (.int x)])) (fun t_ k_ => XS.sipush X0.here hx rfl (hb hby own_b6_d1) k_) ?_
  refine own_st (B := s₁.setTop (mkF m 5 #[.val (.int x), .unset] [(.int (x &&& (255 : Int32)))])) (fun t_ k_ => XS.iand X0.here hx rfl (hb hby own_b6_d4) rfl k_) ?_
  refine own_st (B := s₁.setTop (mkF m 6 #[.val (.int x), .val (.int (x &&& (255 : Int32)))] [])) (fun t_ k_ => XS.istoreN X0.here hx rfl (hb hby own_b6_d5) rfl (l' := #[.val (.int x), .val (.int (x &&& (255 : Int32)))]) rfl k_) ?_
  refine own_st (B := s₁.setTop (mkF m 7 #[.val (.int x), .val (.int (x &&& (255 : Int32)))] [(.int (x &&& (255 : Int32)))])) (fun t_ k_ => XS.iloadN X0.here hx rfl (hb hby own_b6_d6) rfl k_) ?_
  refine own_st (B := s₁.setTop (mkF m 10 #[.val (.int x), .val (.int (x &&& (255 : Int32)))] [(.int (128 : Int32)), (.int (x &&& (255 : Int32)))])) (fun t_ k_ => XS.sipush X0.here hx rfl (hb hby own_b6_d7) k_) ?_
  by_cases hc1 : (x &&& (255 : Int32)) < (128 : Int32)
  · have hd1 := own_lt32 hc1
    rw [show (128 : Int32).toInt = 128 from rfl] at hd1
    refine own_st (B := s₁.setTop (mkF m 24 #[.val (.int x), .val (.int (x &&& (255 : Int32)))] [])) (fun t_ k_ => XS.icmpYes X0.here hx rfl (pc0 := 10) (pc' := 24) rfl (hb hby own_b6_d10) rfl (tlt hc1).1 (by decide) (by decide) k_) ?_
    refine own_st (B := s₁.setTop (mkF m 25 #[.val (.int x), .val (.int (x &&& (255 : Int32)))] [(.int (0 : Int32))])) (fun t_ k_ => XS.iconst X0.here hx rfl (hb hby own_b6_d24) k_) ?_
    refine own_retN X0 hx (t := .boolean) Bd.returns (by simp) hlk (hb hby own_b6_d25) (z' := (0 : Int32)) (by first | rfl | exact own_nb _) (by decide) (by decide) ?_
    show Q6 Z x h0 n0 _ s₁.heap _
    rw [e0]
    exact ⟨by rw [own_cont, own_bz]; omega, N0, rfl⟩
  · have hd1 := own_nlt32 hc1
    rw [show (128 : Int32).toInt = 128 from rfl] at hd1
    refine own_st (B := s₁.setTop (mkF m 13 #[.val (.int x), .val (.int (x &&& (255 : Int32)))] [])) (fun t_ k_ => XS.icmpNo X0.here hx rfl (hb hby own_b6_d10) rfl (flt hc1).1 k_) ?_
    refine own_st (B := s₁.setTop (mkF m 14 #[.val (.int x), .val (.int (x &&& (255 : Int32)))] [(.int (x &&& (255 : Int32)))])) (fun t_ k_ => XS.iloadN X0.here hx rfl (hb hby own_b6_d13) rfl k_) ?_
    refine own_st (B := s₁.setTop (mkF m 17 #[.val (.int x), .val (.int (x &&& (255 : Int32)))] [(.int (191 : Int32)), (.int (x &&& (255 : Int32)))])) (fun t_ k_ => XS.sipush X0.here hx rfl (hb hby own_b6_d14) k_) ?_
    by_cases hc2 : (191 : Int32) < (x &&& (255 : Int32))
    · have hd2 := own_lt32 hc2
      rw [show (191 : Int32).toInt = 191 from rfl] at hd2
      refine own_st (B := s₁.setTop (mkF m 24 #[.val (.int x), .val (.int (x &&& (255 : Int32)))] [])) (fun t_ k_ => XS.icmpYes X0.here hx rfl (pc0 := 17) (pc' := 24) rfl (hb hby own_b6_d17) rfl (tlt hc2).2.2.1 (by decide) (by decide) k_) ?_
      refine own_st (B := s₁.setTop (mkF m 25 #[.val (.int x), .val (.int (x &&& (255 : Int32)))] [(.int (0 : Int32))])) (fun t_ k_ => XS.iconst X0.here hx rfl (hb hby own_b6_d24) k_) ?_
      refine own_retN X0 hx (t := .boolean) Bd.returns (by simp) hlk (hb hby own_b6_d25) (z' := (0 : Int32)) (by first | rfl | exact own_nb _) (by decide) (by decide) ?_
      show Q6 Z x h0 n0 _ s₁.heap _
      rw [e0]
      exact ⟨by rw [own_cont, own_bz]; omega, N0, rfl⟩
    · have hd2 := own_nlt32 hc2
      rw [show (191 : Int32).toInt = 191 from rfl] at hd2
      refine own_st (B := s₁.setTop (mkF m 20 #[.val (.int x), .val (.int (x &&& (255 : Int32)))] [])) (fun t_ k_ => XS.icmpNo X0.here hx rfl (hb hby own_b6_d17) rfl (flt hc2).2.2.1 k_) ?_
      refine own_st (B := s₁.setTop (mkF m 21 #[.val (.int x), .val (.int (x &&& (255 : Int32)))] [(.int (1 : Int32))])) (fun t_ k_ => XS.iconst X0.here hx rfl (hb hby own_b6_d20) k_) ?_
      refine own_st (B := s₁.setTop (mkF m 25 #[.val (.int x), .val (.int (x &&& (255 : Int32)))] [(.int (1 : Int32))])) (fun t_ k_ => XS.goto X0.here hx rfl (pc0 := 21) (pc' := 25) rfl (hb hby own_b6_d21) (by decide) (by decide) k_) ?_
      refine own_retN X0 hx (t := .boolean) Bd.returns (by simp) hlk (hb hby own_b6_d25) (z' := (1 : Int32)) (by first | rfl | exact own_nb _) (by decide) (by decide) ?_
      show Q6 Z x h0 n0 _ s₁.heap _
      rw [e0]
      exact ⟨by rw [own_cont, own_b1]; omega, N0, rfl⟩
theorem own_b7_d0 : decode method_3_code 0 = .ok (.iload_n 0, 1) := by decide +kernel
theorem own_b7_d1 : decode method_3_code 1 = .ok (.sipush 128, 3) := by decide +kernel
theorem own_b7_d4 : decode method_3_code 4 = .ok (.if_icmp .ge 5, 3) := by decide +kernel
theorem own_b7_d7 : decode method_3_code 7 = .ok (.iconst 1, 1) := by decide +kernel
theorem own_b7_d8 : decode method_3_code 8 = .ok (.ireturn, 1) := by decide +kernel
theorem own_b7_d9 : decode method_3_code 9 = .ok (.iload_n 0, 1) := by decide +kernel
theorem own_b7_d10 : decode method_3_code 10 = .ok (.sipush 224, 3) := by decide +kernel
theorem own_b7_d13 : decode method_3_code 13 = .ok (.if_icmp .ge 5, 3) := by decide +kernel
theorem own_b7_d16 : decode method_3_code 16 = .ok (.iconst 2, 1) := by decide +kernel
theorem own_b7_d17 : decode method_3_code 17 = .ok (.ireturn, 1) := by decide +kernel
theorem own_b7_d18 : decode method_3_code 18 = .ok (.iload_n 0, 1) := by decide +kernel
theorem own_b7_d19 : decode method_3_code 19 = .ok (.sipush 240, 3) := by decide +kernel
theorem own_b7_d22 : decode method_3_code 22 = .ok (.if_icmp .ge 5, 3) := by decide +kernel
theorem own_b7_d25 : decode method_3_code 25 = .ok (.iconst 3, 1) := by decide +kernel
theorem own_b7_d26 : decode method_3_code 26 = .ok (.ireturn, 1) := by decide +kernel
theorem own_b7_d27 : decode method_3_code 27 = .ok (.iconst 4, 1) := by decide +kernel
theorem own_b7_d28 : decode method_3_code 28 = .ok (.ireturn, 1) := by decide +kernel
theorem own_ef_rm7 (m : MethodId) (x0 : Int32) : entryFrame m #[(.int x0)] 1 = mkF m 0 #[.val (.int x0)] [] := by first | (simp [entryFrame, mkF, argsToLocals, Value.category]; done) | rfl
def Q7 (Z : State) (x : Int32) (h0 : Heap) (n0 : Nat) (v : Option Value) (h : Heap) (L : List Loc) : Prop := v = some (.int (own_sl x.toInt)) ∧ Fr n0 L ∧ h = h0
set_option maxRecDepth 65536 in
set_option maxHeartbeats 40000000 in
theorem rm7 (l : Launch) (Z : State) (a0 : Array Value) (hw : ∀ d ∈ tables_1, d.before a0 Z = true) (ws : List Jvm.Cond) (x : Int32) (h0 : Heap) (n0 : Nat) (Z0 : n0 ≤ h0.size) :
    MetFree l (⟨"com/example/mapwright/mapwright/Utf8CheckCompletePinLaw", "seqLen", "(I)I"⟩ : MethodName) (head1 (Jvm.Cond.code (⟨"com/example/mapwright/mapwright/Utf8CheckCompletePinLaw", "seqLen", "(I)I"⟩ : MethodName) method_3_code 1 (some .int) :: ws) ({ frames := 0, cells := 0, slots := 0, locals := 0 } : Room)) (fun aa_ U_ => aa_ = #[(.int x)] ∧ Z.Warmed39 U_.vm ∧ U_.heap = h0) (fun _ _ _ _ _ => True) (fun _ U_ o_ U1_ => ∃ v_ L_, o_ = .returned v_ ∧ Q7 Z x h0 n0 v_ U1_.heap L_ ∧ FrameEnd U_ o_ U1_ L_ ({ frames := 0, cells := 0, slots := 0, locals := 0 } : Room).cells ({ frames := 0, cells := 0, slots := 0, locals := 0 } : Room).slots) := by
  refine MetFree.of_bodySF (plainFor_of_name own_pn1) hisR ?_
  intro p e s m args below meth c s₁ Bd hml0 hP hK
  obtain ⟨rfl, hZ, hh⟩ := hP
  have hx := Bd.exec
  have hby := Bd.bytes
  have hlk := Bd.notSynchronized
  have hml : c.maxLocals = 1 := hml0
  have hown : s.vm.findClass "com/example/mapwright/mapwright/Utf8CheckCompletePinLaw" = some m.cls := findClass_of_methodNamed Bd.named
  have hnm := (name_of_methodNamed Bd.named Bd.method).1
  have X0 : Stand p l e ({ frames := 0, cells := 0, slots := 0, locals := 0 } : Room) s m #[(.int x)] below meth c s₁ [] 0 0 := Stand.of_body Bd
  have e0 : s₁.heap = h0 := by rw [← hh, Bd.state]; rfl
  have N0 := Fr.nil n0
  show own_E p e below s (Q7 Z x h0 n0) ({ frames := 0, cells := 0, slots := 0, locals := 0 } : Room).cells ({ frames := 0, cells := 0, slots := 0, locals := 0 } : Room).slots (s₁.setTop (entryFrame m #[(.int x)] 1))
  refine own_st (B := s₁.setTop (mkF m 0 #[.val (.int x)] [])) (fun t_ k_ => castTop (own_ef_rm7 m x) k_) ?_
  refine own_st (B := s₁.setTop (mkF m 1 #[.val (.int x)] [(.int x)])) (fun t_ k_ => XS.iloadN X0.here hx rfl (hb hby own_b7_d0) rfl k_) ?_
  refine own_st (B := s₁.setTop (mkF m 4 #[.val (.int x)] [(.int (128 : Int32)), (.int x)])) (fun t_ k_ => XS.sipush X0.here hx rfl (hb hby own_b7_d1) k_) ?_
  by_cases hc1 : x < (128 : Int32)
  · have hd1 := own_lt32 hc1
    rw [show (128 : Int32).toInt = 128 from rfl] at hd1
    refine own_st (B := s₁.setTop (mkF m 7 #[.val (.int x)] [])) (fun t_ k_ => XS.icmpNo X0.here hx rfl (hb hby own_b7_d4) rfl (tlt hc1).2.1 k_) ?_
    refine own_st (B := s₁.setTop (mkF m 8 #[.val (.int x)] [(.int (1 : Int32))])) (fun t_ k_ => XS.iconst X0.here hx rfl (hb hby own_b7_d7) k_) ?_
    refine own_retI X0 hx Bd.returns hlk (hb hby own_b7_d8) (by decide) (by decide) ?_
    show Q7 Z x h0 n0 _ s₁.heap _
    rw [e0]
    exact ⟨by unfold own_sl; rw [if_pos (by omega)], N0, rfl⟩
  · have hd1 := own_nlt32 hc1
    rw [show (128 : Int32).toInt = 128 from rfl] at hd1
    refine own_st (B := s₁.setTop (mkF m 9 #[.val (.int x)] [])) (fun t_ k_ => XS.icmpYes X0.here hx rfl (pc0 := 4) (pc' := 9) rfl (hb hby own_b7_d4) rfl (flt hc1).2.1 (by decide) (by decide) k_) ?_
    refine own_st (B := s₁.setTop (mkF m 10 #[.val (.int x)] [(.int x)])) (fun t_ k_ => XS.iloadN X0.here hx rfl (hb hby own_b7_d9) rfl k_) ?_
    refine own_st (B := s₁.setTop (mkF m 13 #[.val (.int x)] [(.int (224 : Int32)), (.int x)])) (fun t_ k_ => XS.sipush X0.here hx rfl (hb hby own_b7_d10) k_) ?_
    by_cases hc2 : x < (224 : Int32)
    · have hd2 := own_lt32 hc2
      rw [show (224 : Int32).toInt = 224 from rfl] at hd2
      refine own_st (B := s₁.setTop (mkF m 16 #[.val (.int x)] [])) (fun t_ k_ => XS.icmpNo X0.here hx rfl (hb hby own_b7_d13) rfl (tlt hc2).2.1 k_) ?_
      refine own_st (B := s₁.setTop (mkF m 17 #[.val (.int x)] [(.int (2 : Int32))])) (fun t_ k_ => XS.iconst X0.here hx rfl (hb hby own_b7_d16) k_) ?_
      refine own_retI X0 hx Bd.returns hlk (hb hby own_b7_d17) (by decide) (by decide) ?_
      show Q7 Z x h0 n0 _ s₁.heap _
      rw [e0]
      exact ⟨by unfold own_sl; rw [if_neg (by omega), if_pos (by omega)], N0, rfl⟩
    · have hd2 := own_nlt32 hc2
      rw [show (224 : Int32).toInt = 224 from rfl] at hd2
      refine own_st (B := s₁.setTop (mkF m 18 #[.val (.int x)] [])) (fun t_ k_ => XS.icmpYes X0.here hx rfl (pc0 := 13) (pc' := 18) rfl (hb hby own_b7_d13) rfl (flt hc2).2.1 (by decide) (by decide) k_) ?_
      refine own_st (B := s₁.setTop (mkF m 19 #[.val (.int x)] [(.int x)])) (fun t_ k_ => XS.iloadN X0.here hx rfl (hb hby own_b7_d18) rfl k_) ?_
      refine own_st (B := s₁.setTop (mkF m 22 #[.val (.int x)] [(.int (240 : Int32)), (.int x)])) (fun t_ k_ => XS.sipush X0.here hx rfl (hb hby own_b7_d19) k_) ?_
      by_cases hc3 : x < (240 : Int32)
      · have hd3 := own_lt32 hc3
        rw [show (240 : Int32).toInt = 240 from rfl] at hd3
        refine own_st (B := s₁.setTop (mkF m 25 #[.val (.int x)] [])) (fun t_ k_ => XS.icmpNo X0.here hx rfl (hb hby own_b7_d22) rfl (tlt hc3).2.1 k_) ?_
        refine own_st (B := s₁.setTop (mkF m 26 #[.val (.int x)] [(.int (3 : Int32))])) (fun t_ k_ => XS.iconst X0.here hx rfl (hb hby own_b7_d25) k_) ?_
        refine own_retI X0 hx Bd.returns hlk (hb hby own_b7_d26) (by decide) (by decide) ?_
        show Q7 Z x h0 n0 _ s₁.heap _
        rw [e0]
        exact ⟨by unfold own_sl; rw [if_neg (by omega), if_neg (by omega), if_pos (by omega)], N0, rfl⟩
      · have hd3 := own_nlt32 hc3
        rw [show (240 : Int32).toInt = 240 from rfl] at hd3
        refine own_st (B := s₁.setTop (mkF m 27 #[.val (.int x)] [])) (fun t_ k_ => XS.icmpYes X0.here hx rfl (pc0 := 22) (pc' := 27) rfl (hb hby own_b7_d22) rfl (flt hc3).2.1 (by decide) (by decide) k_) ?_
        refine own_st (B := s₁.setTop (mkF m 28 #[.val (.int x)] [(.int (4 : Int32))])) (fun t_ k_ => XS.iconst X0.here hx rfl (hb hby own_b7_d27) k_) ?_
        refine own_retI X0 hx Bd.returns hlk (hb hby own_b7_d28) (by decide) (by decide) ?_
        show Q7 Z x h0 n0 _ s₁.heap _
        rw [e0]
        exact ⟨by unfold own_sl; rw [if_neg (by omega), if_neg (by omega), if_neg (by omega)], N0, rfl⟩
theorem own_pd1 : parseMethodDescriptor "(B)Z" = some ⟨[.byte], some .boolean⟩ := by decide +kernel
theorem own_pd2 : parseMethodDescriptor "(I)I" = some ⟨[.int], some .int⟩ := by decide +kernel
theorem own_b5_d0 : decode method_4_code 0 = .ok (.iload_n 1, 1) := by decide +kernel
theorem own_b5_d1 : decode method_4_code 1 = .ok (.ifCond .ne 5, 3) := by decide +kernel
theorem own_b5_d4 : decode method_4_code 4 = .ok (.iconst 1, 1) := by decide +kernel
theorem own_b5_d5 : decode method_4_code 5 = .ok (.ireturn, 1) := by decide +kernel
theorem own_b5_d6 : decode method_4_code 6 = .ok (.iload_n 1, 1) := by decide +kernel
theorem own_b5_d7 : decode method_4_code 7 = .ok (.iconst 1, 1) := by decide +kernel
theorem own_b5_d8 : decode method_4_code 8 = .ok (.isub, 1) := by decide +kernel
theorem own_b5_d9 : decode method_4_code 9 = .ok (.istore_n 2, 1) := by decide +kernel
theorem own_b5_d10 : decode method_4_code 10 = .ok (.iload_n 2, 1) := by decide +kernel
theorem own_b5_d11 : decode method_4_code 11 = .ok (.ifCond .le 47, 3) := by decide +kernel
theorem own_b5_d14 : decode method_4_code 14 = .ok (.aload_n 0, 1) := by decide +kernel
theorem own_b5_d15 : decode method_4_code 15 = .ok (.iload_n 2, 1) := by decide +kernel
theorem own_b5_d16 : decode method_4_code 16 = .ok (.baload, 1) := by decide +kernel
theorem own_b5_d17 : decode method_4_code 17 = .ok (.invokestatic 7, 3) := by decide +kernel
theorem own_b5_d20 : decode method_4_code 20 = .ok (.ifCond .eq 38, 3) := by decide +kernel
theorem own_b5_d23 : decode method_4_code 23 = .ok (.iinc 2 (-1), 3) := by decide +kernel
theorem own_b5_d26 : decode method_4_code 26 = .ok (.iload_n 2, 1) := by decide +kernel
theorem own_b5_d27 : decode method_4_code 27 = .ok (.ifCond .le 31, 3) := by decide +kernel
theorem own_b5_d30 : decode method_4_code 30 = .ok (.aload_n 0, 1) := by decide +kernel
theorem own_b5_d31 : decode method_4_code 31 = .ok (.iload_n 2, 1) := by decide +kernel
theorem own_b5_d32 : decode method_4_code 32 = .ok (.baload, 1) := by decide +kernel
theorem own_b5_d33 : decode method_4_code 33 = .ok (.invokestatic 7, 3) := by decide +kernel
theorem own_b5_d36 : decode method_4_code 36 = .ok (.ifCond .eq 22, 3) := by decide +kernel
theorem own_b5_d39 : decode method_4_code 39 = .ok (.iinc 2 (-1), 3) := by decide +kernel
theorem own_b5_d42 : decode method_4_code 42 = .ok (.iload_n 2, 1) := by decide +kernel
theorem own_b5_d43 : decode method_4_code 43 = .ok (.ifCond .le 15, 3) := by decide +kernel
theorem own_b5_d46 : decode method_4_code 46 = .ok (.aload_n 0, 1) := by decide +kernel
theorem own_b5_d47 : decode method_4_code 47 = .ok (.iload_n 2, 1) := by decide +kernel
theorem own_b5_d48 : decode method_4_code 48 = .ok (.baload, 1) := by decide +kernel
theorem own_b5_d49 : decode method_4_code 49 = .ok (.invokestatic 7, 3) := by decide +kernel
theorem own_b5_d52 : decode method_4_code 52 = .ok (.ifCond .eq 6, 3) := by decide +kernel
theorem own_b5_d55 : decode method_4_code 55 = .ok (.iinc 2 (-1), 3) := by decide +kernel
theorem own_b5_d58 : decode method_4_code 58 = .ok (.iload_n 2, 1) := by decide +kernel
theorem own_b5_d59 : decode method_4_code 59 = .ok (.aload_n 0, 1) := by decide +kernel
theorem own_b5_d60 : decode method_4_code 60 = .ok (.iload_n 2, 1) := by decide +kernel
theorem own_b5_d61 : decode method_4_code 61 = .ok (.baload, 1) := by decide +kernel
theorem own_b5_d62 : decode method_4_code 62 = .ok (.sipush 255, 3) := by decide +kernel
theorem own_b5_d65 : decode method_4_code 65 = .ok (.iand, 1) := by decide +kernel
theorem own_b5_d66 : decode method_4_code 66 = .ok (.invokestatic 13, 3) := by decide +kernel
theorem own_b5_d69 : decode method_4_code 69 = .ok (.iadd, 1) := by decide +kernel
theorem own_b5_d70 : decode method_4_code 70 = .ok (.iload_n 1, 1) := by decide +kernel
theorem own_b5_d71 : decode method_4_code 71 = .ok (.if_icmp .ne 7, 3) := by decide +kernel
theorem own_b5_d74 : decode method_4_code 74 = .ok (.iconst 1, 1) := by decide +kernel
theorem own_b5_d75 : decode method_4_code 75 = .ok (.goto 4, 3) := by decide +kernel
theorem own_b5_d78 : decode method_4_code 78 = .ok (.iconst 0, 1) := by decide +kernel
theorem own_b5_d79 : decode method_4_code 79 = .ok (.ireturn, 1) := by decide +kernel
theorem own_ef_rm5 (m : MethodId) (x0 : Addr) (x1 : Int32) : entryFrame m #[(.ref x0), (.int x1)] 3 = mkF m 0 #[.val (.ref x0), .val (.int x1), .unset] [] := by first | (simp [entryFrame, mkF, argsToLocals, Value.category]; done) | rfl
def Q5 (Z : State) (d : Addr) (x1 : Int32) (kn : Nat) (nd : Nat) (f : Nat → Int32) (h0 : Heap) (n0 : Nat) (v : Option Value) (h : Heap) (L : List Loc) : Prop := v = some (.int (own_b (decide (nd = 0)))) ∧ Fr n0 L ∧ h = h0
set_option maxRecDepth 65536 in
set_option maxHeartbeats 40000000 in
theorem rm5 (l : Launch) (Z : State) (a0 : Array Value) (hw : ∀ d ∈ tables_1, d.before a0 Z = true) (ws : List Jvm.Cond) (d : Addr) (x1 : Int32) (kn : Nat) (nd : Nat) (f : Nat → Int32) (h0 : Heap) (n0 : Nat) (Z0 : n0 ≤ h0.size) (A : own_A Z h0 d .byte 4 f) (hk : own_ix x1 kn) (hk4 : kn ≤ 4) (hpos : own_pos f kn nd) :
    MetFree l (⟨"com/example/mapwright/mapwright/Utf8CheckCompletePinLaw", "whole", "([BI)Z"⟩ : MethodName) (head1 (Jvm.Cond.code (⟨"com/example/mapwright/mapwright/Utf8CheckCompletePinLaw", "whole", "([BI)Z"⟩ : MethodName) method_4_code 3 (some .boolean) :: ws) ({ frames := 1, cells := 0, slots := 0, locals := 13 } : Room)) (fun aa_ U_ => aa_ = #[(.ref d), (.int x1)] ∧ Z.Warmed39 U_.vm ∧ U_.heap = h0) (fun _ _ _ _ _ => True) (fun _ U_ o_ U1_ => ∃ v_ L_, o_ = .returned v_ ∧ Q5 Z d x1 kn nd f h0 n0 v_ U1_.heap L_ ∧ FrameEnd U_ o_ U1_ L_ ({ frames := 1, cells := 0, slots := 0, locals := 13 } : Room).cells ({ frames := 1, cells := 0, slots := 0, locals := 13 } : Room).slots) := by
  refine MetFree.of_bodySF (plainFor_of_name own_pn1) hisR ?_
  intro p e s m args below meth c s₁ Bd hml0 hP hK
  obtain ⟨rfl, hZ, hh⟩ := hP
  have hx := Bd.exec
  have hby := Bd.bytes
  have hlk := Bd.notSynchronized
  have hml : c.maxLocals = 3 := hml0
  have hown : s.vm.findClass "com/example/mapwright/mapwright/Utf8CheckCompletePinLaw" = some m.cls := findClass_of_methodNamed Bd.named
  have hnm := (name_of_methodNamed Bd.named Bd.method).1
  have X0 : Stand p l e ({ frames := 1, cells := 0, slots := 0, locals := 13 } : Room) s m #[(.ref d), (.int x1)] below meth c s₁ [] 0 0 := Stand.of_body Bd
  have e0 : s₁.heap = h0 := by rw [← hh, Bd.state]; rfl
  have N0 := Fr.nil n0
  show own_E p e below s (Q5 Z d x1 kn nd f h0 n0) ({ frames := 1, cells := 0, slots := 0, locals := 13 } : Room).cells ({ frames := 1, cells := 0, slots := 0, locals := 13 } : Room).slots (s₁.setTop (entryFrame m #[(.ref d), (.int x1)] 3))
  refine own_st (B := s₁.setTop (mkF m 0 #[.val (.ref d), .val (.int x1), .unset] [])) (fun t_ k_ => castTop (own_ef_rm5 m d x1) k_) ?_
  have hki := own_ixI hk
  refine own_st (B := s₁.setTop (mkF m 1 #[.val (.ref d), .val (.int x1), .unset] [(.int x1)])) (fun t_ k_ => XS.iloadN X0.here hx rfl (hb hby own_b5_d0) rfl k_) ?_
  by_cases hc1 : x1 = (0 : Int32)
  · have hd1 := own_eq32 hc1
    rw [show (0 : Int32).toInt = 0 from rfl] at hd1
    refine own_st (B := s₁.setTop (mkF m 4 #[.val (.ref d), .val (.int x1), .unset] [])) (fun t_ k_ => XS.ifNo X0.here hx rfl (hb hby own_b5_d1) rfl ((if0 _ _).trans (teq hc1).2) k_) ?_
    refine own_st (B := s₁.setTop (mkF m 5 #[.val (.ref d), .val (.int x1), .unset] [(.int (1 : Int32))])) (fun t_ k_ => XS.iconst X0.here hx rfl (hb hby own_b5_d4) k_) ?_
    refine own_retN X0 hx (t := .boolean) Bd.returns (by simp) hlk (hb hby own_b5_d5) (z' := (1 : Int32)) (by first | rfl | exact own_nb _) (by decide) (by decide) ?_
    show Q5 Z d x1 kn nd f h0 n0 _ s₁.heap _
    rw [e0]
    have hnd : nd = 0 := by
      rcases hpos with q1 | ⟨j0, q1, -⟩
      · exact q1.2
      · omega
    exact ⟨by rw [own_b1 hnd], N0, rfl⟩
  · have hd1 := own_neq32 hc1
    rw [show (0 : Int32).toInt = 0 from rfl] at hd1
    refine own_st (B := s₁.setTop (mkF m 6 #[.val (.ref d), .val (.int x1), .unset] [])) (fun t_ k_ => XS.ifYes X0.here hx rfl (pc0 := 1) (pc' := 6) rfl (hb hby own_b5_d1) rfl ((if0 _ _).trans (feq hc1).2) (by decide) (by decide) k_) ?_
    refine own_st (B := s₁.setTop (mkF m 7 #[.val (.ref d), .val (.int x1), .unset] [(.int x1)])) (fun t_ k_ => XS.iloadN X0.here hx rfl (hb hby own_b5_d6) rfl k_) ?_
    refine own_st (B := s₁.setTop (mkF m 8 #[.val (.ref d), .val (.int x1), .unset] [(.int (1 : Int32)), (.int x1)])) (fun t_ k_ => XS.iconst X0.here hx rfl (hb hby own_b5_d7) k_) ?_
    refine own_st (B := s₁.setTop (mkF m 9 #[.val (.ref d), .val (.int x1), .unset] [(.int (x1 - (1 : Int32)))])) (fun t_ k_ => XS.isub X0.here hx rfl (hb hby own_b5_d8) rfl k_) ?_
    refine own_st (B := s₁.setTop (mkF m 10 #[.val (.ref d), .val (.int x1), .val (.int (x1 - (1 : Int32)))] [])) (fun t_ k_ => XS.istoreN X0.here hx rfl (hb hby own_b5_d9) rfl (l' := #[.val (.ref d), .val (.int x1), .val (.int (x1 - (1 : Int32)))]) rfl k_) ?_
    have hx0 : own_ix (x1 - (1 : Int32)) (kn - 1) := own_ixm hk (by omega) (by omega)
    obtain ⟨jj0, h_jj0⟩ : ∃ z_, z_ = (x1 - (1 : Int32)) := ⟨_, rfl⟩
    rw [← h_jj0] at hx0 ⊢
    clear h_jj0
    have hxi0 := own_ixI hx0
    refine own_st (B := s₁.setTop (mkF m 11 #[.val (.ref d), .val (.int x1), .val (.int jj0)] [(.int jj0)])) (fun t_ k_ => XS.iloadN X0.here hx rfl (hb hby own_b5_d10) rfl k_) ?_
    by_cases hc2 : (0 : Int32) < jj0
    · have hd2 := own_lt32 hc2
      rw [show (0 : Int32).toInt = 0 from rfl] at hd2
      refine own_st (B := s₁.setTop (mkF m 14 #[.val (.ref d), .val (.int x1), .val (.int jj0)] [])) (fun t_ k_ => XS.ifNo X0.here hx rfl (hb hby own_b5_d11) rfl ((if0 _ _).trans (tlt hc2).2.2.2) k_) ?_
      refine own_st (B := s₁.setTop (mkF m 15 #[.val (.ref d), .val (.int x1), .val (.int jj0)] [(.ref d)])) (fun t_ k_ => XS.aloadN X0.here hx rfl (hb hby own_b5_d14) rfl rfl k_) ?_
      refine own_st (B := s₁.setTop (mkF m 16 #[.val (.ref d), .val (.int x1), .val (.int jj0)] [(.int jj0), (.ref d)])) (fun t_ k_ => XS.iloadN X0.here hx rfl (hb hby own_b5_d15) rfl k_) ?_
      refine own_st (B := s₁.setTop (mkF m 17 #[.val (.ref d), .val (.int x1), .val (.int jj0)] [(.int (f (kn - 1)))])) (fun t_ k_ => own_ldB X0 hx hZ e0 A (i := (kn - 1)) hx0 (by omega) (hb hby own_b5_d16) t_ k_) ?_
      obtain ⟨_, _, ⟨T3, Lq3, kq3, nq3⟩, -, X3, ⟨Lc3, hQ3, lq3, yq3, zq3⟩, st3⟩ := Jvm.LawKit.callS X0 hx (y := (⟨"com/example/mapwright/mapwright/Utf8CheckCompletePinLaw", "cont", "(B)Z"⟩ : MethodName)) hown (mvT hZ (hw _ (List.mem_of_getElem? (i := 31) rfl))) (mvT hZ (hw _ (List.mem_of_getElem? (i := 32) rfl))) (mvT hZ (hw _ (List.mem_of_getElem? (i := 29) rfl))) (mvT hZ (hw _ (List.mem_of_getElem? (i := 33) rfl))) (by decide) (backOf (W := 0) (rm6 l Z a0 hw [] (f (kn - 1)) h0 n0 Z0 ) hZ (hw _ (List.mem_of_getElem? (i := 33) rfl)) (hw _ (List.mem_of_getElem? (i := 29) rfl)) (by decide) (by decide)) (g := (mkF m 17 #[.val (.ref d), .val (.int x1), .val (.int jj0)] [(.int (f (kn - 1)))])) rfl (by rw [hml]; rfl) (argsL := [(.int (f (kn - 1)))]) (rest := []) (lenOf own_pd1 rfl) rfl (by show 2 * 0 + _ ≤ _; exact Nat.le_of_eq rfl) (hb hby own_b5_d17) (fun _ _ => ⟨rfl, e0, (by decide : 0 + 0 ≤ _), (by decide : 0 + 0 ≤ _)⟩)
      dsimp only [Pt.U, Pt.locs, Pt.cells, Pt.slots] at X3 lq3 yq3 zq3 st3 hQ3
      rw [lq3, yq3, zq3] at X3
      have X3 : Stand p l e _ s m _ below meth c T3 _ 0 0 := X3
      obtain ⟨rfl, N3q, eh3⟩ := hQ3
      have N3 := Fr.app N0 N3q
      refine own_st (B := T3.setTop (mkF m 20 #[.val (.ref d), .val (.int x1), .val (.int jj0)] [(.int (own_b (own_cont (f (kn - 1)))))])) st3 ?_
      by_cases hc4 : (own_cont (f (kn - 1))) = false
      · refine own_st (B := T3.setTop (mkF m 58 #[.val (.ref d), .val (.int x1), .val (.int jj0)] [])) (fun t_ k_ => XS.ifYes X3.here hx rfl (pc0 := 20) (pc' := 58) rfl (hb hby own_b5_d20) rfl ((if0 _ _).trans (teq (own_b0.mpr hc4)).1) (by decide) (by decide) k_) ?_
        have hW : (kn - 1) + own_slN (own_by f (kn - 1)) = kn + nd := own_wh (t := 0) hpos hk4 (by omega) (fun s' hs' => absurd hs' (by omega)) (Or.inr (Or.inl (own_cF hc4)))
        refine own_st (B := T3.setTop (mkF m 59 #[.val (.ref d), .val (.int x1), .val (.int jj0)] [(.int jj0)])) (fun t_ k_ => XS.iloadN X3.here hx rfl (hb hby own_b5_d58) rfl k_) ?_
        refine own_st (B := T3.setTop (mkF m 60 #[.val (.ref d), .val (.int x1), .val (.int jj0)] [(.ref d), (.int jj0)])) (fun t_ k_ => XS.aloadN X3.here hx rfl (hb hby own_b5_d59) rfl rfl k_) ?_
        refine own_st (B := T3.setTop (mkF m 61 #[.val (.ref d), .val (.int x1), .val (.int jj0)] [(.int jj0), (.ref d), (.int jj0)])) (fun t_ k_ => XS.iloadN X3.here hx rfl (hb hby own_b5_d60) rfl k_) ?_
        refine own_st (B := T3.setTop (mkF m 62 #[.val (.ref d), .val (.int x1), .val (.int jj0)] [(.int (f (kn - 1))), (.int jj0)])) (fun t_ k_ => own_ldB X3 hx hZ eh3 A (i := (kn - 1)) hx0 (by omega) (hb hby own_b5_d61) t_ k_) ?_
        refine own_st (B := T3.setTop (mkF m 65 #[.val (.ref d), .val (.int x1), .val (.int jj0)] [(.int (255 : Int32)), (.int (f (kn - 1))), (.int jj0)])) (fun t_ k_ => XS.sipush X3.here hx rfl (hb hby own_b5_d62) k_) ?_
        refine own_st (B := T3.setTop (mkF m 66 #[.val (.ref d), .val (.int x1), .val (.int jj0)] [(.int ((f (kn - 1)) &&& (255 : Int32))), (.int jj0)])) (fun t_ k_ => XS.iand X3.here hx rfl (hb hby own_b5_d65) rfl k_) ?_
        obtain ⟨_, _, ⟨T5, Lq5, kq5, nq5⟩, -, X5, ⟨Lc5, hQ5, lq5, yq5, zq5⟩, st5⟩ := Jvm.LawKit.callS X3 hx (y := (⟨"com/example/mapwright/mapwright/Utf8CheckCompletePinLaw", "seqLen", "(I)I"⟩ : MethodName)) hown (mvT hZ (hw _ (List.mem_of_getElem? (i := 34) rfl))) (mvT hZ (hw _ (List.mem_of_getElem? (i := 35) rfl))) (mvT hZ (hw _ (List.mem_of_getElem? (i := 29) rfl))) (mvT hZ (hw _ (List.mem_of_getElem? (i := 36) rfl))) (by decide) (backOf (W := 1) (rm7 l Z a0 hw [] ((f (kn - 1)) &&& (255 : Int32)) h0 n0 Z0 ) hZ (hw _ (List.mem_of_getElem? (i := 36) rfl)) (hw _ (List.mem_of_getElem? (i := 29) rfl)) (by decide) (by decide)) (g := (mkF m 66 #[.val (.ref d), .val (.int x1), .val (.int jj0)] [(.int ((f (kn - 1)) &&& (255 : Int32))), (.int jj0)])) rfl (by rw [hml]; rfl) (argsL := [(.int ((f (kn - 1)) &&& (255 : Int32)))]) (rest := [(.int jj0)]) (lenOf own_pd2 rfl) rfl (by show 2 * 0 + _ ≤ _; exact Nat.le_of_eq rfl) (hb hby own_b5_d66) (fun _ _ => ⟨rfl, eh3, (by decide : 0 + 0 ≤ _), (by decide : 0 + 0 ≤ _)⟩)
        dsimp only [Pt.U, Pt.locs, Pt.cells, Pt.slots] at X5 lq5 yq5 zq5 st5 hQ5
        rw [lq5, yq5, zq5] at X5
        have X5 : Stand p l e _ s m _ below meth c T5 _ 0 0 := X5
        obtain ⟨rfl, N5q, eh5⟩ := hQ5
        have N5 := Fr.app N3 N5q
        refine own_st (B := T5.setTop (mkF m 69 #[.val (.ref d), .val (.int x1), .val (.int jj0)] [(.int (own_sl ((f (kn - 1)) &&& (255 : Int32)).toInt)), (.int jj0)])) st5 ?_
        rw [own_byI]
        have hS := own_sum (b := own_by f (kn - 1)) hx0 (by omega)
        refine own_st (B := T5.setTop (mkF m 70 #[.val (.ref d), .val (.int x1), .val (.int jj0)] [(.int (jj0 + (own_sl ((own_by f (kn - 1) : Nat) : Int))))])) (fun t_ k_ => XS.iadd X5.here hx rfl (hb hby own_b5_d69) rfl k_) ?_
        obtain ⟨sm, h_sm⟩ : ∃ z_, z_ = (jj0 + (own_sl ((own_by f (kn - 1) : Nat) : Int))) := ⟨_, rfl⟩
        rw [← h_sm] at hS ⊢
        clear h_sm
        refine own_st (B := T5.setTop (mkF m 71 #[.val (.ref d), .val (.int x1), .val (.int jj0)] [(.int x1), (.int sm)])) (fun t_ k_ => XS.iloadN X5.here hx rfl (hb hby own_b5_d70) rfl k_) ?_
        by_cases hc6 : sm = x1
        · have hd6 := own_eq32 hc6
          refine own_st (B := T5.setTop (mkF m 74 #[.val (.ref d), .val (.int x1), .val (.int jj0)] [])) (fun t_ k_ => XS.icmpNo X5.here hx rfl (hb hby own_b5_d71) rfl (teq hc6).2 k_) ?_
          refine own_st (B := T5.setTop (mkF m 75 #[.val (.ref d), .val (.int x1), .val (.int jj0)] [(.int (1 : Int32))])) (fun t_ k_ => XS.iconst X5.here hx rfl (hb hby own_b5_d74) k_) ?_
          refine own_st (B := T5.setTop (mkF m 79 #[.val (.ref d), .val (.int x1), .val (.int jj0)] [(.int (1 : Int32))])) (fun t_ k_ => XS.goto X5.here hx rfl (pc0 := 75) (pc' := 79) rfl (hb hby own_b5_d75) (by decide) (by decide) k_) ?_
          refine own_retN X5 hx (t := .boolean) Bd.returns (by simp) hlk (hb hby own_b5_d79) (z' := (1 : Int32)) (by first | rfl | exact own_nb _) (by decide) (by decide) ?_
          show Q5 Z d x1 kn nd f h0 n0 _ T5.heap _
          rw [eh5]
          exact ⟨by rw [own_b1 (show nd = 0 by omega)], N5, rfl⟩
        · have hd6 := own_neq32 hc6
          refine own_st (B := T5.setTop (mkF m 78 #[.val (.ref d), .val (.int x1), .val (.int jj0)] [])) (fun t_ k_ => XS.icmpYes X5.here hx rfl (pc0 := 71) (pc' := 78) rfl (hb hby own_b5_d71) rfl (feq hc6).2 (by decide) (by decide) k_) ?_
          refine own_st (B := T5.setTop (mkF m 79 #[.val (.ref d), .val (.int x1), .val (.int jj0)] [(.int (0 : Int32))])) (fun t_ k_ => XS.iconst X5.here hx rfl (hb hby own_b5_d78) k_) ?_
          refine own_retN X5 hx (t := .boolean) Bd.returns (by simp) hlk (hb hby own_b5_d79) (z' := (0 : Int32)) (by first | rfl | exact own_nb _) (by decide) (by decide) ?_
          show Q5 Z d x1 kn nd f h0 n0 _ T5.heap _
          rw [eh5]
          exact ⟨by rw [own_bz (show ¬ nd = 0 by omega)], N5, rfl⟩
      · refine own_st (B := T3.setTop (mkF m 23 #[.val (.ref d), .val (.int x1), .val (.int jj0)] [])) (fun t_ k_ => XS.ifNo X3.here hx rfl (hb hby own_b5_d20) rfl ((if0 _ _).trans (feq (fun q => hc4 (own_b0.mp q))).1) k_) ?_
        refine own_st (B := T3.setTop (mkF m 26 #[.val (.ref d), .val (.int x1), .val (.int (jj0 + (-1 : Int32)))] [])) (fun t_ k_ => XS.iinc X3.here hx rfl (hb hby own_b5_d23) rfl (l' := #[.val (.ref d), .val (.int x1), .val (.int (jj0 + (-1 : Int32)))]) rfl k_) ?_
        have hct0 := own_cT hc4
        have hx1 : own_ix (jj0 + (-1 : Int32)) (kn - 2) := (show kn - 1 - 1 = kn - 2 by omega) ▸ own_ixd (i := kn - 1) hx0 (by omega) (by omega)
        obtain ⟨jj1, h_jj1⟩ : ∃ z_, z_ = (jj0 + (-1 : Int32)) := ⟨_, rfl⟩
        rw [← h_jj1] at hx1 ⊢
        clear h_jj1
        have hxi1 := own_ixI hx1
        refine own_st (B := T3.setTop (mkF m 27 #[.val (.ref d), .val (.int x1), .val (.int jj1)] [(.int jj1)])) (fun t_ k_ => XS.iloadN X3.here hx rfl (hb hby own_b5_d26) rfl k_) ?_
        by_cases hc7 : (0 : Int32) < jj1
        · have hd7 := own_lt32 hc7
          rw [show (0 : Int32).toInt = 0 from rfl] at hd7
          refine own_st (B := T3.setTop (mkF m 30 #[.val (.ref d), .val (.int x1), .val (.int jj1)] [])) (fun t_ k_ => XS.ifNo X3.here hx rfl (hb hby own_b5_d27) rfl ((if0 _ _).trans (tlt hc7).2.2.2) k_) ?_
          refine own_st (B := T3.setTop (mkF m 31 #[.val (.ref d), .val (.int x1), .val (.int jj1)] [(.ref d)])) (fun t_ k_ => XS.aloadN X3.here hx rfl (hb hby own_b5_d30) rfl rfl k_) ?_
          refine own_st (B := T3.setTop (mkF m 32 #[.val (.ref d), .val (.int x1), .val (.int jj1)] [(.int jj1), (.ref d)])) (fun t_ k_ => XS.iloadN X3.here hx rfl (hb hby own_b5_d31) rfl k_) ?_
          refine own_st (B := T3.setTop (mkF m 33 #[.val (.ref d), .val (.int x1), .val (.int jj1)] [(.int (f (kn - 2)))])) (fun t_ k_ => own_ldB X3 hx hZ eh3 A (i := (kn - 2)) hx1 (by omega) (hb hby own_b5_d32) t_ k_) ?_
          obtain ⟨_, _, ⟨T8, Lq8, kq8, nq8⟩, -, X8, ⟨Lc8, hQ8, lq8, yq8, zq8⟩, st8⟩ := Jvm.LawKit.callS X3 hx (y := (⟨"com/example/mapwright/mapwright/Utf8CheckCompletePinLaw", "cont", "(B)Z"⟩ : MethodName)) hown (mvT hZ (hw _ (List.mem_of_getElem? (i := 31) rfl))) (mvT hZ (hw _ (List.mem_of_getElem? (i := 32) rfl))) (mvT hZ (hw _ (List.mem_of_getElem? (i := 29) rfl))) (mvT hZ (hw _ (List.mem_of_getElem? (i := 33) rfl))) (by decide) (backOf (W := 0) (rm6 l Z a0 hw [] (f (kn - 2)) h0 n0 Z0 ) hZ (hw _ (List.mem_of_getElem? (i := 33) rfl)) (hw _ (List.mem_of_getElem? (i := 29) rfl)) (by decide) (by decide)) (g := (mkF m 33 #[.val (.ref d), .val (.int x1), .val (.int jj1)] [(.int (f (kn - 2)))])) rfl (by rw [hml]; rfl) (argsL := [(.int (f (kn - 2)))]) (rest := []) (lenOf own_pd1 rfl) rfl (by show 2 * 0 + _ ≤ _; exact Nat.le_of_eq rfl) (hb hby own_b5_d33) (fun _ _ => ⟨rfl, eh3, (by decide : 0 + 0 ≤ _), (by decide : 0 + 0 ≤ _)⟩)
          dsimp only [Pt.U, Pt.locs, Pt.cells, Pt.slots] at X8 lq8 yq8 zq8 st8 hQ8
          rw [lq8, yq8, zq8] at X8
          have X8 : Stand p l e _ s m _ below meth c T8 _ 0 0 := X8
          obtain ⟨rfl, N8q, eh8⟩ := hQ8
          have N8 := Fr.app N3 N8q
          refine own_st (B := T8.setTop (mkF m 36 #[.val (.ref d), .val (.int x1), .val (.int jj1)] [(.int (own_b (own_cont (f (kn - 2)))))])) st8 ?_
          by_cases hc9 : (own_cont (f (kn - 2))) = false
          · refine own_st (B := T8.setTop (mkF m 58 #[.val (.ref d), .val (.int x1), .val (.int jj1)] [])) (fun t_ k_ => XS.ifYes X8.here hx rfl (pc0 := 36) (pc' := 58) rfl (hb hby own_b5_d36) rfl ((if0 _ _).trans (teq (own_b0.mpr hc9)).1) (by decide) (by decide) k_) ?_
            have hW : (kn - 2) + own_slN (own_by f (kn - 2)) = kn + nd := own_wh (t := 1) hpos hk4 (by omega) (fun s' hs' => by
                have : s' = 0 := by omega
                rcases this with rfl
                · exact hct0) (Or.inr (Or.inl (own_cF hc9)))
            refine own_st (B := T8.setTop (mkF m 59 #[.val (.ref d), .val (.int x1), .val (.int jj1)] [(.int jj1)])) (fun t_ k_ => XS.iloadN X8.here hx rfl (hb hby own_b5_d58) rfl k_) ?_
            refine own_st (B := T8.setTop (mkF m 60 #[.val (.ref d), .val (.int x1), .val (.int jj1)] [(.ref d), (.int jj1)])) (fun t_ k_ => XS.aloadN X8.here hx rfl (hb hby own_b5_d59) rfl rfl k_) ?_
            refine own_st (B := T8.setTop (mkF m 61 #[.val (.ref d), .val (.int x1), .val (.int jj1)] [(.int jj1), (.ref d), (.int jj1)])) (fun t_ k_ => XS.iloadN X8.here hx rfl (hb hby own_b5_d60) rfl k_) ?_
            refine own_st (B := T8.setTop (mkF m 62 #[.val (.ref d), .val (.int x1), .val (.int jj1)] [(.int (f (kn - 2))), (.int jj1)])) (fun t_ k_ => own_ldB X8 hx hZ eh8 A (i := (kn - 2)) hx1 (by omega) (hb hby own_b5_d61) t_ k_) ?_
            refine own_st (B := T8.setTop (mkF m 65 #[.val (.ref d), .val (.int x1), .val (.int jj1)] [(.int (255 : Int32)), (.int (f (kn - 2))), (.int jj1)])) (fun t_ k_ => XS.sipush X8.here hx rfl (hb hby own_b5_d62) k_) ?_
            refine own_st (B := T8.setTop (mkF m 66 #[.val (.ref d), .val (.int x1), .val (.int jj1)] [(.int ((f (kn - 2)) &&& (255 : Int32))), (.int jj1)])) (fun t_ k_ => XS.iand X8.here hx rfl (hb hby own_b5_d65) rfl k_) ?_
            obtain ⟨_, _, ⟨T10, Lq10, kq10, nq10⟩, -, X10, ⟨Lc10, hQ10, lq10, yq10, zq10⟩, st10⟩ := Jvm.LawKit.callS X8 hx (y := (⟨"com/example/mapwright/mapwright/Utf8CheckCompletePinLaw", "seqLen", "(I)I"⟩ : MethodName)) hown (mvT hZ (hw _ (List.mem_of_getElem? (i := 34) rfl))) (mvT hZ (hw _ (List.mem_of_getElem? (i := 35) rfl))) (mvT hZ (hw _ (List.mem_of_getElem? (i := 29) rfl))) (mvT hZ (hw _ (List.mem_of_getElem? (i := 36) rfl))) (by decide) (backOf (W := 1) (rm7 l Z a0 hw [] ((f (kn - 2)) &&& (255 : Int32)) h0 n0 Z0 ) hZ (hw _ (List.mem_of_getElem? (i := 36) rfl)) (hw _ (List.mem_of_getElem? (i := 29) rfl)) (by decide) (by decide)) (g := (mkF m 66 #[.val (.ref d), .val (.int x1), .val (.int jj1)] [(.int ((f (kn - 2)) &&& (255 : Int32))), (.int jj1)])) rfl (by rw [hml]; rfl) (argsL := [(.int ((f (kn - 2)) &&& (255 : Int32)))]) (rest := [(.int jj1)]) (lenOf own_pd2 rfl) rfl (by show 2 * 0 + _ ≤ _; exact Nat.le_of_eq rfl) (hb hby own_b5_d66) (fun _ _ => ⟨rfl, eh8, (by decide : 0 + 0 ≤ _), (by decide : 0 + 0 ≤ _)⟩)
            dsimp only [Pt.U, Pt.locs, Pt.cells, Pt.slots] at X10 lq10 yq10 zq10 st10 hQ10
            rw [lq10, yq10, zq10] at X10
            have X10 : Stand p l e _ s m _ below meth c T10 _ 0 0 := X10
            obtain ⟨rfl, N10q, eh10⟩ := hQ10
            have N10 := Fr.app N8 N10q
            refine own_st (B := T10.setTop (mkF m 69 #[.val (.ref d), .val (.int x1), .val (.int jj1)] [(.int (own_sl ((f (kn - 2)) &&& (255 : Int32)).toInt)), (.int jj1)])) st10 ?_
            rw [own_byI]
            have hS := own_sum (b := own_by f (kn - 2)) hx1 (by omega)
            refine own_st (B := T10.setTop (mkF m 70 #[.val (.ref d), .val (.int x1), .val (.int jj1)] [(.int (jj1 + (own_sl ((own_by f (kn - 2) : Nat) : Int))))])) (fun t_ k_ => XS.iadd X10.here hx rfl (hb hby own_b5_d69) rfl k_) ?_
            obtain ⟨sm, h_sm⟩ : ∃ z_, z_ = (jj1 + (own_sl ((own_by f (kn - 2) : Nat) : Int))) := ⟨_, rfl⟩
            rw [← h_sm] at hS ⊢
            clear h_sm
            refine own_st (B := T10.setTop (mkF m 71 #[.val (.ref d), .val (.int x1), .val (.int jj1)] [(.int x1), (.int sm)])) (fun t_ k_ => XS.iloadN X10.here hx rfl (hb hby own_b5_d70) rfl k_) ?_
            by_cases hc11 : sm = x1
            · have hd11 := own_eq32 hc11
              refine own_st (B := T10.setTop (mkF m 74 #[.val (.ref d), .val (.int x1), .val (.int jj1)] [])) (fun t_ k_ => XS.icmpNo X10.here hx rfl (hb hby own_b5_d71) rfl (teq hc11).2 k_) ?_
              refine own_st (B := T10.setTop (mkF m 75 #[.val (.ref d), .val (.int x1), .val (.int jj1)] [(.int (1 : Int32))])) (fun t_ k_ => XS.iconst X10.here hx rfl (hb hby own_b5_d74) k_) ?_
              refine own_st (B := T10.setTop (mkF m 79 #[.val (.ref d), .val (.int x1), .val (.int jj1)] [(.int (1 : Int32))])) (fun t_ k_ => XS.goto X10.here hx rfl (pc0 := 75) (pc' := 79) rfl (hb hby own_b5_d75) (by decide) (by decide) k_) ?_
              refine own_retN X10 hx (t := .boolean) Bd.returns (by simp) hlk (hb hby own_b5_d79) (z' := (1 : Int32)) (by first | rfl | exact own_nb _) (by decide) (by decide) ?_
              show Q5 Z d x1 kn nd f h0 n0 _ T10.heap _
              rw [eh10]
              exact ⟨by rw [own_b1 (show nd = 0 by omega)], N10, rfl⟩
            · have hd11 := own_neq32 hc11
              refine own_st (B := T10.setTop (mkF m 78 #[.val (.ref d), .val (.int x1), .val (.int jj1)] [])) (fun t_ k_ => XS.icmpYes X10.here hx rfl (pc0 := 71) (pc' := 78) rfl (hb hby own_b5_d71) rfl (feq hc11).2 (by decide) (by decide) k_) ?_
              refine own_st (B := T10.setTop (mkF m 79 #[.val (.ref d), .val (.int x1), .val (.int jj1)] [(.int (0 : Int32))])) (fun t_ k_ => XS.iconst X10.here hx rfl (hb hby own_b5_d78) k_) ?_
              refine own_retN X10 hx (t := .boolean) Bd.returns (by simp) hlk (hb hby own_b5_d79) (z' := (0 : Int32)) (by first | rfl | exact own_nb _) (by decide) (by decide) ?_
              show Q5 Z d x1 kn nd f h0 n0 _ T10.heap _
              rw [eh10]
              exact ⟨by rw [own_bz (show ¬ nd = 0 by omega)], N10, rfl⟩
          · refine own_st (B := T8.setTop (mkF m 39 #[.val (.ref d), .val (.int x1), .val (.int jj1)] [])) (fun t_ k_ => XS.ifNo X8.here hx rfl (hb hby own_b5_d36) rfl ((if0 _ _).trans (feq (fun q => hc9 (own_b0.mp q))).1) k_) ?_
            refine own_st (B := T8.setTop (mkF m 42 #[.val (.ref d), .val (.int x1), .val (.int (jj1 + (-1 : Int32)))] [])) (fun t_ k_ => XS.iinc X8.here hx rfl (hb hby own_b5_d39) rfl (l' := #[.val (.ref d), .val (.int x1), .val (.int (jj1 + (-1 : Int32)))]) rfl k_) ?_
            have hct1 := own_cT hc9
            have hx2 : own_ix (jj1 + (-1 : Int32)) (kn - 3) := (show kn - 2 - 1 = kn - 3 by omega) ▸ own_ixd (i := kn - 2) hx1 (by omega) (by omega)
            obtain ⟨jj2, h_jj2⟩ : ∃ z_, z_ = (jj1 + (-1 : Int32)) := ⟨_, rfl⟩
            rw [← h_jj2] at hx2 ⊢
            clear h_jj2
            have hxi2 := own_ixI hx2
            refine own_st (B := T8.setTop (mkF m 43 #[.val (.ref d), .val (.int x1), .val (.int jj2)] [(.int jj2)])) (fun t_ k_ => XS.iloadN X8.here hx rfl (hb hby own_b5_d42) rfl k_) ?_
            by_cases hc12 : (0 : Int32) < jj2
            · have hd12 := own_lt32 hc12
              rw [show (0 : Int32).toInt = 0 from rfl] at hd12
              refine own_st (B := T8.setTop (mkF m 46 #[.val (.ref d), .val (.int x1), .val (.int jj2)] [])) (fun t_ k_ => XS.ifNo X8.here hx rfl (hb hby own_b5_d43) rfl ((if0 _ _).trans (tlt hc12).2.2.2) k_) ?_
              refine own_st (B := T8.setTop (mkF m 47 #[.val (.ref d), .val (.int x1), .val (.int jj2)] [(.ref d)])) (fun t_ k_ => XS.aloadN X8.here hx rfl (hb hby own_b5_d46) rfl rfl k_) ?_
              refine own_st (B := T8.setTop (mkF m 48 #[.val (.ref d), .val (.int x1), .val (.int jj2)] [(.int jj2), (.ref d)])) (fun t_ k_ => XS.iloadN X8.here hx rfl (hb hby own_b5_d47) rfl k_) ?_
              refine own_st (B := T8.setTop (mkF m 49 #[.val (.ref d), .val (.int x1), .val (.int jj2)] [(.int (f (kn - 3)))])) (fun t_ k_ => own_ldB X8 hx hZ eh8 A (i := (kn - 3)) hx2 (by omega) (hb hby own_b5_d48) t_ k_) ?_
              obtain ⟨_, _, ⟨T13, Lq13, kq13, nq13⟩, -, X13, ⟨Lc13, hQ13, lq13, yq13, zq13⟩, st13⟩ := Jvm.LawKit.callS X8 hx (y := (⟨"com/example/mapwright/mapwright/Utf8CheckCompletePinLaw", "cont", "(B)Z"⟩ : MethodName)) hown (mvT hZ (hw _ (List.mem_of_getElem? (i := 31) rfl))) (mvT hZ (hw _ (List.mem_of_getElem? (i := 32) rfl))) (mvT hZ (hw _ (List.mem_of_getElem? (i := 29) rfl))) (mvT hZ (hw _ (List.mem_of_getElem? (i := 33) rfl))) (by decide) (backOf (W := 0) (rm6 l Z a0 hw [] (f (kn - 3)) h0 n0 Z0 ) hZ (hw _ (List.mem_of_getElem? (i := 33) rfl)) (hw _ (List.mem_of_getElem? (i := 29) rfl)) (by decide) (by decide)) (g := (mkF m 49 #[.val (.ref d), .val (.int x1), .val (.int jj2)] [(.int (f (kn - 3)))])) rfl (by rw [hml]; rfl) (argsL := [(.int (f (kn - 3)))]) (rest := []) (lenOf own_pd1 rfl) rfl (by show 2 * 0 + _ ≤ _; exact Nat.le_of_eq rfl) (hb hby own_b5_d49) (fun _ _ => ⟨rfl, eh8, (by decide : 0 + 0 ≤ _), (by decide : 0 + 0 ≤ _)⟩)
              dsimp only [Pt.U, Pt.locs, Pt.cells, Pt.slots] at X13 lq13 yq13 zq13 st13 hQ13
              rw [lq13, yq13, zq13] at X13
              have X13 : Stand p l e _ s m _ below meth c T13 _ 0 0 := X13
              obtain ⟨rfl, N13q, eh13⟩ := hQ13
              have N13 := Fr.app N8 N13q
              refine own_st (B := T13.setTop (mkF m 52 #[.val (.ref d), .val (.int x1), .val (.int jj2)] [(.int (own_b (own_cont (f (kn - 3)))))])) st13 ?_
              by_cases hc14 : (own_cont (f (kn - 3))) = false
              · refine own_st (B := T13.setTop (mkF m 58 #[.val (.ref d), .val (.int x1), .val (.int jj2)] [])) (fun t_ k_ => XS.ifYes X13.here hx rfl (pc0 := 52) (pc' := 58) rfl (hb hby own_b5_d52) rfl ((if0 _ _).trans (teq (own_b0.mpr hc14)).1) (by decide) (by decide) k_) ?_
                have hW : (kn - 3) + own_slN (own_by f (kn - 3)) = kn + nd := own_wh (t := 2) hpos hk4 (by omega) (fun s' hs' => by
                    have : s' = 0 ∨ s' = 1 := by omega
                    rcases this with rfl | rfl
                    · exact hct0
                    · exact hct1) (Or.inr (Or.inl (own_cF hc14)))
                refine own_st (B := T13.setTop (mkF m 59 #[.val (.ref d), .val (.int x1), .val (.int jj2)] [(.int jj2)])) (fun t_ k_ => XS.iloadN X13.here hx rfl (hb hby own_b5_d58) rfl k_) ?_
                refine own_st (B := T13.setTop (mkF m 60 #[.val (.ref d), .val (.int x1), .val (.int jj2)] [(.ref d), (.int jj2)])) (fun t_ k_ => XS.aloadN X13.here hx rfl (hb hby own_b5_d59) rfl rfl k_) ?_
                refine own_st (B := T13.setTop (mkF m 61 #[.val (.ref d), .val (.int x1), .val (.int jj2)] [(.int jj2), (.ref d), (.int jj2)])) (fun t_ k_ => XS.iloadN X13.here hx rfl (hb hby own_b5_d60) rfl k_) ?_
                refine own_st (B := T13.setTop (mkF m 62 #[.val (.ref d), .val (.int x1), .val (.int jj2)] [(.int (f (kn - 3))), (.int jj2)])) (fun t_ k_ => own_ldB X13 hx hZ eh13 A (i := (kn - 3)) hx2 (by omega) (hb hby own_b5_d61) t_ k_) ?_
                refine own_st (B := T13.setTop (mkF m 65 #[.val (.ref d), .val (.int x1), .val (.int jj2)] [(.int (255 : Int32)), (.int (f (kn - 3))), (.int jj2)])) (fun t_ k_ => XS.sipush X13.here hx rfl (hb hby own_b5_d62) k_) ?_
                refine own_st (B := T13.setTop (mkF m 66 #[.val (.ref d), .val (.int x1), .val (.int jj2)] [(.int ((f (kn - 3)) &&& (255 : Int32))), (.int jj2)])) (fun t_ k_ => XS.iand X13.here hx rfl (hb hby own_b5_d65) rfl k_) ?_
                obtain ⟨_, _, ⟨T15, Lq15, kq15, nq15⟩, -, X15, ⟨Lc15, hQ15, lq15, yq15, zq15⟩, st15⟩ := Jvm.LawKit.callS X13 hx (y := (⟨"com/example/mapwright/mapwright/Utf8CheckCompletePinLaw", "seqLen", "(I)I"⟩ : MethodName)) hown (mvT hZ (hw _ (List.mem_of_getElem? (i := 34) rfl))) (mvT hZ (hw _ (List.mem_of_getElem? (i := 35) rfl))) (mvT hZ (hw _ (List.mem_of_getElem? (i := 29) rfl))) (mvT hZ (hw _ (List.mem_of_getElem? (i := 36) rfl))) (by decide) (backOf (W := 1) (rm7 l Z a0 hw [] ((f (kn - 3)) &&& (255 : Int32)) h0 n0 Z0 ) hZ (hw _ (List.mem_of_getElem? (i := 36) rfl)) (hw _ (List.mem_of_getElem? (i := 29) rfl)) (by decide) (by decide)) (g := (mkF m 66 #[.val (.ref d), .val (.int x1), .val (.int jj2)] [(.int ((f (kn - 3)) &&& (255 : Int32))), (.int jj2)])) rfl (by rw [hml]; rfl) (argsL := [(.int ((f (kn - 3)) &&& (255 : Int32)))]) (rest := [(.int jj2)]) (lenOf own_pd2 rfl) rfl (by show 2 * 0 + _ ≤ _; exact Nat.le_of_eq rfl) (hb hby own_b5_d66) (fun _ _ => ⟨rfl, eh13, (by decide : 0 + 0 ≤ _), (by decide : 0 + 0 ≤ _)⟩)
                dsimp only [Pt.U, Pt.locs, Pt.cells, Pt.slots] at X15 lq15 yq15 zq15 st15 hQ15
                rw [lq15, yq15, zq15] at X15
                have X15 : Stand p l e _ s m _ below meth c T15 _ 0 0 := X15
                obtain ⟨rfl, N15q, eh15⟩ := hQ15
                have N15 := Fr.app N13 N15q
                refine own_st (B := T15.setTop (mkF m 69 #[.val (.ref d), .val (.int x1), .val (.int jj2)] [(.int (own_sl ((f (kn - 3)) &&& (255 : Int32)).toInt)), (.int jj2)])) st15 ?_
                rw [own_byI]
                have hS := own_sum (b := own_by f (kn - 3)) hx2 (by omega)
                refine own_st (B := T15.setTop (mkF m 70 #[.val (.ref d), .val (.int x1), .val (.int jj2)] [(.int (jj2 + (own_sl ((own_by f (kn - 3) : Nat) : Int))))])) (fun t_ k_ => XS.iadd X15.here hx rfl (hb hby own_b5_d69) rfl k_) ?_
                obtain ⟨sm, h_sm⟩ : ∃ z_, z_ = (jj2 + (own_sl ((own_by f (kn - 3) : Nat) : Int))) := ⟨_, rfl⟩
                rw [← h_sm] at hS ⊢
                clear h_sm
                refine own_st (B := T15.setTop (mkF m 71 #[.val (.ref d), .val (.int x1), .val (.int jj2)] [(.int x1), (.int sm)])) (fun t_ k_ => XS.iloadN X15.here hx rfl (hb hby own_b5_d70) rfl k_) ?_
                by_cases hc16 : sm = x1
                · have hd16 := own_eq32 hc16
                  refine own_st (B := T15.setTop (mkF m 74 #[.val (.ref d), .val (.int x1), .val (.int jj2)] [])) (fun t_ k_ => XS.icmpNo X15.here hx rfl (hb hby own_b5_d71) rfl (teq hc16).2 k_) ?_
                  refine own_st (B := T15.setTop (mkF m 75 #[.val (.ref d), .val (.int x1), .val (.int jj2)] [(.int (1 : Int32))])) (fun t_ k_ => XS.iconst X15.here hx rfl (hb hby own_b5_d74) k_) ?_
                  refine own_st (B := T15.setTop (mkF m 79 #[.val (.ref d), .val (.int x1), .val (.int jj2)] [(.int (1 : Int32))])) (fun t_ k_ => XS.goto X15.here hx rfl (pc0 := 75) (pc' := 79) rfl (hb hby own_b5_d75) (by decide) (by decide) k_) ?_
                  refine own_retN X15 hx (t := .boolean) Bd.returns (by simp) hlk (hb hby own_b5_d79) (z' := (1 : Int32)) (by first | rfl | exact own_nb _) (by decide) (by decide) ?_
                  show Q5 Z d x1 kn nd f h0 n0 _ T15.heap _
                  rw [eh15]
                  exact ⟨by rw [own_b1 (show nd = 0 by omega)], N15, rfl⟩
                · have hd16 := own_neq32 hc16
                  refine own_st (B := T15.setTop (mkF m 78 #[.val (.ref d), .val (.int x1), .val (.int jj2)] [])) (fun t_ k_ => XS.icmpYes X15.here hx rfl (pc0 := 71) (pc' := 78) rfl (hb hby own_b5_d71) rfl (feq hc16).2 (by decide) (by decide) k_) ?_
                  refine own_st (B := T15.setTop (mkF m 79 #[.val (.ref d), .val (.int x1), .val (.int jj2)] [(.int (0 : Int32))])) (fun t_ k_ => XS.iconst X15.here hx rfl (hb hby own_b5_d78) k_) ?_
                  refine own_retN X15 hx (t := .boolean) Bd.returns (by simp) hlk (hb hby own_b5_d79) (z' := (0 : Int32)) (by first | rfl | exact own_nb _) (by decide) (by decide) ?_
                  show Q5 Z d x1 kn nd f h0 n0 _ T15.heap _
                  rw [eh15]
                  exact ⟨by rw [own_bz (show ¬ nd = 0 by omega)], N15, rfl⟩
              · refine own_st (B := T13.setTop (mkF m 55 #[.val (.ref d), .val (.int x1), .val (.int jj2)] [])) (fun t_ k_ => XS.ifNo X13.here hx rfl (hb hby own_b5_d52) rfl ((if0 _ _).trans (feq (fun q => hc14 (own_b0.mp q))).1) k_) ?_
                refine own_st (B := T13.setTop (mkF m 58 #[.val (.ref d), .val (.int x1), .val (.int (jj2 + (-1 : Int32)))] [])) (fun t_ k_ => XS.iinc X13.here hx rfl (hb hby own_b5_d55) rfl (l' := #[.val (.ref d), .val (.int x1), .val (.int (jj2 + (-1 : Int32)))]) rfl k_) ?_
                have hct2 := own_cT hc14
                have hx3 : own_ix (jj2 + (-1 : Int32)) (kn - 4) := (show kn - 3 - 1 = kn - 4 by omega) ▸ own_ixd (i := kn - 3) hx2 (by omega) (by omega)
                obtain ⟨jj3, h_jj3⟩ : ∃ z_, z_ = (jj2 + (-1 : Int32)) := ⟨_, rfl⟩
                rw [← h_jj3] at hx3 ⊢
                clear h_jj3
                have hxi3 := own_ixI hx3
                have hW : (kn - 4) + own_slN (own_by f (kn - 4)) = kn + nd := own_wh (t := 3) hpos hk4 (by omega) (fun s' hs' => by
                    have : s' = 0 ∨ s' = 1 ∨ s' = 2 := by omega
                    rcases this with rfl | rfl | rfl
                    · exact hct0
                    · exact hct1
                    · exact hct2) (Or.inr (Or.inr rfl))
                refine own_st (B := T13.setTop (mkF m 59 #[.val (.ref d), .val (.int x1), .val (.int jj3)] [(.int jj3)])) (fun t_ k_ => XS.iloadN X13.here hx rfl (hb hby own_b5_d58) rfl k_) ?_
                refine own_st (B := T13.setTop (mkF m 60 #[.val (.ref d), .val (.int x1), .val (.int jj3)] [(.ref d), (.int jj3)])) (fun t_ k_ => XS.aloadN X13.here hx rfl (hb hby own_b5_d59) rfl rfl k_) ?_
                refine own_st (B := T13.setTop (mkF m 61 #[.val (.ref d), .val (.int x1), .val (.int jj3)] [(.int jj3), (.ref d), (.int jj3)])) (fun t_ k_ => XS.iloadN X13.here hx rfl (hb hby own_b5_d60) rfl k_) ?_
                refine own_st (B := T13.setTop (mkF m 62 #[.val (.ref d), .val (.int x1), .val (.int jj3)] [(.int (f (kn - 4))), (.int jj3)])) (fun t_ k_ => own_ldB X13 hx hZ eh13 A (i := (kn - 4)) hx3 (by omega) (hb hby own_b5_d61) t_ k_) ?_
                refine own_st (B := T13.setTop (mkF m 65 #[.val (.ref d), .val (.int x1), .val (.int jj3)] [(.int (255 : Int32)), (.int (f (kn - 4))), (.int jj3)])) (fun t_ k_ => XS.sipush X13.here hx rfl (hb hby own_b5_d62) k_) ?_
                refine own_st (B := T13.setTop (mkF m 66 #[.val (.ref d), .val (.int x1), .val (.int jj3)] [(.int ((f (kn - 4)) &&& (255 : Int32))), (.int jj3)])) (fun t_ k_ => XS.iand X13.here hx rfl (hb hby own_b5_d65) rfl k_) ?_
                obtain ⟨_, _, ⟨T17, Lq17, kq17, nq17⟩, -, X17, ⟨Lc17, hQ17, lq17, yq17, zq17⟩, st17⟩ := Jvm.LawKit.callS X13 hx (y := (⟨"com/example/mapwright/mapwright/Utf8CheckCompletePinLaw", "seqLen", "(I)I"⟩ : MethodName)) hown (mvT hZ (hw _ (List.mem_of_getElem? (i := 34) rfl))) (mvT hZ (hw _ (List.mem_of_getElem? (i := 35) rfl))) (mvT hZ (hw _ (List.mem_of_getElem? (i := 29) rfl))) (mvT hZ (hw _ (List.mem_of_getElem? (i := 36) rfl))) (by decide) (backOf (W := 1) (rm7 l Z a0 hw [] ((f (kn - 4)) &&& (255 : Int32)) h0 n0 Z0 ) hZ (hw _ (List.mem_of_getElem? (i := 36) rfl)) (hw _ (List.mem_of_getElem? (i := 29) rfl)) (by decide) (by decide)) (g := (mkF m 66 #[.val (.ref d), .val (.int x1), .val (.int jj3)] [(.int ((f (kn - 4)) &&& (255 : Int32))), (.int jj3)])) rfl (by rw [hml]; rfl) (argsL := [(.int ((f (kn - 4)) &&& (255 : Int32)))]) (rest := [(.int jj3)]) (lenOf own_pd2 rfl) rfl (by show 2 * 0 + _ ≤ _; exact Nat.le_of_eq rfl) (hb hby own_b5_d66) (fun _ _ => ⟨rfl, eh13, (by decide : 0 + 0 ≤ _), (by decide : 0 + 0 ≤ _)⟩)
                dsimp only [Pt.U, Pt.locs, Pt.cells, Pt.slots] at X17 lq17 yq17 zq17 st17 hQ17
                rw [lq17, yq17, zq17] at X17
                have X17 : Stand p l e _ s m _ below meth c T17 _ 0 0 := X17
                obtain ⟨rfl, N17q, eh17⟩ := hQ17
                have N17 := Fr.app N13 N17q
                refine own_st (B := T17.setTop (mkF m 69 #[.val (.ref d), .val (.int x1), .val (.int jj3)] [(.int (own_sl ((f (kn - 4)) &&& (255 : Int32)).toInt)), (.int jj3)])) st17 ?_
                rw [own_byI]
                have hS := own_sum (b := own_by f (kn - 4)) hx3 (by omega)
                refine own_st (B := T17.setTop (mkF m 70 #[.val (.ref d), .val (.int x1), .val (.int jj3)] [(.int (jj3 + (own_sl ((own_by f (kn - 4) : Nat) : Int))))])) (fun t_ k_ => XS.iadd X17.here hx rfl (hb hby own_b5_d69) rfl k_) ?_
                obtain ⟨sm, h_sm⟩ : ∃ z_, z_ = (jj3 + (own_sl ((own_by f (kn - 4) : Nat) : Int))) := ⟨_, rfl⟩
                rw [← h_sm] at hS ⊢
                clear h_sm
                refine own_st (B := T17.setTop (mkF m 71 #[.val (.ref d), .val (.int x1), .val (.int jj3)] [(.int x1), (.int sm)])) (fun t_ k_ => XS.iloadN X17.here hx rfl (hb hby own_b5_d70) rfl k_) ?_
                by_cases hc18 : sm = x1
                · have hd18 := own_eq32 hc18
                  refine own_st (B := T17.setTop (mkF m 74 #[.val (.ref d), .val (.int x1), .val (.int jj3)] [])) (fun t_ k_ => XS.icmpNo X17.here hx rfl (hb hby own_b5_d71) rfl (teq hc18).2 k_) ?_
                  refine own_st (B := T17.setTop (mkF m 75 #[.val (.ref d), .val (.int x1), .val (.int jj3)] [(.int (1 : Int32))])) (fun t_ k_ => XS.iconst X17.here hx rfl (hb hby own_b5_d74) k_) ?_
                  refine own_st (B := T17.setTop (mkF m 79 #[.val (.ref d), .val (.int x1), .val (.int jj3)] [(.int (1 : Int32))])) (fun t_ k_ => XS.goto X17.here hx rfl (pc0 := 75) (pc' := 79) rfl (hb hby own_b5_d75) (by decide) (by decide) k_) ?_
                  refine own_retN X17 hx (t := .boolean) Bd.returns (by simp) hlk (hb hby own_b5_d79) (z' := (1 : Int32)) (by first | rfl | exact own_nb _) (by decide) (by decide) ?_
                  show Q5 Z d x1 kn nd f h0 n0 _ T17.heap _
                  rw [eh17]
                  exact ⟨by rw [own_b1 (show nd = 0 by omega)], N17, rfl⟩
                · have hd18 := own_neq32 hc18
                  refine own_st (B := T17.setTop (mkF m 78 #[.val (.ref d), .val (.int x1), .val (.int jj3)] [])) (fun t_ k_ => XS.icmpYes X17.here hx rfl (pc0 := 71) (pc' := 78) rfl (hb hby own_b5_d71) rfl (feq hc18).2 (by decide) (by decide) k_) ?_
                  refine own_st (B := T17.setTop (mkF m 79 #[.val (.ref d), .val (.int x1), .val (.int jj3)] [(.int (0 : Int32))])) (fun t_ k_ => XS.iconst X17.here hx rfl (hb hby own_b5_d78) k_) ?_
                  refine own_retN X17 hx (t := .boolean) Bd.returns (by simp) hlk (hb hby own_b5_d79) (z' := (0 : Int32)) (by first | rfl | exact own_nb _) (by decide) (by decide) ?_
                  show Q5 Z d x1 kn nd f h0 n0 _ T17.heap _
                  rw [eh17]
                  exact ⟨by rw [own_bz (show ¬ nd = 0 by omega)], N17, rfl⟩
            · have hd12 := own_nlt32 hc12
              rw [show (0 : Int32).toInt = 0 from rfl] at hd12
              refine own_st (B := T8.setTop (mkF m 58 #[.val (.ref d), .val (.int x1), .val (.int jj2)] [])) (fun t_ k_ => XS.ifYes X8.here hx rfl (pc0 := 43) (pc' := 58) rfl (hb hby own_b5_d43) rfl ((if0 _ _).trans (flt hc12).2.2.2) (by decide) (by decide) k_) ?_
              have hW : (kn - 3) + own_slN (own_by f (kn - 3)) = kn + nd := own_wh (t := 2) hpos hk4 (by omega) (fun s' hs' => by
                  have : s' = 0 ∨ s' = 1 := by omega
                  rcases this with rfl | rfl
                  · exact hct0
                  · exact hct1) (Or.inl (by omega))
              refine own_st (B := T8.setTop (mkF m 59 #[.val (.ref d), .val (.int x1), .val (.int jj2)] [(.int jj2)])) (fun t_ k_ => XS.iloadN X8.here hx rfl (hb hby own_b5_d58) rfl k_) ?_
              refine own_st (B := T8.setTop (mkF m 60 #[.val (.ref d), .val (.int x1), .val (.int jj2)] [(.ref d), (.int jj2)])) (fun t_ k_ => XS.aloadN X8.here hx rfl (hb hby own_b5_d59) rfl rfl k_) ?_
              refine own_st (B := T8.setTop (mkF m 61 #[.val (.ref d), .val (.int x1), .val (.int jj2)] [(.int jj2), (.ref d), (.int jj2)])) (fun t_ k_ => XS.iloadN X8.here hx rfl (hb hby own_b5_d60) rfl k_) ?_
              refine own_st (B := T8.setTop (mkF m 62 #[.val (.ref d), .val (.int x1), .val (.int jj2)] [(.int (f (kn - 3))), (.int jj2)])) (fun t_ k_ => own_ldB X8 hx hZ eh8 A (i := (kn - 3)) hx2 (by omega) (hb hby own_b5_d61) t_ k_) ?_
              refine own_st (B := T8.setTop (mkF m 65 #[.val (.ref d), .val (.int x1), .val (.int jj2)] [(.int (255 : Int32)), (.int (f (kn - 3))), (.int jj2)])) (fun t_ k_ => XS.sipush X8.here hx rfl (hb hby own_b5_d62) k_) ?_
              refine own_st (B := T8.setTop (mkF m 66 #[.val (.ref d), .val (.int x1), .val (.int jj2)] [(.int ((f (kn - 3)) &&& (255 : Int32))), (.int jj2)])) (fun t_ k_ => XS.iand X8.here hx rfl (hb hby own_b5_d65) rfl k_) ?_
              obtain ⟨_, _, ⟨T19, Lq19, kq19, nq19⟩, -, X19, ⟨Lc19, hQ19, lq19, yq19, zq19⟩, st19⟩ := Jvm.LawKit.callS X8 hx (y := (⟨"com/example/mapwright/mapwright/Utf8CheckCompletePinLaw", "seqLen", "(I)I"⟩ : MethodName)) hown (mvT hZ (hw _ (List.mem_of_getElem? (i := 34) rfl))) (mvT hZ (hw _ (List.mem_of_getElem? (i := 35) rfl))) (mvT hZ (hw _ (List.mem_of_getElem? (i := 29) rfl))) (mvT hZ (hw _ (List.mem_of_getElem? (i := 36) rfl))) (by decide) (backOf (W := 1) (rm7 l Z a0 hw [] ((f (kn - 3)) &&& (255 : Int32)) h0 n0 Z0 ) hZ (hw _ (List.mem_of_getElem? (i := 36) rfl)) (hw _ (List.mem_of_getElem? (i := 29) rfl)) (by decide) (by decide)) (g := (mkF m 66 #[.val (.ref d), .val (.int x1), .val (.int jj2)] [(.int ((f (kn - 3)) &&& (255 : Int32))), (.int jj2)])) rfl (by rw [hml]; rfl) (argsL := [(.int ((f (kn - 3)) &&& (255 : Int32)))]) (rest := [(.int jj2)]) (lenOf own_pd2 rfl) rfl (by show 2 * 0 + _ ≤ _; exact Nat.le_of_eq rfl) (hb hby own_b5_d66) (fun _ _ => ⟨rfl, eh8, (by decide : 0 + 0 ≤ _), (by decide : 0 + 0 ≤ _)⟩)
              dsimp only [Pt.U, Pt.locs, Pt.cells, Pt.slots] at X19 lq19 yq19 zq19 st19 hQ19
              rw [lq19, yq19, zq19] at X19
              have X19 : Stand p l e _ s m _ below meth c T19 _ 0 0 := X19
              obtain ⟨rfl, N19q, eh19⟩ := hQ19
              have N19 := Fr.app N8 N19q
              refine own_st (B := T19.setTop (mkF m 69 #[.val (.ref d), .val (.int x1), .val (.int jj2)] [(.int (own_sl ((f (kn - 3)) &&& (255 : Int32)).toInt)), (.int jj2)])) st19 ?_
              rw [own_byI]
              have hS := own_sum (b := own_by f (kn - 3)) hx2 (by omega)
              refine own_st (B := T19.setTop (mkF m 70 #[.val (.ref d), .val (.int x1), .val (.int jj2)] [(.int (jj2 + (own_sl ((own_by f (kn - 3) : Nat) : Int))))])) (fun t_ k_ => XS.iadd X19.here hx rfl (hb hby own_b5_d69) rfl k_) ?_
              obtain ⟨sm, h_sm⟩ : ∃ z_, z_ = (jj2 + (own_sl ((own_by f (kn - 3) : Nat) : Int))) := ⟨_, rfl⟩
              rw [← h_sm] at hS ⊢
              clear h_sm
              refine own_st (B := T19.setTop (mkF m 71 #[.val (.ref d), .val (.int x1), .val (.int jj2)] [(.int x1), (.int sm)])) (fun t_ k_ => XS.iloadN X19.here hx rfl (hb hby own_b5_d70) rfl k_) ?_
              by_cases hc20 : sm = x1
              · have hd20 := own_eq32 hc20
                refine own_st (B := T19.setTop (mkF m 74 #[.val (.ref d), .val (.int x1), .val (.int jj2)] [])) (fun t_ k_ => XS.icmpNo X19.here hx rfl (hb hby own_b5_d71) rfl (teq hc20).2 k_) ?_
                refine own_st (B := T19.setTop (mkF m 75 #[.val (.ref d), .val (.int x1), .val (.int jj2)] [(.int (1 : Int32))])) (fun t_ k_ => XS.iconst X19.here hx rfl (hb hby own_b5_d74) k_) ?_
                refine own_st (B := T19.setTop (mkF m 79 #[.val (.ref d), .val (.int x1), .val (.int jj2)] [(.int (1 : Int32))])) (fun t_ k_ => XS.goto X19.here hx rfl (pc0 := 75) (pc' := 79) rfl (hb hby own_b5_d75) (by decide) (by decide) k_) ?_
                refine own_retN X19 hx (t := .boolean) Bd.returns (by simp) hlk (hb hby own_b5_d79) (z' := (1 : Int32)) (by first | rfl | exact own_nb _) (by decide) (by decide) ?_
                show Q5 Z d x1 kn nd f h0 n0 _ T19.heap _
                rw [eh19]
                exact ⟨by rw [own_b1 (show nd = 0 by omega)], N19, rfl⟩
              · have hd20 := own_neq32 hc20
                refine own_st (B := T19.setTop (mkF m 78 #[.val (.ref d), .val (.int x1), .val (.int jj2)] [])) (fun t_ k_ => XS.icmpYes X19.here hx rfl (pc0 := 71) (pc' := 78) rfl (hb hby own_b5_d71) rfl (feq hc20).2 (by decide) (by decide) k_) ?_
                refine own_st (B := T19.setTop (mkF m 79 #[.val (.ref d), .val (.int x1), .val (.int jj2)] [(.int (0 : Int32))])) (fun t_ k_ => XS.iconst X19.here hx rfl (hb hby own_b5_d78) k_) ?_
                refine own_retN X19 hx (t := .boolean) Bd.returns (by simp) hlk (hb hby own_b5_d79) (z' := (0 : Int32)) (by first | rfl | exact own_nb _) (by decide) (by decide) ?_
                show Q5 Z d x1 kn nd f h0 n0 _ T19.heap _
                rw [eh19]
                exact ⟨by rw [own_bz (show ¬ nd = 0 by omega)], N19, rfl⟩
        · have hd7 := own_nlt32 hc7
          rw [show (0 : Int32).toInt = 0 from rfl] at hd7
          refine own_st (B := T3.setTop (mkF m 58 #[.val (.ref d), .val (.int x1), .val (.int jj1)] [])) (fun t_ k_ => XS.ifYes X3.here hx rfl (pc0 := 27) (pc' := 58) rfl (hb hby own_b5_d27) rfl ((if0 _ _).trans (flt hc7).2.2.2) (by decide) (by decide) k_) ?_
          have hW : (kn - 2) + own_slN (own_by f (kn - 2)) = kn + nd := own_wh (t := 1) hpos hk4 (by omega) (fun s' hs' => by
              have : s' = 0 := by omega
              rcases this with rfl
              · exact hct0) (Or.inl (by omega))
          refine own_st (B := T3.setTop (mkF m 59 #[.val (.ref d), .val (.int x1), .val (.int jj1)] [(.int jj1)])) (fun t_ k_ => XS.iloadN X3.here hx rfl (hb hby own_b5_d58) rfl k_) ?_
          refine own_st (B := T3.setTop (mkF m 60 #[.val (.ref d), .val (.int x1), .val (.int jj1)] [(.ref d), (.int jj1)])) (fun t_ k_ => XS.aloadN X3.here hx rfl (hb hby own_b5_d59) rfl rfl k_) ?_
          refine own_st (B := T3.setTop (mkF m 61 #[.val (.ref d), .val (.int x1), .val (.int jj1)] [(.int jj1), (.ref d), (.int jj1)])) (fun t_ k_ => XS.iloadN X3.here hx rfl (hb hby own_b5_d60) rfl k_) ?_
          refine own_st (B := T3.setTop (mkF m 62 #[.val (.ref d), .val (.int x1), .val (.int jj1)] [(.int (f (kn - 2))), (.int jj1)])) (fun t_ k_ => own_ldB X3 hx hZ eh3 A (i := (kn - 2)) hx1 (by omega) (hb hby own_b5_d61) t_ k_) ?_
          refine own_st (B := T3.setTop (mkF m 65 #[.val (.ref d), .val (.int x1), .val (.int jj1)] [(.int (255 : Int32)), (.int (f (kn - 2))), (.int jj1)])) (fun t_ k_ => XS.sipush X3.here hx rfl (hb hby own_b5_d62) k_) ?_
          refine own_st (B := T3.setTop (mkF m 66 #[.val (.ref d), .val (.int x1), .val (.int jj1)] [(.int ((f (kn - 2)) &&& (255 : Int32))), (.int jj1)])) (fun t_ k_ => XS.iand X3.here hx rfl (hb hby own_b5_d65) rfl k_) ?_
          obtain ⟨_, _, ⟨T21, Lq21, kq21, nq21⟩, -, X21, ⟨Lc21, hQ21, lq21, yq21, zq21⟩, st21⟩ := Jvm.LawKit.callS X3 hx (y := (⟨"com/example/mapwright/mapwright/Utf8CheckCompletePinLaw", "seqLen", "(I)I"⟩ : MethodName)) hown (mvT hZ (hw _ (List.mem_of_getElem? (i := 34) rfl))) (mvT hZ (hw _ (List.mem_of_getElem? (i := 35) rfl))) (mvT hZ (hw _ (List.mem_of_getElem? (i := 29) rfl))) (mvT hZ (hw _ (List.mem_of_getElem? (i := 36) rfl))) (by decide) (backOf (W := 1) (rm7 l Z a0 hw [] ((f (kn - 2)) &&& (255 : Int32)) h0 n0 Z0 ) hZ (hw _ (List.mem_of_getElem? (i := 36) rfl)) (hw _ (List.mem_of_getElem? (i := 29) rfl)) (by decide) (by decide)) (g := (mkF m 66 #[.val (.ref d), .val (.int x1), .val (.int jj1)] [(.int ((f (kn - 2)) &&& (255 : Int32))), (.int jj1)])) rfl (by rw [hml]; rfl) (argsL := [(.int ((f (kn - 2)) &&& (255 : Int32)))]) (rest := [(.int jj1)]) (lenOf own_pd2 rfl) rfl (by show 2 * 0 + _ ≤ _; exact Nat.le_of_eq rfl) (hb hby own_b5_d66) (fun _ _ => ⟨rfl, eh3, (by decide : 0 + 0 ≤ _), (by decide : 0 + 0 ≤ _)⟩)
          dsimp only [Pt.U, Pt.locs, Pt.cells, Pt.slots] at X21 lq21 yq21 zq21 st21 hQ21
          rw [lq21, yq21, zq21] at X21
          have X21 : Stand p l e _ s m _ below meth c T21 _ 0 0 := X21
          obtain ⟨rfl, N21q, eh21⟩ := hQ21
          have N21 := Fr.app N3 N21q
          refine own_st (B := T21.setTop (mkF m 69 #[.val (.ref d), .val (.int x1), .val (.int jj1)] [(.int (own_sl ((f (kn - 2)) &&& (255 : Int32)).toInt)), (.int jj1)])) st21 ?_
          rw [own_byI]
          have hS := own_sum (b := own_by f (kn - 2)) hx1 (by omega)
          refine own_st (B := T21.setTop (mkF m 70 #[.val (.ref d), .val (.int x1), .val (.int jj1)] [(.int (jj1 + (own_sl ((own_by f (kn - 2) : Nat) : Int))))])) (fun t_ k_ => XS.iadd X21.here hx rfl (hb hby own_b5_d69) rfl k_) ?_
          obtain ⟨sm, h_sm⟩ : ∃ z_, z_ = (jj1 + (own_sl ((own_by f (kn - 2) : Nat) : Int))) := ⟨_, rfl⟩
          rw [← h_sm] at hS ⊢
          clear h_sm
          refine own_st (B := T21.setTop (mkF m 71 #[.val (.ref d), .val (.int x1), .val (.int jj1)] [(.int x1), (.int sm)])) (fun t_ k_ => XS.iloadN X21.here hx rfl (hb hby own_b5_d70) rfl k_) ?_
          by_cases hc22 : sm = x1
          · have hd22 := own_eq32 hc22
            refine own_st (B := T21.setTop (mkF m 74 #[.val (.ref d), .val (.int x1), .val (.int jj1)] [])) (fun t_ k_ => XS.icmpNo X21.here hx rfl (hb hby own_b5_d71) rfl (teq hc22).2 k_) ?_
            refine own_st (B := T21.setTop (mkF m 75 #[.val (.ref d), .val (.int x1), .val (.int jj1)] [(.int (1 : Int32))])) (fun t_ k_ => XS.iconst X21.here hx rfl (hb hby own_b5_d74) k_) ?_
            refine own_st (B := T21.setTop (mkF m 79 #[.val (.ref d), .val (.int x1), .val (.int jj1)] [(.int (1 : Int32))])) (fun t_ k_ => XS.goto X21.here hx rfl (pc0 := 75) (pc' := 79) rfl (hb hby own_b5_d75) (by decide) (by decide) k_) ?_
            refine own_retN X21 hx (t := .boolean) Bd.returns (by simp) hlk (hb hby own_b5_d79) (z' := (1 : Int32)) (by first | rfl | exact own_nb _) (by decide) (by decide) ?_
            show Q5 Z d x1 kn nd f h0 n0 _ T21.heap _
            rw [eh21]
            exact ⟨by rw [own_b1 (show nd = 0 by omega)], N21, rfl⟩
          · have hd22 := own_neq32 hc22
            refine own_st (B := T21.setTop (mkF m 78 #[.val (.ref d), .val (.int x1), .val (.int jj1)] [])) (fun t_ k_ => XS.icmpYes X21.here hx rfl (pc0 := 71) (pc' := 78) rfl (hb hby own_b5_d71) rfl (feq hc22).2 (by decide) (by decide) k_) ?_
            refine own_st (B := T21.setTop (mkF m 79 #[.val (.ref d), .val (.int x1), .val (.int jj1)] [(.int (0 : Int32))])) (fun t_ k_ => XS.iconst X21.here hx rfl (hb hby own_b5_d78) k_) ?_
            refine own_retN X21 hx (t := .boolean) Bd.returns (by simp) hlk (hb hby own_b5_d79) (z' := (0 : Int32)) (by first | rfl | exact own_nb _) (by decide) (by decide) ?_
            show Q5 Z d x1 kn nd f h0 n0 _ T21.heap _
            rw [eh21]
            exact ⟨by rw [own_bz (show ¬ nd = 0 by omega)], N21, rfl⟩
    · have hd2 := own_nlt32 hc2
      rw [show (0 : Int32).toInt = 0 from rfl] at hd2
      refine own_st (B := s₁.setTop (mkF m 58 #[.val (.ref d), .val (.int x1), .val (.int jj0)] [])) (fun t_ k_ => XS.ifYes X0.here hx rfl (pc0 := 11) (pc' := 58) rfl (hb hby own_b5_d11) rfl ((if0 _ _).trans (flt hc2).2.2.2) (by decide) (by decide) k_) ?_
      have hW : (kn - 1) + own_slN (own_by f (kn - 1)) = kn + nd := own_wh (t := 0) hpos hk4 (by omega) (fun s' hs' => absurd hs' (by omega)) (Or.inl (by omega))
      refine own_st (B := s₁.setTop (mkF m 59 #[.val (.ref d), .val (.int x1), .val (.int jj0)] [(.int jj0)])) (fun t_ k_ => XS.iloadN X0.here hx rfl (hb hby own_b5_d58) rfl k_) ?_
      refine own_st (B := s₁.setTop (mkF m 60 #[.val (.ref d), .val (.int x1), .val (.int jj0)] [(.ref d), (.int jj0)])) (fun t_ k_ => XS.aloadN X0.here hx rfl (hb hby own_b5_d59) rfl rfl k_) ?_
      refine own_st (B := s₁.setTop (mkF m 61 #[.val (.ref d), .val (.int x1), .val (.int jj0)] [(.int jj0), (.ref d), (.int jj0)])) (fun t_ k_ => XS.iloadN X0.here hx rfl (hb hby own_b5_d60) rfl k_) ?_
      refine own_st (B := s₁.setTop (mkF m 62 #[.val (.ref d), .val (.int x1), .val (.int jj0)] [(.int (f (kn - 1))), (.int jj0)])) (fun t_ k_ => own_ldB X0 hx hZ e0 A (i := (kn - 1)) hx0 (by omega) (hb hby own_b5_d61) t_ k_) ?_
      refine own_st (B := s₁.setTop (mkF m 65 #[.val (.ref d), .val (.int x1), .val (.int jj0)] [(.int (255 : Int32)), (.int (f (kn - 1))), (.int jj0)])) (fun t_ k_ => XS.sipush X0.here hx rfl (hb hby own_b5_d62) k_) ?_
      refine own_st (B := s₁.setTop (mkF m 66 #[.val (.ref d), .val (.int x1), .val (.int jj0)] [(.int ((f (kn - 1)) &&& (255 : Int32))), (.int jj0)])) (fun t_ k_ => XS.iand X0.here hx rfl (hb hby own_b5_d65) rfl k_) ?_
      obtain ⟨_, _, ⟨T23, Lq23, kq23, nq23⟩, -, X23, ⟨Lc23, hQ23, lq23, yq23, zq23⟩, st23⟩ := Jvm.LawKit.callS X0 hx (y := (⟨"com/example/mapwright/mapwright/Utf8CheckCompletePinLaw", "seqLen", "(I)I"⟩ : MethodName)) hown (mvT hZ (hw _ (List.mem_of_getElem? (i := 34) rfl))) (mvT hZ (hw _ (List.mem_of_getElem? (i := 35) rfl))) (mvT hZ (hw _ (List.mem_of_getElem? (i := 29) rfl))) (mvT hZ (hw _ (List.mem_of_getElem? (i := 36) rfl))) (by decide) (backOf (W := 1) (rm7 l Z a0 hw [] ((f (kn - 1)) &&& (255 : Int32)) h0 n0 Z0 ) hZ (hw _ (List.mem_of_getElem? (i := 36) rfl)) (hw _ (List.mem_of_getElem? (i := 29) rfl)) (by decide) (by decide)) (g := (mkF m 66 #[.val (.ref d), .val (.int x1), .val (.int jj0)] [(.int ((f (kn - 1)) &&& (255 : Int32))), (.int jj0)])) rfl (by rw [hml]; rfl) (argsL := [(.int ((f (kn - 1)) &&& (255 : Int32)))]) (rest := [(.int jj0)]) (lenOf own_pd2 rfl) rfl (by show 2 * 0 + _ ≤ _; exact Nat.le_of_eq rfl) (hb hby own_b5_d66) (fun _ _ => ⟨rfl, e0, (by decide : 0 + 0 ≤ _), (by decide : 0 + 0 ≤ _)⟩)
      dsimp only [Pt.U, Pt.locs, Pt.cells, Pt.slots] at X23 lq23 yq23 zq23 st23 hQ23
      rw [lq23, yq23, zq23] at X23
      have X23 : Stand p l e _ s m _ below meth c T23 _ 0 0 := X23
      obtain ⟨rfl, N23q, eh23⟩ := hQ23
      have N23 := Fr.app N0 N23q
      refine own_st (B := T23.setTop (mkF m 69 #[.val (.ref d), .val (.int x1), .val (.int jj0)] [(.int (own_sl ((f (kn - 1)) &&& (255 : Int32)).toInt)), (.int jj0)])) st23 ?_
      rw [own_byI]
      have hS := own_sum (b := own_by f (kn - 1)) hx0 (by omega)
      refine own_st (B := T23.setTop (mkF m 70 #[.val (.ref d), .val (.int x1), .val (.int jj0)] [(.int (jj0 + (own_sl ((own_by f (kn - 1) : Nat) : Int))))])) (fun t_ k_ => XS.iadd X23.here hx rfl (hb hby own_b5_d69) rfl k_) ?_
      obtain ⟨sm, h_sm⟩ : ∃ z_, z_ = (jj0 + (own_sl ((own_by f (kn - 1) : Nat) : Int))) := ⟨_, rfl⟩
      rw [← h_sm] at hS ⊢
      clear h_sm
      refine own_st (B := T23.setTop (mkF m 71 #[.val (.ref d), .val (.int x1), .val (.int jj0)] [(.int x1), (.int sm)])) (fun t_ k_ => XS.iloadN X23.here hx rfl (hb hby own_b5_d70) rfl k_) ?_
      by_cases hc24 : sm = x1
      · have hd24 := own_eq32 hc24
        refine own_st (B := T23.setTop (mkF m 74 #[.val (.ref d), .val (.int x1), .val (.int jj0)] [])) (fun t_ k_ => XS.icmpNo X23.here hx rfl (hb hby own_b5_d71) rfl (teq hc24).2 k_) ?_
        refine own_st (B := T23.setTop (mkF m 75 #[.val (.ref d), .val (.int x1), .val (.int jj0)] [(.int (1 : Int32))])) (fun t_ k_ => XS.iconst X23.here hx rfl (hb hby own_b5_d74) k_) ?_
        refine own_st (B := T23.setTop (mkF m 79 #[.val (.ref d), .val (.int x1), .val (.int jj0)] [(.int (1 : Int32))])) (fun t_ k_ => XS.goto X23.here hx rfl (pc0 := 75) (pc' := 79) rfl (hb hby own_b5_d75) (by decide) (by decide) k_) ?_
        refine own_retN X23 hx (t := .boolean) Bd.returns (by simp) hlk (hb hby own_b5_d79) (z' := (1 : Int32)) (by first | rfl | exact own_nb _) (by decide) (by decide) ?_
        show Q5 Z d x1 kn nd f h0 n0 _ T23.heap _
        rw [eh23]
        exact ⟨by rw [own_b1 (show nd = 0 by omega)], N23, rfl⟩
      · have hd24 := own_neq32 hc24
        refine own_st (B := T23.setTop (mkF m 78 #[.val (.ref d), .val (.int x1), .val (.int jj0)] [])) (fun t_ k_ => XS.icmpYes X23.here hx rfl (pc0 := 71) (pc' := 78) rfl (hb hby own_b5_d71) rfl (feq hc24).2 (by decide) (by decide) k_) ?_
        refine own_st (B := T23.setTop (mkF m 79 #[.val (.ref d), .val (.int x1), .val (.int jj0)] [(.int (0 : Int32))])) (fun t_ k_ => XS.iconst X23.here hx rfl (hb hby own_b5_d78) k_) ?_
        refine own_retN X23 hx (t := .boolean) Bd.returns (by simp) hlk (hb hby own_b5_d79) (z' := (0 : Int32)) (by first | rfl | exact own_nb _) (by decide) (by decide) ?_
        show Q5 Z d x1 kn nd f h0 n0 _ T23.heap _
        rw [eh23]
        exact ⟨by rw [own_bz (show ¬ nd = 0 by omega)], N23, rfl⟩
theorem own_pd3 : parseMethodDescriptor "()V" = some ⟨[], none⟩ := by decide +kernel
theorem own_pd4 : parseMethodDescriptor "([BII)I" = some ⟨[(.array .byte), .int, .int], some .int⟩ := by decide +kernel
theorem own_pd5 : parseMethodDescriptor "()Z" = some ⟨[], some .boolean⟩ := by decide +kernel
theorem own_pd6 : parseMethodDescriptor "([BI)Z" = some ⟨[(.array .byte), .int], some .boolean⟩ := by decide +kernel
theorem own_ef_rm0 (m : MethodId) (x0 : Int32) (x1 : Int32) (x2 : Int32) (x3 : Int32) (x4 : Int32) (x5 : Int32) : entryFrame m #[(.int x0), (.int x1), (.int x2), (.int x3), (.int x4), (.int x5)] maxLocals = mkF m 0 #[.val (.int x0), .val (.int x1), .val (.int x2), .val (.int x3), .val (.int x4), .val (.int x5), .unset, .unset, .unset, .unset, .unset, .unset] [] := by first | (simp [entryFrame, mkF, argsToLocals, Value.category, maxLocals]; done) | rfl
def Q0 (Z : State) (u0 : Int32) (u1 : Int32) (u2 : Int32) (u3 : Int32) (u4 : Int32) (u5 : Int32) (h0 : Heap) (n0 : Nat) (v : Option Value) (h : Heap) (L : List Loc) : Prop := v = some (.int 1) ∧ Fr n0 L
set_option maxRecDepth 65536 in
set_option maxHeartbeats 40000000 in
theorem rm0 (l : Launch) (Z : State) (a0 : Array Value) (hw : ∀ d ∈ tables_1, d.before a0 Z = true) (ws : List Jvm.Cond) (u0 : Int32) (u1 : Int32) (u2 : Int32) (u3 : Int32) (u4 : Int32) (u5 : Int32) (h0 : Heap) (n0 : Nat) (Z0 : n0 ≤ h0.size) :
    MetFree l x (head1 (Jvm.Cond.code x code maxLocals ret :: ws) room_1) (fun aa_ U_ => aa_ = #[(.int u0), (.int u1), (.int u2), (.int u3), (.int u4), (.int u5)] ∧ Z.Warmed39 U_.vm ∧ U_.heap = h0) (fun _ _ _ _ _ => True) (fun _ U_ o_ U1_ => ∃ v_ L_, o_ = .returned v_ ∧ Q0 Z u0 u1 u2 u3 u4 u5 h0 n0 v_ U1_.heap L_ ∧ FrameEnd U_ o_ U1_ L_ 2 7) := by
  refine MetFree.of_bodySF (plainFor_of_name own_pn1) hisR ?_
  intro p e s m args below meth c s₁ Bd hml0 hP hK
  obtain ⟨rfl, hZ, hh⟩ := hP
  have hx := Bd.exec
  have hby := Bd.bytes
  have hlk := Bd.notSynchronized
  have hml : c.maxLocals = 12 := hml0
  have hown : s.vm.findClass "com/example/mapwright/mapwright/Utf8CheckCompletePinLaw" = some m.cls := findClass_of_methodNamed Bd.named
  have hnm := (name_of_methodNamed Bd.named Bd.method).1
  have X0 : Stand p l e room_1 s m #[(.int u0), (.int u1), (.int u2), (.int u3), (.int u4), (.int u5)] below meth c s₁ [] 0 0 := Stand.of_body Bd
  have e0 : s₁.heap = h0 := by rw [← hh, Bd.state]; rfl
  have N0 := Fr.nil n0
  show own_E p e below s (Q0 Z u0 u1 u2 u3 u4 u5 h0 n0) 2 7 (s₁.setTop (entryFrame m #[(.int u0), (.int u1), (.int u2), (.int u3), (.int u4), (.int u5)] maxLocals))
  refine own_st (B := s₁.setTop (mkF m 0 #[.val (.int u0), .val (.int u1), .val (.int u2), .val (.int u3), .val (.int u4), .val (.int u5), .unset, .unset, .unset, .unset, .unset, .unset] [])) (fun t_ k_ => castTop (own_ef_rm0 m u0 u1 u2 u3 u4 u5) k_) ?_
  refine own_st (B := s₁.setTop (mkF m 1 #[.val (.int u0), .val (.int u1), .val (.int u2), .val (.int u3), .val (.int u4), .val (.int u5), .unset, .unset, .unset, .unset, .unset, .unset] [(.int (4 : Int32))])) (fun t_ k_ => XS.iconst X0.here hx rfl (hb hby at_0) k_) ?_
  obtain ⟨T1, h1, k1, X1, e1, E1, A1, G1, st1⟩ := newPE X0 hx hZ (hw _ (List.mem_of_getElem? (i := 0) rfl)) e0 (g := (mkF m 1 #[.val (.int u0), .val (.int u1), .val (.int u2), .val (.int u3), .val (.int u4), .val (.int u5), .unset, .unset, .unset, .unset, .unset, .unset] [(.int (4 : Int32))])) rfl (hb hby at_1) rfl (by decide) (cap := 4) (by decide) (by decide) (by decide) (by decide) (ad := "[B") (by decide)
  obtain ⟨b1, g1⟩ : ∃ z, z = h0.size := ⟨_, rfl⟩
  rw [← g1] at A1 G1 st1
  have g2 : n0 ≤ b1 := Nat.le_trans Z0 (Nat.le_of_eq g1.symm)
  have Z3 := Nat.le_trans Z0 E1.1
  have X1 : Stand p l e _ s m _ below meth c T1 _ 1 4 := X1
  have a1 : own_A Z h1 b1 .byte 4 (fun _ => 0) := own_A.new A1 (by decide) rfl
  refine own_st (B := T1.setTop (mkF m 3 #[.val (.int u0), .val (.int u1), .val (.int u2), .val (.int u3), .val (.int u4), .val (.int u5), .unset, .unset, .unset, .unset, .unset, .unset] [(.ref b1)])) st1 ?_
  refine own_st (B := T1.setTop (mkF m 5 #[.val (.int u0), .val (.int u1), .val (.int u2), .val (.int u3), .val (.int u4), .val (.int u5), .val (.ref b1), .unset, .unset, .unset, .unset, .unset] [])) (fun t_ k_ => XS.astore X1.here hx rfl (hb hby at_3) rfl rfl (l' := #[.val (.int u0), .val (.int u1), .val (.int u2), .val (.int u3), .val (.int u4), .val (.int u5), .val (.ref b1), .unset, .unset, .unset, .unset, .unset]) rfl k_) ?_
  refine own_st (B := T1.setTop (mkF m 7 #[.val (.int u0), .val (.int u1), .val (.int u2), .val (.int u3), .val (.int u4), .val (.int u5), .val (.ref b1), .unset, .unset, .unset, .unset, .unset] [(.ref b1)])) (fun t_ k_ => XS.aload X1.here hx rfl (hb hby at_5) rfl rfl k_) ?_
  refine own_st (B := T1.setTop (mkF m 8 #[.val (.int u0), .val (.int u1), .val (.int u2), .val (.int u3), .val (.int u4), .val (.int u5), .val (.ref b1), .unset, .unset, .unset, .unset, .unset] [(.int (0 : Int32)), (.ref b1)])) (fun t_ k_ => XS.iconst X1.here hx rfl (hb hby at_7) k_) ?_
  refine own_st (B := T1.setTop (mkF m 9 #[.val (.int u0), .val (.int u1), .val (.int u2), .val (.int u3), .val (.int u4), .val (.int u5), .val (.ref b1), .unset, .unset, .unset, .unset, .unset] [(.int u0), (.int (0 : Int32)), (.ref b1)])) (fun t_ k_ => XS.iloadN X1.here hx rfl (hb hby at_8) rfl k_) ?_
  refine own_st (B := T1.setTop (mkF m 10 #[.val (.int u0), .val (.int u1), .val (.int u2), .val (.int u3), .val (.int u4), .val (.int u5), .val (.ref b1), .unset, .unset, .unset, .unset, .unset] [(.int (u0.toInt8.toInt32)), (.int (0 : Int32)), (.ref b1)])) (fun t_ k_ => XS.i2b X1.here hx rfl (hb hby at_9) rfl k_) ?_
  obtain ⟨T4, h4, X4, e4, W4, a4, st4⟩ := own_stB X1 hx hZ e1 a1 (i := 0) (j := (0 : Int32)) (by decide) (by decide) (pc := 10) (x := (u0.toInt8.toInt32)) (Ls := #[.val (.int u0), .val (.int u1), .val (.int u2), .val (.int u3), .val (.int u4), .val (.int u5), .val (.ref b1), .unset, .unset, .unset, .unset, .unset]) (rest := []) (hb hby at_10)
  have N4 := Fr.snoc X4 N0 g2
  have Z5 := Nat.le_trans Z3 (Keep.of_wr W4).1
  refine own_st (B := T4.setTop (mkF m 11 #[.val (.int u0), .val (.int u1), .val (.int u2), .val (.int u3), .val (.int u4), .val (.int u5), .val (.ref b1), .unset, .unset, .unset, .unset, .unset] [])) st4 ?_
  refine own_st (B := T4.setTop (mkF m 13 #[.val (.int u0), .val (.int u1), .val (.int u2), .val (.int u3), .val (.int u4), .val (.int u5), .val (.ref b1), .unset, .unset, .unset, .unset, .unset] [(.ref b1)])) (fun t_ k_ => XS.aload X4.here hx rfl (hb hby at_11) rfl rfl k_) ?_
  refine own_st (B := T4.setTop (mkF m 14 #[.val (.int u0), .val (.int u1), .val (.int u2), .val (.int u3), .val (.int u4), .val (.int u5), .val (.ref b1), .unset, .unset, .unset, .unset, .unset] [(.int (1 : Int32)), (.ref b1)])) (fun t_ k_ => XS.iconst X4.here hx rfl (hb hby at_13) k_) ?_
  refine own_st (B := T4.setTop (mkF m 15 #[.val (.int u0), .val (.int u1), .val (.int u2), .val (.int u3), .val (.int u4), .val (.int u5), .val (.ref b1), .unset, .unset, .unset, .unset, .unset] [(.int u1), (.int (1 : Int32)), (.ref b1)])) (fun t_ k_ => XS.iloadN X4.here hx rfl (hb hby at_14) rfl k_) ?_
  refine own_st (B := T4.setTop (mkF m 16 #[.val (.int u0), .val (.int u1), .val (.int u2), .val (.int u3), .val (.int u4), .val (.int u5), .val (.ref b1), .unset, .unset, .unset, .unset, .unset] [(.int (u1.toInt8.toInt32)), (.int (1 : Int32)), (.ref b1)])) (fun t_ k_ => XS.i2b X4.here hx rfl (hb hby at_15) rfl k_) ?_
  obtain ⟨T6, h6, X6, e6, W6, a6, st6⟩ := own_stB X4 hx hZ e4 a4 (i := 1) (j := (1 : Int32)) (by decide) (by decide) (pc := 16) (x := (u1.toInt8.toInt32)) (Ls := #[.val (.int u0), .val (.int u1), .val (.int u2), .val (.int u3), .val (.int u4), .val (.int u5), .val (.ref b1), .unset, .unset, .unset, .unset, .unset]) (rest := []) (hb hby at_16)
  have N6 := Fr.snoc X6 N4 g2
  have Z7 := Nat.le_trans Z5 (Keep.of_wr W6).1
  refine own_st (B := T6.setTop (mkF m 17 #[.val (.int u0), .val (.int u1), .val (.int u2), .val (.int u3), .val (.int u4), .val (.int u5), .val (.ref b1), .unset, .unset, .unset, .unset, .unset] [])) st6 ?_
  refine own_st (B := T6.setTop (mkF m 19 #[.val (.int u0), .val (.int u1), .val (.int u2), .val (.int u3), .val (.int u4), .val (.int u5), .val (.ref b1), .unset, .unset, .unset, .unset, .unset] [(.ref b1)])) (fun t_ k_ => XS.aload X6.here hx rfl (hb hby at_17) rfl rfl k_) ?_
  refine own_st (B := T6.setTop (mkF m 20 #[.val (.int u0), .val (.int u1), .val (.int u2), .val (.int u3), .val (.int u4), .val (.int u5), .val (.ref b1), .unset, .unset, .unset, .unset, .unset] [(.int (2 : Int32)), (.ref b1)])) (fun t_ k_ => XS.iconst X6.here hx rfl (hb hby at_19) k_) ?_
  refine own_st (B := T6.setTop (mkF m 21 #[.val (.int u0), .val (.int u1), .val (.int u2), .val (.int u3), .val (.int u4), .val (.int u5), .val (.ref b1), .unset, .unset, .unset, .unset, .unset] [(.int u2), (.int (2 : Int32)), (.ref b1)])) (fun t_ k_ => XS.iloadN X6.here hx rfl (hb hby at_20) rfl k_) ?_
  refine own_st (B := T6.setTop (mkF m 22 #[.val (.int u0), .val (.int u1), .val (.int u2), .val (.int u3), .val (.int u4), .val (.int u5), .val (.ref b1), .unset, .unset, .unset, .unset, .unset] [(.int (u2.toInt8.toInt32)), (.int (2 : Int32)), (.ref b1)])) (fun t_ k_ => XS.i2b X6.here hx rfl (hb hby at_21) rfl k_) ?_
  obtain ⟨T8, h8, X8, e8, W8, a8, st8⟩ := own_stB X6 hx hZ e6 a6 (i := 2) (j := (2 : Int32)) (by decide) (by decide) (pc := 22) (x := (u2.toInt8.toInt32)) (Ls := #[.val (.int u0), .val (.int u1), .val (.int u2), .val (.int u3), .val (.int u4), .val (.int u5), .val (.ref b1), .unset, .unset, .unset, .unset, .unset]) (rest := []) (hb hby at_22)
  have N8 := Fr.snoc X8 N6 g2
  have Z9 := Nat.le_trans Z7 (Keep.of_wr W8).1
  refine own_st (B := T8.setTop (mkF m 23 #[.val (.int u0), .val (.int u1), .val (.int u2), .val (.int u3), .val (.int u4), .val (.int u5), .val (.ref b1), .unset, .unset, .unset, .unset, .unset] [])) st8 ?_
  refine own_st (B := T8.setTop (mkF m 25 #[.val (.int u0), .val (.int u1), .val (.int u2), .val (.int u3), .val (.int u4), .val (.int u5), .val (.ref b1), .unset, .unset, .unset, .unset, .unset] [(.ref b1)])) (fun t_ k_ => XS.aload X8.here hx rfl (hb hby at_23) rfl rfl k_) ?_
  refine own_st (B := T8.setTop (mkF m 26 #[.val (.int u0), .val (.int u1), .val (.int u2), .val (.int u3), .val (.int u4), .val (.int u5), .val (.ref b1), .unset, .unset, .unset, .unset, .unset] [(.int (3 : Int32)), (.ref b1)])) (fun t_ k_ => XS.iconst X8.here hx rfl (hb hby at_25) k_) ?_
  refine own_st (B := T8.setTop (mkF m 27 #[.val (.int u0), .val (.int u1), .val (.int u2), .val (.int u3), .val (.int u4), .val (.int u5), .val (.ref b1), .unset, .unset, .unset, .unset, .unset] [(.int u3), (.int (3 : Int32)), (.ref b1)])) (fun t_ k_ => XS.iloadN X8.here hx rfl (hb hby at_26) rfl k_) ?_
  refine own_st (B := T8.setTop (mkF m 28 #[.val (.int u0), .val (.int u1), .val (.int u2), .val (.int u3), .val (.int u4), .val (.int u5), .val (.ref b1), .unset, .unset, .unset, .unset, .unset] [(.int (u3.toInt8.toInt32)), (.int (3 : Int32)), (.ref b1)])) (fun t_ k_ => XS.i2b X8.here hx rfl (hb hby at_27) rfl k_) ?_
  obtain ⟨T10, h10, X10, e10, W10, a10, st10⟩ := own_stB X8 hx hZ e8 a8 (i := 3) (j := (3 : Int32)) (by decide) (by decide) (pc := 28) (x := (u3.toInt8.toInt32)) (Ls := #[.val (.int u0), .val (.int u1), .val (.int u2), .val (.int u3), .val (.int u4), .val (.int u5), .val (.ref b1), .unset, .unset, .unset, .unset, .unset]) (rest := []) (hb hby at_28)
  have N10 := Fr.snoc X10 N8 g2
  have Z11 := Nat.le_trans Z9 (Keep.of_wr W10).1
  refine own_st (B := T10.setTop (mkF m 29 #[.val (.int u0), .val (.int u1), .val (.int u2), .val (.int u3), .val (.int u4), .val (.int u5), .val (.ref b1), .unset, .unset, .unset, .unset, .unset] [])) st10 ?_
  obtain ⟨ff, aff⟩ : ∃ ff, own_A Z h10 b1 .byte 4 ff := ⟨_, a10⟩
  refine own_st (B := T10.setTop (mkF m 31 #[.val (.int u0), .val (.int u1), .val (.int u2), .val (.int u3), .val (.int u4), .val (.int u5), .val (.ref b1), .unset, .unset, .unset, .unset, .unset] [(.int u4)])) (fun t_ k_ => XS.iload X10.here hx rfl (hb hby at_29) rfl k_) ?_
  refine own_st (B := T10.setTop (mkF m 33 #[.val (.int u0), .val (.int u1), .val (.int u2), .val (.int u3), .val (.int u4), .val (.int u5), .val (.ref b1), .unset, .unset, .unset, .unset, .unset] [(.int (2147483647 : Int32)), (.int u4)])) (fun t_ k_ => X10.ldcInt hx hown (mvT hZ (hw _ (List.mem_of_getElem? (i := 1) rfl))) (g := (mkF m 31 #[.val (.int u0), .val (.int u1), .val (.int u2), .val (.int u3), .val (.int u4), .val (.int u5), .val (.ref b1), .unset, .unset, .unset, .unset, .unset] [(.int u4)])) rfl (hb hby at_31) t_ k_) ?_
  refine own_st (B := T10.setTop (mkF m 34 #[.val (.int u0), .val (.int u1), .val (.int u2), .val (.int u3), .val (.int u4), .val (.int u5), .val (.ref b1), .unset, .unset, .unset, .unset, .unset] [(.int (u4 &&& (2147483647 : Int32)))])) (fun t_ k_ => XS.iand X10.here hx rfl (hb hby at_33) rfl k_) ?_
  refine own_st (B := T10.setTop (mkF m 35 #[.val (.int u0), .val (.int u1), .val (.int u2), .val (.int u3), .val (.int u4), .val (.int u5), .val (.ref b1), .unset, .unset, .unset, .unset, .unset] [(.int (5 : Int32)), (.int (u4 &&& (2147483647 : Int32)))])) (fun t_ k_ => XS.iconst X10.here hx rfl (hb hby at_34) k_) ?_
  refine own_st (B := T10.setTop (mkF m 36 #[.val (.int u0), .val (.int u1), .val (.int u2), .val (.int u3), .val (.int u4), .val (.int u5), .val (.ref b1), .unset, .unset, .unset, .unset, .unset] [(.int ((u4 &&& (2147483647 : Int32)) % (5 : Int32)))])) (fun t_ k_ => iremM X10 hx rfl (hb hby at_35) rfl (by decide) k_) ?_
  refine own_st (B := T10.setTop (mkF m 38 #[.val (.int u0), .val (.int u1), .val (.int u2), .val (.int u3), .val (.int u4), .val (.int u5), .val (.ref b1), .val (.int ((u4 &&& (2147483647 : Int32)) % (5 : Int32))), .unset, .unset, .unset, .unset] [])) (fun t_ k_ => XS.istore X10.here hx rfl (hb hby at_36) rfl (l' := #[.val (.int u0), .val (.int u1), .val (.int u2), .val (.int u3), .val (.int u4), .val (.int u5), .val (.ref b1), .val (.int ((u4 &&& (2147483647 : Int32)) % (5 : Int32))), .unset, .unset, .unset, .unset]) rfl k_) ?_
  have h7 := own_r5 u4
  obtain ⟨y7, hy7⟩ : ∃ y, y = ((u4 &&& (2147483647 : Int32)) % (5 : Int32)) := ⟨_, rfl⟩
  rw [← hy7] at h7 ⊢
  have h8 := own_rv u5 y7 h7.1 h7.2
  refine own_st (B := T10.setTop (mkF m 40 #[.val (.int u0), .val (.int u1), .val (.int u2), .val (.int u3), .val (.int u4), .val (.int u5), .val (.ref b1), .val (.int y7), .unset, .unset, .unset, .unset] [(.int u5)])) (fun t_ k_ => XS.iload X10.here hx rfl (hb hby at_38) rfl k_) ?_
  refine own_st (B := T10.setTop (mkF m 42 #[.val (.int u0), .val (.int u1), .val (.int u2), .val (.int u3), .val (.int u4), .val (.int u5), .val (.ref b1), .val (.int y7), .unset, .unset, .unset, .unset] [(.int (2147483647 : Int32)), (.int u5)])) (fun t_ k_ => X10.ldcInt hx hown (mvT hZ (hw _ (List.mem_of_getElem? (i := 1) rfl))) (g := (mkF m 40 #[.val (.int u0), .val (.int u1), .val (.int u2), .val (.int u3), .val (.int u4), .val (.int u5), .val (.ref b1), .val (.int y7), .unset, .unset, .unset, .unset] [(.int u5)])) rfl (hb hby at_40) t_ k_) ?_
  refine own_st (B := T10.setTop (mkF m 43 #[.val (.int u0), .val (.int u1), .val (.int u2), .val (.int u3), .val (.int u4), .val (.int u5), .val (.ref b1), .val (.int y7), .unset, .unset, .unset, .unset] [(.int (u5 &&& (2147483647 : Int32)))])) (fun t_ k_ => XS.iand X10.here hx rfl (hb hby at_42) rfl k_) ?_
  refine own_st (B := T10.setTop (mkF m 45 #[.val (.int u0), .val (.int u1), .val (.int u2), .val (.int u3), .val (.int u4), .val (.int u5), .val (.ref b1), .val (.int y7), .unset, .unset, .unset, .unset] [(.int y7), (.int (u5 &&& (2147483647 : Int32)))])) (fun t_ k_ => XS.iload X10.here hx rfl (hb hby at_43) rfl k_) ?_
  refine own_st (B := T10.setTop (mkF m 46 #[.val (.int u0), .val (.int u1), .val (.int u2), .val (.int u3), .val (.int u4), .val (.int u5), .val (.ref b1), .val (.int y7), .unset, .unset, .unset, .unset] [(.int (1 : Int32)), (.int y7), (.int (u5 &&& (2147483647 : Int32)))])) (fun t_ k_ => XS.iconst X10.here hx rfl (hb hby at_45) k_) ?_
  refine own_st (B := T10.setTop (mkF m 47 #[.val (.int u0), .val (.int u1), .val (.int u2), .val (.int u3), .val (.int u4), .val (.int u5), .val (.ref b1), .val (.int y7), .unset, .unset, .unset, .unset] [(.int (y7 + (1 : Int32))), (.int (u5 &&& (2147483647 : Int32)))])) (fun t_ k_ => XS.iadd X10.here hx rfl (hb hby at_46) rfl k_) ?_
  refine own_st (B := T10.setTop (mkF m 48 #[.val (.int u0), .val (.int u1), .val (.int u2), .val (.int u3), .val (.int u4), .val (.int u5), .val (.ref b1), .val (.int y7), .unset, .unset, .unset, .unset] [(.int ((u5 &&& (2147483647 : Int32)) % (y7 + (1 : Int32))))])) (fun t_ k_ => iremM X10 hx rfl (hb hby at_47) rfl h8.1 k_) ?_
  refine own_st (B := T10.setTop (mkF m 50 #[.val (.int u0), .val (.int u1), .val (.int u2), .val (.int u3), .val (.int u4), .val (.int u5), .val (.ref b1), .val (.int y7), .val (.int ((u5 &&& (2147483647 : Int32)) % (y7 + (1 : Int32)))), .unset, .unset, .unset] [])) (fun t_ k_ => XS.istore X10.here hx rfl (hb hby at_48) rfl (l' := #[.val (.int u0), .val (.int u1), .val (.int u2), .val (.int u3), .val (.int u4), .val (.int u5), .val (.ref b1), .val (.int y7), .val (.int ((u5 &&& (2147483647 : Int32)) % (y7 + (1 : Int32)))), .unset, .unset, .unset]) rfl k_) ?_
  obtain ⟨y8, hy8⟩ : ∃ y, y = ((u5 &&& (2147483647 : Int32)) % (y7 + (1 : Int32))) := ⟨_, rfl⟩
  rw [← hy8] at h8 ⊢
  obtain ⟨kt, hkt⟩ : ∃ k : Nat, own_ix y7 k := ⟨y7.toInt.toNat, own_ixof (by omega)⟩
  obtain ⟨ka, hka⟩ : ∃ k : Nat, own_ix y8 k := ⟨y8.toInt.toNat, own_ixof (by omega)⟩
  have hki := own_ixI hkt; have hai := own_ixI hka
  have hkl : ka ≤ kt := by omega
  have hk4 : kt ≤ 4 := by omega
  obtain ⟨T12, h12, X12, e12, E12, A12, D12, -, st12⟩ := newO X10 hx hZ hown (hw _ (List.mem_of_getElem? (i := 2) rfl)) (hw _ (List.mem_of_getElem? (i := 3) rfl)) (hw _ (List.mem_of_getElem? (i := 4) rfl)) e10 (g := (mkF m 50 #[.val (.int u0), .val (.int u1), .val (.int u2), .val (.int u3), .val (.int u4), .val (.int u5), .val (.ref b1), .val (.int y7), .val (.int y8), .unset, .unset, .unset] [])) rfl (hb hby at_50) (by decide) (by decide)
  obtain ⟨b12, g12⟩ : ∃ z, z = h10.size := ⟨_, rfl⟩
  rw [← g12] at A12 D12 st12
  have ne13 : b1 ≠ b12 := Nat.ne_of_lt (Nat.lt_of_lt_of_le aff.lt (Nat.le_of_eq g12.symm))
  have g14 : n0 ≤ b12 := Nat.le_trans Z11 (Nat.le_of_eq g12.symm)
  have Z15 := Nat.le_trans Z11 E12.1
  have X12 : Stand p l e _ s m _ below meth c T12 _ 2 7 := X12
  have F12_least : Fld Z h12 b12 "com/example/mapwright/mapwright/Utf8Check" "least" "I" (.int (0 : Int32)) := D12 (Or.inl (hw _ (List.mem_of_getElem? (i := 12) rfl))) (ty := .int) (by decide)
  have F12_greatest : Fld Z h12 b12 "com/example/mapwright/mapwright/Utf8Check" "greatest" "I" (.int (0 : Int32)) := D12 (Or.inl (hw _ (List.mem_of_getElem? (i := 14) rfl))) (ty := .int) (by decide)
  have F12_needed : Fld Z h12 b12 "com/example/mapwright/mapwright/Utf8Check" "needed" "I" (.int (0 : Int32)) := D12 (Or.inl (hw _ (List.mem_of_getElem? (i := 26) rfl))) (ty := .int) (by decide)
  refine own_st (B := T12.setTop (mkF m 53 #[.val (.int u0), .val (.int u1), .val (.int u2), .val (.int u3), .val (.int u4), .val (.int u5), .val (.ref b1), .val (.int y7), .val (.int y8), .unset, .unset, .unset] [(.ref b12)])) st12 ?_
  refine own_st (B := T12.setTop (mkF m 54 #[.val (.int u0), .val (.int u1), .val (.int u2), .val (.int u3), .val (.int u4), .val (.int u5), .val (.ref b1), .val (.int y7), .val (.int y8), .unset, .unset, .unset] [(.ref b12), (.ref b12)])) (fun t_ k_ => XS.dup X12.here hx rfl (hb hby at_53) rfl rfl k_) ?_
  obtain ⟨_, _, ⟨T16, Lq16, kq16, nq16⟩, -, X16, ⟨Lc16, hQ16, lq16, yq16, zq16⟩, st16⟩ := X12.specialBack hx (y := (⟨"com/example/mapwright/mapwright/Utf8Check", "<init>", "()V"⟩ : MethodName)) rfl hown (mvT hZ (hw _ (List.mem_of_getElem? (i := 5) rfl))) (mvT hZ (hw _ (List.mem_of_getElem? (i := 6) rfl))) (mvT hZ (hw _ (List.mem_of_getElem? (i := 7) rfl))) (by decide) (backOf (W := 1) (rm1 l Z a0 hw [] b12 h12 n0 Z15 A12 F12_needed F12_least F12_greatest g14) hZ (hw _ (List.mem_of_getElem? (i := 7) rfl)) (hw _ (List.mem_of_getElem? (i := 4) rfl)) (by decide) (by decide)) (g := (mkF m 54 #[.val (.int u0), .val (.int u1), .val (.int u2), .val (.int u3), .val (.int u4), .val (.int u5), .val (.ref b1), .val (.int y7), .val (.int y8), .unset, .unset, .unset] [(.ref b12), (.ref b12)])) rfl (by rw [hml]; rfl) (Steps.refl _) (a := b12) (argsL := []) (rest := [(.ref b12)]) (lenOf own_pd3 rfl) rfl (by show 2 * 0 + _ ≤ _; exact Nat.le_of_eq rfl) (hb hby at_54) (fun _ _ => ⟨rfl, e12, (by decide : 2 + 0 ≤ _), (by decide : 7 + 0 ≤ _)⟩)
  dsimp only [Pt.U, Pt.locs, Pt.cells, Pt.slots] at X16 lq16 yq16 zq16 st16 hQ16
  rw [lq16, yq16, zq16] at X16
  have X16 : Stand p l e _ s m _ below meth c T16 _ 2 7 := X16
  obtain ⟨rfl, N16q, K16, Fc16_0, Fc16_1, Fc16_2⟩ := hQ16
  have N16 := Fr.app N10 N16q
  have Z17 := Nat.le_trans Z15 K16.1
  refine own_st (B := T16.setTop (mkF m 57 #[.val (.int u0), .val (.int u1), .val (.int u2), .val (.int u3), .val (.int u4), .val (.int u5), .val (.ref b1), .val (.int y7), .val (.int y8), .unset, .unset, .unset] [(.ref b12)])) (fun t_ k_ => st16.trans k_) ?_
  refine own_st (B := T16.setTop (mkF m 59 #[.val (.int u0), .val (.int u1), .val (.int u2), .val (.int u3), .val (.int u4), .val (.int u5), .val (.ref b1), .val (.int y7), .val (.int y8), .val (.ref b12), .unset, .unset] [])) (fun t_ k_ => XS.astore X16.here hx rfl (hb hby at_57) rfl rfl (l' := #[.val (.int u0), .val (.int u1), .val (.int u2), .val (.int u3), .val (.int u4), .val (.int u5), .val (.ref b1), .val (.int y7), .val (.int y8), .val (.ref b12), .unset, .unset]) rfl k_) ?_
  refine own_st (B := T16.setTop (mkF m 61 #[.val (.int u0), .val (.int u1), .val (.int u2), .val (.int u3), .val (.int u4), .val (.int u5), .val (.ref b1), .val (.int y7), .val (.int y8), .val (.ref b12), .unset, .unset] [(.ref b12)])) (fun t_ k_ => XS.aload X16.here hx rfl (hb hby at_59) rfl rfl k_) ?_
  refine own_st (B := T16.setTop (mkF m 63 #[.val (.int u0), .val (.int u1), .val (.int u2), .val (.int u3), .val (.int u4), .val (.int u5), .val (.ref b1), .val (.int y7), .val (.int y8), .val (.ref b12), .unset, .unset] [(.ref b1), (.ref b12)])) (fun t_ k_ => XS.aload X16.here hx rfl (hb hby at_61) rfl rfl k_) ?_
  refine own_st (B := T16.setTop (mkF m 64 #[.val (.int u0), .val (.int u1), .val (.int u2), .val (.int u3), .val (.int u4), .val (.int u5), .val (.ref b1), .val (.int y7), .val (.int y8), .val (.ref b12), .unset, .unset] [(.int (0 : Int32)), (.ref b1), (.ref b12)])) (fun t_ k_ => XS.iconst X16.here hx rfl (hb hby at_63) k_) ?_
  refine own_st (B := T16.setTop (mkF m 66 #[.val (.int u0), .val (.int u1), .val (.int u2), .val (.int u3), .val (.int u4), .val (.int u5), .val (.ref b1), .val (.int y7), .val (.int y8), .val (.ref b12), .unset, .unset] [(.int y8), (.int (0 : Int32)), (.ref b1), (.ref b12)])) (fun t_ k_ => XS.iload X16.here hx rfl (hb hby at_64) rfl k_) ?_
  have u19 := A12.keep K16
  have u20 := aff.ext E12
  have u21 := u20.keep K16 (ninS ne13 nin0)
  obtain ⟨cq18, kr18, q18a, q18b, q18c⟩ := isOf hZ rfl u19
  obtain ⟨_, _, ⟨T18, Lq18, kq18, nq18⟩, -, X18, ⟨Lc18, hQ18, lq18, yq18, zq18⟩, st18⟩ := X16.virtualBack hx (y := (⟨"com/example/mapwright/mapwright/Utf8Check", "check", "([BII)I"⟩ : MethodName)) (z := (⟨"com/example/mapwright/mapwright/Utf8Check", "check", "([BII)I"⟩ : MethodName)) hown (mvT hZ (hw _ (List.mem_of_getElem? (i := 15) rfl))) (mvT hZ (hw _ (List.mem_of_getElem? (i := 16) rfl))) (notFace_of_selects (args := #[]) (mvT hZ (hw _ (List.mem_of_getElem? (i := 18) rfl)))) (mvT hZ (hw _ (List.mem_of_getElem? (i := 18) rfl))) (mvT hZ (hw _ (List.mem_of_getElem? (i := 17) rfl))) (by decide) (backOf (W := 0) (rm3 l Z a0 hw [] b12 b1 (0 : Int32) y8 0 ka 4 ff 0 128 191 T16.heap n0 Z17 u19 Fc16_0 Fc16_1 Fc16_2 u21 g14 (Ne.symm ne13) (by decide) hka (Nat.zero_le _) (by omega) (by decide) ⟨by decide, by decide, by decide, by decide, fun _ => ⟨rfl, rfl⟩⟩) hZ (hw _ (List.mem_of_getElem? (i := 19) rfl)) (hw _ (List.mem_of_getElem? (i := 4) rfl)) (by decide) (by decide)) q18a q18c (g := (mkF m 66 #[.val (.int u0), .val (.int u1), .val (.int u2), .val (.int u3), .val (.int u4), .val (.int u5), .val (.ref b1), .val (.int y7), .val (.int y8), .val (.ref b12), .unset, .unset] [(.int y8), (.int (0 : Int32)), (.ref b1), (.ref b12)])) rfl (by rw [hml]; rfl) (Steps.refl _) (argsL := [(.ref b1), (.int (0 : Int32)), (.int y8)]) (rest := []) (lenOf own_pd4 rfl) rfl (by show 2 * 0 + _ ≤ _; exact Nat.le_of_eq rfl) (hb hby at_66) (fun _ _ => ⟨rfl, rfl, (by decide : 2 + 0 ≤ _), (by decide : 7 + 0 ≤ _)⟩)
  dsimp only [Pt.U, Pt.locs, Pt.cells, Pt.slots] at X18 lq18 yq18 zq18 st18 hQ18
  rw [lq18, yq18, zq18] at X18
  have X18 : Stand p l e _ s m _ below meth c T18 _ 2 7 := X18
  rcases hQ18 with hQ18 | hQ18
  · obtain ⟨sq18, y18, hr18, rfl, hy18, N18q, K18⟩ := hQ18
    have N18 := Fr.app N16 N18q
    have Z22 := Nat.le_trans Z17 K18.1
    refine own_st (B := T18.setTop (mkF m 69 #[.val (.int u0), .val (.int u1), .val (.int u2), .val (.int u3), .val (.int u4), .val (.int u5), .val (.ref b1), .val (.int y7), .val (.int y8), .val (.ref b12), .unset, .unset] [(.int y18)])) (fun t_ k_ => st18.trans k_) ?_
    refine own_st (B := T18.setTop (mkF m 71 #[.val (.int u0), .val (.int u1), .val (.int u2), .val (.int u3), .val (.int u4), .val (.int u5), .val (.ref b1), .val (.int y7), .val (.int y8), .val (.ref b12), .val (.int y18), .unset] [])) (fun t_ k_ => XS.istore X18.here hx rfl (hb hby at_69) rfl (l' := #[.val (.int u0), .val (.int u1), .val (.int u2), .val (.int u3), .val (.int u4), .val (.int u5), .val (.ref b1), .val (.int y7), .val (.int y8), .val (.ref b12), .val (.int y18), .unset]) rfl k_) ?_
    refine own_st (B := T18.setTop (mkF m 73 #[.val (.int u0), .val (.int u1), .val (.int u2), .val (.int u3), .val (.int u4), .val (.int u5), .val (.ref b1), .val (.int y7), .val (.int y8), .val (.ref b12), .val (.int y18), .unset] [(.int y18)])) (fun t_ k_ => XS.iload X18.here hx rfl (hb hby at_71) rfl k_) ?_
    refine own_st (B := T18.setTop (mkF m 75 #[.val (.int u0), .val (.int u1), .val (.int u2), .val (.int u3), .val (.int u4), .val (.int u5), .val (.ref b1), .val (.int y7), .val (.int y8), .val (.ref b12), .val (.int y18), .unset] [(.int y8), (.int y18)])) (fun t_ k_ => XS.iload X18.here hx rfl (hb hby at_73) rfl k_) ?_
    have hc23 : ¬ (y18 = y8) := fun q1 => by have q2 := own_eq32 q1; have q3 := own_runL _ _ _ _ (Nat.le_refl _) hr18; have q4 := own_ixI hy18; omega
    have hd23 := own_neq32 hc23
    refine own_st (B := T18.setTop (mkF m 78 #[.val (.int u0), .val (.int u1), .val (.int u2), .val (.int u3), .val (.int u4), .val (.int u5), .val (.ref b1), .val (.int y7), .val (.int y8), .val (.ref b12), .val (.int y18), .unset] [])) (fun t_ k_ => XS.icmpNo X18.here hx rfl (hb hby at_75) rfl (feq hc23).1 k_) ?_
    refine own_st (B := T18.setTop (mkF m 79 #[.val (.int u0), .val (.int u1), .val (.int u2), .val (.int u3), .val (.int u4), .val (.int u5), .val (.ref b1), .val (.int y7), .val (.int y8), .val (.ref b12), .val (.int y18), .unset] [(.int (1 : Int32))])) (fun t_ k_ => XS.iconst X18.here hx rfl (hb hby at_78) k_) ?_
    refine own_retN X18 hx (t := .boolean) Bd.returns (by simp) hlk (hb hby at_79) (z' := (1 : Int32)) (by first | rfl | exact own_nb _) (by decide) (by decide) ?_
    show Q0 Z u0 u1 u2 u3 u4 u5 h0 n0 _ T18.heap _
    exact ⟨rfl, N18⟩
  · obtain ⟨r1_18, r2_18, r3_18, hr18, hok18, rfl, N18q, K18, Fn18, Fl18, Fg18⟩ := hQ18
    have N18 := Fr.app N16 N18q
    have Z24 := Nat.le_trans Z17 K18.1
    have hok1_18 : r1_18 ≤ 3 := hok18.1
    refine own_st (B := T18.setTop (mkF m 69 #[.val (.int u0), .val (.int u1), .val (.int u2), .val (.int u3), .val (.int u4), .val (.int u5), .val (.ref b1), .val (.int y7), .val (.int y8), .val (.ref b12), .unset, .unset] [(.int y8)])) (fun t_ k_ => st18.trans k_) ?_
    refine own_st (B := T18.setTop (mkF m 71 #[.val (.int u0), .val (.int u1), .val (.int u2), .val (.int u3), .val (.int u4), .val (.int u5), .val (.ref b1), .val (.int y7), .val (.int y8), .val (.ref b12), .val (.int y8), .unset] [])) (fun t_ k_ => XS.istore X18.here hx rfl (hb hby at_69) rfl (l' := #[.val (.int u0), .val (.int u1), .val (.int u2), .val (.int u3), .val (.int u4), .val (.int u5), .val (.ref b1), .val (.int y7), .val (.int y8), .val (.ref b12), .val (.int y8), .unset]) rfl k_) ?_
    refine own_st (B := T18.setTop (mkF m 73 #[.val (.int u0), .val (.int u1), .val (.int u2), .val (.int u3), .val (.int u4), .val (.int u5), .val (.ref b1), .val (.int y7), .val (.int y8), .val (.ref b12), .val (.int y8), .unset] [(.int y8)])) (fun t_ k_ => XS.iload X18.here hx rfl (hb hby at_71) rfl k_) ?_
    refine own_st (B := T18.setTop (mkF m 75 #[.val (.int u0), .val (.int u1), .val (.int u2), .val (.int u3), .val (.int u4), .val (.int u5), .val (.ref b1), .val (.int y7), .val (.int y8), .val (.ref b12), .val (.int y8), .unset] [(.int y8), (.int y8)])) (fun t_ k_ => XS.iload X18.here hx rfl (hb hby at_73) rfl k_) ?_
    have hc25 : y8 = y8 := rfl
    have hd25 := own_eq32 hc25
    refine own_st (B := T18.setTop (mkF m 80 #[.val (.int u0), .val (.int u1), .val (.int u2), .val (.int u3), .val (.int u4), .val (.int u5), .val (.ref b1), .val (.int y7), .val (.int y8), .val (.ref b12), .val (.int y8), .unset] [])) (fun t_ k_ => XS.icmpYes X18.here hx rfl (pc0 := 75) (pc' := 80) rfl (hb hby at_75) rfl (teq hc25).1 (by decide) (by decide) k_) ?_
    have hp1 := own_runP _ _ _ _ ⟨by decide, by decide, by decide, by decide, fun _ => ⟨rfl, rfl⟩⟩ (Or.inl ⟨rfl, rfl⟩) hr18
    rw [show 0 + (ka - 0) = ka by omega] at hp1
    refine own_st (B := T18.setTop (mkF m 82 #[.val (.int u0), .val (.int u1), .val (.int u2), .val (.int u3), .val (.int u4), .val (.int u5), .val (.ref b1), .val (.int y7), .val (.int y8), .val (.ref b12), .val (.int y8), .unset] [(.ref b12)])) (fun t_ k_ => XS.aload X18.here hx rfl (hb hby at_80) rfl rfl k_) ?_
    have u27 := u19.keep K18
    obtain ⟨cq26, kr26, q26a, q26b, q26c⟩ := isOf hZ rfl u27
    obtain ⟨_, _, ⟨T26, Lq26, kq26, nq26⟩, -, X26, ⟨Lc26, hQ26, lq26, yq26, zq26⟩, st26⟩ := X18.virtualBack hx (y := (⟨"com/example/mapwright/mapwright/Utf8Check", "complete", "()Z"⟩ : MethodName)) (z := (⟨"com/example/mapwright/mapwright/Utf8Check", "complete", "()Z"⟩ : MethodName)) hown (mvT hZ (hw _ (List.mem_of_getElem? (i := 20) rfl))) (mvT hZ (hw _ (List.mem_of_getElem? (i := 21) rfl))) (notFace_of_selects (args := #[]) (mvT hZ (hw _ (List.mem_of_getElem? (i := 23) rfl)))) (mvT hZ (hw _ (List.mem_of_getElem? (i := 23) rfl))) (mvT hZ (hw _ (List.mem_of_getElem? (i := 22) rfl))) (by decide) (backOf (W := 0) (rm4 l Z a0 hw [] b12 r1_18 T18.heap n0 Z24 Fn18 (by omega)) hZ (hw _ (List.mem_of_getElem? (i := 24) rfl)) (hw _ (List.mem_of_getElem? (i := 4) rfl)) (by decide) (by decide)) q26a q26c (g := (mkF m 82 #[.val (.int u0), .val (.int u1), .val (.int u2), .val (.int u3), .val (.int u4), .val (.int u5), .val (.ref b1), .val (.int y7), .val (.int y8), .val (.ref b12), .val (.int y8), .unset] [(.ref b12)])) rfl (by rw [hml]; rfl) (Steps.refl _) (argsL := []) (rest := []) (lenOf own_pd5 rfl) rfl (by show 2 * 0 + _ ≤ _; exact Nat.le_of_eq rfl) (hb hby at_82) (fun _ _ => ⟨rfl, rfl, (by decide : 2 + 0 ≤ _), (by decide : 7 + 0 ≤ _)⟩)
    dsimp only [Pt.U, Pt.locs, Pt.cells, Pt.slots] at X26 lq26 yq26 zq26 st26 hQ26
    rw [lq26, yq26, zq26] at X26
    have X26 : Stand p l e _ s m _ below meth c T26 _ 2 7 := X26
    obtain ⟨rfl, N26q, eh26⟩ := hQ26
    have N26 := Fr.app N18 N26q
    refine own_st (B := T26.setTop (mkF m 85 #[.val (.int u0), .val (.int u1), .val (.int u2), .val (.int u3), .val (.int u4), .val (.int u5), .val (.ref b1), .val (.int y7), .val (.int y8), .val (.ref b12), .val (.int y8), .unset] [(.int (own_b (decide (r1_18 = 0))))])) (fun t_ k_ => st26.trans k_) ?_
    refine own_st (B := T26.setTop (mkF m 87 #[.val (.int u0), .val (.int u1), .val (.int u2), .val (.int u3), .val (.int u4), .val (.int u5), .val (.ref b1), .val (.int y7), .val (.int y8), .val (.ref b12), .val (.int y8), .unset] [(.ref b1), (.int (own_b (decide (r1_18 = 0))))])) (fun t_ k_ => XS.aload X26.here hx rfl (hb hby at_85) rfl rfl k_) ?_
    refine own_st (B := T26.setTop (mkF m 89 #[.val (.int u0), .val (.int u1), .val (.int u2), .val (.int u3), .val (.int u4), .val (.int u5), .val (.ref b1), .val (.int y7), .val (.int y8), .val (.ref b12), .val (.int y8), .unset] [(.int y8), (.ref b1), (.int (own_b (decide (r1_18 = 0))))])) (fun t_ k_ => XS.iload X26.here hx rfl (hb hby at_87) rfl k_) ?_
    have u29 := u21.keep K18 (ninS ne13 nin0)
    obtain ⟨_, _, ⟨T28, Lq28, kq28, nq28⟩, -, X28, ⟨Lc28, hQ28, lq28, yq28, zq28⟩, st28⟩ := Jvm.LawKit.callS X26 hx (y := (⟨"com/example/mapwright/mapwright/Utf8CheckCompletePinLaw", "whole", "([BI)Z"⟩ : MethodName)) hown (mvT hZ (hw _ (List.mem_of_getElem? (i := 27) rfl))) (mvT hZ (hw _ (List.mem_of_getElem? (i := 28) rfl))) (mvT hZ (hw _ (List.mem_of_getElem? (i := 29) rfl))) (mvT hZ (hw _ (List.mem_of_getElem? (i := 30) rfl))) (by decide) (backOf (W := 1) (rm5 l Z a0 hw [] b1 y8 ka r1_18 ff T18.heap n0 Z24 u29 hka (by omega) hp1) hZ (hw _ (List.mem_of_getElem? (i := 30) rfl)) (hw _ (List.mem_of_getElem? (i := 29) rfl)) (by decide) (by decide)) (g := (mkF m 89 #[.val (.int u0), .val (.int u1), .val (.int u2), .val (.int u3), .val (.int u4), .val (.int u5), .val (.ref b1), .val (.int y7), .val (.int y8), .val (.ref b12), .val (.int y8), .unset] [(.int y8), (.ref b1), (.int (own_b (decide (r1_18 = 0))))])) rfl (by rw [hml]; rfl) (argsL := [(.ref b1), (.int y8)]) (rest := [(.int (own_b (decide (r1_18 = 0))))]) (lenOf own_pd6 rfl) rfl (by show 2 * 0 + _ ≤ _; exact Nat.le_of_eq rfl) (hb hby at_89) (fun _ _ => ⟨rfl, eh26, (by decide : 2 + 0 ≤ _), (by decide : 7 + 0 ≤ _)⟩)
    dsimp only [Pt.U, Pt.locs, Pt.cells, Pt.slots] at X28 lq28 yq28 zq28 st28 hQ28
    rw [lq28, yq28, zq28] at X28
    have X28 : Stand p l e _ s m _ below meth c T28 _ 2 7 := X28
    obtain ⟨rfl, N28q, eh28⟩ := hQ28
    have N28 := Fr.app N26 N28q
    refine own_st (B := T28.setTop (mkF m 92 #[.val (.int u0), .val (.int u1), .val (.int u2), .val (.int u3), .val (.int u4), .val (.int u5), .val (.ref b1), .val (.int y7), .val (.int y8), .val (.ref b12), .val (.int y8), .unset] [(.int (own_b (decide (r1_18 = 0)))), (.int (own_b (decide (r1_18 = 0))))])) st28 ?_
    have hc30 : (own_b (decide (r1_18 = 0))) = (own_b (decide (r1_18 = 0))) := rfl
    refine own_st (B := T28.setTop (mkF m 97 #[.val (.int u0), .val (.int u1), .val (.int u2), .val (.int u3), .val (.int u4), .val (.int u5), .val (.ref b1), .val (.int y7), .val (.int y8), .val (.ref b12), .val (.int y8), .unset] [])) (fun t_ k_ => XS.icmpYes X28.here hx rfl (pc0 := 92) (pc' := 97) rfl (hb hby at_92) rfl (teq hc30).1 (by decide) (by decide) k_) ?_
    refine own_st (B := T28.setTop (mkF m 99 #[.val (.int u0), .val (.int u1), .val (.int u2), .val (.int u3), .val (.int u4), .val (.int u5), .val (.ref b1), .val (.int y7), .val (.int y8), .val (.ref b12), .val (.int y8), .unset] [(.ref b12)])) (fun t_ k_ => XS.aload X28.here hx rfl (hb hby at_97) rfl rfl k_) ?_
    refine own_st (B := T28.setTop (mkF m 101 #[.val (.int u0), .val (.int u1), .val (.int u2), .val (.int u3), .val (.int u4), .val (.int u5), .val (.ref b1), .val (.int y7), .val (.int y8), .val (.ref b12), .val (.int y8), .unset] [(.ref b1), (.ref b12)])) (fun t_ k_ => XS.aload X28.here hx rfl (hb hby at_99) rfl rfl k_) ?_
    refine own_st (B := T28.setTop (mkF m 103 #[.val (.int u0), .val (.int u1), .val (.int u2), .val (.int u3), .val (.int u4), .val (.int u5), .val (.ref b1), .val (.int y7), .val (.int y8), .val (.ref b12), .val (.int y8), .unset] [(.int y8), (.ref b1), (.ref b12)])) (fun t_ k_ => XS.iload X28.here hx rfl (hb hby at_101) rfl k_) ?_
    refine own_st (B := T28.setTop (mkF m 105 #[.val (.int u0), .val (.int u1), .val (.int u2), .val (.int u3), .val (.int u4), .val (.int u5), .val (.ref b1), .val (.int y7), .val (.int y8), .val (.ref b12), .val (.int y8), .unset] [(.int y7), (.int y8), (.ref b1), (.ref b12)])) (fun t_ k_ => XS.iload X28.here hx rfl (hb hby at_103) rfl k_) ?_
    obtain ⟨cq31, kr31, q31a, q31b, q31c⟩ := isOf hZ eh28 u27
    obtain ⟨_, _, ⟨T31, Lq31, kq31, nq31⟩, -, X31, ⟨Lc31, hQ31, lq31, yq31, zq31⟩, st31⟩ := X28.virtualBack hx (y := (⟨"com/example/mapwright/mapwright/Utf8Check", "check", "([BII)I"⟩ : MethodName)) (z := (⟨"com/example/mapwright/mapwright/Utf8Check", "check", "([BII)I"⟩ : MethodName)) hown (mvT hZ (hw _ (List.mem_of_getElem? (i := 15) rfl))) (mvT hZ (hw _ (List.mem_of_getElem? (i := 16) rfl))) (notFace_of_selects (args := #[]) (mvT hZ (hw _ (List.mem_of_getElem? (i := 18) rfl)))) (mvT hZ (hw _ (List.mem_of_getElem? (i := 18) rfl))) (mvT hZ (hw _ (List.mem_of_getElem? (i := 17) rfl))) (by decide) (backOf (W := 0) (rm3 l Z a0 hw [] b12 b1 y8 y7 ka kt 4 ff r1_18 r2_18 r3_18 T18.heap n0 Z24 u27 Fn18 Fl18 Fg18 u29 g14 (Ne.symm ne13) hka hkt hkl (by omega) (by decide) hok18) hZ (hw _ (List.mem_of_getElem? (i := 19) rfl)) (hw _ (List.mem_of_getElem? (i := 4) rfl)) (by decide) (by decide)) q31a q31c (g := (mkF m 105 #[.val (.int u0), .val (.int u1), .val (.int u2), .val (.int u3), .val (.int u4), .val (.int u5), .val (.ref b1), .val (.int y7), .val (.int y8), .val (.ref b12), .val (.int y8), .unset] [(.int y7), (.int y8), (.ref b1), (.ref b12)])) rfl (by rw [hml]; rfl) (Steps.refl _) (argsL := [(.ref b1), (.int y8), (.int y7)]) (rest := []) (lenOf own_pd4 rfl) rfl (by show 2 * 0 + _ ≤ _; exact Nat.le_of_eq rfl) (hb hby at_105) (fun _ _ => ⟨rfl, eh28, (by decide : 2 + 0 ≤ _), (by decide : 7 + 0 ≤ _)⟩)
    dsimp only [Pt.U, Pt.locs, Pt.cells, Pt.slots] at X31 lq31 yq31 zq31 st31 hQ31
    rw [lq31, yq31, zq31] at X31
    have X31 : Stand p l e _ s m _ below meth c T31 _ 2 7 := X31
    rcases hQ31 with hQ31 | hQ31
    · obtain ⟨sq31, y31, hr31, rfl, hy31, N31q, K31⟩ := hQ31
      have N31 := Fr.app N28 N31q
      have Z32 := Nat.le_trans Z24 K31.1
      refine own_st (B := T31.setTop (mkF m 108 #[.val (.int u0), .val (.int u1), .val (.int u2), .val (.int u3), .val (.int u4), .val (.int u5), .val (.ref b1), .val (.int y7), .val (.int y8), .val (.ref b12), .val (.int y8), .unset] [(.int y31)])) (fun t_ k_ => st31.trans k_) ?_
      refine own_st (B := T31.setTop (mkF m 110 #[.val (.int u0), .val (.int u1), .val (.int u2), .val (.int u3), .val (.int u4), .val (.int u5), .val (.ref b1), .val (.int y7), .val (.int y8), .val (.ref b12), .val (.int y8), .val (.int y31)] [])) (fun t_ k_ => XS.istore X31.here hx rfl (hb hby at_108) rfl (l' := #[.val (.int u0), .val (.int u1), .val (.int u2), .val (.int u3), .val (.int u4), .val (.int u5), .val (.ref b1), .val (.int y7), .val (.int y8), .val (.ref b12), .val (.int y8), .val (.int y31)]) rfl k_) ?_
      refine own_st (B := T31.setTop (mkF m 112 #[.val (.int u0), .val (.int u1), .val (.int u2), .val (.int u3), .val (.int u4), .val (.int u5), .val (.ref b1), .val (.int y7), .val (.int y8), .val (.ref b12), .val (.int y8), .val (.int y31)] [(.int y31)])) (fun t_ k_ => XS.iload X31.here hx rfl (hb hby at_110) rfl k_) ?_
      refine own_st (B := T31.setTop (mkF m 114 #[.val (.int u0), .val (.int u1), .val (.int u2), .val (.int u3), .val (.int u4), .val (.int u5), .val (.ref b1), .val (.int y7), .val (.int y8), .val (.ref b12), .val (.int y8), .val (.int y31)] [(.int y7), (.int y31)])) (fun t_ k_ => XS.iload X31.here hx rfl (hb hby at_112) rfl k_) ?_
      have hc33 : ¬ (y31 = y7) := fun q1 => by have q2 := own_eq32 q1; have q3 := own_runL _ _ _ _ (Nat.le_refl _) hr31; have q4 := own_ixI hy31; omega
      have hd33 := own_neq32 hc33
      refine own_st (B := T31.setTop (mkF m 117 #[.val (.int u0), .val (.int u1), .val (.int u2), .val (.int u3), .val (.int u4), .val (.int u5), .val (.ref b1), .val (.int y7), .val (.int y8), .val (.ref b12), .val (.int y8), .val (.int y31)] [])) (fun t_ k_ => XS.icmpNo X31.here hx rfl (hb hby at_114) rfl (feq hc33).1 k_) ?_
      refine own_st (B := T31.setTop (mkF m 118 #[.val (.int u0), .val (.int u1), .val (.int u2), .val (.int u3), .val (.int u4), .val (.int u5), .val (.ref b1), .val (.int y7), .val (.int y8), .val (.ref b12), .val (.int y8), .val (.int y31)] [(.int (1 : Int32))])) (fun t_ k_ => XS.iconst X31.here hx rfl (hb hby at_117) k_) ?_
      refine own_retN X31 hx (t := .boolean) Bd.returns (by simp) hlk (hb hby at_118) (z' := (1 : Int32)) (by first | rfl | exact own_nb _) (by decide) (by decide) ?_
      show Q0 Z u0 u1 u2 u3 u4 u5 h0 n0 _ T31.heap _
      exact ⟨rfl, N31⟩
    · obtain ⟨r1_31, r2_31, r3_31, hr31, hok31, rfl, N31q, K31, Fn31, Fl31, Fg31⟩ := hQ31
      have N31 := Fr.app N28 N31q
      have Z34 := Nat.le_trans Z24 K31.1
      have hok1_31 : r1_31 ≤ 3 := hok31.1
      refine own_st (B := T31.setTop (mkF m 108 #[.val (.int u0), .val (.int u1), .val (.int u2), .val (.int u3), .val (.int u4), .val (.int u5), .val (.ref b1), .val (.int y7), .val (.int y8), .val (.ref b12), .val (.int y8), .unset] [(.int y7)])) (fun t_ k_ => st31.trans k_) ?_
      refine own_st (B := T31.setTop (mkF m 110 #[.val (.int u0), .val (.int u1), .val (.int u2), .val (.int u3), .val (.int u4), .val (.int u5), .val (.ref b1), .val (.int y7), .val (.int y8), .val (.ref b12), .val (.int y8), .val (.int y7)] [])) (fun t_ k_ => XS.istore X31.here hx rfl (hb hby at_108) rfl (l' := #[.val (.int u0), .val (.int u1), .val (.int u2), .val (.int u3), .val (.int u4), .val (.int u5), .val (.ref b1), .val (.int y7), .val (.int y8), .val (.ref b12), .val (.int y8), .val (.int y7)]) rfl k_) ?_
      refine own_st (B := T31.setTop (mkF m 112 #[.val (.int u0), .val (.int u1), .val (.int u2), .val (.int u3), .val (.int u4), .val (.int u5), .val (.ref b1), .val (.int y7), .val (.int y8), .val (.ref b12), .val (.int y8), .val (.int y7)] [(.int y7)])) (fun t_ k_ => XS.iload X31.here hx rfl (hb hby at_110) rfl k_) ?_
      refine own_st (B := T31.setTop (mkF m 114 #[.val (.int u0), .val (.int u1), .val (.int u2), .val (.int u3), .val (.int u4), .val (.int u5), .val (.ref b1), .val (.int y7), .val (.int y8), .val (.ref b12), .val (.int y8), .val (.int y7)] [(.int y7), (.int y7)])) (fun t_ k_ => XS.iload X31.here hx rfl (hb hby at_112) rfl k_) ?_
      have hc35 : y7 = y7 := rfl
      have hd35 := own_eq32 hc35
      refine own_st (B := T31.setTop (mkF m 119 #[.val (.int u0), .val (.int u1), .val (.int u2), .val (.int u3), .val (.int u4), .val (.int u5), .val (.ref b1), .val (.int y7), .val (.int y8), .val (.ref b12), .val (.int y8), .val (.int y7)] [])) (fun t_ k_ => XS.icmpYes X31.here hx rfl (pc0 := 114) (pc' := 119) rfl (hb hby at_114) rfl (teq hc35).1 (by decide) (by decide) k_) ?_
      have hp2 := own_runP _ _ _ _ hok18 hp1 hr31
      rw [show ka + (kt - ka) = kt by omega] at hp2
      refine own_st (B := T31.setTop (mkF m 121 #[.val (.int u0), .val (.int u1), .val (.int u2), .val (.int u3), .val (.int u4), .val (.int u5), .val (.ref b1), .val (.int y7), .val (.int y8), .val (.ref b12), .val (.int y8), .val (.int y7)] [(.ref b12)])) (fun t_ k_ => XS.aload X31.here hx rfl (hb hby at_119) rfl rfl k_) ?_
      have u37 := u27.keep K31
      obtain ⟨cq36, kr36, q36a, q36b, q36c⟩ := isOf hZ rfl u37
      obtain ⟨_, _, ⟨T36, Lq36, kq36, nq36⟩, -, X36, ⟨Lc36, hQ36, lq36, yq36, zq36⟩, st36⟩ := X31.virtualBack hx (y := (⟨"com/example/mapwright/mapwright/Utf8Check", "complete", "()Z"⟩ : MethodName)) (z := (⟨"com/example/mapwright/mapwright/Utf8Check", "complete", "()Z"⟩ : MethodName)) hown (mvT hZ (hw _ (List.mem_of_getElem? (i := 20) rfl))) (mvT hZ (hw _ (List.mem_of_getElem? (i := 21) rfl))) (notFace_of_selects (args := #[]) (mvT hZ (hw _ (List.mem_of_getElem? (i := 23) rfl)))) (mvT hZ (hw _ (List.mem_of_getElem? (i := 23) rfl))) (mvT hZ (hw _ (List.mem_of_getElem? (i := 22) rfl))) (by decide) (backOf (W := 0) (rm4 l Z a0 hw [] b12 r1_31 T31.heap n0 Z34 Fn31 (by omega)) hZ (hw _ (List.mem_of_getElem? (i := 24) rfl)) (hw _ (List.mem_of_getElem? (i := 4) rfl)) (by decide) (by decide)) q36a q36c (g := (mkF m 121 #[.val (.int u0), .val (.int u1), .val (.int u2), .val (.int u3), .val (.int u4), .val (.int u5), .val (.ref b1), .val (.int y7), .val (.int y8), .val (.ref b12), .val (.int y8), .val (.int y7)] [(.ref b12)])) rfl (by rw [hml]; rfl) (Steps.refl _) (argsL := []) (rest := []) (lenOf own_pd5 rfl) rfl (by show 2 * 0 + _ ≤ _; exact Nat.le_of_eq rfl) (hb hby at_121) (fun _ _ => ⟨rfl, rfl, (by decide : 2 + 0 ≤ _), (by decide : 7 + 0 ≤ _)⟩)
      dsimp only [Pt.U, Pt.locs, Pt.cells, Pt.slots] at X36 lq36 yq36 zq36 st36 hQ36
      rw [lq36, yq36, zq36] at X36
      have X36 : Stand p l e _ s m _ below meth c T36 _ 2 7 := X36
      obtain ⟨rfl, N36q, eh36⟩ := hQ36
      have N36 := Fr.app N31 N36q
      refine own_st (B := T36.setTop (mkF m 124 #[.val (.int u0), .val (.int u1), .val (.int u2), .val (.int u3), .val (.int u4), .val (.int u5), .val (.ref b1), .val (.int y7), .val (.int y8), .val (.ref b12), .val (.int y8), .val (.int y7)] [(.int (own_b (decide (r1_31 = 0))))])) (fun t_ k_ => st36.trans k_) ?_
      refine own_st (B := T36.setTop (mkF m 126 #[.val (.int u0), .val (.int u1), .val (.int u2), .val (.int u3), .val (.int u4), .val (.int u5), .val (.ref b1), .val (.int y7), .val (.int y8), .val (.ref b12), .val (.int y8), .val (.int y7)] [(.ref b1), (.int (own_b (decide (r1_31 = 0))))])) (fun t_ k_ => XS.aload X36.here hx rfl (hb hby at_124) rfl rfl k_) ?_
      refine own_st (B := T36.setTop (mkF m 128 #[.val (.int u0), .val (.int u1), .val (.int u2), .val (.int u3), .val (.int u4), .val (.int u5), .val (.ref b1), .val (.int y7), .val (.int y8), .val (.ref b12), .val (.int y8), .val (.int y7)] [(.int y7), (.ref b1), (.int (own_b (decide (r1_31 = 0))))])) (fun t_ k_ => XS.iload X36.here hx rfl (hb hby at_126) rfl k_) ?_
      have u39 := u29.keep K31 (ninS ne13 nin0)
      obtain ⟨_, _, ⟨T38, Lq38, kq38, nq38⟩, -, X38, ⟨Lc38, hQ38, lq38, yq38, zq38⟩, st38⟩ := Jvm.LawKit.callS X36 hx (y := (⟨"com/example/mapwright/mapwright/Utf8CheckCompletePinLaw", "whole", "([BI)Z"⟩ : MethodName)) hown (mvT hZ (hw _ (List.mem_of_getElem? (i := 27) rfl))) (mvT hZ (hw _ (List.mem_of_getElem? (i := 28) rfl))) (mvT hZ (hw _ (List.mem_of_getElem? (i := 29) rfl))) (mvT hZ (hw _ (List.mem_of_getElem? (i := 30) rfl))) (by decide) (backOf (W := 1) (rm5 l Z a0 hw [] b1 y7 kt r1_31 ff T31.heap n0 Z34 u39 hkt (by omega) hp2) hZ (hw _ (List.mem_of_getElem? (i := 30) rfl)) (hw _ (List.mem_of_getElem? (i := 29) rfl)) (by decide) (by decide)) (g := (mkF m 128 #[.val (.int u0), .val (.int u1), .val (.int u2), .val (.int u3), .val (.int u4), .val (.int u5), .val (.ref b1), .val (.int y7), .val (.int y8), .val (.ref b12), .val (.int y8), .val (.int y7)] [(.int y7), (.ref b1), (.int (own_b (decide (r1_31 = 0))))])) rfl (by rw [hml]; rfl) (argsL := [(.ref b1), (.int y7)]) (rest := [(.int (own_b (decide (r1_31 = 0))))]) (lenOf own_pd6 rfl) rfl (by show 2 * 0 + _ ≤ _; exact Nat.le_of_eq rfl) (hb hby at_128) (fun _ _ => ⟨rfl, eh36, (by decide : 2 + 0 ≤ _), (by decide : 7 + 0 ≤ _)⟩)
      dsimp only [Pt.U, Pt.locs, Pt.cells, Pt.slots] at X38 lq38 yq38 zq38 st38 hQ38
      rw [lq38, yq38, zq38] at X38
      have X38 : Stand p l e _ s m _ below meth c T38 _ 2 7 := X38
      obtain ⟨rfl, N38q, eh38⟩ := hQ38
      have N38 := Fr.app N36 N38q
      refine own_st (B := T38.setTop (mkF m 131 #[.val (.int u0), .val (.int u1), .val (.int u2), .val (.int u3), .val (.int u4), .val (.int u5), .val (.ref b1), .val (.int y7), .val (.int y8), .val (.ref b12), .val (.int y8), .val (.int y7)] [(.int (own_b (decide (r1_31 = 0)))), (.int (own_b (decide (r1_31 = 0))))])) st38 ?_
      have hc40 : (own_b (decide (r1_31 = 0))) = (own_b (decide (r1_31 = 0))) := rfl
      refine own_st (B := T38.setTop (mkF m 134 #[.val (.int u0), .val (.int u1), .val (.int u2), .val (.int u3), .val (.int u4), .val (.int u5), .val (.ref b1), .val (.int y7), .val (.int y8), .val (.ref b12), .val (.int y8), .val (.int y7)] [])) (fun t_ k_ => XS.icmpNo X38.here hx rfl (hb hby at_131) rfl (teq hc40).2 k_) ?_
      refine own_st (B := T38.setTop (mkF m 135 #[.val (.int u0), .val (.int u1), .val (.int u2), .val (.int u3), .val (.int u4), .val (.int u5), .val (.ref b1), .val (.int y7), .val (.int y8), .val (.ref b12), .val (.int y8), .val (.int y7)] [(.int (1 : Int32))])) (fun t_ k_ => XS.iconst X38.here hx rfl (hb hby at_134) k_) ?_
      refine own_st (B := T38.setTop (mkF m 139 #[.val (.int u0), .val (.int u1), .val (.int u2), .val (.int u3), .val (.int u4), .val (.int u5), .val (.ref b1), .val (.int y7), .val (.int y8), .val (.ref b12), .val (.int y8), .val (.int y7)] [(.int (1 : Int32))])) (fun t_ k_ => XS.goto X38.here hx rfl (pc0 := 135) (pc' := 139) rfl (hb hby at_135) (by decide) (by decide) k_) ?_
      refine own_retN X38 hx (t := .boolean) Bd.returns (by simp) hlk (hb hby at_139) (z' := (1 : Int32)) (by first | rfl | exact own_nb _) (by decide) (by decide) ?_
      show Q0 Z u0 u1 u2 u3 u4 u5 h0 n0 _ T38.heap _
      rw [eh38]
      exact ⟨rfl, N38⟩
set_option maxRecDepth 65536 in
set_option maxHeartbeats 40000000 in
theorem comes_1 {Post : Tables → Env → Array Value → State → Outcome → State → Prop} (hpost : ∀ tb e args s v u, (limb_1_1.after args s (.returned v) u = true ∧ limb_1_2.after args s (.returned v) u = true ∧ True) → FrameEnd s (.returned v) u (Jvm.fieldLocs frame_1_writes args s ++ Jvm.arrayLocs frame_1_arrays args s ++ Jvm.staticLocs frame_1_statics s) 16 128 → Post tb e args s (.returned v) u) :
    ArmFor flags0 classFile x code maxLocals ret World_1 tables_1 room_1 Calls_1 rest_1 Pre_1 Post := by
  intro l hfl _ _ p e ha hc hk s m args below hf hA hF happ hP
  obtain ⟨hcalls, hrest, hpre⟩ := hP
  obtain ⟨-, -, -, hnamed, -, -, -, hat⟩ := (Spec.applies_iff hf).mp happ
  obtain ⟨hg, hn⟩ := and_e (Cond.before_iff.mp (show (Jvm.Cond.and given_1 narrow_1).before args s = true from hpre))
  obtain ⟨gg1, gg2⟩ := and_e hg
  obtain ⟨gg3, gg4⟩ := and_e gg2
  obtain ⟨gg5, gg6⟩ := and_e gg4
  obtain ⟨gg7, gg8⟩ := and_e gg6
  obtain ⟨gg9, gg10⟩ := and_e gg8
  obtain ⟨gg11, gg12⟩ := and_e gg10
  obtain ⟨w0, w1, w2, w3, w4, w5, rfl⟩ : ∃ w0 w1 w2 w3 w4 w5 : Value, args = #[w0, w1, w2, w3, w4, w5] := by
    have hs : args.size = 6 := by simpa [Cond.value, given_1] using gg1
    obtain ⟨L⟩ := args
    match L, hs with
    | [w0, w1, w2, w3, w4, w5], _ => exact ⟨w0, w1, w2, w3, w4, w5, rfl⟩
  have hw := fun d (hd : d ∈ tables_1) => atoms_spec (ws := Jvm.Cond.code x code maxLocals ret :: tables_1) hat d (List.mem_cons_of_mem _ hd)
  have hfit : Fit s := fun {y c} hc i hi => by
    obtain ⟨ha, rfl⟩ := Array.getElem?_eq_some_iff.mp hc
    have q := List.all_eq_true.mp ((Array.all_eq_true_iff_forall_mem.mp hF) _ (Array.getElem_mem ha)) i (List.mem_range.mpr hi)
    simpa [Array.getElem?_eq_getElem hi] using q
  obtain ⟨i0, ei0⟩ := is_v gg3
  obtain rfl : w0 = (.int i0) := Option.some.inj ei0
  obtain ⟨i1, ei1⟩ := is_v gg5
  obtain rfl : w1 = (.int i1) := Option.some.inj ei1
  obtain ⟨i2, ei2⟩ := is_v gg7
  obtain rfl : w2 = (.int i2) := Option.some.inj ei2
  obtain ⟨i3, ei3⟩ := is_v gg9
  obtain rfl : w3 = (.int i3) := Option.some.inj ei3
  obtain ⟨i4, ei4⟩ := is_v gg11
  obtain rfl : w4 = (.int i4) := Option.some.inj ei4
  obtain ⟨i5, ei5⟩ := is_v gg12
  obtain rfl : w5 = (.int i5) := Option.some.inj ei5
  obtain ⟨n, o, h1, h2, h3, _, L, rfl, ⟨rfl, N⟩, hq⟩ := rm0 l s _ hw tables_1 i0 i1 i2 i3 i4 i5 s.heap s.heap.size (Nat.le_refl _)  p e ha hc hk s m _ below hf ((Spec.applies_iff_loose hf).mp happ).1 ⟨rfl, State.Warmed39.refl s, rfl⟩ trivial
  refine ⟨n, _, h1, h2, h3, hpost _ _ _ _ _ _ ⟨Cond.after_iff.mpr rfl, Cond.after_iff.mpr (eq_i res_at (Term.int_eval (1)) rfl), trivial⟩ ⟨hq.1, hq.2.1, (hq.2.2.sift fun y hy => Or.inr (N y hy)).mono (by decide) (by decide)⟩⟩
theorem main_1_1 : Claimed_1_1 := comes_1 fun _ _ _ _ _ _ h hF => ⟨h.1, hF⟩
theorem main_1_2 : Claimed_1_2 := comes_1 fun _ _ _ _ _ _ h hF => ⟨h.2.1, hF⟩
end Jvm.Pilot.@@N@@
namespace Jvm.Pilot.@@N@@
open Jvm Jvm.ClassFile Sem Op Lib Jvm.Free Jvm.Stand Jvm.Pilot.@@N@@.Jvm.D
/-! MADE BY PROGRAM (witnessworld.py) out of the Statement's table words and the real class files: 10 classes; the members and pool entries that the words name. The judged class is class 1, her method 4. -/
namespace start1
open Jvm.ClassFile
def u (s : String) : CpInfo := .utf8 (stringToUtf16 s)
/-- a pool by its gaps: so many unusable entries, then the entry; so many at the end -/
def gap : Nat → List CpInfo → List CpInfo
  | 0, r => r
  | n + 1, r => .unusable :: gap n r
def poolList (es : List (Nat × CpInfo)) (last : Nat) : List CpInfo := es.foldr (fun e r => gap e.1 (e.2 :: r)) (gap last [])
def pool (es : List (Nat × CpInfo)) (last : Nat) : Array CpInfo := ⟨poolList es last⟩
def fileOf (pool : Array CpInfo) (this : Nat) (attrs : Array Attribute := #[]) (ms : Array MethodInfo := #[]) (fl : Nat := 33) (sup : Nat := 0) (ifs : Array Nat := #[]) (fds : Array FieldInfo := #[]) : ClassFile where
  minorVersion := 0
  majorVersion := 65
  constantPool := pool
  accessFlags := fl
  thisClass := this
  superClass := sup
  interfaces := ifs
  fields := fds
  methods := ms
  attributes := attrs
def plain (name : String) (sup : Option ClassId) : Class where
  name := name
  kind := .ordinary
  loader := none
  accessFlags := 33
  super := sup
  interfaces := #[]
  cf := none
  fields := #[]
  methods := #[]
  instanceTypes := #[]
  staticTypes := #[]
  resolved := #[]
  callSites := []
  init := .initialized
  statics := none
  mirror := none

def pool0 : Array CpInfo := pool [(5, u "<init>"), (0, u "()V"), (1, .class_ 10), (1, u "java/lang/Object")] 113

def k0c0 : Code := { maxStack := 0, maxLocals := 1, code := object_method_1_code, exceptionTable := #[], attributes := #[] }
def k0m0 : Method := { name := "<init>", desc := "()V", sig := { parameters := [], returnType := none }, accessFlags := 1, code := some k0c0 }
/-- java/lang/Object -/
def k0 : Class := { plain "java/lang/Object" none with
  accessFlags := 33
  interfaces := #[]
  cf := some (fileOf pool0 8 #[] #[{ accessFlags := 1, nameIndex := 5, descriptorIndex := 6, attributes := #[] }] 33 0 #[] #[])
  fields := #[]
  methods := #[k0m0]
  instanceTypes := #[]
  staticTypes := #[]
  resolved := Array.replicate 124 none
  statics := none }

def pool1 : Array CpInfo := pool [(2, .class_ 4), (0, .nameAndType 5 6), (0, u "java/lang/Object"), (0, u "<init>"), (0, u "()V"), (0, .methodref 8 9), (0, .class_ 10), (0, .nameAndType 11 12), (0, u "com/example/mapwright/mapwright/Utf8CheckCompletePinLaw"), (0, u "cont"), (0, u "(B)Z"), (0, .methodref 8 14), (0, .nameAndType 15 16), (0, u "seqLen"), (0, u "(I)I"), (0, .integer 2147483647), (0, .class_ 19), (0, u "com/example/mapwright/mapwright/Utf8Check"), (0, .methodref 18 3), (0, .methodref 18 22), (0, .nameAndType 23 24), (0, u "check"), (0, u "([BII)I"), (0, .methodref 18 26), (0, .nameAndType 27 28), (0, u "complete"), (0, u "()Z"), (0, .methodref 8 30), (0, .nameAndType 31 32), (0, u "whole"), (0, u "([BI)Z"), (3, u "law"), (0, u "(IIIIII)Z")] 4

def k1m0 : Method := { name := "<init>", desc := "()V", sig := { parameters := [], returnType := none }, accessFlags := 1, code := none }
def k1c1 : Code := { maxStack := 2, maxLocals := 2, code := method_2_code, exceptionTable := #[], attributes := #[] }
def k1m1 : Method := { name := "cont", desc := "(B)Z", sig := { parameters := [.byte], returnType := some .boolean }, accessFlags := 10, code := some k1c1 }
def k1c2 : Code := { maxStack := 2, maxLocals := 1, code := method_3_code, exceptionTable := #[], attributes := #[] }
def k1m2 : Method := { name := "seqLen", desc := "(I)I", sig := { parameters := [.int], returnType := some .int }, accessFlags := 10, code := some k1c2 }
def k1c3 : Code := { maxStack := 3, maxLocals := 3, code := method_4_code, exceptionTable := #[], attributes := #[] }
def k1m3 : Method := { name := "whole", desc := "([BI)Z", sig := { parameters := [(.array .byte), .int], returnType := some .boolean }, accessFlags := 10, code := some k1c3 }
def k1c4 : Code := { maxStack := 4, maxLocals := 12, code := code, exceptionTable := #[], attributes := #[] }
def k1m4 : Method := { name := "law", desc := "(IIIIII)Z", sig := { parameters := [.int, .int, .int, .int, .int, .int], returnType := some .boolean }, accessFlags := 9, code := some k1c4 }
/-- com/example/mapwright/mapwright/Utf8CheckCompletePinLaw -/
def k1 : Class := { plain "com/example/mapwright/mapwright/Utf8CheckCompletePinLaw" (some 0) with
  accessFlags := 49
  interfaces := #[]
  cf := some (fileOf pool1 8 #[] #[{ accessFlags := 1, nameIndex := 5, descriptorIndex := 6, attributes := #[] }, { accessFlags := 10, nameIndex := 11, descriptorIndex := 12, attributes := #[] }, { accessFlags := 10, nameIndex := 15, descriptorIndex := 16, attributes := #[] }, { accessFlags := 10, nameIndex := 31, descriptorIndex := 32, attributes := #[] }, { accessFlags := 9, nameIndex := 36, descriptorIndex := 37, attributes := #[] }] 49 2 #[] #[])
  fields := #[]
  methods := #[k1m0, k1m1, k1m2, k1m3, k1m4]
  instanceTypes := #[]
  staticTypes := #[]
  resolved := Array.replicate 42 none
  statics := none }

def pool2 : Array CpInfo := pool [(1, .class_ 2), (0, u "com/example/mapwright/mapwright/CheckingInputStream$Check"), (0, .class_ 4), (0, u "java/lang/Object"), (11, .class_ 17), (0, u "com/example/mapwright/mapwright/CheckingInputStream")] 2

/-- com/example/mapwright/mapwright/CheckingInputStream$Check -/
def k2 : Class := { plain "com/example/mapwright/mapwright/CheckingInputStream$Check" (some 0) with
  accessFlags := 1536
  interfaces := #[]
  cf := some (fileOf pool2 1 #[.nestHost 16] #[] 1536 3 #[] #[])
  fields := #[]
  methods := #[]
  instanceTypes := #[]
  staticTypes := #[]
  resolved := Array.replicate 20 none
  statics := none }

def pool3 : Array CpInfo := pool [(1, .methodref 2 3), (0, .class_ 4), (0, .nameAndType 5 6), (0, u "java/lang/Object"), (0, u "<init>"), (0, u "()V"), (0, .class_ 8), (0, u "com/example/mapwright/mapwright/Utf8Check"), (0, .fieldref 7 10), (0, .nameAndType 11 12), (0, u "least"), (0, u "I"), (0, .fieldref 7 14), (0, .nameAndType 15 12), (0, u "greatest"), (0, .fieldref 7 17), (0, .nameAndType 18 12), (0, u "needed"), (0, .methodref 7 20), (0, .nameAndType 21 22), (0, u "begin"), (0, u "(I)Z"), (2, .class_ 26), (0, u "com/example/mapwright/mapwright/CheckingInputStream$Check"), (0, u "CONTINUATION_LEAST"), (2, u "CONTINUATION_GREATEST"), (3, u "check"), (0, u "([BII)I"), (1, u "complete"), (0, u "()Z")] 8

def k3c0 : Code := { maxStack := 2, maxLocals := 1, code := prog_31_method_1_code, exceptionTable := #[], attributes := #[] }
def k3m0 : Method := { name := "<init>", desc := "()V", sig := { parameters := [], returnType := none }, accessFlags := 0, code := some k3c0 }
def k3c1 : Code := { maxStack := 3, maxLocals := 7, code := prog_31_method_2_code, exceptionTable := #[], attributes := #[] }
def k3m1 : Method := { name := "check", desc := "([BII)I", sig := { parameters := [(.array .byte), .int, .int], returnType := some .int }, accessFlags := 1, code := some k3c1 }
def k3c2 : Code := { maxStack := 1, maxLocals := 1, code := prog_31_method_3_code, exceptionTable := #[], attributes := #[] }
def k3m2 : Method := { name := "complete", desc := "()Z", sig := { parameters := [], returnType := some .boolean }, accessFlags := 1, code := some k3c2 }
def k3c3 : Code := { maxStack := 3, maxLocals := 2, code := prog_31_method_5_code, exceptionTable := #[], attributes := #[] }
def k3m3 : Method := { name := "begin", desc := "(I)Z", sig := { parameters := [.int], returnType := some .boolean }, accessFlags := 2, code := some k3c3 }
/-- com/example/mapwright/mapwright/Utf8Check -/
def k3 : Class := { plain "com/example/mapwright/mapwright/Utf8Check" (some 0) with
  accessFlags := 48
  interfaces := #[2]
  cf := some (fileOf pool3 7 #[] #[{ accessFlags := 0, nameIndex := 5, descriptorIndex := 6, attributes := #[] }, { accessFlags := 1, nameIndex := 34, descriptorIndex := 35, attributes := #[] }, { accessFlags := 1, nameIndex := 37, descriptorIndex := 38, attributes := #[] }, { accessFlags := 2, nameIndex := 21, descriptorIndex := 22, attributes := #[] }] 48 2 #[25] #[{ accessFlags := 26, nameIndex := 27, descriptorIndex := 12, attributes := #[] }, { accessFlags := 26, nameIndex := 30, descriptorIndex := 12, attributes := #[] }, { accessFlags := 2, nameIndex := 18, descriptorIndex := 12, attributes := #[] }, { accessFlags := 2, nameIndex := 11, descriptorIndex := 12, attributes := #[] }, { accessFlags := 2, nameIndex := 15, descriptorIndex := 12, attributes := #[] }])
  fields := #[{ name := "CONTINUATION_LEAST", type := .int, accessFlags := 26, slot := 0, constantValue := 0 }, { name := "CONTINUATION_GREATEST", type := .int, accessFlags := 26, slot := 1, constantValue := 0 }, { name := "needed", type := .int, accessFlags := 2, slot := 0, constantValue := 0 }, { name := "least", type := .int, accessFlags := 2, slot := 1, constantValue := 0 }, { name := "greatest", type := .int, accessFlags := 2, slot := 2, constantValue := 0 }]
  methods := #[k3m0, k3m1, k3m2, k3m3]
  instanceTypes := #[.int, .int, .int]
  staticTypes := #[.int, .int]
  resolved := Array.replicate 47 none
  statics := none }

def pool4 : Array CpInfo := pool [(1, u "java/lang/Cloneable"), (0, .class_ 1), (0, u "java/lang/Object"), (0, .class_ 3)] 3

/-- java/lang/Cloneable -/
def k4 : Class := { plain "java/lang/Cloneable" (some 0) with
  accessFlags := 1537
  interfaces := #[]
  cf := some (fileOf pool4 2 #[] #[] 1537 4 #[] #[])
  fields := #[]
  methods := #[]
  instanceTypes := #[]
  staticTypes := #[]
  resolved := Array.replicate 8 none
  statics := none }

def pool5 : Array CpInfo := pool [(1, u "java/io/Serializable"), (0, .class_ 1), (0, u "java/lang/Object"), (0, .class_ 3)] 3

/-- java/io/Serializable -/
def k5 : Class := { plain "java/io/Serializable" (some 0) with
  accessFlags := 1537
  interfaces := #[]
  cf := some (fileOf pool5 2 #[] #[] 1537 4 #[] #[])
  fields := #[]
  methods := #[]
  instanceTypes := #[]
  staticTypes := #[]
  resolved := Array.replicate 8 none
  statics := none }

/-- the primitive byte -/
def k6 : Class := { plain "byte" none with kind := .primitive 'B', accessFlags := 0x411 }
/-- [B -/
def k7 : Class := { plain "[B" (some 0) with kind := .array 6 .byte, interfaces := #[4, 5], accessFlags := 1041 }

/-- the primitive int -/
def k8 : Class := { plain "int" none with kind := .primitive 'I', accessFlags := 0x411 }
/-- [I -/
def k9 : Class := { plain "[I" (some 0) with kind := .array 8 .int, interfaces := #[4, 5], accessFlags := 1041 }

def heap : Heap := #[]
def classes : Array Class := #[k0, k1, k2, k3, k4, k5, k6, k7, k8, k9]
def interned : List (Array UInt16 × Addr) := []
def slotsUsed : Nat := 0
def theMethod : MethodId := ⟨1, 4⟩
def args0 : Array Value := #[.int 5, .int 6, .int 7, .int 8, .int 1, .int 2]
def aboutOver (below : List Frame) : State where
  vm := { classes := classes, interned := interned.toArray }
  heap := heap
  slotsUsed := slotsUsed
  threads := #[{ frames := .invoking theMethod args0 :: below }]
def below0 : List Frame := [.native { method := ⟨0, 0⟩, args := #[] }]
def about1 : State := aboutOver below0
def p0 : Program := .bare "" "" ""
def e0 : Env := launch0.env 0 0 0
theorem w_frames : about1.frames = Frame.invoking theMethod args0 :: below0 := rfl
set_option maxRecDepth 65536 in
theorem w_args : argsFit about1.vm theMethod args0 = true := by decide +kernel
set_option maxRecDepth 65536 in
theorem w_heap : heapFits about1 = true := by decide +kernel
set_option maxRecDepth 65536 in
theorem w_runnable : about1.curStatus? = some .runnable := by decide +kernel
set_option maxRecDepth 65536 in
theorem w_alone : about1.alone = true := by decide +kernel
set_option maxRecDepth 65536 in
theorem w_named : about1.methodNamed? x = some theMethod := by decide +kernel
set_option maxRecDepth 65536 in
theorem w_hears : about1.hears theMethod below0 = true := by decide +kernel
set_option maxRecDepth 65536 in
theorem w_ripe : about1.ripe theMethod args0 below0 = true := by decide +kernel
theorem w_running : about1.status = .running := rfl
set_option maxRecDepth 65536 in
theorem w_room : about1.hasRoom e0.platform room_1 = true :=
  launch0.hasRoom_least _ room_1 (by decide +kernel) (by decide +kernel) (by decide +kernel) (by decide +kernel) (by decide +kernel) (by decide +kernel)
theorem allAtoms_all (ts : List Jvm.Cond) (a : Array Jvm.Value) (st : Jvm.State) : (allAtoms ts).before a st = ts.all (fun c => c.before a st) := by
  induction ts with
  | nil => rfl
  | cons c t ih =>
    show (Jvm.Cond.and c (allAtoms t)).before a st = _
    rw [Jvm.Cond.before_and, ih, List.all_cons]
def words1 : List Jvm.Cond := Jvm.Cond.code x code maxLocals ret :: tables_1
/-- a 'code' word, met by the world's own term for the bytes: nothing is compared byte by byte -/
theorem code_word {y : MethodName} {bytes : ByteArray} {mx : Nat} {rt : Option FieldType} {a : Array Value} {s : State} {m : MethodId} {meth : Method} {c : Code} (h1 : s.methodNamed? y = some m) (h2 : s.vm.method? m = some meth) (h3 : meth.code = some c) (h4 : c.code = bytes)
    (h5 : (c.maxLocals == mx && c.exceptionTable.isEmpty && decide (c.maxStack ≤ mostOperands) && decide (meth.sig.returnType = rt) && !meth.locks && decide (parseMethodDescriptor y.desc = some meth.sig)) = true) : (Jvm.Cond.code y bytes mx rt).before a s = true := by
  simp only [Bool.and_eq_true, beq_iff_eq, Bool.not_eq_true', decide_eq_true_eq] at h5
  obtain ⟨⟨⟨⟨⟨g1, g2⟩, g3⟩, g4⟩, g5⟩, g6⟩ := h5
  simp [Cond.before, Cond.holds, Cond.value, h1, h2, h3, h4, g1, g2, g3, g4, g5, g6]
def isCode : Jvm.Cond → Bool
  | .code _ _ _ _ => true
  | _ => false
theorem all_split {L : List Jvm.Cond} {P : Jvm.Cond → Bool} (h1 : L.all (fun c => isCode c || P c) = true) (h2 : ∀ c ∈ L.filter isCode, P c = true) : L.all P = true := by
  refine List.all_eq_true.mpr fun c hc => ?_
  have h := List.all_eq_true.mp h1 c hc
  rcases Bool.eq_false_or_eq_true (isCode c) with hi | hi
  · exact h2 c (List.mem_filter.mpr ⟨hc, hi⟩)
  · simpa [hi] using h
set_option maxRecDepth 65536 in
theorem w_c0 : (Jvm.Cond.code x code maxLocals ret).before args0 about1 = true := code_word (m := ⟨1, 4⟩) (meth := k1m4) (c := k1c4) (by decide +kernel) rfl rfl rfl (by decide +kernel)
set_option maxRecDepth 65536 in
theorem w_c1 : (Jvm.Cond.code ({ cls := "com/example/mapwright/mapwright/Utf8Check", name := "<init>", desc := "()V" } : Jvm.MethodName) prog_31_method_1_code (1 : Nat) (Option.none : Option Jvm.ClassFile.FieldType)).before args0 about1 = true := code_word (m := ⟨3, 0⟩) (meth := k3m0) (c := k3c0) (by decide +kernel) rfl rfl rfl (by decide +kernel)
set_option maxRecDepth 65536 in
theorem w_c2 : (Jvm.Cond.code ({ cls := "java/lang/Object", name := "<init>", desc := "()V" } : Jvm.MethodName) object_method_1_code (1 : Nat) (Option.none : Option Jvm.ClassFile.FieldType)).before args0 about1 = true := code_word (m := ⟨0, 0⟩) (meth := k0m0) (c := k0c0) (by decide +kernel) rfl rfl rfl (by decide +kernel)
set_option maxRecDepth 65536 in
theorem w_c3 : (Jvm.Cond.code ({ cls := "com/example/mapwright/mapwright/Utf8Check", name := "check", desc := "([BII)I" } : Jvm.MethodName) prog_31_method_2_code (7 : Nat) (Option.some Jvm.ClassFile.FieldType.int)).before args0 about1 = true := code_word (m := ⟨3, 1⟩) (meth := k3m1) (c := k3c1) (by decide +kernel) rfl rfl rfl (by decide +kernel)
set_option maxRecDepth 65536 in
theorem w_c4 : (Jvm.Cond.code ({ cls := "com/example/mapwright/mapwright/Utf8Check", name := "complete", desc := "()Z" } : Jvm.MethodName) prog_31_method_3_code (1 : Nat) (Option.some Jvm.ClassFile.FieldType.boolean)).before args0 about1 = true := code_word (m := ⟨3, 2⟩) (meth := k3m2) (c := k3c2) (by decide +kernel) rfl rfl rfl (by decide +kernel)
set_option maxRecDepth 65536 in
theorem w_c5 : (Jvm.Cond.code ({ cls := "com/example/mapwright/mapwright/Utf8CheckCompletePinLaw", name := "whole", desc := "([BI)Z" } : Jvm.MethodName) method_4_code (3 : Nat) (Option.some Jvm.ClassFile.FieldType.boolean)).before args0 about1 = true := code_word (m := ⟨1, 3⟩) (meth := k1m3) (c := k1c3) (by decide +kernel) rfl rfl rfl (by decide +kernel)
set_option maxRecDepth 65536 in
theorem w_c6 : (Jvm.Cond.code ({ cls := "com/example/mapwright/mapwright/Utf8CheckCompletePinLaw", name := "cont", desc := "(B)Z" } : Jvm.MethodName) method_2_code (2 : Nat) (Option.some Jvm.ClassFile.FieldType.boolean)).before args0 about1 = true := code_word (m := ⟨1, 1⟩) (meth := k1m1) (c := k1c1) (by decide +kernel) rfl rfl rfl (by decide +kernel)
set_option maxRecDepth 65536 in
theorem w_c7 : (Jvm.Cond.code ({ cls := "com/example/mapwright/mapwright/Utf8CheckCompletePinLaw", name := "seqLen", desc := "(I)I" } : Jvm.MethodName) method_3_code (1 : Nat) (Option.some Jvm.ClassFile.FieldType.int)).before args0 about1 = true := code_word (m := ⟨1, 2⟩) (meth := k1m2) (c := k1c2) (by decide +kernel) rfl rfl rfl (by decide +kernel)
set_option maxRecDepth 65536 in
theorem w_c8 : (Jvm.Cond.code ({ cls := "com/example/mapwright/mapwright/Utf8Check", name := "begin", desc := "(I)Z" } : Jvm.MethodName) prog_31_method_5_code (2 : Nat) (Option.some Jvm.ClassFile.FieldType.boolean)).before args0 about1 = true := code_word (m := ⟨3, 3⟩) (meth := k3m3) (c := k3c3) (by decide +kernel) rfl rfl rfl (by decide +kernel)
def codes1 : List Jvm.Cond := [Jvm.Cond.code x code maxLocals ret, Jvm.Cond.code ({ cls := "com/example/mapwright/mapwright/Utf8Check", name := "<init>", desc := "()V" } : Jvm.MethodName) prog_31_method_1_code (1 : Nat) (Option.none : Option Jvm.ClassFile.FieldType), Jvm.Cond.code ({ cls := "java/lang/Object", name := "<init>", desc := "()V" } : Jvm.MethodName) object_method_1_code (1 : Nat) (Option.none : Option Jvm.ClassFile.FieldType), Jvm.Cond.code ({ cls := "com/example/mapwright/mapwright/Utf8Check", name := "check", desc := "([BII)I" } : Jvm.MethodName) prog_31_method_2_code (7 : Nat) (Option.some Jvm.ClassFile.FieldType.int), Jvm.Cond.code ({ cls := "com/example/mapwright/mapwright/Utf8Check", name := "complete", desc := "()Z" } : Jvm.MethodName) prog_31_method_3_code (1 : Nat) (Option.some Jvm.ClassFile.FieldType.boolean), Jvm.Cond.code ({ cls := "com/example/mapwright/mapwright/Utf8CheckCompletePinLaw", name := "whole", desc := "([BI)Z" } : Jvm.MethodName) method_4_code (3 : Nat) (Option.some Jvm.ClassFile.FieldType.boolean), Jvm.Cond.code ({ cls := "com/example/mapwright/mapwright/Utf8CheckCompletePinLaw", name := "cont", desc := "(B)Z" } : Jvm.MethodName) method_2_code (2 : Nat) (Option.some Jvm.ClassFile.FieldType.boolean), Jvm.Cond.code ({ cls := "com/example/mapwright/mapwright/Utf8CheckCompletePinLaw", name := "seqLen", desc := "(I)I" } : Jvm.MethodName) method_3_code (1 : Nat) (Option.some Jvm.ClassFile.FieldType.int), Jvm.Cond.code ({ cls := "com/example/mapwright/mapwright/Utf8Check", name := "begin", desc := "(I)Z" } : Jvm.MethodName) prog_31_method_5_code (2 : Nat) (Option.some Jvm.ClassFile.FieldType.boolean)]
set_option maxRecDepth 65536 in
theorem codes_eq : words1.filter isCode = codes1 := rfl
theorem w_codes : ∀ c ∈ words1.filter isCode, c.before args0 about1 = true := by
  rw [codes_eq]
  intro c hc
  simp only [codes1, List.mem_cons, List.not_mem_nil, or_false] at hc
  rcases hc with rfl | rfl | rfl | rfl | rfl | rfl | rfl | rfl | rfl
  · exact w_c0
  · exact w_c1
  · exact w_c2
  · exact w_c3
  · exact w_c4
  · exact w_c5
  · exact w_c6
  · exact w_c7
  · exact w_c8
set_option maxRecDepth 65536 in
theorem w_t1 : (words1.take 24).all (fun c => isCode c || c.before args0 about1) = true := by decide +kernel
set_option maxRecDepth 65536 in
theorem w_t2 : (words1.drop 24).all (fun c => isCode c || c.before args0 about1) = true := by decide +kernel
theorem w_tables : (allAtoms (Jvm.Cond.code x code maxLocals ret :: tables_1)).before args0 about1 = true := by
  rw [allAtoms_all]
  show words1.all (fun c => c.before args0 about1) = true
  refine all_split ?_ w_codes
  rw [← List.take_append_drop 24 words1, List.all_append, w_t1, w_t2]
  rfl
set_option maxRecDepth 65536 in
theorem w_case : (Jvm.Cond.and given_1 narrow_1).before args0 about1 = true := by decide +kernel
theorem w_applies : (headSpec (Jvm.Cond.code x code maxLocals ret :: tables_1) room_1).applies x e0.platform about1 = true :=
  (Spec.applies_iff w_frames).mpr ⟨w_running, w_runnable, w_alone, w_named, w_hears, w_ripe, w_room, w_tables⟩
theorem atStart : AtStart classFile x code maxLocals ret World_1 tables_1 room_1 Calls_1 rest_1 Pre_1 launch0 p0 e0 about1 theMethod args0 below0 :=
  ⟨lists_1, trivial, launch0.admits_env _ _ _, launch0.least_env, fairChoices_fair.cas, fairChoices_fair.clock, w_frames, w_args, w_heap, w_applies, trivial, trivial, w_case⟩
end start1
theorem witness_1 : WitnessClaimed_1 := ⟨start1.p0, start1.e0, start1.about1, start1.theMethod, start1.args0, start1.below0, start1.atStart⟩
end Jvm.Pilot.@@N@@
