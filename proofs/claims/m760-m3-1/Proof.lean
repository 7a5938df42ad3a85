import JvmDerived
import JvmDerived.Pilot.@@N@@Statement
import JvmDerived.Pilot.@@N@@Code
set_option linter.unusedVariables false
set_option linter.unusedSimpArgs false

namespace Jvm.Pilot.@@N@@
open Jvm Jvm.ClassFile Sem Op Lib Jvm.Free Jvm.Stand Jvm.LawKit Jvm.RoadKit Bundle Jvm.Pilot.@@N@@.Jvm.D
section Own
variable {p : Program} {l : Launch} {e : Env} {R : Room} {s : State} {m : MethodId} {args : Array Value} {below : List Frame} {meth : Method} {c : Code} {T : State} {locs : List Loc} {cells slots : Nat} {Z : State} {h h' : Heap}
/-- the run from A comes to the method's end as Q says, with at most kc new cells and ks new slots -/
def own_E (p : Program) (e : Env) (below : List Frame) (s : State) (Q : Option Value → Heap → List Loc → Prop) (kc ks : Nat) (A : State) : Prop :=
  ∃ s₂ o, Steps p.tables e below A s₂ ∧ s₂.status = .running ∧ Ended s₂ below o ∧ ∃ v L, o = .returned v ∧ Q v s₂.heap L ∧ FrameEnd s o s₂ L kc ks
variable {Q : Option Value → Heap → List Loc → Prop} {kc ks : Nat} {A B : State}
theorem own_st (k : ∀ t, Steps p.tables e below B t → Steps p.tables e below A t) (h : own_E p e below s Q kc ks B) : own_E p e below s Q kc ks A := by
  obtain ⟨t, o, h1, h2⟩ := h
  exact ⟨t, o, k t h1, h2⟩
theorem own_end (X : Stand p l e R s m args below meth c T locs cells slots) {v : Option Value} (hv : meth.sig.returnType = none → v = none) (hlk : meth.locks = false)
    (hk : ∀ fs, (∀ (f : JFrame) (acts : List Action), f.method = m → f.locked = none → f.entered = [] → (doReturn e (T.setTop f) acts v).1 = T.setFrames fs) → Steps p.tables e below A (T.setFrames fs)) (hc : cells ≤ kc) (hs : slots ≤ ks) (hQ : Q v T.heap locs) : own_E p e below s Q kc ks A := by
  obtain ⟨fs, hr, hrun, hended, hW, hsame⟩ := X.leave (v := v) hv hlk
  exact ⟨_, _, hk fs hr, hrun, hended, _, _, rfl, hQ, ⟨_, rfl⟩, hW, hsame.mono hc hs⟩
theorem own_retN (X : Stand p l e R s m args below meth c T locs cells slots) (hx : p.tables.exec = Jvm.exec) {pc : Nat} {Ls : Array Slot} {z z' : Int32} {t : FieldType} {rest : List Value} (hret : meth.sig.returnType = some t) (ht : t = .boolean ∨ t = .byte ∨ t = .char ∨ t = .short) (hlk : meth.locks = false)
    (hd : decode c.code pc = .ok (.ireturn, 1)) (hz : nar t z = z') (hc : cells ≤ kc) (hs : slots ≤ ks) (hQ : Q (some (.int z')) T.heap locs) : own_E p e below s Q kc ks (T.setTop (mkF m pc Ls (.int z :: rest))) := by
  subst hz
  exact own_end X (fun q => by rw [hret] at q; cases q) hlk (fun fs hr => retN X hx hret ht hd hr) hc hs hQ
theorem own_retI (X : Stand p l e R s m args below meth c T locs cells slots) (hx : p.tables.exec = Jvm.exec) {pc : Nat} {Ls : Array Slot} {z : Int32} {rest : List Value} (hret : meth.sig.returnType = some .int) (hlk : meth.locks = false)
    (hd : decode c.code pc = .ok (.ireturn, 1)) (hc : cells ≤ kc) (hs : slots ≤ ks) (hQ : Q (some (.int z)) T.heap locs) : own_E p e below s Q kc ks (T.setTop (mkF m pc Ls (.int z :: rest))) := by
  refine own_end X (fun q => by rw [hret] at q; cases q) hlk (fun fs hr => ?_) hc hs hQ
  have hm' : T.vm.method? m = some meth := X.method'
  have hn : narrow .int (.int z) = .int z := rfl
  show Steps p.tables e below (T.setTop { method := m, pc := pc, locals := Ls, stack := _ :: rest, locked := none }) _
  jvm_step X.here [X.here.top, hx, hd, hm', hret, hn]
  first | (intro acts; rw [hr _ acts rfl rfl rfl]) | rw [hr _ _ rfl rfl rfl]
  exact Steps.refl _
theorem own_retJ (X : Stand p l e R s m args below meth c T locs cells slots) (hx : p.tables.exec = Jvm.exec) {pc : Nat} {Ls : Array Slot} {z : Int64} (hret : meth.sig.returnType = some .long) (hlk : meth.locks = false)
    (hd : decode c.code pc = .ok (.lreturn, 1)) (hc : cells ≤ kc) (hs : slots ≤ ks) (hQ : Q (some (.long z)) T.heap locs) : own_E p e below s Q kc ks (T.setTop (mkF m pc Ls [.long z])) :=
  own_end X (fun q => by rw [hret] at q; cases q) hlk (fun fs hr => X.lreturnOut hx hret hd hr) hc hs hQ
theorem own_retR (X : Stand p l e R s m args below meth c T locs cells slots) (hx : p.tables.exec = Jvm.exec) {pc : Nat} {Ls : Array Slot} {w : Value} {t : FieldType} (hw : w.isRef = true) (hret : meth.sig.returnType = some t) (ht : t.isReference = true) (hlk : meth.locks = false)
    (hd : decode c.code pc = .ok (.areturn, 1)) (hc : cells ≤ kc) (hs : slots ≤ ks) (hQ : Q (some w) T.heap locs) : own_E p e below s Q kc ks (T.setTop (mkF m pc Ls [w])) :=
  own_end X (fun q => by rw [hret] at q; cases q) hlk (fun fs hr => X.areturnOut hx hw hret ht hd hr) hc hs hQ
theorem own_retV (X : Stand p l e R s m args below meth c T locs cells slots) (hx : p.tables.exec = Jvm.exec) {pc : Nat} {Ls : Array Slot} (hret : meth.sig.returnType = none) (hlk : meth.locks = false)
    (hd : decode c.code pc = .ok (.return_, 1)) (hc : cells ≤ kc) (hs : slots ≤ ks) (hQ : Q none T.heap locs) : own_E p e below s Q kc ks (T.setTop (mkF m pc Ls [])) :=
  own_end X (fun _ => rfl) hlk (fun fs hr => X.returnOut hx hret hd hr) hc hs hQ
/-- a boolean as the machine holds it -/
def own_b (b : Bool) : Int32 := if b then 1 else 0
theorem own_b1 {P : Prop} [Decidable P] (h : P) : own_b (decide P) = 1 := by simp [own_b, h]
theorem own_bz {P : Prop} [Decidable P] (h : ¬ P) : own_b (decide P) = 0 := by simp [own_b, h]
theorem own_lt32 {x y : Int32} (h : x < y) : x.toInt < y.toInt := Int32.lt_iff_toInt_lt.mp h
theorem own_nlt32 {x y : Int32} (h : ¬ x < y) : ¬ x.toInt < y.toInt := fun q => h (Int32.lt_iff_toInt_lt.mpr q)
theorem own_eq32 {x y : Int32} (h : x = y) : x.toInt = y.toInt := congrArg _ h
theorem own_neq32 {x y : Int32} (h : ¬ x = y) : ¬ x.toInt = y.toInt := fun q => h (Int32.toInt_inj.mp q)
theorem own_lt64 {x y : Int64} (h : x < y) : x.toInt < y.toInt := Int64.lt_iff_toInt_lt.mp h
theorem own_nlt64 {x y : Int64} (h : ¬ x < y) : ¬ x.toInt < y.toInt := fun q => h (Int64.lt_iff_toInt_lt.mpr q)
theorem own_eq64 {x y : Int64} (h : x = y) : x.toInt = y.toInt := congrArg _ h
theorem own_neq64 {x y : Int64} (h : ¬ x = y) : ¬ x.toInt = y.toInt := fun q => h (Int64.toInt_inj.mp q)
theorem own_b0 {b : Bool} : own_b b = 0 ↔ b = false := by cases b <;> decide
theorem own_nb (b : Bool) : nar .boolean (own_b b) = own_b b := by cases b <;> rfl
theorem own_nbb (x : Int32) : nar .byte (x.toInt8.toInt32) = x.toInt8.toInt32 := by
  show x.toInt8.toInt32.toInt8.toInt32 = x.toInt8.toInt32
  rw [Int8.toInt8_toInt32]
theorem own_stV {l : Array Slot} {i : Nat} {v : Value} {o : Slot} (hold : l[i]? = some o) (ho : o = .unset ∨ ∃ w, o = .val w ∧ w.category = 1) (hv : v.category = 1) : storeLocals l i v = some (l.setIfInBounds i (.val v)) := XS.store1 hold ho hv
theorem own_narV {ty : FieldType} {v : Value} (hv : v.isRef = true) : narrow ty v = v := by
  rcases ref_cases hv with rfl | ⟨a, rfl⟩ <;> cases ty <;> rfl
theorem own_fitV {ty : FieldType} {v : Value} (ht : ty.isReference = true) (hv : v.isRef = true) : fits ty v = true := by
  rcases ref_cases hv with rfl | ⟨a, rfl⟩ <;> cases ty <;> first | rfl | (cases ht; done)
/-- an array of n places, whose place j holds f j -/
def own_A (Z : State) (h : Heap) (a : Addr) (ty : FieldType) (n : Nat) (f : Nat → Int32) : Prop := ∃ c : Cell, Arr Z h a c ty ∧ c.slots.size = n ∧ n < 2 ^ 31 ∧ (∀ j, j < n → c.slots[j]? = some (.int (f j))) ∧ ∀ j, j < n → fits ty (.int (f j)) = true
def own_up (f : Nat → Int32) (i : Nat) (v : Int32) (k : Nat) : Int32 := if k = i then v else f k
theorem own_up_same (f : Nat → Int32) (i : Nat) (v : Int32) : own_up f i v i = v := if_pos rfl
theorem own_up_ne (f : Nat → Int32) {i k : Nat} (v : Int32) (h : ¬ k = i) : own_up f i v k = f k := if_neg h
theorem own_catV {v : Value} (h : v.isRef = true) : v.category = 1 := by rcases ref_cases h with rfl | ⟨a, rfl⟩ <;> rfl
abbrev own_ix (j : Int32) (i : Nat) : Prop := ¬ j < 0 ∧ j.toNatClampNeg = i
variable {a b : Addr} {ty : FieldType} {n i : Nat} {f : Nat → Int32} {j x : Int32} {pc : Nat} {Ls : Array Slot} {rest : List Value} {sl : Nat} {v : Value} {ws : List Addr}
theorem own_A.lt (F : own_A Z h a ty n f) : a < h.size := by obtain ⟨c, A, -⟩ := F; exact A.lt
theorem own_A.ext (F : own_A Z h a ty n f) (E : Ext h h') : own_A Z h' a ty n f := by obtain ⟨c, A, r⟩ := F; exact ⟨c, A.ext E, r⟩
theorem own_A.other (F : own_A Z h b ty n f) (W : Wr h h' a sl v) (q : b ≠ a) : own_A Z h' b ty n f := by obtain ⟨c, A, r⟩ := F; exact ⟨c, A.other W q, r⟩
theorem own_A.keep (F : own_A Z h a ty n f) (K : Keep h h' ws) (q : a ∉ ws) : own_A Z h' a ty n f := by obtain ⟨c, A, r⟩ := F; exact ⟨c, ⟨K.2.1 a c A.1 q, A.2⟩, r⟩
theorem own_A.congr {g : Nat → Int32} (F : own_A Z h a ty n f) (q : ∀ j, j < n → f j = g j) : own_A Z h a ty n g := by obtain ⟨c, A, r1, r2, r3, r4⟩ := F; exact ⟨c, A, r1, r2, fun j hj => by rw [← q j hj]; exact r3 j hj, fun j hj => by rw [← q j hj]; exact r4 j hj⟩
theorem own_A.new {k : ClassId} {z : Int32} (A : Arr Z h a (newA k ty z) ty) (q : ¬ z < 0) (hz : z.toNatClampNeg = n) (hd : defaultValue ty = .int 0 := by rfl) : own_A Z h a ty n (fun _ => 0) := by
  subst hz
  exact ⟨_, A, sz_new _ _ _, (back32 q).2, fun j hj => by simp [newA, hj, hd], fun j hj => by rw [← hd]; cases ty <;> rfl⟩
theorem own_A.set (F : own_A Z h a ty n f) (hj : own_ix j i) (W : Wr h h' a j.toNatClampNeg (.int x)) (hf : fits ty (.int x) = true) : own_A Z h' a ty n (own_up f i x) := by
  obtain ⟨c, A, r1, r2, r3, r4⟩ := F
  obtain ⟨hj1, rfl⟩ := hj
  refine ⟨_, A.same W, by rw [sz_set]; exact r1, r2, fun k hk => ?_, fun k hk => ?_⟩ <;> by_cases q : k = j.toNatClampNeg
  · subst q; simp [Cell.setSlot, own_up, r1, hk]
  · simp only [Cell.setSlot, own_up, if_neg q]; rw [Array.getElem?_setIfInBounds_ne (Ne.symm q)]; exact r3 k hk
  · simp only [own_up, if_pos q]; exact hf
  · simp only [own_up, if_neg q]; exact r4 k hk
theorem own_in (hj : own_ix j i) (hi : i < n) {c : Cell} (hc : c.slots.size = n) : ¬ (j < 0 ∨ c.slots.size ≤ j.toNatClampNeg) := by
  rintro (q | q)
  · exact hj.1 q
  · rw [hj.2, hc] at q; omega
theorem own_stB (X : Stand p l e R s m args below meth c T locs cells slots) (hx : p.tables.exec = Jvm.exec) (hZ : Z.Warmed39 s.vm) (eT : T.heap = h) (A : own_A Z h a .byte n f) (hj : own_ix j i) (hi : i < n) (hd : decode c.code pc = .ok (.bastore, 1)) :
    ∃ T' h', Stand p l e R s m args below meth c T' (locs ++ [⟨a, j.toNatClampNeg⟩]) cells slots ∧ T'.heap = h' ∧ Wr h h' a j.toNatClampNeg (.int (nar .byte x)) ∧ own_A Z h' a .byte n (own_up f i (nar .byte x)) ∧ ∀ t, Steps p.tables e below (T'.setTop (mkF m (pc + 1) Ls rest)) t → Steps p.tables e below (T.setTop (mkF m pc Ls (.int x :: .int j :: .ref a :: rest))) t := by
  have A0 := A
  obtain ⟨cl, A1, r1, r2, r3, r4⟩ := A
  obtain ⟨T', h', X', e', W, st⟩ := stB X hx hZ eT A1 (j := j) (x := x) (own_in hj hi r1) (g := mkF m pc Ls (.int x :: .int j :: .ref a :: rest)) rfl rfl hd
  exact ⟨T', h', X', e', W, A0.set hj W (fits_nar_byte x), st⟩
theorem own_stI (X : Stand p l e R s m args below meth c T locs cells slots) (hx : p.tables.exec = Jvm.exec) (hZ : Z.Warmed39 s.vm) (eT : T.heap = h) (A : own_A Z h a .int n f) (hj : own_ix j i) (hi : i < n) (hd : decode c.code pc = .ok (.iastore, 1)) :
    ∃ T' h', Stand p l e R s m args below meth c T' (locs ++ [⟨a, j.toNatClampNeg⟩]) cells slots ∧ T'.heap = h' ∧ Wr h h' a j.toNatClampNeg (.int x) ∧ own_A Z h' a .int n (own_up f i x) ∧ ∀ t, Steps p.tables e below (T'.setTop (mkF m (pc + 1) Ls rest)) t → Steps p.tables e below (T.setTop (mkF m pc Ls (.int x :: .int j :: .ref a :: rest))) t := by
  have A0 := A
  obtain ⟨cl, A1, r1, r2, r3, r4⟩ := A
  obtain ⟨T', h', X', e', W, st⟩ := stI X hx hZ eT A1 (j := j) (x := x) (own_in hj hi r1) (g := mkF m pc Ls (.int x :: .int j :: .ref a :: rest)) rfl rfl hd
  exact ⟨T', h', X', e', W, A0.set hj W rfl, st⟩
theorem own_ldB (X : Stand p l e R s m args below meth c T locs cells slots) (hx : p.tables.exec = Jvm.exec) (hZ : Z.Warmed39 s.vm) (eT : T.heap = h) (A : own_A Z h a .byte n f) (hj : own_ix j i) (hi : i < n) (hd : decode c.code pc = .ok (.baload, 1)) (t : State)
    (k : Steps p.tables e below (T.setTop (mkF m (pc + 1) Ls (.int (f i) :: rest))) t) : Steps p.tables e below (T.setTop (mkF m pc Ls (.int j :: .ref a :: rest))) t := by
  obtain ⟨cl, A1, r1, r2, r3, r4⟩ := A
  exact X.baloadBytes hx (j := j) (v := .int (f i)) (by rw [eT]; exact A1.1) (State.isArrayOf_alike hZ.alike A1.2.1) A1.2.2 (own_in hj hi r1) (by rw [hj.2]; exact r3 i hi) (g := mkF m pc Ls (.int j :: .ref a :: rest)) rfl rfl hd t k
theorem own_ldI (X : Stand p l e R s m args below meth c T locs cells slots) (hx : p.tables.exec = Jvm.exec) (hZ : Z.Warmed39 s.vm) (eT : T.heap = h) (A : own_A Z h a .int n f) (hj : own_ix j i) (hi : i < n) (hd : decode c.code pc = .ok (.iaload, 1)) (t : State)
    (k : Steps p.tables e below (T.setTop (mkF m (pc + 1) Ls (.int (f i) :: rest))) t) : Steps p.tables e below (T.setTop (mkF m pc Ls (.int j :: .ref a :: rest))) t := by
  obtain ⟨cl, A1, r1, r2, r3, r4⟩ := A
  exact X.iaload hx (j := j) (v := .int (f i)) (by rw [eT]; exact A1.1) (State.isArrayOf_alike hZ.alike A1.2.1) A1.2.2 (own_in hj hi r1) (by rw [hj.2]; exact r3 i hi) (g := mkF m pc Ls (.int j :: .ref a :: rest)) rfl rfl hd t k
theorem own_len {z : Int32} (X : Stand p l e R s m args below meth c T locs cells slots) (hx : p.tables.exec = Jvm.exec) (hZ : Z.Warmed39 s.vm) (eT : T.heap = h) (A : own_A Z h a ty n f) (hz : n.toInt32 = z) (hd : decode c.code pc = .ok (.arraylength, 1)) (t : State)
    (k : Steps p.tables e below (T.setTop (mkF m (pc + 1) Ls (.int z :: rest))) t) : Steps p.tables e below (T.setTop (mkF m pc Ls (.ref a :: rest))) t := by
  obtain ⟨cl, A1, r1, r2, r3, r4⟩ := A
  subst hz
  refine X.arraylength hx (by rw [eT]; exact A1.1) (State.isArrayOf_alike hZ.alike A1.2.1) (g := mkF m pc Ls (.ref a :: rest)) rfl rfl hd t ?_
  rw [r1]; exact k
theorem own_clone (X : Stand p l e R s m args below meth c T locs cells slots) (hx : p.tables.exec = Jvm.exec) (hZ : Z.Warmed39 s.vm) {a0 : Array Value} {own ad : String} {index : Nat} (hown : s.vm.findClass own = some m.cls)
    (w1 : (Cond.methodLink own index ⟨ad, "clone", "()Ljava/lang/Object;"⟩).before a0 Z = true) (w2 : (Cond.sameMethod ad "java/lang/Object" "clone" "()Ljava/lang/Object;").before a0 Z = true) (w3 : (Cond.native ⟨"java/lang/Object", "clone", "()Ljava/lang/Object;"⟩).before a0 Z = true)
    (w4 : (Cond.instanceMethod ⟨"java/lang/Object", "clone", "()Ljava/lang/Object;"⟩).before a0 Z = true) (w5 : (Cond.selects ad ⟨ad, "clone", "()Ljava/lang/Object;"⟩ ⟨"java/lang/Object", "clone", "()Ljava/lang/Object;"⟩).before a0 Z = true) (w6 : (Cond.castable ad "java/lang/Cloneable").before a0 Z = true)
    (eT : T.heap = h) (A : own_A Z h a ty n f) (E : Exa Z h a ad) (hsize : Ls.size = c.maxLocals) (hd : decode c.code pc = .ok (.invokevirtual index, 3))
    (hf : 1 ≤ R.frames) {W cap : Nat} (hW : 2 * 0 + (rest.map fun v => v.category).sum ≤ W) (hl : W + 14 ≤ R.locals) (hcap : n ≤ cap) (hc : cells + 1 ≤ R.cells) (hsl : slots + cap ≤ R.slots) :
    ∃ T' h', Stand p l e R s m args below meth c T' locs (cells + 1) (slots + cap) ∧ T'.heap = h' ∧ Ext h h' ∧ own_A Z h' h.size ty n f ∧ Exa Z h' h.size ad ∧
      ∀ t, Steps p.tables e below (T'.setTop (mkF m (pc + 3) Ls (.ref h.size :: rest))) t → Steps p.tables e below (T.setTop (mkF m pc Ls (.ref a :: rest))) t := by
  obtain ⟨cl, A1, r1, r2, r3, r4⟩ := A
  have FC : FitC Z cl := fitC_of A1 fun i hi v hv => by rw [r1] at hi; rw [r3 i hi] at hv; cases hv; exact r4 i hi
  obtain ⟨T', h', X', e', ex, A', E', st⟩ := cloneA X hx hZ hown w1 w2 w3 w4 w5 w6 eT A1 E FC (g := mkF m pc Ls (.ref a :: rest)) rfl hsize rfl hd hf hW hl (by rw [r1]; exact hcap) hc hsl
  exact ⟨T', h', X', e', ex, ⟨cloneOf cl, A', r1, r2, r3, r4⟩, E', st⟩
theorem own_selP {s : State} {args : Array Value} {y : MethodName} {n : Nat} (hin : (Cond.instantiable y.cls n).before args s = true) (hpriv : s.PrivateAt y) (hinst : (Cond.instanceMethod y).before args s = true) (hy : y.cls ≠ "java/lang/invoke/MethodHandle" ∧ y.cls ≠ "java/lang/invoke/VarHandle") : (Cond.selects y.cls y y).before args s = true := by
  obtain ⟨c, k, h1, h2, -, h4, -⟩ := Cond.instantiable_spec hin
  exact selects_self_of_private h1 h2 (Bool.or_eq_false_iff.mp h4).1 hpriv hinst hy
theorem own_ixa (h : own_ix j i) (k : Nat) (hi : i + k < 2 ^ 31) : own_ix (j + Int32.ofNat k) (i + k) := by
  obtain ⟨h1, h2⟩ := h
  have e0 : (0 : Int32).toInt = 0 := rfl
  have e1 : (Int32.ofNat k).toInt = k := Int32.toInt_ofNat_of_lt (by omega)
  rw [Int32.lt_iff_toInt_lt, e0] at h1
  simp only [Int32.toNatClampNeg] at h2
  have h3 := c_iadd j (Int32.ofNat k); have h4 := rng32 (j + Int32.ofNat k)
  rw [e1] at h3
  refine ⟨by rw [Int32.lt_iff_toInt_lt, e0]; omega, ?_⟩
  simp only [Int32.toNatClampNeg]; omega
theorem own_ixI (h : own_ix j i) : j.toInt = i := by
  obtain ⟨h1, h2⟩ := h
  have e0 : (0 : Int32).toInt = 0 := rfl
  rw [Int32.lt_iff_toInt_lt, e0] at h1
  simp only [Int32.toNatClampNeg] at h2; omega
theorem own_ixof (h : j.toInt = i) : own_ix j i := by
  have e0 : (0 : Int32).toInt = 0 := rfl
  refine ⟨by rw [Int32.lt_iff_toInt_lt, e0]; omega, ?_⟩
  simp only [Int32.toNatClampNeg]; omega
theorem own_ixs (h : ¬ j < 0) : own_ix j j.toNatClampNeg := ⟨h, rfl⟩
theorem own_and3 (x : Int32) (k : Nat) (hk : k < 2 ^ 31) : ¬ (x &&& Int32.ofNat k) < 0 ∧ (x &&& Int32.ofNat k).toNatClampNeg ≤ k := by
  have h0 : 0 ≤ (Int32.ofNat k).toInt := by rw [Int32.toInt_ofNat_of_lt hk]; omega
  have h1 := (c_andS x (Int32.ofNat k)).2.2 h0
  have e0 : (0 : Int32).toInt = 0 := rfl
  refine ⟨by rw [Int32.lt_iff_toInt_lt, e0]; omega, ?_⟩
  have hb : (x &&& Int32.ofNat k).toBitVec.toNat ≤ k := by
    have : (x &&& Int32.ofNat k).toBitVec.toNat = x.toBitVec.toNat &&& (Int32.ofNat k).toBitVec.toNat := by rw [Int32.toBitVec_and, BitVec.toNat_and]
    rw [this]
    refine Nat.le_trans Nat.and_le_right ?_
    show (BitVec.ofNat 32 k).toNat ≤ k
    rw [BitVec.toNat_ofNat]; exact Nat.mod_le _ _
  have e : (x &&& Int32.ofNat k).toInt = ((x &&& Int32.ofNat k).toBitVec.toNat : Int) := by
    show (x &&& Int32.ofNat k).toBitVec.toInt = _
    rw [BitVec.toInt_eq_toNat_cond]; split
    · rfl
    · omega
  simp only [Int32.toNatClampNeg, e]; omega
end Own

def own_beg (c : Nat) : Option (Nat × Nat × Nat) :=
  if 194 ≤ c ∧ c ≤ 223 then some (1, 128, 191) else if 224 ≤ c ∧ c ≤ 239 then some (2, (if c = 224 then 160 else 128), (if c = 237 then 159 else 191)) else if 240 ≤ c ∧ c ≤ 244 then some (3, (if c = 240 then 144 else 128), (if c = 244 then 143 else 191)) else none
theorem own_begN {k : Nat} (h1 : ¬ (194 ≤ k ∧ k ≤ 223)) (h2 : ¬ (224 ≤ k ∧ k ≤ 239)) (h3 : ¬ (240 ≤ k ∧ k ≤ 244)) : own_beg k = none := by unfold own_beg; rw [if_neg h1, if_neg h2, if_neg h3]
theorem own_beg1 {k : Nat} (h1 : 194 ≤ k ∧ k ≤ 223) : own_beg k = some (1, 128, 191) := by unfold own_beg; rw [if_pos h1]
theorem own_beg2 {k lo hi : Nat} (h1 : 224 ≤ k ∧ k ≤ 239) (h2 : (if k = 224 then 160 else 128) = lo) (h3 : (if k = 237 then 159 else 191) = hi) : own_beg k = some (2, lo, hi) := by unfold own_beg; rw [if_neg (by omega), if_pos h1, h2, h3]
theorem own_beg3 {k lo hi : Nat} (h1 : 240 ≤ k ∧ k ≤ 244) (h2 : (if k = 240 then 144 else 128) = lo) (h3 : (if k = 244 then 143 else 191) = hi) : own_beg k = some (3, lo, hi) := by unfold own_beg; rw [if_neg (by omega), if_neg (by omega), if_pos h1, h2, h3]
theorem own_begK {k nd lo hi : Nat} (h : own_beg k = some (nd, lo, hi)) : 1 ≤ nd ∧ nd ≤ 3 ∧ 128 ≤ lo ∧ lo ≤ 255 ∧ hi ≤ 191 := by
  unfold own_beg at h
  split at h
  · cases h; decide
  · split at h
    · cases h; refine ⟨by decide, by decide, ?_, ?_, ?_⟩ <;> split <;> decide
    · split at h
      · cases h; refine ⟨by decide, by decide, ?_, ?_, ?_⟩ <;> split <;> decide
      · cases h
def own_stp (s : Nat × Nat × Nat) (c : Nat) : Option (Nat × Nat × Nat) :=
  if 0 < s.1 then (if s.2.1 ≤ c ∧ c ≤ s.2.2 then some (s.1 - 1, 128, 191) else none) else if c < 128 then some s else own_beg c
theorem own_stpY {nd lo hi c : Nat} (h : 0 < nd) (h1 : lo ≤ c ∧ c ≤ hi) : own_stp (nd, lo, hi) c = some (nd - 1, 128, 191) := by unfold own_stp; rw [if_pos h, if_pos h1]
theorem own_stpX {nd lo hi c : Nat} (h : 0 < nd) (h1 : ¬ (lo ≤ c ∧ c ≤ hi)) : own_stp (nd, lo, hi) c = none := by unfold own_stp; rw [if_pos h, if_neg h1]
theorem own_stpA {nd lo hi c : Nat} (h : ¬ 0 < nd) (h1 : c < 128) : own_stp (nd, lo, hi) c = some (nd, lo, hi) := by unfold own_stp; rw [if_neg h, if_pos h1]
theorem own_stpB {nd lo hi c : Nat} (h : ¬ 0 < nd) (h1 : ¬ c < 128) : own_stp (nd, lo, hi) c = own_beg c := by unfold own_stp; rw [if_neg h, if_neg h1]
def own_run (b : Nat → Nat) : Nat → Nat → Nat × Nat × Nat → Nat → Sum Nat (Nat × Nat × Nat)
  | 0, _, s, _ => .inr s
  | t + 1, i, s, q => match own_stp s (b i) with
    | none => .inl q
    | some s' => own_run b t (i + 1) s' (if s'.1 = 0 then i + 1 else q)
theorem own_runN {b : Nat → Nat} {t i q : Nat} {s : Nat × Nat × Nat} (h : own_stp s (b i) = none) : own_run b (t + 1) i s q = .inl q := by rw [own_run, h]
theorem own_runS {b : Nat → Nat} {t i q : Nat} {s s' : Nat × Nat × Nat} (h : own_stp s (b i) = some s') : own_run b (t + 1) i s q = own_run b t (i + 1) s' (if s'.1 = 0 then i + 1 else q) := by rw [own_run, h]
theorem own_runZ {b : Nat → Nat} {t i q : Nat} {s s' : Nat × Nat × Nat} (h : own_stp s (b i) = some s') (h0 : s'.1 = 0) : own_run b (t + 1) i s q = own_run b t (i + 1) s' (i + 1) := by rw [own_runS h, if_pos h0]
theorem own_runG {b : Nat → Nat} {t i q : Nat} {s s' : Nat × Nat × Nat} (h : own_stp s (b i) = some s') (h0 : ¬ s'.1 = 0) : own_run b (t + 1) i s q = own_run b t (i + 1) s' q := by rw [own_runS h, if_neg h0]
def own_ok (s : Nat × Nat × Nat) : Prop := s.1 ≤ 3 ∧ 128 ≤ s.2.1 ∧ s.2.1 ≤ 255 ∧ s.2.2 ≤ 191 ∧ (s.1 = 0 → s.2.1 = 128 ∧ s.2.2 = 191)
def own_by (f : Nat → Int32) (j : Nat) : Nat := ((f j).toInt % 256).toNat
theorem own_byI (f : Nat → Int32) (j : Nat) : ((f j) &&& (255 : Int32)).toInt = own_by f j := by
  have h := c_mask (f j) 255 8 (by decide) (by decide)
  rw [show ((2 ^ 8 : Nat) : Int) = 256 from rfl] at h
  rw [h, own_by]; omega
theorem own_byl (f : Nat → Int32) (j : Nat) : own_by f j < 256 := by unfold own_by; omega
theorem own_oI {n : Nat} (h : n < 1000) : (Int32.ofNat n).toInt = n := Int32.toInt_ofNat_of_lt (by omega)
theorem own_osub {n : Nat} (h : n < 1000) (h0 : 0 < n) : Int32.ofNat n - (1 : Int32) = Int32.ofNat (n - 1) := by
  rw [← Int32.toInt_inj, own_oI (by omega)]
  have q1 := c_isub (Int32.ofNat n) 1; have q2 := rng32 (Int32.ofNat n - 1); rw [own_oI h, show (1 : Int32).toInt = 1 from rfl] at q1
  omega
theorem own_o0 {n : Nat} (h : n < 1000) (h0 : Int32.ofNat n = (0 : Int32)) : n = 0 := by
  have := own_eq32 h0; rw [own_oI h, show (0 : Int32).toInt = 0 from rfl] at this; omega
theorem own_on {n : Nat} (h : n < 1000) (h0 : ¬ n = 0) : ¬ Int32.ofNat n = (0 : Int32) := fun q => h0 (own_o0 h q)
theorem own_b3_d0 : decode prog_31_method_1_code 0 = .ok (.aload_n 0, 1) := by decide +kernel
theorem own_b3_d1 : decode prog_31_method_1_code 1 = .ok (.invokespecial 1, 3) := by decide +kernel
theorem own_b3_d4 : decode prog_31_method_1_code 4 = .ok (.aload_n 0, 1) := by decide +kernel
theorem own_b3_d5 : decode prog_31_method_1_code 5 = .ok (.sipush 128, 3) := by decide +kernel
theorem own_b3_d8 : decode prog_31_method_1_code 8 = .ok (.putfield 9, 3) := by decide +kernel
theorem own_b3_d11 : decode prog_31_method_1_code 11 = .ok (.aload_n 0, 1) := by decide +kernel
theorem own_b3_d12 : decode prog_31_method_1_code 12 = .ok (.sipush 191, 3) := by decide +kernel
theorem own_b3_d15 : decode prog_31_method_1_code 15 = .ok (.putfield 13, 3) := by decide +kernel
theorem own_b3_d18 : decode prog_31_method_1_code 18 = .ok (.return_, 1) := by decide +kernel
theorem own_pn0 : plainName "com/example/mapwright/mapwright/Utf8Check" = true := by first | (simp [plainName, overriddenIn]; done) | decide +kernel
theorem own_ef_rm3 (m : MethodId) (x0 : Addr) : entryFrame m #[(.ref x0)] 1 = mkF m 0 #[.val (.ref x0)] [] := by first | (simp [entryFrame, mkF, argsToLocals, Value.category]; done) | rfl
def Q3 (Z : State) (a : Addr) (h0 : Heap) (n0 : Nat) (v : Option Value) (h : Heap) (L : List Loc) : Prop := v = none ∧ Fr n0 L ∧ Keep h0 h [a] ∧ Fld Z h a "com/example/mapwright/mapwright/Utf8Check" "needed" "I" (.int (Int32.ofNat 0)) ∧ Fld Z h a "com/example/mapwright/mapwright/Utf8Check" "least" "I" (.int (Int32.ofNat 128)) ∧ Fld Z h a "com/example/mapwright/mapwright/Utf8Check" "greatest" "I" (.int (Int32.ofNat 191))
set_option maxRecDepth 65536 in
set_option maxHeartbeats 40000000 in
theorem rm3 (l : Launch) (Z : State) (a0 : Array Value) (hw : ∀ d ∈ tables_1, d.before a0 Z = true) (ws : List Jvm.Cond) (a : Addr) (h0 : Heap) (n0 : Nat) (Z0 : n0 ≤ h0.size) (E : Exa Z h0 a "com/example/mapwright/mapwright/Utf8Check") (F0 : Fld Z h0 a "com/example/mapwright/mapwright/Utf8Check" "needed" "I" (.int (0 : Int32))) (F1 : Fld Z h0 a "com/example/mapwright/mapwright/Utf8Check" "least" "I" (.int (0 : Int32))) (F2 : Fld Z h0 a "com/example/mapwright/mapwright/Utf8Check" "greatest" "I" (.int (0 : Int32))) (ga : n0 ≤ a) :
    MetFree l (⟨"com/example/mapwright/mapwright/Utf8Check", "<init>", "()V"⟩ : MethodName) (head1 (Jvm.Cond.code (⟨"com/example/mapwright/mapwright/Utf8Check", "<init>", "()V"⟩ : MethodName) prog_31_method_1_code 1 none :: ws) ({ frames := 1, cells := 0, slots := 0, locals := 12 } : Room)) (fun aa_ U_ => aa_ = #[(.ref a)] ∧ Z.Warmed39 U_.vm ∧ U_.heap = h0) (fun _ _ _ _ _ => True) (fun _ U_ o_ U1_ => ∃ v_ L_, o_ = .returned v_ ∧ Q3 Z a h0 n0 v_ U1_.heap L_ ∧ FrameEnd U_ o_ U1_ L_ ({ frames := 1, cells := 0, slots := 0, locals := 12 } : Room).cells ({ frames := 1, cells := 0, slots := 0, locals := 12 } : Room).slots) := by
  refine MetFree.of_bodySF (plainFor_of_name own_pn0) hisR ?_
  intro p e s m args below meth c s₁ Bd hml0 hP hK
  obtain ⟨rfl, hZ, hh⟩ := hP
  have hx := Bd.exec
  have hby := Bd.bytes
  have hlk := Bd.notSynchronized
  have hml : c.maxLocals = 1 := hml0
  have hown : s.vm.findClass "com/example/mapwright/mapwright/Utf8Check" = some m.cls := findClass_of_methodNamed Bd.named
  have hnm := (name_of_methodNamed Bd.named Bd.method).1
  have X0 : Stand p l e ({ frames := 1, cells := 0, slots := 0, locals := 12 } : Room) s m #[(.ref a)] below meth c s₁ [] 0 0 := Stand.of_body Bd
  have e0 : s₁.heap = h0 := by rw [← hh, Bd.state]; rfl
  have N0 := Fr.nil n0
  show own_E p e below s (Q3 Z a h0 n0) ({ frames := 1, cells := 0, slots := 0, locals := 12 } : Room).cells ({ frames := 1, cells := 0, slots := 0, locals := 12 } : Room).slots (s₁.setTop (entryFrame m #[(.ref a)] 1))
  refine own_st (B := s₁.setTop (mkF m 0 #[.val (.ref a)] [])) (fun t_ k_ => castTop (own_ef_rm3 m a) k_) ?_
  have K0 : Keep h0 h0 [a] := Keep.refl _ _
  refine own_st (B := s₁.setTop (mkF m 1 #[.val (.ref a)] [(.ref a)])) (fun t_ k_ => XS.aloadN X0.here hx rfl (hb hby own_b3_d0) rfl rfl k_) ?_
  obtain ⟨T1, X1, e1, st1⟩ := initO X0 hx hZ hown (hw _ (List.mem_of_getElem? (i := 17) rfl)) (hw _ (List.mem_of_getElem? (i := 18) rfl)) (hw _ (List.mem_of_getElem? (i := 19) rfl)) e0 (g := (mkF m 1 #[.val (.ref a)] [(.ref a)])) rfl (by rw [hml]; rfl) rfl (hb hby own_b3_d1) (by decide) (W := 0) (by show 2 * 0 + _ ≤ _; exact Nat.le_of_eq rfl) (by decide)
  refine own_st (B := T1.setTop (mkF m 4 #[.val (.ref a)] [])) st1 ?_
  refine own_st (B := T1.setTop (mkF m 5 #[.val (.ref a)] [(.ref a)])) (fun t_ k_ => XS.aloadN X1.here hx rfl (hb hby own_b3_d4) rfl rfl k_) ?_
  refine own_st (B := T1.setTop (mkF m 8 #[.val (.ref a)] [(.int (128 : Int32)), (.ref a)])) (fun t_ k_ => XS.sipush X1.here hx rfl (hb hby own_b3_d5) k_) ?_
  obtain ⟨T2, h2, X2, e2, W2, st2⟩ := putF X1 hx hZ hown (host := "") (Or.inl (hw _ (List.mem_of_getElem? (i := 20) rfl))) Via.refl e1 F1 E (Or.inl (hw _ (List.mem_of_getElem? (i := 21) rfl))) (hw _ (List.mem_of_getElem? (i := 12) rfl)) (ty := .int) (by decide) rfl rfl (g := (mkF m 8 #[.val (.ref a)] [(.int (128 : Int32)), (.ref a)])) rfl rfl (hb hby own_b3_d8)
  have Fw2 := F1.same W2
  have N2 := Fr.snoc X2 N0 ga
  have Z3 := Nat.le_trans Z0 (Keep.of_wr W2).1
  have K4 := K0.wr W2 (Or.inl (List.mem_of_getElem? (i := 0) rfl))
  refine own_st (B := T2.setTop (mkF m 11 #[.val (.ref a)] [])) st2 ?_
  refine own_st (B := T2.setTop (mkF m 12 #[.val (.ref a)] [(.ref a)])) (fun t_ k_ => XS.aloadN X2.here hx rfl (hb hby own_b3_d11) rfl rfl k_) ?_
  refine own_st (B := T2.setTop (mkF m 15 #[.val (.ref a)] [(.int (191 : Int32)), (.ref a)])) (fun t_ k_ => XS.sipush X2.here hx rfl (hb hby own_b3_d12) k_) ?_
  have u5 := E.wr W2
  have u6 := F2.other W2 (Or.inr (slot_ne (Or.inl (hw _ (List.mem_of_getElem? (i := 23) rfl))) (Or.inl (hw _ (List.mem_of_getElem? (i := 21) rfl))) (by decide) (t := .int) (t' := .int) (by decide) (by decide)))
  obtain ⟨T7, h7, X7, e7, W7, st7⟩ := putF X2 hx hZ hown (host := "") (Or.inl (hw _ (List.mem_of_getElem? (i := 22) rfl))) Via.refl e2 u6 u5 (Or.inl (hw _ (List.mem_of_getElem? (i := 23) rfl))) (hw _ (List.mem_of_getElem? (i := 12) rfl)) (ty := .int) (by decide) rfl rfl (g := (mkF m 15 #[.val (.ref a)] [(.int (191 : Int32)), (.ref a)])) rfl rfl (hb hby own_b3_d15)
  have Fw7 := u6.same W7
  have N7 := Fr.snoc X7 N2 ga
  have Z8 := Nat.le_trans Z3 (Keep.of_wr W7).1
  have K9 := K4.wr W7 (Or.inl (List.mem_of_getElem? (i := 0) rfl))
  refine own_st (B := T7.setTop (mkF m 18 #[.val (.ref a)] [])) st7 ?_
  refine own_retV X7 hx Bd.returns hlk (hb hby own_b3_d18) (by decide) (by decide) ?_
  show Q3 Z a h0 n0 _ T7.heap _
  rw [e7]
  have u10 := F0.other W2 (Or.inr (slot_ne (Or.inl (hw _ (List.mem_of_getElem? (i := 30) rfl))) (Or.inl (hw _ (List.mem_of_getElem? (i := 21) rfl))) (by decide) (t := .int) (t' := .int) (by decide) (by decide)))
  have u11 := u10.other W7 (Or.inr (slot_ne (Or.inl (hw _ (List.mem_of_getElem? (i := 30) rfl))) (Or.inl (hw _ (List.mem_of_getElem? (i := 23) rfl))) (by decide) (t := .int) (t' := .int) (by decide) (by decide)))
  have u12 := Fw2.other W7 (Or.inr (slot_ne (Or.inl (hw _ (List.mem_of_getElem? (i := 21) rfl))) (Or.inl (hw _ (List.mem_of_getElem? (i := 23) rfl))) (by decide) (t := .int) (t' := .int) (by decide) (by decide)))
  exact ⟨rfl, N7, K9, u11, u12, Fw7⟩
theorem own_b6_d0 : decode prog_31_method_3_code 0 = .ok (.aload_n 0, 1) := by decide +kernel
theorem own_b6_d1 : decode prog_31_method_3_code 1 = .ok (.getfield 16, 3) := by decide +kernel
theorem own_b6_d4 : decode prog_31_method_3_code 4 = .ok (.ifCond .ne 7, 3) := by decide +kernel
theorem own_b6_d7 : decode prog_31_method_3_code 7 = .ok (.iconst 1, 1) := by decide +kernel
theorem own_b6_d8 : decode prog_31_method_3_code 8 = .ok (.goto 4, 3) := by decide +kernel
theorem own_b6_d11 : decode prog_31_method_3_code 11 = .ok (.iconst 0, 1) := by decide +kernel
theorem own_b6_d12 : decode prog_31_method_3_code 12 = .ok (.ireturn, 1) := by decide +kernel
theorem own_ef_rm6 (m : MethodId) (x0 : Addr) : entryFrame m #[(.ref x0)] 1 = mkF m 0 #[.val (.ref x0)] [] := by first | (simp [entryFrame, mkF, argsToLocals, Value.category]; done) | rfl
def Q6 (Z : State) (a : Addr) (k : Nat) (h0 : Heap) (n0 : Nat) (v : Option Value) (h : Heap) (L : List Loc) : Prop := v = some (.int (own_b (decide (k = 0)))) ∧ Fr n0 L ∧ h = h0
set_option maxRecDepth 65536 in
set_option maxHeartbeats 40000000 in
theorem rm6 (l : Launch) (Z : State) (a0 : Array Value) (hw : ∀ d ∈ tables_1, d.before a0 Z = true) (ws : List Jvm.Cond) (a : Addr) (k : Nat) (h0 : Heap) (n0 : Nat) (Z0 : n0 ≤ h0.size) (F : Fld Z h0 a "com/example/mapwright/mapwright/Utf8Check" "needed" "I" (.int (Int32.ofNat k))) (hk : k < 1000) :
    MetFree l (⟨"com/example/mapwright/mapwright/Utf8Check", "complete", "()Z"⟩ : MethodName) (head1 (Jvm.Cond.code (⟨"com/example/mapwright/mapwright/Utf8Check", "complete", "()Z"⟩ : MethodName) prog_31_method_3_code 1 (some .boolean) :: ws) ({ frames := 0, cells := 0, slots := 0, locals := 0 } : Room)) (fun aa_ U_ => aa_ = #[(.ref a)] ∧ Z.Warmed39 U_.vm ∧ U_.heap = h0) (fun _ _ _ _ _ => True) (fun _ U_ o_ U1_ => ∃ v_ L_, o_ = .returned v_ ∧ Q6 Z a k h0 n0 v_ U1_.heap L_ ∧ FrameEnd U_ o_ U1_ L_ ({ frames := 0, cells := 0, slots := 0, locals := 0 } : Room).cells ({ frames := 0, cells := 0, slots := 0, locals := 0 } : Room).slots) := by
  refine MetFree.of_bodySF (plainFor_of_name own_pn0) hisR ?_
  intro p e s m args below meth c s₁ Bd hml0 hP hK
  obtain ⟨rfl, hZ, hh⟩ := hP
  have hx := Bd.exec
  have hby := Bd.bytes
  have hlk := Bd.notSynchronized
  have hml : c.maxLocals = 1 := hml0
  have hown : s.vm.findClass "com/example/mapwright/mapwright/Utf8Check" = some m.cls := findClass_of_methodNamed Bd.named
  have hnm := (name_of_methodNamed Bd.named Bd.method).1
  have X0 : Stand p l e ({ frames := 0, cells := 0, slots := 0, locals := 0 } : Room) s m #[(.ref a)] below meth c s₁ [] 0 0 := Stand.of_body Bd
  have e0 : s₁.heap = h0 := by rw [← hh, Bd.state]; rfl
  have N0 := Fr.nil n0
  show own_E p e below s (Q6 Z a k h0 n0) ({ frames := 0, cells := 0, slots := 0, locals := 0 } : Room).cells ({ frames := 0, cells := 0, slots := 0, locals := 0 } : Room).slots (s₁.setTop (entryFrame m #[(.ref a)] 1))
  refine own_st (B := s₁.setTop (mkF m 0 #[.val (.ref a)] [])) (fun t_ k_ => castTop (own_ef_rm6 m a) k_) ?_
  refine own_st (B := s₁.setTop (mkF m 1 #[.val (.ref a)] [(.ref a)])) (fun t_ k_ => XS.aloadN X0.here hx rfl (hb hby own_b6_d0) rfl rfl k_) ?_
  obtain ⟨T1, X1, e1, st1⟩ := getF X0 hx hZ hown (host := "") (Or.inl (hw _ (List.mem_of_getElem? (i := 29) rfl))) Via.refl e0 F (g := (mkF m 1 #[.val (.ref a)] [(.ref a)])) rfl rfl (hb hby own_b6_d1)
  refine own_st (B := T1.setTop (mkF m 4 #[.val (.ref a)] [(.int (Int32.ofNat k))])) st1 ?_
  by_cases hc2 : (Int32.ofNat k) = (0 : Int32)
  · have hd2 := own_eq32 hc2
    rw [show (0 : Int32).toInt = 0 from rfl] at hd2
    refine own_st (B := T1.setTop (mkF m 7 #[.val (.ref a)] [])) (fun t_ k_ => XS.ifNo X1.here hx rfl (hb hby own_b6_d4) rfl ((if0 _ _).trans (teq hc2).2) k_) ?_
    refine own_st (B := T1.setTop (mkF m 8 #[.val (.ref a)] [(.int (1 : Int32))])) (fun t_ k_ => XS.iconst X1.here hx rfl (hb hby own_b6_d7) k_) ?_
    refine own_st (B := T1.setTop (mkF m 12 #[.val (.ref a)] [(.int (1 : Int32))])) (fun t_ k_ => XS.goto X1.here hx rfl (pc0 := 8) (pc' := 12) rfl (hb hby own_b6_d8) (by decide) (by decide) k_) ?_
    refine own_retN X1 hx (t := .boolean) Bd.returns (by simp) hlk (hb hby own_b6_d12) (z' := (1 : Int32)) (by first | rfl | exact own_nb _) (by decide) (by decide) ?_
    show Q6 Z a k h0 n0 _ T1.heap _
    rw [e1]
    exact ⟨by rw [own_b1 (own_o0 hk hc2)], N0, rfl⟩
  · have hd2 := own_neq32 hc2
    rw [show (0 : Int32).toInt = 0 from rfl] at hd2
    refine own_st (B := T1.setTop (mkF m 11 #[.val (.ref a)] [])) (fun t_ k_ => XS.ifYes X1.here hx rfl (pc0 := 4) (pc' := 11) rfl (hb hby own_b6_d4) rfl ((if0 _ _).trans (feq hc2).2) (by decide) (by decide) k_) ?_
    refine own_st (B := T1.setTop (mkF m 12 #[.val (.ref a)] [(.int (0 : Int32))])) (fun t_ k_ => XS.iconst X1.here hx rfl (hb hby own_b6_d11) k_) ?_
    refine own_retN X1 hx (t := .boolean) Bd.returns (by simp) hlk (hb hby own_b6_d12) (z' := (0 : Int32)) (by first | rfl | exact own_nb _) (by decide) (by decide) ?_
    show Q6 Z a k h0 n0 _ T1.heap _
    rw [e1]
    exact ⟨by rw [own_bz (fun q' => hc2 (by rw [q']; rfl))], N0, rfl⟩
theorem own_b7_d0 : decode prog_31_method_5_code 0 = .ok (.iload_n 1, 1) := by decide +kernel
theorem own_b7_d1 : decode prog_31_method_5_code 1 = .ok (.sipush 194, 3) := by decide +kernel
theorem own_b7_d4 : decode prog_31_method_5_code 4 = .ok (.if_icmp .lt 18, 3) := by decide +kernel
theorem own_b7_d7 : decode prog_31_method_5_code 7 = .ok (.iload_n 1, 1) := by decide +kernel
theorem own_b7_d8 : decode prog_31_method_5_code 8 = .ok (.sipush 223, 3) := by decide +kernel
theorem own_b7_d11 : decode prog_31_method_5_code 11 = .ok (.if_icmp .gt 11, 3) := by decide +kernel
theorem own_b7_d14 : decode prog_31_method_5_code 14 = .ok (.aload_n 0, 1) := by decide +kernel
theorem own_b7_d15 : decode prog_31_method_5_code 15 = .ok (.iconst 1, 1) := by decide +kernel
theorem own_b7_d16 : decode prog_31_method_5_code 16 = .ok (.putfield 16, 3) := by decide +kernel
theorem own_b7_d19 : decode prog_31_method_5_code 19 = .ok (.goto 129, 3) := by decide +kernel
theorem own_b7_d22 : decode prog_31_method_5_code 22 = .ok (.iload_n 1, 1) := by decide +kernel
theorem own_b7_d23 : decode prog_31_method_5_code 23 = .ok (.sipush 224, 3) := by decide +kernel
theorem own_b7_d26 : decode prog_31_method_5_code 26 = .ok (.if_icmp .lt 58, 3) := by decide +kernel
theorem own_b7_d29 : decode prog_31_method_5_code 29 = .ok (.iload_n 1, 1) := by decide +kernel
theorem own_b7_d30 : decode prog_31_method_5_code 30 = .ok (.sipush 239, 3) := by decide +kernel
theorem own_b7_d33 : decode prog_31_method_5_code 33 = .ok (.if_icmp .gt 51, 3) := by decide +kernel
theorem own_b7_d36 : decode prog_31_method_5_code 36 = .ok (.aload_n 0, 1) := by decide +kernel
theorem own_b7_d37 : decode prog_31_method_5_code 37 = .ok (.iconst 2, 1) := by decide +kernel
theorem own_b7_d38 : decode prog_31_method_5_code 38 = .ok (.putfield 16, 3) := by decide +kernel
theorem own_b7_d41 : decode prog_31_method_5_code 41 = .ok (.aload_n 0, 1) := by decide +kernel
theorem own_b7_d42 : decode prog_31_method_5_code 42 = .ok (.iload_n 1, 1) := by decide +kernel
theorem own_b7_d43 : decode prog_31_method_5_code 43 = .ok (.sipush 224, 3) := by decide +kernel
theorem own_b7_d46 : decode prog_31_method_5_code 46 = .ok (.if_icmp .ne 9, 3) := by decide +kernel
theorem own_b7_d49 : decode prog_31_method_5_code 49 = .ok (.sipush 160, 3) := by decide +kernel
theorem own_b7_d52 : decode prog_31_method_5_code 52 = .ok (.goto 6, 3) := by decide +kernel
theorem own_b7_d55 : decode prog_31_method_5_code 55 = .ok (.sipush 128, 3) := by decide +kernel
theorem own_b7_d58 : decode prog_31_method_5_code 58 = .ok (.putfield 9, 3) := by decide +kernel
theorem own_b7_d61 : decode prog_31_method_5_code 61 = .ok (.aload_n 0, 1) := by decide +kernel
theorem own_b7_d62 : decode prog_31_method_5_code 62 = .ok (.iload_n 1, 1) := by decide +kernel
theorem own_b7_d63 : decode prog_31_method_5_code 63 = .ok (.sipush 237, 3) := by decide +kernel
theorem own_b7_d66 : decode prog_31_method_5_code 66 = .ok (.if_icmp .ne 9, 3) := by decide +kernel
theorem own_b7_d69 : decode prog_31_method_5_code 69 = .ok (.sipush 159, 3) := by decide +kernel
theorem own_b7_d72 : decode prog_31_method_5_code 72 = .ok (.goto 6, 3) := by decide +kernel
theorem own_b7_d75 : decode prog_31_method_5_code 75 = .ok (.sipush 191, 3) := by decide +kernel
theorem own_b7_d78 : decode prog_31_method_5_code 78 = .ok (.putfield 13, 3) := by decide +kernel
theorem own_b7_d81 : decode prog_31_method_5_code 81 = .ok (.goto 67, 3) := by decide +kernel
theorem own_b7_d84 : decode prog_31_method_5_code 84 = .ok (.iload_n 1, 1) := by decide +kernel
theorem own_b7_d85 : decode prog_31_method_5_code 85 = .ok (.sipush 240, 3) := by decide +kernel
theorem own_b7_d88 : decode prog_31_method_5_code 88 = .ok (.if_icmp .lt 58, 3) := by decide +kernel
theorem own_b7_d91 : decode prog_31_method_5_code 91 = .ok (.iload_n 1, 1) := by decide +kernel
theorem own_b7_d92 : decode prog_31_method_5_code 92 = .ok (.sipush 244, 3) := by decide +kernel
theorem own_b7_d95 : decode prog_31_method_5_code 95 = .ok (.if_icmp .gt 51, 3) := by decide +kernel
theorem own_b7_d98 : decode prog_31_method_5_code 98 = .ok (.aload_n 0, 1) := by decide +kernel
theorem own_b7_d99 : decode prog_31_method_5_code 99 = .ok (.iconst 3, 1) := by decide +kernel
theorem own_b7_d100 : decode prog_31_method_5_code 100 = .ok (.putfield 16, 3) := by decide +kernel
theorem own_b7_d103 : decode prog_31_method_5_code 103 = .ok (.aload_n 0, 1) := by decide +kernel
theorem own_b7_d104 : decode prog_31_method_5_code 104 = .ok (.iload_n 1, 1) := by decide +kernel
theorem own_b7_d105 : decode prog_31_method_5_code 105 = .ok (.sipush 240, 3) := by decide +kernel
theorem own_b7_d108 : decode prog_31_method_5_code 108 = .ok (.if_icmp .ne 9, 3) := by decide +kernel
theorem own_b7_d111 : decode prog_31_method_5_code 111 = .ok (.sipush 144, 3) := by decide +kernel
theorem own_b7_d114 : decode prog_31_method_5_code 114 = .ok (.goto 6, 3) := by decide +kernel
theorem own_b7_d117 : decode prog_31_method_5_code 117 = .ok (.sipush 128, 3) := by decide +kernel
theorem own_b7_d120 : decode prog_31_method_5_code 120 = .ok (.putfield 9, 3) := by decide +kernel
theorem own_b7_d123 : decode prog_31_method_5_code 123 = .ok (.aload_n 0, 1) := by decide +kernel
theorem own_b7_d124 : decode prog_31_method_5_code 124 = .ok (.iload_n 1, 1) := by decide +kernel
theorem own_b7_d125 : decode prog_31_method_5_code 125 = .ok (.sipush 244, 3) := by decide +kernel
theorem own_b7_d128 : decode prog_31_method_5_code 128 = .ok (.if_icmp .ne 9, 3) := by decide +kernel
theorem own_b7_d131 : decode prog_31_method_5_code 131 = .ok (.sipush 143, 3) := by decide +kernel
theorem own_b7_d134 : decode prog_31_method_5_code 134 = .ok (.goto 6, 3) := by decide +kernel
theorem own_b7_d137 : decode prog_31_method_5_code 137 = .ok (.sipush 191, 3) := by decide +kernel
theorem own_b7_d140 : decode prog_31_method_5_code 140 = .ok (.putfield 13, 3) := by decide +kernel
theorem own_b7_d143 : decode prog_31_method_5_code 143 = .ok (.goto 5, 3) := by decide +kernel
theorem own_b7_d146 : decode prog_31_method_5_code 146 = .ok (.iconst 0, 1) := by decide +kernel
theorem own_b7_d147 : decode prog_31_method_5_code 147 = .ok (.ireturn, 1) := by decide +kernel
theorem own_b7_d148 : decode prog_31_method_5_code 148 = .ok (.iconst 1, 1) := by decide +kernel
theorem own_b7_d149 : decode prog_31_method_5_code 149 = .ok (.ireturn, 1) := by decide +kernel
theorem own_ef_rm7 (m : MethodId) (x0 : Addr) (x1 : Int32) : entryFrame m #[(.ref x0), (.int x1)] 2 = mkF m 0 #[.val (.ref x0), .val (.int x1)] [] := by first | (simp [entryFrame, mkF, argsToLocals, Value.category]; done) | rfl
def Q7 (Z : State) (a : Addr) (x : Int32) (k : Nat) (y : Int32) (h0 : Heap) (n0 : Nat) (v : Option Value) (h : Heap) (L : List Loc) : Prop := (own_beg k = none ∧ v = some (.int 0) ∧ Fr n0 L ∧ Keep h0 h [a]) ∨ ∃ nd lo hi : Nat, own_beg k = some (nd, lo, hi) ∧ v = some (.int 1) ∧ Fr n0 L ∧ Keep h0 h [a] ∧ Fld Z h a "com/example/mapwright/mapwright/Utf8Check" "needed" "I" (.int (Int32.ofNat nd)) ∧ Fld Z h a "com/example/mapwright/mapwright/Utf8Check" "least" "I" (.int (Int32.ofNat lo)) ∧ Fld Z h a "com/example/mapwright/mapwright/Utf8Check" "greatest" "I" (.int (Int32.ofNat hi))
set_option maxRecDepth 65536 in
set_option maxHeartbeats 40000000 in
theorem rm7 (l : Launch) (Z : State) (a0 : Array Value) (hw : ∀ d ∈ tables_1, d.before a0 Z = true) (ws : List Jvm.Cond) (a : Addr) (x : Int32) (k : Nat) (y : Int32) (h0 : Heap) (n0 : Nat) (Z0 : n0 ≤ h0.size) (E : Exa Z h0 a "com/example/mapwright/mapwright/Utf8Check") (F0 : Fld Z h0 a "com/example/mapwright/mapwright/Utf8Check" "needed" "I" (.int y)) (F1 : Fld Z h0 a "com/example/mapwright/mapwright/Utf8Check" "least" "I" (.int (Int32.ofNat 128))) (F2 : Fld Z h0 a "com/example/mapwright/mapwright/Utf8Check" "greatest" "I" (.int (Int32.ofNat 191))) (ga : n0 ≤ a) (hk : x.toInt = k) :
    MetFree l (⟨"com/example/mapwright/mapwright/Utf8Check", "begin", "(I)Z"⟩ : MethodName) (head1 (Jvm.Cond.code (⟨"com/example/mapwright/mapwright/Utf8Check", "begin", "(I)Z"⟩ : MethodName) prog_31_method_5_code 2 (some .boolean) :: ws) ({ frames := 0, cells := 0, slots := 0, locals := 0 } : Room)) (fun aa_ U_ => aa_ = #[(.ref a), (.int x)] ∧ Z.Warmed39 U_.vm ∧ U_.heap = h0) (fun _ _ _ _ _ => True) (fun _ U_ o_ U1_ => ∃ v_ L_, o_ = .returned v_ ∧ Q7 Z a x k y h0 n0 v_ U1_.heap L_ ∧ FrameEnd U_ o_ U1_ L_ ({ frames := 0, cells := 0, slots := 0, locals := 0 } : Room).cells ({ frames := 0, cells := 0, slots := 0, locals := 0 } : Room).slots) := by
  refine MetFree.of_bodySF (plainFor_of_name own_pn0) hisR ?_
  intro p e s m args below meth c s₁ Bd hml0 hP hK
  obtain ⟨rfl, hZ, hh⟩ := hP
  have hx := Bd.exec
  have hby := Bd.bytes
  have hlk := Bd.notSynchronized
  have hml : c.maxLocals = 2 := hml0
  have hown : s.vm.findClass "com/example/mapwright/mapwright/Utf8Check" = some m.cls := findClass_of_methodNamed Bd.named
  have hnm := (name_of_methodNamed Bd.named Bd.method).1
  have X0 : Stand p l e ({ frames := 0, cells := 0, slots := 0, locals := 0 } : Room) s m #[(.ref a), (.int x)] below meth c s₁ [] 0 0 := Stand.of_body Bd
  have e0 : s₁.heap = h0 := by rw [← hh, Bd.state]; rfl
  have N0 := Fr.nil n0
  show own_E p e below s (Q7 Z a x k y h0 n0) ({ frames := 0, cells := 0, slots := 0, locals := 0 } : Room).cells ({ frames := 0, cells := 0, slots := 0, locals := 0 } : Room).slots (s₁.setTop (entryFrame m #[(.ref a), (.int x)] 2))
  refine own_st (B := s₁.setTop (mkF m 0 #[.val (.ref a), .val (.int x)] [])) (fun t_ k_ => castTop (own_ef_rm7 m a x) k_) ?_
  have K0 : Keep h0 h0 [a] := Keep.refl _ _
  refine own_st (B := s₁.setTop (mkF m 1 #[.val (.ref a), .val (.int x)] [(.int x)])) (fun t_ k_ => XS.iloadN X0.here hx rfl (hb hby own_b7_d0) rfl k_) ?_
  refine own_st (B := s₁.setTop (mkF m 4 #[.val (.ref a), .val (.int x)] [(.int (194 : Int32)), (.int x)])) (fun t_ k_ => XS.sipush X0.here hx rfl (hb hby own_b7_d1) k_) ?_
  by_cases hc1 : x < (194 : Int32)
  · have hd1 := own_lt32 hc1
    rw [show (194 : Int32).toInt = 194 from rfl] at hd1
    refine own_st (B := s₁.setTop (mkF m 22 #[.val (.ref a), .val (.int x)] [])) (fun t_ k_ => XS.icmpYes X0.here hx rfl (pc0 := 4) (pc' := 22) rfl (hb hby own_b7_d4) rfl (tlt hc1).1 (by decide) (by decide) k_) ?_
    refine own_st (B := s₁.setTop (mkF m 23 #[.val (.ref a), .val (.int x)] [(.int x)])) (fun t_ k_ => XS.iloadN X0.here hx rfl (hb hby own_b7_d22) rfl k_) ?_
    refine own_st (B := s₁.setTop (mkF m 26 #[.val (.ref a), .val (.int x)] [(.int (224 : Int32)), (.int x)])) (fun t_ k_ => XS.sipush X0.here hx rfl (hb hby own_b7_d23) k_) ?_
    by_cases hc2 : x < (224 : Int32)
    · have hd2 := own_lt32 hc2
      rw [show (224 : Int32).toInt = 224 from rfl] at hd2
      refine own_st (B := s₁.setTop (mkF m 84 #[.val (.ref a), .val (.int x)] [])) (fun t_ k_ => XS.icmpYes X0.here hx rfl (pc0 := 26) (pc' := 84) rfl (hb hby own_b7_d26) rfl (tlt hc2).1 (by decide) (by decide) k_) ?_
      refine own_st (B := s₁.setTop (mkF m 85 #[.val (.ref a), .val (.int x)] [(.int x)])) (fun t_ k_ => XS.iloadN X0.here hx rfl (hb hby own_b7_d84) rfl k_) ?_
      refine own_st (B := s₁.setTop (mkF m 88 #[.val (.ref a), .val (.int x)] [(.int (240 : Int32)), (.int x)])) (fun t_ k_ => XS.sipush X0.here hx rfl (hb hby own_b7_d85) k_) ?_
      by_cases hc3 : x < (240 : Int32)
      · have hd3 := own_lt32 hc3
        rw [show (240 : Int32).toInt = 240 from rfl] at hd3
        refine own_st (B := s₁.setTop (mkF m 146 #[.val (.ref a), .val (.int x)] [])) (fun t_ k_ => XS.icmpYes X0.here hx rfl (pc0 := 88) (pc' := 146) rfl (hb hby own_b7_d88) rfl (tlt hc3).1 (by decide) (by decide) k_) ?_
        refine own_st (B := s₁.setTop (mkF m 147 #[.val (.ref a), .val (.int x)] [(.int (0 : Int32))])) (fun t_ k_ => XS.iconst X0.here hx rfl (hb hby own_b7_d146) k_) ?_
        refine own_retN X0 hx (t := .boolean) Bd.returns (by simp) hlk (hb hby own_b7_d147) (z' := (0 : Int32)) (by first | rfl | exact own_nb _) (by decide) (by decide) ?_
        show Q7 Z a x k y h0 n0 _ s₁.heap _
        rw [e0]
        exact Or.inl ⟨own_begN (by omega) (by omega) (by omega), rfl, N0, K0⟩
      · have hd3 := own_nlt32 hc3
        rw [show (240 : Int32).toInt = 240 from rfl] at hd3
        refine own_st (B := s₁.setTop (mkF m 91 #[.val (.ref a), .val (.int x)] [])) (fun t_ k_ => XS.icmpNo X0.here hx rfl (hb hby own_b7_d88) rfl (flt hc3).1 k_) ?_
        refine own_st (B := s₁.setTop (mkF m 92 #[.val (.ref a), .val (.int x)] [(.int x)])) (fun t_ k_ => XS.iloadN X0.here hx rfl (hb hby own_b7_d91) rfl k_) ?_
        refine own_st (B := s₁.setTop (mkF m 95 #[.val (.ref a), .val (.int x)] [(.int (244 : Int32)), (.int x)])) (fun t_ k_ => XS.sipush X0.here hx rfl (hb hby own_b7_d92) k_) ?_
        by_cases hc4 : (244 : Int32) < x
        · have hd4 := own_lt32 hc4
          rw [show (244 : Int32).toInt = 244 from rfl] at hd4
          refine own_st (B := s₁.setTop (mkF m 146 #[.val (.ref a), .val (.int x)] [])) (fun t_ k_ => XS.icmpYes X0.here hx rfl (pc0 := 95) (pc' := 146) rfl (hb hby own_b7_d95) rfl (tlt hc4).2.2.1 (by decide) (by decide) k_) ?_
          refine own_st (B := s₁.setTop (mkF m 147 #[.val (.ref a), .val (.int x)] [(.int (0 : Int32))])) (fun t_ k_ => XS.iconst X0.here hx rfl (hb hby own_b7_d146) k_) ?_
          refine own_retN X0 hx (t := .boolean) Bd.returns (by simp) hlk (hb hby own_b7_d147) (z' := (0 : Int32)) (by first | rfl | exact own_nb _) (by decide) (by decide) ?_
          show Q7 Z a x k y h0 n0 _ s₁.heap _
          rw [e0]
          exact Or.inl ⟨own_begN (by omega) (by omega) (by omega), rfl, N0, K0⟩
        · have hd4 := own_nlt32 hc4
          rw [show (244 : Int32).toInt = 244 from rfl] at hd4
          refine own_st (B := s₁.setTop (mkF m 98 #[.val (.ref a), .val (.int x)] [])) (fun t_ k_ => XS.icmpNo X0.here hx rfl (hb hby own_b7_d95) rfl (flt hc4).2.2.1 k_) ?_
          refine own_st (B := s₁.setTop (mkF m 99 #[.val (.ref a), .val (.int x)] [(.ref a)])) (fun t_ k_ => XS.aloadN X0.here hx rfl (hb hby own_b7_d98) rfl rfl k_) ?_
          refine own_st (B := s₁.setTop (mkF m 100 #[.val (.ref a), .val (.int x)] [(.int (3 : Int32)), (.ref a)])) (fun t_ k_ => XS.iconst X0.here hx rfl (hb hby own_b7_d99) k_) ?_
          obtain ⟨T5, h5, X5, e5, W5, st5⟩ := putF X0 hx hZ hown (host := "") (Or.inl (hw _ (List.mem_of_getElem? (i := 29) rfl))) Via.refl e0 F0 E (Or.inl (hw _ (List.mem_of_getElem? (i := 30) rfl))) (hw _ (List.mem_of_getElem? (i := 12) rfl)) (ty := .int) (by decide) rfl rfl (g := (mkF m 100 #[.val (.ref a), .val (.int x)] [(.int (3 : Int32)), (.ref a)])) rfl rfl (hb hby own_b7_d100)
          have Fw5 := F0.same W5
          have N5 := Fr.snoc X5 N0 ga
          have Z6 := Nat.le_trans Z0 (Keep.of_wr W5).1
          have K7 := K0.wr W5 (Or.inl (List.mem_of_getElem? (i := 0) rfl))
          refine own_st (B := T5.setTop (mkF m 103 #[.val (.ref a), .val (.int x)] [])) st5 ?_
          refine own_st (B := T5.setTop (mkF m 104 #[.val (.ref a), .val (.int x)] [(.ref a)])) (fun t_ k_ => XS.aloadN X5.here hx rfl (hb hby own_b7_d103) rfl rfl k_) ?_
          refine own_st (B := T5.setTop (mkF m 105 #[.val (.ref a), .val (.int x)] [(.int x), (.ref a)])) (fun t_ k_ => XS.iloadN X5.here hx rfl (hb hby own_b7_d104) rfl k_) ?_
          refine own_st (B := T5.setTop (mkF m 108 #[.val (.ref a), .val (.int x)] [(.int (240 : Int32)), (.int x), (.ref a)])) (fun t_ k_ => XS.sipush X5.here hx rfl (hb hby own_b7_d105) k_) ?_
          by_cases hc8 : x = (240 : Int32)
          · have hd8 := own_eq32 hc8
            rw [show (240 : Int32).toInt = 240 from rfl] at hd8
            refine own_st (B := T5.setTop (mkF m 111 #[.val (.ref a), .val (.int x)] [(.ref a)])) (fun t_ k_ => XS.icmpNo X5.here hx rfl (hb hby own_b7_d108) rfl (teq hc8).2 k_) ?_
            refine own_st (B := T5.setTop (mkF m 114 #[.val (.ref a), .val (.int x)] [(.int (144 : Int32)), (.ref a)])) (fun t_ k_ => XS.sipush X5.here hx rfl (hb hby own_b7_d111) k_) ?_
            refine own_st (B := T5.setTop (mkF m 120 #[.val (.ref a), .val (.int x)] [(.int (144 : Int32)), (.ref a)])) (fun t_ k_ => XS.goto X5.here hx rfl (pc0 := 114) (pc' := 120) rfl (hb hby own_b7_d114) (by decide) (by decide) k_) ?_
            have u9 := E.wr W5
            have u10 := F1.other W5 (Or.inr (slot_ne (Or.inl (hw _ (List.mem_of_getElem? (i := 21) rfl))) (Or.inl (hw _ (List.mem_of_getElem? (i := 30) rfl))) (by decide) (t := .int) (t' := .int) (by decide) (by decide)))
            obtain ⟨T11, h11, X11, e11, W11, st11⟩ := putF X5 hx hZ hown (host := "") (Or.inl (hw _ (List.mem_of_getElem? (i := 20) rfl))) Via.refl e5 u10 u9 (Or.inl (hw _ (List.mem_of_getElem? (i := 21) rfl))) (hw _ (List.mem_of_getElem? (i := 12) rfl)) (ty := .int) (by decide) rfl rfl (g := (mkF m 120 #[.val (.ref a), .val (.int x)] [(.int (144 : Int32)), (.ref a)])) rfl rfl (hb hby own_b7_d120)
            have Fw11 := u10.same W11
            have N11 := Fr.snoc X11 N5 ga
            have Z12 := Nat.le_trans Z6 (Keep.of_wr W11).1
            have K13 := K7.wr W11 (Or.inl (List.mem_of_getElem? (i := 0) rfl))
            refine own_st (B := T11.setTop (mkF m 123 #[.val (.ref a), .val (.int x)] [])) st11 ?_
            refine own_st (B := T11.setTop (mkF m 124 #[.val (.ref a), .val (.int x)] [(.ref a)])) (fun t_ k_ => XS.aloadN X11.here hx rfl (hb hby own_b7_d123) rfl rfl k_) ?_
            refine own_st (B := T11.setTop (mkF m 125 #[.val (.ref a), .val (.int x)] [(.int x), (.ref a)])) (fun t_ k_ => XS.iloadN X11.here hx rfl (hb hby own_b7_d124) rfl k_) ?_
            refine own_st (B := T11.setTop (mkF m 128 #[.val (.ref a), .val (.int x)] [(.int (244 : Int32)), (.int x), (.ref a)])) (fun t_ k_ => XS.sipush X11.here hx rfl (hb hby own_b7_d125) k_) ?_
            by_cases hc14 : x = (244 : Int32)
            · have hd14 := own_eq32 hc14
              rw [show (244 : Int32).toInt = 244 from rfl] at hd14
              refine own_st (B := T11.setTop (mkF m 131 #[.val (.ref a), .val (.int x)] [(.ref a)])) (fun t_ k_ => XS.icmpNo X11.here hx rfl (hb hby own_b7_d128) rfl (teq hc14).2 k_) ?_
              refine own_st (B := T11.setTop (mkF m 134 #[.val (.ref a), .val (.int x)] [(.int (143 : Int32)), (.ref a)])) (fun t_ k_ => XS.sipush X11.here hx rfl (hb hby own_b7_d131) k_) ?_
              refine own_st (B := T11.setTop (mkF m 140 #[.val (.ref a), .val (.int x)] [(.int (143 : Int32)), (.ref a)])) (fun t_ k_ => XS.goto X11.here hx rfl (pc0 := 134) (pc' := 140) rfl (hb hby own_b7_d134) (by decide) (by decide) k_) ?_
              have u15 := u9.wr W11
              have u16 := F2.other W5 (Or.inr (slot_ne (Or.inl (hw _ (List.mem_of_getElem? (i := 23) rfl))) (Or.inl (hw _ (List.mem_of_getElem? (i := 30) rfl))) (by decide) (t := .int) (t' := .int) (by decide) (by decide)))
              have u17 := u16.other W11 (Or.inr (slot_ne (Or.inl (hw _ (List.mem_of_getElem? (i := 23) rfl))) (Or.inl (hw _ (List.mem_of_getElem? (i := 21) rfl))) (by decide) (t := .int) (t' := .int) (by decide) (by decide)))
              obtain ⟨T18, h18, X18, e18, W18, st18⟩ := putF X11 hx hZ hown (host := "") (Or.inl (hw _ (List.mem_of_getElem? (i := 22) rfl))) Via.refl e11 u17 u15 (Or.inl (hw _ (List.mem_of_getElem? (i := 23) rfl))) (hw _ (List.mem_of_getElem? (i := 12) rfl)) (ty := .int) (by decide) rfl rfl (g := (mkF m 140 #[.val (.ref a), .val (.int x)] [(.int (143 : Int32)), (.ref a)])) rfl rfl (hb hby own_b7_d140)
              have Fw18 := u17.same W18
              have N18 := Fr.snoc X18 N11 ga
              have Z19 := Nat.le_trans Z12 (Keep.of_wr W18).1
              have K20 := K13.wr W18 (Or.inl (List.mem_of_getElem? (i := 0) rfl))
              refine own_st (B := T18.setTop (mkF m 143 #[.val (.ref a), .val (.int x)] [])) st18 ?_
              refine own_st (B := T18.setTop (mkF m 148 #[.val (.ref a), .val (.int x)] [])) (fun t_ k_ => XS.goto X18.here hx rfl (pc0 := 143) (pc' := 148) rfl (hb hby own_b7_d143) (by decide) (by decide) k_) ?_
              refine own_st (B := T18.setTop (mkF m 149 #[.val (.ref a), .val (.int x)] [(.int (1 : Int32))])) (fun t_ k_ => XS.iconst X18.here hx rfl (hb hby own_b7_d148) k_) ?_
              refine own_retN X18 hx (t := .boolean) Bd.returns (by simp) hlk (hb hby own_b7_d149) (z' := (1 : Int32)) (by first | rfl | exact own_nb _) (by decide) (by decide) ?_
              show Q7 Z a x k y h0 n0 _ T18.heap _
              rw [e18]
              have u21 := Fw5.other W11 (Or.inr (slot_ne (Or.inl (hw _ (List.mem_of_getElem? (i := 30) rfl))) (Or.inl (hw _ (List.mem_of_getElem? (i := 21) rfl))) (by decide) (t := .int) (t' := .int) (by decide) (by decide)))
              have u22 := u21.other W18 (Or.inr (slot_ne (Or.inl (hw _ (List.mem_of_getElem? (i := 30) rfl))) (Or.inl (hw _ (List.mem_of_getElem? (i := 23) rfl))) (by decide) (t := .int) (t' := .int) (by decide) (by decide)))
              have u23 := Fw11.other W18 (Or.inr (slot_ne (Or.inl (hw _ (List.mem_of_getElem? (i := 21) rfl))) (Or.inl (hw _ (List.mem_of_getElem? (i := 23) rfl))) (by decide) (t := .int) (t' := .int) (by decide) (by decide)))
              exact Or.inr ⟨3, 144, 143, (own_beg3 (by omega) (if_pos (by omega)) (if_pos (by omega))), rfl, N18, K20, u22, u23, Fw18⟩
            · have hd14 := own_neq32 hc14
              rw [show (244 : Int32).toInt = 244 from rfl] at hd14
              refine own_st (B := T11.setTop (mkF m 137 #[.val (.ref a), .val (.int x)] [(.ref a)])) (fun t_ k_ => XS.icmpYes X11.here hx rfl (pc0 := 128) (pc' := 137) rfl (hb hby own_b7_d128) rfl (feq hc14).2 (by decide) (by decide) k_) ?_
              refine own_st (B := T11.setTop (mkF m 140 #[.val (.ref a), .val (.int x)] [(.int (191 : Int32)), (.ref a)])) (fun t_ k_ => XS.sipush X11.here hx rfl (hb hby own_b7_d137) k_) ?_
              have u24 := u9.wr W11
              have u25 := F2.other W5 (Or.inr (slot_ne (Or.inl (hw _ (List.mem_of_getElem? (i := 23) rfl))) (Or.inl (hw _ (List.mem_of_getElem? (i := 30) rfl))) (by decide) (t := .int) (t' := .int) (by decide) (by decide)))
              have u26 := u25.other W11 (Or.inr (slot_ne (Or.inl (hw _ (List.mem_of_getElem? (i := 23) rfl))) (Or.inl (hw _ (List.mem_of_getElem? (i := 21) rfl))) (by decide) (t := .int) (t' := .int) (by decide) (by decide)))
              obtain ⟨T27, h27, X27, e27, W27, st27⟩ := putF X11 hx hZ hown (host := "") (Or.inl (hw _ (List.mem_of_getElem? (i := 22) rfl))) Via.refl e11 u26 u24 (Or.inl (hw _ (List.mem_of_getElem? (i := 23) rfl))) (hw _ (List.mem_of_getElem? (i := 12) rfl)) (ty := .int) (by decide) rfl rfl (g := (mkF m 140 #[.val (.ref a), .val (.int x)] [(.int (191 : Int32)), (.ref a)])) rfl rfl (hb hby own_b7_d140)
              have Fw27 := u26.same W27
              have N27 := Fr.snoc X27 N11 ga
              have Z28 := Nat.le_trans Z12 (Keep.of_wr W27).1
              have K29 := K13.wr W27 (Or.inl (List.mem_of_getElem? (i := 0) rfl))
              refine own_st (B := T27.setTop (mkF m 143 #[.val (.ref a), .val (.int x)] [])) st27 ?_
              refine own_st (B := T27.setTop (mkF m 148 #[.val (.ref a), .val (.int x)] [])) (fun t_ k_ => XS.goto X27.here hx rfl (pc0 := 143) (pc' := 148) rfl (hb hby own_b7_d143) (by decide) (by decide) k_) ?_
              refine own_st (B := T27.setTop (mkF m 149 #[.val (.ref a), .val (.int x)] [(.int (1 : Int32))])) (fun t_ k_ => XS.iconst X27.here hx rfl (hb hby own_b7_d148) k_) ?_
              refine own_retN X27 hx (t := .boolean) Bd.returns (by simp) hlk (hb hby own_b7_d149) (z' := (1 : Int32)) (by first | rfl | exact own_nb _) (by decide) (by decide) ?_
              show Q7 Z a x k y h0 n0 _ T27.heap _
              rw [e27]
              have u30 := Fw5.other W11 (Or.inr (slot_ne (Or.inl (hw _ (List.mem_of_getElem? (i := 30) rfl))) (Or.inl (hw _ (List.mem_of_getElem? (i := 21) rfl))) (by decide) (t := .int) (t' := .int) (by decide) (by decide)))
              have u31 := u30.other W27 (Or.inr (slot_ne (Or.inl (hw _ (List.mem_of_getElem? (i := 30) rfl))) (Or.inl (hw _ (List.mem_of_getElem? (i := 23) rfl))) (by decide) (t := .int) (t' := .int) (by decide) (by decide)))
              have u32 := Fw11.other W27 (Or.inr (slot_ne (Or.inl (hw _ (List.mem_of_getElem? (i := 21) rfl))) (Or.inl (hw _ (List.mem_of_getElem? (i := 23) rfl))) (by decide) (t := .int) (t' := .int) (by decide) (by decide)))
              exact Or.inr ⟨3, 144, 191, (own_beg3 (by omega) (if_pos (by omega)) (if_neg (by omega))), rfl, N27, K29, u31, u32, Fw27⟩
          · have hd8 := own_neq32 hc8
            rw [show (240 : Int32).toInt = 240 from rfl] at hd8
            refine own_st (B := T5.setTop (mkF m 117 #[.val (.ref a), .val (.int x)] [(.ref a)])) (fun t_ k_ => XS.icmpYes X5.here hx rfl (pc0 := 108) (pc' := 117) rfl (hb hby own_b7_d108) rfl (feq hc8).2 (by decide) (by decide) k_) ?_
            refine own_st (B := T5.setTop (mkF m 120 #[.val (.ref a), .val (.int x)] [(.int (128 : Int32)), (.ref a)])) (fun t_ k_ => XS.sipush X5.here hx rfl (hb hby own_b7_d117) k_) ?_
            have u33 := E.wr W5
            have u34 := F1.other W5 (Or.inr (slot_ne (Or.inl (hw _ (List.mem_of_getElem? (i := 21) rfl))) (Or.inl (hw _ (List.mem_of_getElem? (i := 30) rfl))) (by decide) (t := .int) (t' := .int) (by decide) (by decide)))
            obtain ⟨T35, h35, X35, e35, W35, st35⟩ := putF X5 hx hZ hown (host := "") (Or.inl (hw _ (List.mem_of_getElem? (i := 20) rfl))) Via.refl e5 u34 u33 (Or.inl (hw _ (List.mem_of_getElem? (i := 21) rfl))) (hw _ (List.mem_of_getElem? (i := 12) rfl)) (ty := .int) (by decide) rfl rfl (g := (mkF m 120 #[.val (.ref a), .val (.int x)] [(.int (128 : Int32)), (.ref a)])) rfl rfl (hb hby own_b7_d120)
            have Fw35 := u34.same W35
            have N35 := Fr.snoc X35 N5 ga
            have Z36 := Nat.le_trans Z6 (Keep.of_wr W35).1
            have K37 := K7.wr W35 (Or.inl (List.mem_of_getElem? (i := 0) rfl))
            refine own_st (B := T35.setTop (mkF m 123 #[.val (.ref a), .val (.int x)] [])) st35 ?_
            refine own_st (B := T35.setTop (mkF m 124 #[.val (.ref a), .val (.int x)] [(.ref a)])) (fun t_ k_ => XS.aloadN X35.here hx rfl (hb hby own_b7_d123) rfl rfl k_) ?_
            refine own_st (B := T35.setTop (mkF m 125 #[.val (.ref a), .val (.int x)] [(.int x), (.ref a)])) (fun t_ k_ => XS.iloadN X35.here hx rfl (hb hby own_b7_d124) rfl k_) ?_
            refine own_st (B := T35.setTop (mkF m 128 #[.val (.ref a), .val (.int x)] [(.int (244 : Int32)), (.int x), (.ref a)])) (fun t_ k_ => XS.sipush X35.here hx rfl (hb hby own_b7_d125) k_) ?_
            by_cases hc38 : x = (244 : Int32)
            · have hd38 := own_eq32 hc38
              rw [show (244 : Int32).toInt = 244 from rfl] at hd38
              refine own_st (B := T35.setTop (mkF m 131 #[.val (.ref a), .val (.int x)] [(.ref a)])) (fun t_ k_ => XS.icmpNo X35.here hx rfl (hb hby own_b7_d128) rfl (teq hc38).2 k_) ?_
              refine own_st (B := T35.setTop (mkF m 134 #[.val (.ref a), .val (.int x)] [(.int (143 : Int32)), (.ref a)])) (fun t_ k_ => XS.sipush X35.here hx rfl (hb hby own_b7_d131) k_) ?_
              refine own_st (B := T35.setTop (mkF m 140 #[.val (.ref a), .val (.int x)] [(.int (143 : Int32)), (.ref a)])) (fun t_ k_ => XS.goto X35.here hx rfl (pc0 := 134) (pc' := 140) rfl (hb hby own_b7_d134) (by decide) (by decide) k_) ?_
              have u39 := u33.wr W35
              have u40 := F2.other W5 (Or.inr (slot_ne (Or.inl (hw _ (List.mem_of_getElem? (i := 23) rfl))) (Or.inl (hw _ (List.mem_of_getElem? (i := 30) rfl))) (by decide) (t := .int) (t' := .int) (by decide) (by decide)))
              have u41 := u40.other W35 (Or.inr (slot_ne (Or.inl (hw _ (List.mem_of_getElem? (i := 23) rfl))) (Or.inl (hw _ (List.mem_of_getElem? (i := 21) rfl))) (by decide) (t := .int) (t' := .int) (by decide) (by decide)))
              obtain ⟨T42, h42, X42, e42, W42, st42⟩ := putF X35 hx hZ hown (host := "") (Or.inl (hw _ (List.mem_of_getElem? (i := 22) rfl))) Via.refl e35 u41 u39 (Or.inl (hw _ (List.mem_of_getElem? (i := 23) rfl))) (hw _ (List.mem_of_getElem? (i := 12) rfl)) (ty := .int) (by decide) rfl rfl (g := (mkF m 140 #[.val (.ref a), .val (.int x)] [(.int (143 : Int32)), (.ref a)])) rfl rfl (hb hby own_b7_d140)
              have Fw42 := u41.same W42
              have N42 := Fr.snoc X42 N35 ga
              have Z43 := Nat.le_trans Z36 (Keep.of_wr W42).1
              have K44 := K37.wr W42 (Or.inl (List.mem_of_getElem? (i := 0) rfl))
              refine own_st (B := T42.setTop (mkF m 143 #[.val (.ref a), .val (.int x)] [])) st42 ?_
              refine own_st (B := T42.setTop (mkF m 148 #[.val (.ref a), .val (.int x)] [])) (fun t_ k_ => XS.goto X42.here hx rfl (pc0 := 143) (pc' := 148) rfl (hb hby own_b7_d143) (by decide) (by decide) k_) ?_
              refine own_st (B := T42.setTop (mkF m 149 #[.val (.ref a), .val (.int x)] [(.int (1 : Int32))])) (fun t_ k_ => XS.iconst X42.here hx rfl (hb hby own_b7_d148) k_) ?_
              refine own_retN X42 hx (t := .boolean) Bd.returns (by simp) hlk (hb hby own_b7_d149) (z' := (1 : Int32)) (by first | rfl | exact own_nb _) (by decide) (by decide) ?_
              show Q7 Z a x k y h0 n0 _ T42.heap _
              rw [e42]
              have u45 := Fw5.other W35 (Or.inr (slot_ne (Or.inl (hw _ (List.mem_of_getElem? (i := 30) rfl))) (Or.inl (hw _ (List.mem_of_getElem? (i := 21) rfl))) (by decide) (t := .int) (t' := .int) (by decide) (by decide)))
              have u46 := u45.other W42 (Or.inr (slot_ne (Or.inl (hw _ (List.mem_of_getElem? (i := 30) rfl))) (Or.inl (hw _ (List.mem_of_getElem? (i := 23) rfl))) (by decide) (t := .int) (t' := .int) (by decide) (by decide)))
              have u47 := Fw35.other W42 (Or.inr (slot_ne (Or.inl (hw _ (List.mem_of_getElem? (i := 21) rfl))) (Or.inl (hw _ (List.mem_of_getElem? (i := 23) rfl))) (by decide) (t := .int) (t' := .int) (by decide) (by decide)))
              exact Or.inr ⟨3, 128, 143, (own_beg3 (by omega) (if_neg (by omega)) (if_pos (by omega))), rfl, N42, K44, u46, u47, Fw42⟩
            · have hd38 := own_neq32 hc38
              rw [show (244 : Int32).toInt = 244 from rfl] at hd38
              refine own_st (B := T35.setTop (mkF m 137 #[.val (.ref a), .val (.int x)] [(.ref a)])) (fun t_ k_ => XS.icmpYes X35.here hx rfl (pc0 := 128) (pc' := 137) rfl (hb hby own_b7_d128) rfl (feq hc38).2 (by decide) (by decide) k_) ?_
              refine own_st (B := T35.setTop (mkF m 140 #[.val (.ref a), .val (.int x)] [(.int (191 : Int32)), (.ref a)])) (fun t_ k_ => XS.sipush X35.here hx rfl (hb hby own_b7_d137) k_) ?_
              have u48 := u33.wr W35
              have u49 := F2.other W5 (Or.inr (slot_ne (Or.inl (hw _ (List.mem_of_getElem? (i := 23) rfl))) (Or.inl (hw _ (List.mem_of_getElem? (i := 30) rfl))) (by decide) (t := .int) (t' := .int) (by decide) (by decide)))
              have u50 := u49.other W35 (Or.inr (slot_ne (Or.inl (hw _ (List.mem_of_getElem? (i := 23) rfl))) (Or.inl (hw _ (List.mem_of_getElem? (i := 21) rfl))) (by decide) (t := .int) (t' := .int) (by decide) (by decide)))
              obtain ⟨T51, h51, X51, e51, W51, st51⟩ := putF X35 hx hZ hown (host := "") (Or.inl (hw _ (List.mem_of_getElem? (i := 22) rfl))) Via.refl e35 u50 u48 (Or.inl (hw _ (List.mem_of_getElem? (i := 23) rfl))) (hw _ (List.mem_of_getElem? (i := 12) rfl)) (ty := .int) (by decide) rfl rfl (g := (mkF m 140 #[.val (.ref a), .val (.int x)] [(.int (191 : Int32)), (.ref a)])) rfl rfl (hb hby own_b7_d140)
              have Fw51 := u50.same W51
              have N51 := Fr.snoc X51 N35 ga
              have Z52 := Nat.le_trans Z36 (Keep.of_wr W51).1
              have K53 := K37.wr W51 (Or.inl (List.mem_of_getElem? (i := 0) rfl))
              refine own_st (B := T51.setTop (mkF m 143 #[.val (.ref a), .val (.int x)] [])) st51 ?_
              refine own_st (B := T51.setTop (mkF m 148 #[.val (.ref a), .val (.int x)] [])) (fun t_ k_ => XS.goto X51.here hx rfl (pc0 := 143) (pc' := 148) rfl (hb hby own_b7_d143) (by decide) (by decide) k_) ?_
              refine own_st (B := T51.setTop (mkF m 149 #[.val (.ref a), .val (.int x)] [(.int (1 : Int32))])) (fun t_ k_ => XS.iconst X51.here hx rfl (hb hby own_b7_d148) k_) ?_
              refine own_retN X51 hx (t := .boolean) Bd.returns (by simp) hlk (hb hby own_b7_d149) (z' := (1 : Int32)) (by first | rfl | exact own_nb _) (by decide) (by decide) ?_
              show Q7 Z a x k y h0 n0 _ T51.heap _
              rw [e51]
              have u54 := Fw5.other W35 (Or.inr (slot_ne (Or.inl (hw _ (List.mem_of_getElem? (i := 30) rfl))) (Or.inl (hw _ (List.mem_of_getElem? (i := 21) rfl))) (by decide) (t := .int) (t' := .int) (by decide) (by decide)))
              have u55 := u54.other W51 (Or.inr (slot_ne (Or.inl (hw _ (List.mem_of_getElem? (i := 30) rfl))) (Or.inl (hw _ (List.mem_of_getElem? (i := 23) rfl))) (by decide) (t := .int) (t' := .int) (by decide) (by decide)))
              have u56 := Fw35.other W51 (Or.inr (slot_ne (Or.inl (hw _ (List.mem_of_getElem? (i := 21) rfl))) (Or.inl (hw _ (List.mem_of_getElem? (i := 23) rfl))) (by decide) (t := .int) (t' := .int) (by decide) (by decide)))
              exact Or.inr ⟨3, 128, 191, (own_beg3 (by omega) (if_neg (by omega)) (if_neg (by omega))), rfl, N51, K53, u55, u56, Fw51⟩
    · have hd2 := own_nlt32 hc2
      rw [show (224 : Int32).toInt = 224 from rfl] at hd2
      refine own_st (B := s₁.setTop (mkF m 29 #[.val (.ref a), .val (.int x)] [])) (fun t_ k_ => XS.icmpNo X0.here hx rfl (hb hby own_b7_d26) rfl (flt hc2).1 k_) ?_
      refine own_st (B := s₁.setTop (mkF m 30 #[.val (.ref a), .val (.int x)] [(.int x)])) (fun t_ k_ => XS.iloadN X0.here hx rfl (hb hby own_b7_d29) rfl k_) ?_
      refine own_st (B := s₁.setTop (mkF m 33 #[.val (.ref a), .val (.int x)] [(.int (239 : Int32)), (.int x)])) (fun t_ k_ => XS.sipush X0.here hx rfl (hb hby own_b7_d30) k_) ?_
      by_cases hc57 : (239 : Int32) < x
      · have hd57 := own_lt32 hc57
        rw [show (239 : Int32).toInt = 239 from rfl] at hd57
        refine own_st (B := s₁.setTop (mkF m 84 #[.val (.ref a), .val (.int x)] [])) (fun t_ k_ => XS.icmpYes X0.here hx rfl (pc0 := 33) (pc' := 84) rfl (hb hby own_b7_d33) rfl (tlt hc57).2.2.1 (by decide) (by decide) k_) ?_
        refine own_st (B := s₁.setTop (mkF m 85 #[.val (.ref a), .val (.int x)] [(.int x)])) (fun t_ k_ => XS.iloadN X0.here hx rfl (hb hby own_b7_d84) rfl k_) ?_
        refine own_st (B := s₁.setTop (mkF m 88 #[.val (.ref a), .val (.int x)] [(.int (240 : Int32)), (.int x)])) (fun t_ k_ => XS.sipush X0.here hx rfl (hb hby own_b7_d85) k_) ?_
        by_cases hc58 : x < (240 : Int32)
        · have hd58 := own_lt32 hc58
          rw [show (240 : Int32).toInt = 240 from rfl] at hd58
          refine own_st (B := s₁.setTop (mkF m 146 #[.val (.ref a), .val (.int x)] [])) (fun t_ k_ => XS.icmpYes X0.here hx rfl (pc0 := 88) (pc' := 146) rfl (hb hby own_b7_d88) rfl (tlt hc58).1 (by decide) (by decide) k_) ?_
          refine own_st (B := s₁.setTop (mkF m 147 #[.val (.ref a), .val (.int x)] [(.int (0 : Int32))])) (fun t_ k_ => XS.iconst X0.here hx rfl (hb hby own_b7_d146) k_) ?_
          refine own_retN X0 hx (t := .boolean) Bd.returns (by simp) hlk (hb hby own_b7_d147) (z' := (0 : Int32)) (by first | rfl | exact own_nb _) (by decide) (by decide) ?_
          show Q7 Z a x k y h0 n0 _ s₁.heap _
          rw [e0]
          exact Or.inl ⟨own_begN (by omega) (by omega) (by omega), rfl, N0, K0⟩
        · have hd58 := own_nlt32 hc58
          rw [show (240 : Int32).toInt = 240 from rfl] at hd58
          refine own_st (B := s₁.setTop (mkF m 91 #[.val (.ref a), .val (.int x)] [])) (fun t_ k_ => XS.icmpNo X0.here hx rfl (hb hby own_b7_d88) rfl (flt hc58).1 k_) ?_
          refine own_st (B := s₁.setTop (mkF m 92 #[.val (.ref a), .val (.int x)] [(.int x)])) (fun t_ k_ => XS.iloadN X0.here hx rfl (hb hby own_b7_d91) rfl k_) ?_
          refine own_st (B := s₁.setTop (mkF m 95 #[.val (.ref a), .val (.int x)] [(.int (244 : Int32)), (.int x)])) (fun t_ k_ => XS.sipush X0.here hx rfl (hb hby own_b7_d92) k_) ?_
          by_cases hc59 : (244 : Int32) < x
          · have hd59 := own_lt32 hc59
            rw [show (244 : Int32).toInt = 244 from rfl] at hd59
            refine own_st (B := s₁.setTop (mkF m 146 #[.val (.ref a), .val (.int x)] [])) (fun t_ k_ => XS.icmpYes X0.here hx rfl (pc0 := 95) (pc' := 146) rfl (hb hby own_b7_d95) rfl (tlt hc59).2.2.1 (by decide) (by decide) k_) ?_
            refine own_st (B := s₁.setTop (mkF m 147 #[.val (.ref a), .val (.int x)] [(.int (0 : Int32))])) (fun t_ k_ => XS.iconst X0.here hx rfl (hb hby own_b7_d146) k_) ?_
            refine own_retN X0 hx (t := .boolean) Bd.returns (by simp) hlk (hb hby own_b7_d147) (z' := (0 : Int32)) (by first | rfl | exact own_nb _) (by decide) (by decide) ?_
            show Q7 Z a x k y h0 n0 _ s₁.heap _
            rw [e0]
            exact Or.inl ⟨own_begN (by omega) (by omega) (by omega), rfl, N0, K0⟩
          · have hd59 := own_nlt32 hc59
            rw [show (244 : Int32).toInt = 244 from rfl] at hd59
            refine own_st (B := s₁.setTop (mkF m 98 #[.val (.ref a), .val (.int x)] [])) (fun t_ k_ => XS.icmpNo X0.here hx rfl (hb hby own_b7_d95) rfl (flt hc59).2.2.1 k_) ?_
            refine own_st (B := s₁.setTop (mkF m 99 #[.val (.ref a), .val (.int x)] [(.ref a)])) (fun t_ k_ => XS.aloadN X0.here hx rfl (hb hby own_b7_d98) rfl rfl k_) ?_
            refine own_st (B := s₁.setTop (mkF m 100 #[.val (.ref a), .val (.int x)] [(.int (3 : Int32)), (.ref a)])) (fun t_ k_ => XS.iconst X0.here hx rfl (hb hby own_b7_d99) k_) ?_
            obtain ⟨T60, h60, X60, e60, W60, st60⟩ := putF X0 hx hZ hown (host := "") (Or.inl (hw _ (List.mem_of_getElem? (i := 29) rfl))) Via.refl e0 F0 E (Or.inl (hw _ (List.mem_of_getElem? (i := 30) rfl))) (hw _ (List.mem_of_getElem? (i := 12) rfl)) (ty := .int) (by decide) rfl rfl (g := (mkF m 100 #[.val (.ref a), .val (.int x)] [(.int (3 : Int32)), (.ref a)])) rfl rfl (hb hby own_b7_d100)
            have Fw60 := F0.same W60
            have N60 := Fr.snoc X60 N0 ga
            have Z61 := Nat.le_trans Z0 (Keep.of_wr W60).1
            have K62 := K0.wr W60 (Or.inl (List.mem_of_getElem? (i := 0) rfl))
            refine own_st (B := T60.setTop (mkF m 103 #[.val (.ref a), .val (.int x)] [])) st60 ?_
            refine own_st (B := T60.setTop (mkF m 104 #[.val (.ref a), .val (.int x)] [(.ref a)])) (fun t_ k_ => XS.aloadN X60.here hx rfl (hb hby own_b7_d103) rfl rfl k_) ?_
            refine own_st (B := T60.setTop (mkF m 105 #[.val (.ref a), .val (.int x)] [(.int x), (.ref a)])) (fun t_ k_ => XS.iloadN X60.here hx rfl (hb hby own_b7_d104) rfl k_) ?_
            refine own_st (B := T60.setTop (mkF m 108 #[.val (.ref a), .val (.int x)] [(.int (240 : Int32)), (.int x), (.ref a)])) (fun t_ k_ => XS.sipush X60.here hx rfl (hb hby own_b7_d105) k_) ?_
            by_cases hc63 : x = (240 : Int32)
            · have hd63 := own_eq32 hc63
              rw [show (240 : Int32).toInt = 240 from rfl] at hd63
              refine own_st (B := T60.setTop (mkF m 111 #[.val (.ref a), .val (.int x)] [(.ref a)])) (fun t_ k_ => XS.icmpNo X60.here hx rfl (hb hby own_b7_d108) rfl (teq hc63).2 k_) ?_
              refine own_st (B := T60.setTop (mkF m 114 #[.val (.ref a), .val (.int x)] [(.int (144 : Int32)), (.ref a)])) (fun t_ k_ => XS.sipush X60.here hx rfl (hb hby own_b7_d111) k_) ?_
              refine own_st (B := T60.setTop (mkF m 120 #[.val (.ref a), .val (.int x)] [(.int (144 : Int32)), (.ref a)])) (fun t_ k_ => XS.goto X60.here hx rfl (pc0 := 114) (pc' := 120) rfl (hb hby own_b7_d114) (by decide) (by decide) k_) ?_
              have u64 := E.wr W60
              have u65 := F1.other W60 (Or.inr (slot_ne (Or.inl (hw _ (List.mem_of_getElem? (i := 21) rfl))) (Or.inl (hw _ (List.mem_of_getElem? (i := 30) rfl))) (by decide) (t := .int) (t' := .int) (by decide) (by decide)))
              obtain ⟨T66, h66, X66, e66, W66, st66⟩ := putF X60 hx hZ hown (host := "") (Or.inl (hw _ (List.mem_of_getElem? (i := 20) rfl))) Via.refl e60 u65 u64 (Or.inl (hw _ (List.mem_of_getElem? (i := 21) rfl))) (hw _ (List.mem_of_getElem? (i := 12) rfl)) (ty := .int) (by decide) rfl rfl (g := (mkF m 120 #[.val (.ref a), .val (.int x)] [(.int (144 : Int32)), (.ref a)])) rfl rfl (hb hby own_b7_d120)
              have Fw66 := u65.same W66
              have N66 := Fr.snoc X66 N60 ga
              have Z67 := Nat.le_trans Z61 (Keep.of_wr W66).1
              have K68 := K62.wr W66 (Or.inl (List.mem_of_getElem? (i := 0) rfl))
              refine own_st (B := T66.setTop (mkF m 123 #[.val (.ref a), .val (.int x)] [])) st66 ?_
              refine own_st (B := T66.setTop (mkF m 124 #[.val (.ref a), .val (.int x)] [(.ref a)])) (fun t_ k_ => XS.aloadN X66.here hx rfl (hb hby own_b7_d123) rfl rfl k_) ?_
              refine own_st (B := T66.setTop (mkF m 125 #[.val (.ref a), .val (.int x)] [(.int x), (.ref a)])) (fun t_ k_ => XS.iloadN X66.here hx rfl (hb hby own_b7_d124) rfl k_) ?_
              refine own_st (B := T66.setTop (mkF m 128 #[.val (.ref a), .val (.int x)] [(.int (244 : Int32)), (.int x), (.ref a)])) (fun t_ k_ => XS.sipush X66.here hx rfl (hb hby own_b7_d125) k_) ?_
              by_cases hc69 : x = (244 : Int32)
              · have hd69 := own_eq32 hc69
                rw [show (244 : Int32).toInt = 244 from rfl] at hd69
                refine own_st (B := T66.setTop (mkF m 131 #[.val (.ref a), .val (.int x)] [(.ref a)])) (fun t_ k_ => XS.icmpNo X66.here hx rfl (hb hby own_b7_d128) rfl (teq hc69).2 k_) ?_
                refine own_st (B := T66.setTop (mkF m 134 #[.val (.ref a), .val (.int x)] [(.int (143 : Int32)), (.ref a)])) (fun t_ k_ => XS.sipush X66.here hx rfl (hb hby own_b7_d131) k_) ?_
                refine own_st (B := T66.setTop (mkF m 140 #[.val (.ref a), .val (.int x)] [(.int (143 : Int32)), (.ref a)])) (fun t_ k_ => XS.goto X66.here hx rfl (pc0 := 134) (pc' := 140) rfl (hb hby own_b7_d134) (by decide) (by decide) k_) ?_
                have u70 := u64.wr W66
                have u71 := F2.other W60 (Or.inr (slot_ne (Or.inl (hw _ (List.mem_of_getElem? (i := 23) rfl))) (Or.inl (hw _ (List.mem_of_getElem? (i := 30) rfl))) (by decide) (t := .int) (t' := .int) (by decide) (by decide)))
                have u72 := u71.other W66 (Or.inr (slot_ne (Or.inl (hw _ (List.mem_of_getElem? (i := 23) rfl))) (Or.inl (hw _ (List.mem_of_getElem? (i := 21) rfl))) (by decide) (t := .int) (t' := .int) (by decide) (by decide)))
                obtain ⟨T73, h73, X73, e73, W73, st73⟩ := putF X66 hx hZ hown (host := "") (Or.inl (hw _ (List.mem_of_getElem? (i := 22) rfl))) Via.refl e66 u72 u70 (Or.inl (hw _ (List.mem_of_getElem? (i := 23) rfl))) (hw _ (List.mem_of_getElem? (i := 12) rfl)) (ty := .int) (by decide) rfl rfl (g := (mkF m 140 #[.val (.ref a), .val (.int x)] [(.int (143 : Int32)), (.ref a)])) rfl rfl (hb hby own_b7_d140)
                have Fw73 := u72.same W73
                have N73 := Fr.snoc X73 N66 ga
                have Z74 := Nat.le_trans Z67 (Keep.of_wr W73).1
                have K75 := K68.wr W73 (Or.inl (List.mem_of_getElem? (i := 0) rfl))
                refine own_st (B := T73.setTop (mkF m 143 #[.val (.ref a), .val (.int x)] [])) st73 ?_
                refine own_st (B := T73.setTop (mkF m 148 #[.val (.ref a), .val (.int x)] [])) (fun t_ k_ => XS.goto X73.here hx rfl (pc0 := 143) (pc' := 148) rfl (hb hby own_b7_d143) (by decide) (by decide) k_) ?_
                refine own_st (B := T73.setTop (mkF m 149 #[.val (.ref a), .val (.int x)] [(.int (1 : Int32))])) (fun t_ k_ => XS.iconst X73.here hx rfl (hb hby own_b7_d148) k_) ?_
                refine own_retN X73 hx (t := .boolean) Bd.returns (by simp) hlk (hb hby own_b7_d149) (z' := (1 : Int32)) (by first | rfl | exact own_nb _) (by decide) (by decide) ?_
                show Q7 Z a x k y h0 n0 _ T73.heap _
                rw [e73]
                have u76 := Fw60.other W66 (Or.inr (slot_ne (Or.inl (hw _ (List.mem_of_getElem? (i := 30) rfl))) (Or.inl (hw _ (List.mem_of_getElem? (i := 21) rfl))) (by decide) (t := .int) (t' := .int) (by decide) (by decide)))
                have u77 := u76.other W73 (Or.inr (slot_ne (Or.inl (hw _ (List.mem_of_getElem? (i := 30) rfl))) (Or.inl (hw _ (List.mem_of_getElem? (i := 23) rfl))) (by decide) (t := .int) (t' := .int) (by decide) (by decide)))
                have u78 := Fw66.other W73 (Or.inr (slot_ne (Or.inl (hw _ (List.mem_of_getElem? (i := 21) rfl))) (Or.inl (hw _ (List.mem_of_getElem? (i := 23) rfl))) (by decide) (t := .int) (t' := .int) (by decide) (by decide)))
                exact Or.inr ⟨3, 144, 143, (own_beg3 (by omega) (if_pos (by omega)) (if_pos (by omega))), rfl, N73, K75, u77, u78, Fw73⟩
              · have hd69 := own_neq32 hc69
                rw [show (244 : Int32).toInt = 244 from rfl] at hd69
                refine own_st (B := T66.setTop (mkF m 137 #[.val (.ref a), .val (.int x)] [(.ref a)])) (fun t_ k_ => XS.icmpYes X66.here hx rfl (pc0 := 128) (pc' := 137) rfl (hb hby own_b7_d128) rfl (feq hc69).2 (by decide) (by decide) k_) ?_
                refine own_st (B := T66.setTop (mkF m 140 #[.val (.ref a), .val (.int x)] [(.int (191 : Int32)), (.ref a)])) (fun t_ k_ => XS.sipush X66.here hx rfl (hb hby own_b7_d137) k_) ?_
                have u79 := u64.wr W66
                have u80 := F2.other W60 (Or.inr (slot_ne (Or.inl (hw _ (List.mem_of_getElem? (i := 23) rfl))) (Or.inl (hw _ (List.mem_of_getElem? (i := 30) rfl))) (by decide) (t := .int) (t' := .int) (by decide) (by decide)))
                have u81 := u80.other W66 (Or.inr (slot_ne (Or.inl (hw _ (List.mem_of_getElem? (i := 23) rfl))) (Or.inl (hw _ (List.mem_of_getElem? (i := 21) rfl))) (by decide) (t := .int) (t' := .int) (by decide) (by decide)))
                obtain ⟨T82, h82, X82, e82, W82, st82⟩ := putF X66 hx hZ hown (host := "") (Or.inl (hw _ (List.mem_of_getElem? (i := 22) rfl))) Via.refl e66 u81 u79 (Or.inl (hw _ (List.mem_of_getElem? (i := 23) rfl))) (hw _ (List.mem_of_getElem? (i := 12) rfl)) (ty := .int) (by decide) rfl rfl (g := (mkF m 140 #[.val (.ref a), .val (.int x)] [(.int (191 : Int32)), (.ref a)])) rfl rfl (hb hby own_b7_d140)
                have Fw82 := u81.same W82
                have N82 := Fr.snoc X82 N66 ga
                have Z83 := Nat.le_trans Z67 (Keep.of_wr W82).1
                have K84 := K68.wr W82 (Or.inl (List.mem_of_getElem? (i := 0) rfl))
                refine own_st (B := T82.setTop (mkF m 143 #[.val (.ref a), .val (.int x)] [])) st82 ?_
                refine own_st (B := T82.setTop (mkF m 148 #[.val (.ref a), .val (.int x)] [])) (fun t_ k_ => XS.goto X82.here hx rfl (pc0 := 143) (pc' := 148) rfl (hb hby own_b7_d143) (by decide) (by decide) k_) ?_
                refine own_st (B := T82.setTop (mkF m 149 #[.val (.ref a), .val (.int x)] [(.int (1 : Int32))])) (fun t_ k_ => XS.iconst X82.here hx rfl (hb hby own_b7_d148) k_) ?_
                refine own_retN X82 hx (t := .boolean) Bd.returns (by simp) hlk (hb hby own_b7_d149) (z' := (1 : Int32)) (by first | rfl | exact own_nb _) (by decide) (by decide) ?_
                show Q7 Z a x k y h0 n0 _ T82.heap _
                rw [e82]
                have u85 := Fw60.other W66 (Or.inr (slot_ne (Or.inl (hw _ (List.mem_of_getElem? (i := 30) rfl))) (Or.inl (hw _ (List.mem_of_getElem? (i := 21) rfl))) (by decide) (t := .int) (t' := .int) (by decide) (by decide)))
                have u86 := u85.other W82 (Or.inr (slot_ne (Or.inl (hw _ (List.mem_of_getElem? (i := 30) rfl))) (Or.inl (hw _ (List.mem_of_getElem? (i := 23) rfl))) (by decide) (t := .int) (t' := .int) (by decide) (by decide)))
                have u87 := Fw66.other W82 (Or.inr (slot_ne (Or.inl (hw _ (List.mem_of_getElem? (i := 21) rfl))) (Or.inl (hw _ (List.mem_of_getElem? (i := 23) rfl))) (by decide) (t := .int) (t' := .int) (by decide) (by decide)))
                exact Or.inr ⟨3, 144, 191, (own_beg3 (by omega) (if_pos (by omega)) (if_neg (by omega))), rfl, N82, K84, u86, u87, Fw82⟩
            · have hd63 := own_neq32 hc63
              rw [show (240 : Int32).toInt = 240 from rfl] at hd63
              refine own_st (B := T60.setTop (mkF m 117 #[.val (.ref a), .val (.int x)] [(.ref a)])) (fun t_ k_ => XS.icmpYes X60.here hx rfl (pc0 := 108) (pc' := 117) rfl (hb hby own_b7_d108) rfl (feq hc63).2 (by decide) (by decide) k_) ?_
              refine own_st (B := T60.setTop (mkF m 120 #[.val (.ref a), .val (.int x)] [(.int (128 : Int32)), (.ref a)])) (fun t_ k_ => XS.sipush X60.here hx rfl (hb hby own_b7_d117) k_) ?_
              have u88 := E.wr W60
              have u89 := F1.other W60 (Or.inr (slot_ne (Or.inl (hw _ (List.mem_of_getElem? (i := 21) rfl))) (Or.inl (hw _ (List.mem_of_getElem? (i := 30) rfl))) (by decide) (t := .int) (t' := .int) (by decide) (by decide)))
              obtain ⟨T90, h90, X90, e90, W90, st90⟩ := putF X60 hx hZ hown (host := "") (Or.inl (hw _ (List.mem_of_getElem? (i := 20) rfl))) Via.refl e60 u89 u88 (Or.inl (hw _ (List.mem_of_getElem? (i := 21) rfl))) (hw _ (List.mem_of_getElem? (i := 12) rfl)) (ty := .int) (by decide) rfl rfl (g := (mkF m 120 #[.val (.ref a), .val (.int x)] [(.int (128 : Int32)), (.ref a)])) rfl rfl (hb hby own_b7_d120)
              have Fw90 := u89.same W90
              have N90 := Fr.snoc X90 N60 ga
              have Z91 := Nat.le_trans Z61 (Keep.of_wr W90).1
              have K92 := K62.wr W90 (Or.inl (List.mem_of_getElem? (i := 0) rfl))
              refine own_st (B := T90.setTop (mkF m 123 #[.val (.ref a), .val (.int x)] [])) st90 ?_
              refine own_st (B := T90.setTop (mkF m 124 #[.val (.ref a), .val (.int x)] [(.ref a)])) (fun t_ k_ => XS.aloadN X90.here hx rfl (hb hby own_b7_d123) rfl rfl k_) ?_
              refine own_st (B := T90.setTop (mkF m 125 #[.val (.ref a), .val (.int x)] [(.int x), (.ref a)])) (fun t_ k_ => XS.iloadN X90.here hx rfl (hb hby own_b7_d124) rfl k_) ?_
              refine own_st (B := T90.setTop (mkF m 128 #[.val (.ref a), .val (.int x)] [(.int (244 : Int32)), (.int x), (.ref a)])) (fun t_ k_ => XS.sipush X90.here hx rfl (hb hby own_b7_d125) k_) ?_
              by_cases hc93 : x = (244 : Int32)
              · have hd93 := own_eq32 hc93
                rw [show (244 : Int32).toInt = 244 from rfl] at hd93
                refine own_st (B := T90.setTop (mkF m 131 #[.val (.ref a), .val (.int x)] [(.ref a)])) (fun t_ k_ => XS.icmpNo X90.here hx rfl (hb hby own_b7_d128) rfl (teq hc93).2 k_) ?_
                refine own_st (B := T90.setTop (mkF m 134 #[.val (.ref a), .val (.int x)] [(.int (143 : Int32)), (.ref a)])) (fun t_ k_ => XS.sipush X90.here hx rfl (hb hby own_b7_d131) k_) ?_
                refine own_st (B := T90.setTop (mkF m 140 #[.val (.ref a), .val (.int x)] [(.int (143 : Int32)), (.ref a)])) (fun t_ k_ => XS.goto X90.here hx rfl (pc0 := 134) (pc' := 140) rfl (hb hby own_b7_d134) (by decide) (by decide) k_) ?_
                have u94 := u88.wr W90
                have u95 := F2.other W60 (Or.inr (slot_ne (Or.inl (hw _ (List.mem_of_getElem? (i := 23) rfl))) (Or.inl (hw _ (List.mem_of_getElem? (i := 30) rfl))) (by decide) (t := .int) (t' := .int) (by decide) (by decide)))
                have u96 := u95.other W90 (Or.inr (slot_ne (Or.inl (hw _ (List.mem_of_getElem? (i := 23) rfl))) (Or.inl (hw _ (List.mem_of_getElem? (i := 21) rfl))) (by decide) (t := .int) (t' := .int) (by decide) (by decide)))
                obtain ⟨T97, h97, X97, e97, W97, st97⟩ := putF X90 hx hZ hown (host := "") (Or.inl (hw _ (List.mem_of_getElem? (i := 22) rfl))) Via.refl e90 u96 u94 (Or.inl (hw _ (List.mem_of_getElem? (i := 23) rfl))) (hw _ (List.mem_of_getElem? (i := 12) rfl)) (ty := .int) (by decide) rfl rfl (g := (mkF m 140 #[.val (.ref a), .val (.int x)] [(.int (143 : Int32)), (.ref a)])) rfl rfl (hb hby own_b7_d140)
                have Fw97 := u96.same W97
                have N97 := Fr.snoc X97 N90 ga
                have Z98 := Nat.le_trans Z91 (Keep.of_wr W97).1
                have K99 := K92.wr W97 (Or.inl (List.mem_of_getElem? (i := 0) rfl))
                refine own_st (B := T97.setTop (mkF m 143 #[.val (.ref a), .val (.int x)] [])) st97 ?_
                refine own_st (B := T97.setTop (mkF m 148 #[.val (.ref a), .val (.int x)] [])) (fun t_ k_ => XS.goto X97.here hx rfl (pc0 := 143) (pc' := 148) rfl (hb hby own_b7_d143) (by decide) (by decide) k_) ?_
                refine own_st (B := T97.setTop (mkF m 149 #[.val (.ref a), .val (.int x)] [(.int (1 : Int32))])) (fun t_ k_ => XS.iconst X97.here hx rfl (hb hby own_b7_d148) k_) ?_
                refine own_retN X97 hx (t := .boolean) Bd.returns (by simp) hlk (hb hby own_b7_d149) (z' := (1 : Int32)) (by first | rfl | exact own_nb _) (by decide) (by decide) ?_
                show Q7 Z a x k y h0 n0 _ T97.heap _
                rw [e97]
                have u100 := Fw60.other W90 (Or.inr (slot_ne (Or.inl (hw _ (List.mem_of_getElem? (i := 30) rfl))) (Or.inl (hw _ (List.mem_of_getElem? (i := 21) rfl))) (by decide) (t := .int) (t' := .int) (by decide) (by decide)))
                have u101 := u100.other W97 (Or.inr (slot_ne (Or.inl (hw _ (List.mem_of_getElem? (i := 30) rfl))) (Or.inl (hw _ (List.mem_of_getElem? (i := 23) rfl))) (by decide) (t := .int) (t' := .int) (by decide) (by decide)))
                have u102 := Fw90.other W97 (Or.inr (slot_ne (Or.inl (hw _ (List.mem_of_getElem? (i := 21) rfl))) (Or.inl (hw _ (List.mem_of_getElem? (i := 23) rfl))) (by decide) (t := .int) (t' := .int) (by decide) (by decide)))
                exact Or.inr ⟨3, 128, 143, (own_beg3 (by omega) (if_neg (by omega)) (if_pos (by omega))), rfl, N97, K99, u101, u102, Fw97⟩
              · have hd93 := own_neq32 hc93
                rw [show (244 : Int32).toInt = 244 from rfl] at hd93
                refine own_st (B := T90.setTop (mkF m 137 #[.val (.ref a), .val (.int x)] [(.ref a)])) (fun t_ k_ => XS.icmpYes X90.here hx rfl (pc0 := 128) (pc' := 137) rfl (hb hby own_b7_d128) rfl (feq hc93).2 (by decide) (by decide) k_) ?_
                refine own_st (B := T90.setTop (mkF m 140 #[.val (.ref a), .val (.int x)] [(.int (191 : Int32)), (.ref a)])) (fun t_ k_ => XS.sipush X90.here hx rfl (hb hby own_b7_d137) k_) ?_
                have u103 := u88.wr W90
                have u104 := F2.other W60 (Or.inr (slot_ne (Or.inl (hw _ (List.mem_of_getElem? (i := 23) rfl))) (Or.inl (hw _ (List.mem_of_getElem? (i := 30) rfl))) (by decide) (t := .int) (t' := .int) (by decide) (by decide)))
                have u105 := u104.other W90 (Or.inr (slot_ne (Or.inl (hw _ (List.mem_of_getElem? (i := 23) rfl))) (Or.inl (hw _ (List.mem_of_getElem? (i := 21) rfl))) (by decide) (t := .int) (t' := .int) (by decide) (by decide)))
                obtain ⟨T106, h106, X106, e106, W106, st106⟩ := putF X90 hx hZ hown (host := "") (Or.inl (hw _ (List.mem_of_getElem? (i := 22) rfl))) Via.refl e90 u105 u103 (Or.inl (hw _ (List.mem_of_getElem? (i := 23) rfl))) (hw _ (List.mem_of_getElem? (i := 12) rfl)) (ty := .int) (by decide) rfl rfl (g := (mkF m 140 #[.val (.ref a), .val (.int x)] [(.int (191 : Int32)), (.ref a)])) rfl rfl (hb hby own_b7_d140)
                have Fw106 := u105.same W106
                have N106 := Fr.snoc X106 N90 ga
                have Z107 := Nat.le_trans Z91 (Keep.of_wr W106).1
                have K108 := K92.wr W106 (Or.inl (List.mem_of_getElem? (i := 0) rfl))
                refine own_st (B := T106.setTop (mkF m 143 #[.val (.ref a), .val (.int x)] [])) st106 ?_
                refine own_st (B := T106.setTop (mkF m 148 #[.val (.ref a), .val (.int x)] [])) (fun t_ k_ => XS.goto X106.here hx rfl (pc0 := 143) (pc' := 148) rfl (hb hby own_b7_d143) (by decide) (by decide) k_) ?_
                refine own_st (B := T106.setTop (mkF m 149 #[.val (.ref a), .val (.int x)] [(.int (1 : Int32))])) (fun t_ k_ => XS.iconst X106.here hx rfl (hb hby own_b7_d148) k_) ?_
                refine own_retN X106 hx (t := .boolean) Bd.returns (by simp) hlk (hb hby own_b7_d149) (z' := (1 : Int32)) (by first | rfl | exact own_nb _) (by decide) (by decide) ?_
                show Q7 Z a x k y h0 n0 _ T106.heap _
                rw [e106]
                have u109 := Fw60.other W90 (Or.inr (slot_ne (Or.inl (hw _ (List.mem_of_getElem? (i := 30) rfl))) (Or.inl (hw _ (List.mem_of_getElem? (i := 21) rfl))) (by decide) (t := .int) (t' := .int) (by decide) (by decide)))
                have u110 := u109.other W106 (Or.inr (slot_ne (Or.inl (hw _ (List.mem_of_getElem? (i := 30) rfl))) (Or.inl (hw _ (List.mem_of_getElem? (i := 23) rfl))) (by decide) (t := .int) (t' := .int) (by decide) (by decide)))
                have u111 := Fw90.other W106 (Or.inr (slot_ne (Or.inl (hw _ (List.mem_of_getElem? (i := 21) rfl))) (Or.inl (hw _ (List.mem_of_getElem? (i := 23) rfl))) (by decide) (t := .int) (t' := .int) (by decide) (by decide)))
                exact Or.inr ⟨3, 128, 191, (own_beg3 (by omega) (if_neg (by omega)) (if_neg (by omega))), rfl, N106, K108, u110, u111, Fw106⟩
      · have hd57 := own_nlt32 hc57
        rw [show (239 : Int32).toInt = 239 from rfl] at hd57
        refine own_st (B := s₁.setTop (mkF m 36 #[.val (.ref a), .val (.int x)] [])) (fun t_ k_ => XS.icmpNo X0.here hx rfl (hb hby own_b7_d33) rfl (flt hc57).2.2.1 k_) ?_
        refine own_st (B := s₁.setTop (mkF m 37 #[.val (.ref a), .val (.int x)] [(.ref a)])) (fun t_ k_ => XS.aloadN X0.here hx rfl (hb hby own_b7_d36) rfl rfl k_) ?_
        refine own_st (B := s₁.setTop (mkF m 38 #[.val (.ref a), .val (.int x)] [(.int (2 : Int32)), (.ref a)])) (fun t_ k_ => XS.iconst X0.here hx rfl (hb hby own_b7_d37) k_) ?_
        obtain ⟨T112, h112, X112, e112, W112, st112⟩ := putF X0 hx hZ hown (host := "") (Or.inl (hw _ (List.mem_of_getElem? (i := 29) rfl))) Via.refl e0 F0 E (Or.inl (hw _ (List.mem_of_getElem? (i := 30) rfl))) (hw _ (List.mem_of_getElem? (i := 12) rfl)) (ty := .int) (by decide) rfl rfl (g := (mkF m 38 #[.val (.ref a), .val (.int x)] [(.int (2 : Int32)), (.ref a)])) rfl rfl (hb hby own_b7_d38)
        have Fw112 := F0.same W112
        have N112 := Fr.snoc X112 N0 ga
        have Z113 := Nat.le_trans Z0 (Keep.of_wr W112).1
        have K114 := K0.wr W112 (Or.inl (List.mem_of_getElem? (i := 0) rfl))
        refine own_st (B := T112.setTop (mkF m 41 #[.val (.ref a), .val (.int x)] [])) st112 ?_
        refine own_st (B := T112.setTop (mkF m 42 #[.val (.ref a), .val (.int x)] [(.ref a)])) (fun t_ k_ => XS.aloadN X112.here hx rfl (hb hby own_b7_d41) rfl rfl k_) ?_
        refine own_st (B := T112.setTop (mkF m 43 #[.val (.ref a), .val (.int x)] [(.int x), (.ref a)])) (fun t_ k_ => XS.iloadN X112.here hx rfl (hb hby own_b7_d42) rfl k_) ?_
        refine own_st (B := T112.setTop (mkF m 46 #[.val (.ref a), .val (.int x)] [(.int (224 : Int32)), (.int x), (.ref a)])) (fun t_ k_ => XS.sipush X112.here hx rfl (hb hby own_b7_d43) k_) ?_
        by_cases hc115 : x = (224 : Int32)
        · have hd115 := own_eq32 hc115
          rw [show (224 : Int32).toInt = 224 from rfl] at hd115
          refine own_st (B := T112.setTop (mkF m 49 #[.val (.ref a), .val (.int x)] [(.ref a)])) (fun t_ k_ => XS.icmpNo X112.here hx rfl (hb hby own_b7_d46) rfl (teq hc115).2 k_) ?_
          refine own_st (B := T112.setTop (mkF m 52 #[.val (.ref a), .val (.int x)] [(.int (160 : Int32)), (.ref a)])) (fun t_ k_ => XS.sipush X112.here hx rfl (hb hby own_b7_d49) k_) ?_
          refine own_st (B := T112.setTop (mkF m 58 #[.val (.ref a), .val (.int x)] [(.int (160 : Int32)), (.ref a)])) (fun t_ k_ => XS.goto X112.here hx rfl (pc0 := 52) (pc' := 58) rfl (hb hby own_b7_d52) (by decide) (by decide) k_) ?_
          have u116 := E.wr W112
          have u117 := F1.other W112 (Or.inr (slot_ne (Or.inl (hw _ (List.mem_of_getElem? (i := 21) rfl))) (Or.inl (hw _ (List.mem_of_getElem? (i := 30) rfl))) (by decide) (t := .int) (t' := .int) (by decide) (by decide)))
          obtain ⟨T118, h118, X118, e118, W118, st118⟩ := putF X112 hx hZ hown (host := "") (Or.inl (hw _ (List.mem_of_getElem? (i := 20) rfl))) Via.refl e112 u117 u116 (Or.inl (hw _ (List.mem_of_getElem? (i := 21) rfl))) (hw _ (List.mem_of_getElem? (i := 12) rfl)) (ty := .int) (by decide) rfl rfl (g := (mkF m 58 #[.val (.ref a), .val (.int x)] [(.int (160 : Int32)), (.ref a)])) rfl rfl (hb hby own_b7_d58)
          have Fw118 := u117.same W118
          have N118 := Fr.snoc X118 N112 ga
          have Z119 := Nat.le_trans Z113 (Keep.of_wr W118).1
          have K120 := K114.wr W118 (Or.inl (List.mem_of_getElem? (i := 0) rfl))
          refine own_st (B := T118.setTop (mkF m 61 #[.val (.ref a), .val (.int x)] [])) st118 ?_
          refine own_st (B := T118.setTop (mkF m 62 #[.val (.ref a), .val (.int x)] [(.ref a)])) (fun t_ k_ => XS.aloadN X118.here hx rfl (hb hby own_b7_d61) rfl rfl k_) ?_
          refine own_st (B := T118.setTop (mkF m 63 #[.val (.ref a), .val (.int x)] [(.int x), (.ref a)])) (fun t_ k_ => XS.iloadN X118.here hx rfl (hb hby own_b7_d62) rfl k_) ?_
          refine own_st (B := T118.setTop (mkF m 66 #[.val (.ref a), .val (.int x)] [(.int (237 : Int32)), (.int x), (.ref a)])) (fun t_ k_ => XS.sipush X118.here hx rfl (hb hby own_b7_d63) k_) ?_
          by_cases hc121 : x = (237 : Int32)
          · have hd121 := own_eq32 hc121
            rw [show (237 : Int32).toInt = 237 from rfl] at hd121
            refine own_st (B := T118.setTop (mkF m 69 #[.val (.ref a), .val (.int x)] [(.ref a)])) (fun t_ k_ => XS.icmpNo X118.here hx rfl (hb hby own_b7_d66) rfl (teq hc121).2 k_) ?_
            refine own_st (B := T118.setTop (mkF m 72 #[.val (.ref a), .val (.int x)] [(.int (159 : Int32)), (.ref a)])) (fun t_ k_ => XS.sipush X118.here hx rfl (hb hby own_b7_d69) k_) ?_
            refine own_st (B := T118.setTop (mkF m 78 #[.val (.ref a), .val (.int x)] [(.int (159 : Int32)), (.ref a)])) (fun t_ k_ => XS.goto X118.here hx rfl (pc0 := 72) (pc' := 78) rfl (hb hby own_b7_d72) (by decide) (by decide) k_) ?_
            have u122 := u116.wr W118
            have u123 := F2.other W112 (Or.inr (slot_ne (Or.inl (hw _ (List.mem_of_getElem? (i := 23) rfl))) (Or.inl (hw _ (List.mem_of_getElem? (i := 30) rfl))) (by decide) (t := .int) (t' := .int) (by decide) (by decide)))
            have u124 := u123.other W118 (Or.inr (slot_ne (Or.inl (hw _ (List.mem_of_getElem? (i := 23) rfl))) (Or.inl (hw _ (List.mem_of_getElem? (i := 21) rfl))) (by decide) (t := .int) (t' := .int) (by decide) (by decide)))
            obtain ⟨T125, h125, X125, e125, W125, st125⟩ := putF X118 hx hZ hown (host := "") (Or.inl (hw _ (List.mem_of_getElem? (i := 22) rfl))) Via.refl e118 u124 u122 (Or.inl (hw _ (List.mem_of_getElem? (i := 23) rfl))) (hw _ (List.mem_of_getElem? (i := 12) rfl)) (ty := .int) (by decide) rfl rfl (g := (mkF m 78 #[.val (.ref a), .val (.int x)] [(.int (159 : Int32)), (.ref a)])) rfl rfl (hb hby own_b7_d78)
            have Fw125 := u124.same W125
            have N125 := Fr.snoc X125 N118 ga
            have Z126 := Nat.le_trans Z119 (Keep.of_wr W125).1
            have K127 := K120.wr W125 (Or.inl (List.mem_of_getElem? (i := 0) rfl))
            refine own_st (B := T125.setTop (mkF m 81 #[.val (.ref a), .val (.int x)] [])) st125 ?_
            refine own_st (B := T125.setTop (mkF m 148 #[.val (.ref a), .val (.int x)] [])) (fun t_ k_ => XS.goto X125.here hx rfl (pc0 := 81) (pc' := 148) rfl (hb hby own_b7_d81) (by decide) (by decide) k_) ?_
            refine own_st (B := T125.setTop (mkF m 149 #[.val (.ref a), .val (.int x)] [(.int (1 : Int32))])) (fun t_ k_ => XS.iconst X125.here hx rfl (hb hby own_b7_d148) k_) ?_
            refine own_retN X125 hx (t := .boolean) Bd.returns (by simp) hlk (hb hby own_b7_d149) (z' := (1 : Int32)) (by first | rfl | exact own_nb _) (by decide) (by decide) ?_
            show Q7 Z a x k y h0 n0 _ T125.heap _
            rw [e125]
            have u128 := Fw112.other W118 (Or.inr (slot_ne (Or.inl (hw _ (List.mem_of_getElem? (i := 30) rfl))) (Or.inl (hw _ (List.mem_of_getElem? (i := 21) rfl))) (by decide) (t := .int) (t' := .int) (by decide) (by decide)))
            have u129 := u128.other W125 (Or.inr (slot_ne (Or.inl (hw _ (List.mem_of_getElem? (i := 30) rfl))) (Or.inl (hw _ (List.mem_of_getElem? (i := 23) rfl))) (by decide) (t := .int) (t' := .int) (by decide) (by decide)))
            have u130 := Fw118.other W125 (Or.inr (slot_ne (Or.inl (hw _ (List.mem_of_getElem? (i := 21) rfl))) (Or.inl (hw _ (List.mem_of_getElem? (i := 23) rfl))) (by decide) (t := .int) (t' := .int) (by decide) (by decide)))
            exact Or.inr ⟨2, 160, 159, (own_beg2 (by omega) (if_pos (by omega)) (if_pos (by omega))), rfl, N125, K127, u129, u130, Fw125⟩
          · have hd121 := own_neq32 hc121
            rw [show (237 : Int32).toInt = 237 from rfl] at hd121
            refine own_st (B := T118.setTop (mkF m 75 #[.val (.ref a), .val (.int x)] [(.ref a)])) (fun t_ k_ => XS.icmpYes X118.here hx rfl (pc0 := 66) (pc' := 75) rfl (hb hby own_b7_d66) rfl (feq hc121).2 (by decide) (by decide) k_) ?_
            refine own_st (B := T118.setTop (mkF m 78 #[.val (.ref a), .val (.int x)] [(.int (191 : Int32)), (.ref a)])) (fun t_ k_ => XS.sipush X118.here hx rfl (hb hby own_b7_d75) k_) ?_
            have u131 := u116.wr W118
            have u132 := F2.other W112 (Or.inr (slot_ne (Or.inl (hw _ (List.mem_of_getElem? (i := 23) rfl))) (Or.inl (hw _ (List.mem_of_getElem? (i := 30) rfl))) (by decide) (t := .int) (t' := .int) (by decide) (by decide)))
            have u133 := u132.other W118 (Or.inr (slot_ne (Or.inl (hw _ (List.mem_of_getElem? (i := 23) rfl))) (Or.inl (hw _ (List.mem_of_getElem? (i := 21) rfl))) (by decide) (t := .int) (t' := .int) (by decide) (by decide)))
            obtain ⟨T134, h134, X134, e134, W134, st134⟩ := putF X118 hx hZ hown (host := "") (Or.inl (hw _ (List.mem_of_getElem? (i := 22) rfl))) Via.refl e118 u133 u131 (Or.inl (hw _ (List.mem_of_getElem? (i := 23) rfl))) (hw _ (List.mem_of_getElem? (i := 12) rfl)) (ty := .int) (by decide) rfl rfl (g := (mkF m 78 #[.val (.ref a), .val (.int x)] [(.int (191 : Int32)), (.ref a)])) rfl rfl (hb hby own_b7_d78)
            have Fw134 := u133.same W134
            have N134 := Fr.snoc X134 N118 ga
            have Z135 := Nat.le_trans Z119 (Keep.of_wr W134).1
            have K136 := K120.wr W134 (Or.inl (List.mem_of_getElem? (i := 0) rfl))
            refine own_st (B := T134.setTop (mkF m 81 #[.val (.ref a), .val (.int x)] [])) st134 ?_
            refine own_st (B := T134.setTop (mkF m 148 #[.val (.ref a), .val (.int x)] [])) (fun t_ k_ => XS.goto X134.here hx rfl (pc0 := 81) (pc' := 148) rfl (hb hby own_b7_d81) (by decide) (by decide) k_) ?_
            refine own_st (B := T134.setTop (mkF m 149 #[.val (.ref a), .val (.int x)] [(.int (1 : Int32))])) (fun t_ k_ => XS.iconst X134.here hx rfl (hb hby own_b7_d148) k_) ?_
            refine own_retN X134 hx (t := .boolean) Bd.returns (by simp) hlk (hb hby own_b7_d149) (z' := (1 : Int32)) (by first | rfl | exact own_nb _) (by decide) (by decide) ?_
            show Q7 Z a x k y h0 n0 _ T134.heap _
            rw [e134]
            have u137 := Fw112.other W118 (Or.inr (slot_ne (Or.inl (hw _ (List.mem_of_getElem? (i := 30) rfl))) (Or.inl (hw _ (List.mem_of_getElem? (i := 21) rfl))) (by decide) (t := .int) (t' := .int) (by decide) (by decide)))
            have u138 := u137.other W134 (Or.inr (slot_ne (Or.inl (hw _ (List.mem_of_getElem? (i := 30) rfl))) (Or.inl (hw _ (List.mem_of_getElem? (i := 23) rfl))) (by decide) (t := .int) (t' := .int) (by decide) (by decide)))
            have u139 := Fw118.other W134 (Or.inr (slot_ne (Or.inl (hw _ (List.mem_of_getElem? (i := 21) rfl))) (Or.inl (hw _ (List.mem_of_getElem? (i := 23) rfl))) (by decide) (t := .int) (t' := .int) (by decide) (by decide)))
            exact Or.inr ⟨2, 160, 191, (own_beg2 (by omega) (if_pos (by omega)) (if_neg (by omega))), rfl, N134, K136, u138, u139, Fw134⟩
        · have hd115 := own_neq32 hc115
          rw [show (224 : Int32).toInt = 224 from rfl] at hd115
          refine own_st (B := T112.setTop (mkF m 55 #[.val (.ref a), .val (.int x)] [(.ref a)])) (fun t_ k_ => XS.icmpYes X112.here hx rfl (pc0 := 46) (pc' := 55) rfl (hb hby own_b7_d46) rfl (feq hc115).2 (by decide) (by decide) k_) ?_
          refine own_st (B := T112.setTop (mkF m 58 #[.val (.ref a), .val (.int x)] [(.int (128 : Int32)), (.ref a)])) (fun t_ k_ => XS.sipush X112.here hx rfl (hb hby own_b7_d55) k_) ?_
          have u140 := E.wr W112
          have u141 := F1.other W112 (Or.inr (slot_ne (Or.inl (hw _ (List.mem_of_getElem? (i := 21) rfl))) (Or.inl (hw _ (List.mem_of_getElem? (i := 30) rfl))) (by decide) (t := .int) (t' := .int) (by decide) (by decide)))
          obtain ⟨T142, h142, X142, e142, W142, st142⟩ := putF X112 hx hZ hown (host := "") (Or.inl (hw _ (List.mem_of_getElem? (i := 20) rfl))) Via.refl e112 u141 u140 (Or.inl (hw _ (List.mem_of_getElem? (i := 21) rfl))) (hw _ (List.mem_of_getElem? (i := 12) rfl)) (ty := .int) (by decide) rfl rfl (g := (mkF m 58 #[.val (.ref a), .val (.int x)] [(.int (128 : Int32)), (.ref a)])) rfl rfl (hb hby own_b7_d58)
          have Fw142 := u141.same W142
          have N142 := Fr.snoc X142 N112 ga
          have Z143 := Nat.le_trans Z113 (Keep.of_wr W142).1
          have K144 := K114.wr W142 (Or.inl (List.mem_of_getElem? (i := 0) rfl))
          refine own_st (B := T142.setTop (mkF m 61 #[.val (.ref a), .val (.int x)] [])) st142 ?_
          refine own_st (B := T142.setTop (mkF m 62 #[.val (.ref a), .val (.int x)] [(.ref a)])) (fun t_ k_ => XS.aloadN X142.here hx rfl (hb hby own_b7_d61) rfl rfl k_) ?_
          refine own_st (B := T142.setTop (mkF m 63 #[.val (.ref a), .val (.int x)] [(.int x), (.ref a)])) (fun t_ k_ => XS.iloadN X142.here hx rfl (hb hby own_b7_d62) rfl k_) ?_
          refine own_st (B := T142.setTop (mkF m 66 #[.val (.ref a), .val (.int x)] [(.int (237 : Int32)), (.int x), (.ref a)])) (fun t_ k_ => XS.sipush X142.here hx rfl (hb hby own_b7_d63) k_) ?_
          by_cases hc145 : x = (237 : Int32)
          · have hd145 := own_eq32 hc145
            rw [show (237 : Int32).toInt = 237 from rfl] at hd145
            refine own_st (B := T142.setTop (mkF m 69 #[.val (.ref a), .val (.int x)] [(.ref a)])) (fun t_ k_ => XS.icmpNo X142.here hx rfl (hb hby own_b7_d66) rfl (teq hc145).2 k_) ?_
            refine own_st (B := T142.setTop (mkF m 72 #[.val (.ref a), .val (.int x)] [(.int (159 : Int32)), (.ref a)])) (fun t_ k_ => XS.sipush X142.here hx rfl (hb hby own_b7_d69) k_) ?_
            refine own_st (B := T142.setTop (mkF m 78 #[.val (.ref a), .val (.int x)] [(.int (159 : Int32)), (.ref a)])) (fun t_ k_ => XS.goto X142.here hx rfl (pc0 := 72) (pc' := 78) rfl (hb hby own_b7_d72) (by decide) (by decide) k_) ?_
            have u146 := u140.wr W142
            have u147 := F2.other W112 (Or.inr (slot_ne (Or.inl (hw _ (List.mem_of_getElem? (i := 23) rfl))) (Or.inl (hw _ (List.mem_of_getElem? (i := 30) rfl))) (by decide) (t := .int) (t' := .int) (by decide) (by decide)))
            have u148 := u147.other W142 (Or.inr (slot_ne (Or.inl (hw _ (List.mem_of_getElem? (i := 23) rfl))) (Or.inl (hw _ (List.mem_of_getElem? (i := 21) rfl))) (by decide) (t := .int) (t' := .int) (by decide) (by decide)))
            obtain ⟨T149, h149, X149, e149, W149, st149⟩ := putF X142 hx hZ hown (host := "") (Or.inl (hw _ (List.mem_of_getElem? (i := 22) rfl))) Via.refl e142 u148 u146 (Or.inl (hw _ (List.mem_of_getElem? (i := 23) rfl))) (hw _ (List.mem_of_getElem? (i := 12) rfl)) (ty := .int) (by decide) rfl rfl (g := (mkF m 78 #[.val (.ref a), .val (.int x)] [(.int (159 : Int32)), (.ref a)])) rfl rfl (hb hby own_b7_d78)
            have Fw149 := u148.same W149
            have N149 := Fr.snoc X149 N142 ga
            have Z150 := Nat.le_trans Z143 (Keep.of_wr W149).1
            have K151 := K144.wr W149 (Or.inl (List.mem_of_getElem? (i := 0) rfl))
            refine own_st (B := T149.setTop (mkF m 81 #[.val (.ref a), .val (.int x)] [])) st149 ?_
            refine own_st (B := T149.setTop (mkF m 148 #[.val (.ref a), .val (.int x)] [])) (fun t_ k_ => XS.goto X149.here hx rfl (pc0 := 81) (pc' := 148) rfl (hb hby own_b7_d81) (by decide) (by decide) k_) ?_
            refine own_st (B := T149.setTop (mkF m 149 #[.val (.ref a), .val (.int x)] [(.int (1 : Int32))])) (fun t_ k_ => XS.iconst X149.here hx rfl (hb hby own_b7_d148) k_) ?_
            refine own_retN X149 hx (t := .boolean) Bd.returns (by simp) hlk (hb hby own_b7_d149) (z' := (1 : Int32)) (by first | rfl | exact own_nb _) (by decide) (by decide) ?_
            show Q7 Z a x k y h0 n0 _ T149.heap _
            rw [e149]
            have u152 := Fw112.other W142 (Or.inr (slot_ne (Or.inl (hw _ (List.mem_of_getElem? (i := 30) rfl))) (Or.inl (hw _ (List.mem_of_getElem? (i := 21) rfl))) (by decide) (t := .int) (t' := .int) (by decide) (by decide)))
            have u153 := u152.other W149 (Or.inr (slot_ne (Or.inl (hw _ (List.mem_of_getElem? (i := 30) rfl))) (Or.inl (hw _ (List.mem_of_getElem? (i := 23) rfl))) (by decide) (t := .int) (t' := .int) (by decide) (by decide)))
            have u154 := Fw142.other W149 (Or.inr (slot_ne (Or.inl (hw _ (List.mem_of_getElem? (i := 21) rfl))) (Or.inl (hw _ (List.mem_of_getElem? (i := 23) rfl))) (by decide) (t := .int) (t' := .int) (by decide) (by decide)))
            exact Or.inr ⟨2, 128, 159, (own_beg2 (by omega) (if_neg (by omega)) (if_pos (by omega))), rfl, N149, K151, u153, u154, Fw149⟩
          · have hd145 := own_neq32 hc145
            rw [show (237 : Int32).toInt = 237 from rfl] at hd145
            refine own_st (B := T142.setTop (mkF m 75 #[.val (.ref a), .val (.int x)] [(.ref a)])) (fun t_ k_ => XS.icmpYes X142.here hx rfl (pc0 := 66) (pc' := 75) rfl (hb hby own_b7_d66) rfl (feq hc145).2 (by decide) (by decide) k_) ?_
            refine own_st (B := T142.setTop (mkF m 78 #[.val (.ref a), .val (.int x)] [(.int (191 : Int32)), (.ref a)])) (fun t_ k_ => XS.sipush X142.here hx rfl (hb hby own_b7_d75) k_) ?_
            have u155 := u140.wr W142
            have u156 := F2.other W112 (Or.inr (slot_ne (Or.inl (hw _ (List.mem_of_getElem? (i := 23) rfl))) (Or.inl (hw _ (List.mem_of_getElem? (i := 30) rfl))) (by decide) (t := .int) (t' := .int) (by decide) (by decide)))
            have u157 := u156.other W142 (Or.inr (slot_ne (Or.inl (hw _ (List.mem_of_getElem? (i := 23) rfl))) (Or.inl (hw _ (List.mem_of_getElem? (i := 21) rfl))) (by decide) (t := .int) (t' := .int) (by decide) (by decide)))
            obtain ⟨T158, h158, X158, e158, W158, st158⟩ := putF X142 hx hZ hown (host := "") (Or.inl (hw _ (List.mem_of_getElem? (i := 22) rfl))) Via.refl e142 u157 u155 (Or.inl (hw _ (List.mem_of_getElem? (i := 23) rfl))) (hw _ (List.mem_of_getElem? (i := 12) rfl)) (ty := .int) (by decide) rfl rfl (g := (mkF m 78 #[.val (.ref a), .val (.int x)] [(.int (191 : Int32)), (.ref a)])) rfl rfl (hb hby own_b7_d78)
            have Fw158 := u157.same W158
            have N158 := Fr.snoc X158 N142 ga
            have Z159 := Nat.le_trans Z143 (Keep.of_wr W158).1
            have K160 := K144.wr W158 (Or.inl (List.mem_of_getElem? (i := 0) rfl))
            refine own_st (B := T158.setTop (mkF m 81 #[.val (.ref a), .val (.int x)] [])) st158 ?_
            refine own_st (B := T158.setTop (mkF m 148 #[.val (.ref a), .val (.int x)] [])) (fun t_ k_ => XS.goto X158.here hx rfl (pc0 := 81) (pc' := 148) rfl (hb hby own_b7_d81) (by decide) (by decide) k_) ?_
            refine own_st (B := T158.setTop (mkF m 149 #[.val (.ref a), .val (.int x)] [(.int (1 : Int32))])) (fun t_ k_ => XS.iconst X158.here hx rfl (hb hby own_b7_d148) k_) ?_
            refine own_retN X158 hx (t := .boolean) Bd.returns (by simp) hlk (hb hby own_b7_d149) (z' := (1 : Int32)) (by first | rfl | exact own_nb _) (by decide) (by decide) ?_
            show Q7 Z a x k y h0 n0 _ T158.heap _
            rw [e158]
            have u161 := Fw112.other W142 (Or.inr (slot_ne (Or.inl (hw _ (List.mem_of_getElem? (i := 30) rfl))) (Or.inl (hw _ (List.mem_of_getElem? (i := 21) rfl))) (by decide) (t := .int) (t' := .int) (by decide) (by decide)))
            have u162 := u161.other W158 (Or.inr (slot_ne (Or.inl (hw _ (List.mem_of_getElem? (i := 30) rfl))) (Or.inl (hw _ (List.mem_of_getElem? (i := 23) rfl))) (by decide) (t := .int) (t' := .int) (by decide) (by decide)))
            have u163 := Fw142.other W158 (Or.inr (slot_ne (Or.inl (hw _ (List.mem_of_getElem? (i := 21) rfl))) (Or.inl (hw _ (List.mem_of_getElem? (i := 23) rfl))) (by decide) (t := .int) (t' := .int) (by decide) (by decide)))
            exact Or.inr ⟨2, 128, 191, (own_beg2 (by omega) (if_neg (by omega)) (if_neg (by omega))), rfl, N158, K160, u162, u163, Fw158⟩
  · have hd1 := own_nlt32 hc1
    rw [show (194 : Int32).toInt = 194 from rfl] at hd1
    refine own_st (B := s₁.setTop (mkF m 7 #[.val (.ref a), .val (.int x)] [])) (fun t_ k_ => XS.icmpNo X0.here hx rfl (hb hby own_b7_d4) rfl (flt hc1).1 k_) ?_
    refine own_st (B := s₁.setTop (mkF m 8 #[.val (.ref a), .val (.int x)] [(.int x)])) (fun t_ k_ => XS.iloadN X0.here hx rfl (hb hby own_b7_d7) rfl k_) ?_
    refine own_st (B := s₁.setTop (mkF m 11 #[.val (.ref a), .val (.int x)] [(.int (223 : Int32)), (.int x)])) (fun t_ k_ => XS.sipush X0.here hx rfl (hb hby own_b7_d8) k_) ?_
    by_cases hc164 : (223 : Int32) < x
    · have hd164 := own_lt32 hc164
      rw [show (223 : Int32).toInt = 223 from rfl] at hd164
      refine own_st (B := s₁.setTop (mkF m 22 #[.val (.ref a), .val (.int x)] [])) (fun t_ k_ => XS.icmpYes X0.here hx rfl (pc0 := 11) (pc' := 22) rfl (hb hby own_b7_d11) rfl (tlt hc164).2.2.1 (by decide) (by decide) k_) ?_
      refine own_st (B := s₁.setTop (mkF m 23 #[.val (.ref a), .val (.int x)] [(.int x)])) (fun t_ k_ => XS.iloadN X0.here hx rfl (hb hby own_b7_d22) rfl k_) ?_
      refine own_st (B := s₁.setTop (mkF m 26 #[.val (.ref a), .val (.int x)] [(.int (224 : Int32)), (.int x)])) (fun t_ k_ => XS.sipush X0.here hx rfl (hb hby own_b7_d23) k_) ?_
      by_cases hc165 : x < (224 : Int32)
      · have hd165 := own_lt32 hc165
        rw [show (224 : Int32).toInt = 224 from rfl] at hd165
        refine own_st (B := s₁.setTop (mkF m 84 #[.val (.ref a), .val (.int x)] [])) (fun t_ k_ => XS.icmpYes X0.here hx rfl (pc0 := 26) (pc' := 84) rfl (hb hby own_b7_d26) rfl (tlt hc165).1 (by decide) (by decide) k_) ?_
        refine own_st (B := s₁.setTop (mkF m 85 #[.val (.ref a), .val (.int x)] [(.int x)])) (fun t_ k_ => XS.iloadN X0.here hx rfl (hb hby own_b7_d84) rfl k_) ?_
        refine own_st (B := s₁.setTop (mkF m 88 #[.val (.ref a), .val (.int x)] [(.int (240 : Int32)), (.int x)])) (fun t_ k_ => XS.sipush X0.here hx rfl (hb hby own_b7_d85) k_) ?_
        by_cases hc166 : x < (240 : Int32)
        · have hd166 := own_lt32 hc166
          rw [show (240 : Int32).toInt = 240 from rfl] at hd166
          refine own_st (B := s₁.setTop (mkF m 146 #[.val (.ref a), .val (.int x)] [])) (fun t_ k_ => XS.icmpYes X0.here hx rfl (pc0 := 88) (pc' := 146) rfl (hb hby own_b7_d88) rfl (tlt hc166).1 (by decide) (by decide) k_) ?_
          refine own_st (B := s₁.setTop (mkF m 147 #[.val (.ref a), .val (.int x)] [(.int (0 : Int32))])) (fun t_ k_ => XS.iconst X0.here hx rfl (hb hby own_b7_d146) k_) ?_
          refine own_retN X0 hx (t := .boolean) Bd.returns (by simp) hlk (hb hby own_b7_d147) (z' := (0 : Int32)) (by first | rfl | exact own_nb _) (by decide) (by decide) ?_
          show Q7 Z a x k y h0 n0 _ s₁.heap _
          rw [e0]
          exact Or.inl ⟨own_begN (by omega) (by omega) (by omega), rfl, N0, K0⟩
        · have hd166 := own_nlt32 hc166
          rw [show (240 : Int32).toInt = 240 from rfl] at hd166
          refine own_st (B := s₁.setTop (mkF m 91 #[.val (.ref a), .val (.int x)] [])) (fun t_ k_ => XS.icmpNo X0.here hx rfl (hb hby own_b7_d88) rfl (flt hc166).1 k_) ?_
          refine own_st (B := s₁.setTop (mkF m 92 #[.val (.ref a), .val (.int x)] [(.int x)])) (fun t_ k_ => XS.iloadN X0.here hx rfl (hb hby own_b7_d91) rfl k_) ?_
          refine own_st (B := s₁.setTop (mkF m 95 #[.val (.ref a), .val (.int x)] [(.int (244 : Int32)), (.int x)])) (fun t_ k_ => XS.sipush X0.here hx rfl (hb hby own_b7_d92) k_) ?_
          by_cases hc167 : (244 : Int32) < x
          · have hd167 := own_lt32 hc167
            rw [show (244 : Int32).toInt = 244 from rfl] at hd167
            refine own_st (B := s₁.setTop (mkF m 146 #[.val (.ref a), .val (.int x)] [])) (fun t_ k_ => XS.icmpYes X0.here hx rfl (pc0 := 95) (pc' := 146) rfl (hb hby own_b7_d95) rfl (tlt hc167).2.2.1 (by decide) (by decide) k_) ?_
            refine own_st (B := s₁.setTop (mkF m 147 #[.val (.ref a), .val (.int x)] [(.int (0 : Int32))])) (fun t_ k_ => XS.iconst X0.here hx rfl (hb hby own_b7_d146) k_) ?_
            refine own_retN X0 hx (t := .boolean) Bd.returns (by simp) hlk (hb hby own_b7_d147) (z' := (0 : Int32)) (by first | rfl | exact own_nb _) (by decide) (by decide) ?_
            show Q7 Z a x k y h0 n0 _ s₁.heap _
            rw [e0]
            exact Or.inl ⟨own_begN (by omega) (by omega) (by omega), rfl, N0, K0⟩
          · have hd167 := own_nlt32 hc167
            rw [show (244 : Int32).toInt = 244 from rfl] at hd167
            refine own_st (B := s₁.setTop (mkF m 98 #[.val (.ref a), .val (.int x)] [])) (fun t_ k_ => XS.icmpNo X0.here hx rfl (hb hby own_b7_d95) rfl (flt hc167).2.2.1 k_) ?_
            refine own_st (B := s₁.setTop (mkF m 99 #[.val (.ref a), .val (.int x)] [(.ref a)])) (fun t_ k_ => XS.aloadN X0.here hx rfl (hb hby own_b7_d98) rfl rfl k_) ?_
            refine own_st (B := s₁.setTop (mkF m 100 #[.val (.ref a), .val (.int x)] [(.int (3 : Int32)), (.ref a)])) (fun t_ k_ => XS.iconst X0.here hx rfl (hb hby own_b7_d99) k_) ?_
            obtain ⟨T168, h168, X168, e168, W168, st168⟩ := putF X0 hx hZ hown (host := "") (Or.inl (hw _ (List.mem_of_getElem? (i := 29) rfl))) Via.refl e0 F0 E (Or.inl (hw _ (List.mem_of_getElem? (i := 30) rfl))) (hw _ (List.mem_of_getElem? (i := 12) rfl)) (ty := .int) (by decide) rfl rfl (g := (mkF m 100 #[.val (.ref a), .val (.int x)] [(.int (3 : Int32)), (.ref a)])) rfl rfl (hb hby own_b7_d100)
            have Fw168 := F0.same W168
            have N168 := Fr.snoc X168 N0 ga
            have Z169 := Nat.le_trans Z0 (Keep.of_wr W168).1
            have K170 := K0.wr W168 (Or.inl (List.mem_of_getElem? (i := 0) rfl))
            refine own_st (B := T168.setTop (mkF m 103 #[.val (.ref a), .val (.int x)] [])) st168 ?_
            refine own_st (B := T168.setTop (mkF m 104 #[.val (.ref a), .val (.int x)] [(.ref a)])) (fun t_ k_ => XS.aloadN X168.here hx rfl (hb hby own_b7_d103) rfl rfl k_) ?_
            refine own_st (B := T168.setTop (mkF m 105 #[.val (.ref a), .val (.int x)] [(.int x), (.ref a)])) (fun t_ k_ => XS.iloadN X168.here hx rfl (hb hby own_b7_d104) rfl k_) ?_
            refine own_st (B := T168.setTop (mkF m 108 #[.val (.ref a), .val (.int x)] [(.int (240 : Int32)), (.int x), (.ref a)])) (fun t_ k_ => XS.sipush X168.here hx rfl (hb hby own_b7_d105) k_) ?_
            by_cases hc171 : x = (240 : Int32)
            · have hd171 := own_eq32 hc171
              rw [show (240 : Int32).toInt = 240 from rfl] at hd171
              refine own_st (B := T168.setTop (mkF m 111 #[.val (.ref a), .val (.int x)] [(.ref a)])) (fun t_ k_ => XS.icmpNo X168.here hx rfl (hb hby own_b7_d108) rfl (teq hc171).2 k_) ?_
              refine own_st (B := T168.setTop (mkF m 114 #[.val (.ref a), .val (.int x)] [(.int (144 : Int32)), (.ref a)])) (fun t_ k_ => XS.sipush X168.here hx rfl (hb hby own_b7_d111) k_) ?_
              refine own_st (B := T168.setTop (mkF m 120 #[.val (.ref a), .val (.int x)] [(.int (144 : Int32)), (.ref a)])) (fun t_ k_ => XS.goto X168.here hx rfl (pc0 := 114) (pc' := 120) rfl (hb hby own_b7_d114) (by decide) (by decide) k_) ?_
              have u172 := E.wr W168
              have u173 := F1.other W168 (Or.inr (slot_ne (Or.inl (hw _ (List.mem_of_getElem? (i := 21) rfl))) (Or.inl (hw _ (List.mem_of_getElem? (i := 30) rfl))) (by decide) (t := .int) (t' := .int) (by decide) (by decide)))
              obtain ⟨T174, h174, X174, e174, W174, st174⟩ := putF X168 hx hZ hown (host := "") (Or.inl (hw _ (List.mem_of_getElem? (i := 20) rfl))) Via.refl e168 u173 u172 (Or.inl (hw _ (List.mem_of_getElem? (i := 21) rfl))) (hw _ (List.mem_of_getElem? (i := 12) rfl)) (ty := .int) (by decide) rfl rfl (g := (mkF m 120 #[.val (.ref a), .val (.int x)] [(.int (144 : Int32)), (.ref a)])) rfl rfl (hb hby own_b7_d120)
              have Fw174 := u173.same W174
              have N174 := Fr.snoc X174 N168 ga
              have Z175 := Nat.le_trans Z169 (Keep.of_wr W174).1
              have K176 := K170.wr W174 (Or.inl (List.mem_of_getElem? (i := 0) rfl))
              refine own_st (B := T174.setTop (mkF m 123 #[.val (.ref a), .val (.int x)] [])) st174 ?_
              refine own_st (B := T174.setTop (mkF m 124 #[.val (.ref a), .val (.int x)] [(.ref a)])) (fun t_ k_ => XS.aloadN X174.here hx rfl (hb hby own_b7_d123) rfl rfl k_) ?_
              refine own_st (B := T174.setTop (mkF m 125 #[.val (.ref a), .val (.int x)] [(.int x), (.ref a)])) (fun t_ k_ => XS.iloadN X174.here hx rfl (hb hby own_b7_d124) rfl k_) ?_
              refine own_st (B := T174.setTop (mkF m 128 #[.val (.ref a), .val (.int x)] [(.int (244 : Int32)), (.int x), (.ref a)])) (fun t_ k_ => XS.sipush X174.here hx rfl (hb hby own_b7_d125) k_) ?_
              by_cases hc177 : x = (244 : Int32)
              · have hd177 := own_eq32 hc177
                rw [show (244 : Int32).toInt = 244 from rfl] at hd177
                refine own_st (B := T174.setTop (mkF m 131 #[.val (.ref a), .val (.int x)] [(.ref a)])) (fun t_ k_ => XS.icmpNo X174.here hx rfl (hb hby own_b7_d128) rfl (teq hc177).2 k_) ?_
                refine own_st (B := T174.setTop (mkF m 134 #[.val (.ref a), .val (.int x)] [(.int (143 : Int32)), (.ref a)])) (fun t_ k_ => XS.sipush X174.here hx rfl (hb hby own_b7_d131) k_) ?_
                refine own_st (B := T174.setTop (mkF m 140 #[.val (.ref a), .val (.int x)] [(.int (143 : Int32)), (.ref a)])) (fun t_ k_ => XS.goto X174.here hx rfl (pc0 := 134) (pc' := 140) rfl (hb hby own_b7_d134) (by decide) (by decide) k_) ?_
                have u178 := u172.wr W174
                have u179 := F2.other W168 (Or.inr (slot_ne (Or.inl (hw _ (List.mem_of_getElem? (i := 23) rfl))) (Or.inl (hw _ (List.mem_of_getElem? (i := 30) rfl))) (by decide) (t := .int) (t' := .int) (by decide) (by decide)))
                have u180 := u179.other W174 (Or.inr (slot_ne (Or.inl (hw _ (List.mem_of_getElem? (i := 23) rfl))) (Or.inl (hw _ (List.mem_of_getElem? (i := 21) rfl))) (by decide) (t := .int) (t' := .int) (by decide) (by decide)))
                obtain ⟨T181, h181, X181, e181, W181, st181⟩ := putF X174 hx hZ hown (host := "") (Or.inl (hw _ (List.mem_of_getElem? (i := 22) rfl))) Via.refl e174 u180 u178 (Or.inl (hw _ (List.mem_of_getElem? (i := 23) rfl))) (hw _ (List.mem_of_getElem? (i := 12) rfl)) (ty := .int) (by decide) rfl rfl (g := (mkF m 140 #[.val (.ref a), .val (.int x)] [(.int (143 : Int32)), (.ref a)])) rfl rfl (hb hby own_b7_d140)
                have Fw181 := u180.same W181
                have N181 := Fr.snoc X181 N174 ga
                have Z182 := Nat.le_trans Z175 (Keep.of_wr W181).1
                have K183 := K176.wr W181 (Or.inl (List.mem_of_getElem? (i := 0) rfl))
                refine own_st (B := T181.setTop (mkF m 143 #[.val (.ref a), .val (.int x)] [])) st181 ?_
                refine own_st (B := T181.setTop (mkF m 148 #[.val (.ref a), .val (.int x)] [])) (fun t_ k_ => XS.goto X181.here hx rfl (pc0 := 143) (pc' := 148) rfl (hb hby own_b7_d143) (by decide) (by decide) k_) ?_
                refine own_st (B := T181.setTop (mkF m 149 #[.val (.ref a), .val (.int x)] [(.int (1 : Int32))])) (fun t_ k_ => XS.iconst X181.here hx rfl (hb hby own_b7_d148) k_) ?_
                refine own_retN X181 hx (t := .boolean) Bd.returns (by simp) hlk (hb hby own_b7_d149) (z' := (1 : Int32)) (by first | rfl | exact own_nb _) (by decide) (by decide) ?_
                show Q7 Z a x k y h0 n0 _ T181.heap _
                rw [e181]
                have u184 := Fw168.other W174 (Or.inr (slot_ne (Or.inl (hw _ (List.mem_of_getElem? (i := 30) rfl))) (Or.inl (hw _ (List.mem_of_getElem? (i := 21) rfl))) (by decide) (t := .int) (t' := .int) (by decide) (by decide)))
                have u185 := u184.other W181 (Or.inr (slot_ne (Or.inl (hw _ (List.mem_of_getElem? (i := 30) rfl))) (Or.inl (hw _ (List.mem_of_getElem? (i := 23) rfl))) (by decide) (t := .int) (t' := .int) (by decide) (by decide)))
                have u186 := Fw174.other W181 (Or.inr (slot_ne (Or.inl (hw _ (List.mem_of_getElem? (i := 21) rfl))) (Or.inl (hw _ (List.mem_of_getElem? (i := 23) rfl))) (by decide) (t := .int) (t' := .int) (by decide) (by decide)))
                exact Or.inr ⟨3, 144, 143, (own_beg3 (by omega) (if_pos (by omega)) (if_pos (by omega))), rfl, N181, K183, u185, u186, Fw181⟩
              · have hd177 := own_neq32 hc177
                rw [show (244 : Int32).toInt = 244 from rfl] at hd177
                refine own_st (B := T174.setTop (mkF m 137 #[.val (.ref a), .val (.int x)] [(.ref a)])) (fun t_ k_ => XS.icmpYes X174.here hx rfl (pc0 := 128) (pc' := 137) rfl (hb hby own_b7_d128) rfl (feq hc177).2 (by decide) (by decide) k_) ?_
                refine own_st (B := T174.setTop (mkF m 140 #[.val (.ref a), .val (.int x)] [(.int (191 : Int32)), (.ref a)])) (fun t_ k_ => XS.sipush X174.here hx rfl (hb hby own_b7_d137) k_) ?_
                have u187 := u172.wr W174
                have u188 := F2.other W168 (Or.inr (slot_ne (Or.inl (hw _ (List.mem_of_getElem? (i := 23) rfl))) (Or.inl (hw _ (List.mem_of_getElem? (i := 30) rfl))) (by decide) (t := .int) (t' := .int) (by decide) (by decide)))
                have u189 := u188.other W174 (Or.inr (slot_ne (Or.inl (hw _ (List.mem_of_getElem? (i := 23) rfl))) (Or.inl (hw _ (List.mem_of_getElem? (i := 21) rfl))) (by decide) (t := .int) (t' := .int) (by decide) (by decide)))
                obtain ⟨T190, h190, X190, e190, W190, st190⟩ := putF X174 hx hZ hown (host := "") (Or.inl (hw _ (List.mem_of_getElem? (i := 22) rfl))) Via.refl e174 u189 u187 (Or.inl (hw _ (List.mem_of_getElem? (i := 23) rfl))) (hw _ (List.mem_of_getElem? (i := 12) rfl)) (ty := .int) (by decide) rfl rfl (g := (mkF m 140 #[.val (.ref a), .val (.int x)] [(.int (191 : Int32)), (.ref a)])) rfl rfl (hb hby own_b7_d140)
                have Fw190 := u189.same W190
                have N190 := Fr.snoc X190 N174 ga
                have Z191 := Nat.le_trans Z175 (Keep.of_wr W190).1
                have K192 := K176.wr W190 (Or.inl (List.mem_of_getElem? (i := 0) rfl))
                refine own_st (B := T190.setTop (mkF m 143 #[.val (.ref a), .val (.int x)] [])) st190 ?_
                refine own_st (B := T190.setTop (mkF m 148 #[.val (.ref a), .val (.int x)] [])) (fun t_ k_ => XS.goto X190.here hx rfl (pc0 := 143) (pc' := 148) rfl (hb hby own_b7_d143) (by decide) (by decide) k_) ?_
                refine own_st (B := T190.setTop (mkF m 149 #[.val (.ref a), .val (.int x)] [(.int (1 : Int32))])) (fun t_ k_ => XS.iconst X190.here hx rfl (hb hby own_b7_d148) k_) ?_
                refine own_retN X190 hx (t := .boolean) Bd.returns (by simp) hlk (hb hby own_b7_d149) (z' := (1 : Int32)) (by first | rfl | exact own_nb _) (by decide) (by decide) ?_
                show Q7 Z a x k y h0 n0 _ T190.heap _
                rw [e190]
                have u193 := Fw168.other W174 (Or.inr (slot_ne (Or.inl (hw _ (List.mem_of_getElem? (i := 30) rfl))) (Or.inl (hw _ (List.mem_of_getElem? (i := 21) rfl))) (by decide) (t := .int) (t' := .int) (by decide) (by decide)))
                have u194 := u193.other W190 (Or.inr (slot_ne (Or.inl (hw _ (List.mem_of_getElem? (i := 30) rfl))) (Or.inl (hw _ (List.mem_of_getElem? (i := 23) rfl))) (by decide) (t := .int) (t' := .int) (by decide) (by decide)))
                have u195 := Fw174.other W190 (Or.inr (slot_ne (Or.inl (hw _ (List.mem_of_getElem? (i := 21) rfl))) (Or.inl (hw _ (List.mem_of_getElem? (i := 23) rfl))) (by decide) (t := .int) (t' := .int) (by decide) (by decide)))
                exact Or.inr ⟨3, 144, 191, (own_beg3 (by omega) (if_pos (by omega)) (if_neg (by omega))), rfl, N190, K192, u194, u195, Fw190⟩
            · have hd171 := own_neq32 hc171
              rw [show (240 : Int32).toInt = 240 from rfl] at hd171
              refine own_st (B := T168.setTop (mkF m 117 #[.val (.ref a), .val (.int x)] [(.ref a)])) (fun t_ k_ => XS.icmpYes X168.here hx rfl (pc0 := 108) (pc' := 117) rfl (hb hby own_b7_d108) rfl (feq hc171).2 (by decide) (by decide) k_) ?_
              refine own_st (B := T168.setTop (mkF m 120 #[.val (.ref a), .val (.int x)] [(.int (128 : Int32)), (.ref a)])) (fun t_ k_ => XS.sipush X168.here hx rfl (hb hby own_b7_d117) k_) ?_
              have u196 := E.wr W168
              have u197 := F1.other W168 (Or.inr (slot_ne (Or.inl (hw _ (List.mem_of_getElem? (i := 21) rfl))) (Or.inl (hw _ (List.mem_of_getElem? (i := 30) rfl))) (by decide) (t := .int) (t' := .int) (by decide) (by decide)))
              obtain ⟨T198, h198, X198, e198, W198, st198⟩ := putF X168 hx hZ hown (host := "") (Or.inl (hw _ (List.mem_of_getElem? (i := 20) rfl))) Via.refl e168 u197 u196 (Or.inl (hw _ (List.mem_of_getElem? (i := 21) rfl))) (hw _ (List.mem_of_getElem? (i := 12) rfl)) (ty := .int) (by decide) rfl rfl (g := (mkF m 120 #[.val (.ref a), .val (.int x)] [(.int (128 : Int32)), (.ref a)])) rfl rfl (hb hby own_b7_d120)
              have Fw198 := u197.same W198
              have N198 := Fr.snoc X198 N168 ga
              have Z199 := Nat.le_trans Z169 (Keep.of_wr W198).1
              have K200 := K170.wr W198 (Or.inl (List.mem_of_getElem? (i := 0) rfl))
              refine own_st (B := T198.setTop (mkF m 123 #[.val (.ref a), .val (.int x)] [])) st198 ?_
              refine own_st (B := T198.setTop (mkF m 124 #[.val (.ref a), .val (.int x)] [(.ref a)])) (fun t_ k_ => XS.aloadN X198.here hx rfl (hb hby own_b7_d123) rfl rfl k_) ?_
              refine own_st (B := T198.setTop (mkF m 125 #[.val (.ref a), .val (.int x)] [(.int x), (.ref a)])) (fun t_ k_ => XS.iloadN X198.here hx rfl (hb hby own_b7_d124) rfl k_) ?_
              refine own_st (B := T198.setTop (mkF m 128 #[.val (.ref a), .val (.int x)] [(.int (244 : Int32)), (.int x), (.ref a)])) (fun t_ k_ => XS.sipush X198.here hx rfl (hb hby own_b7_d125) k_) ?_
              by_cases hc201 : x = (244 : Int32)
              · have hd201 := own_eq32 hc201
                rw [show (244 : Int32).toInt = 244 from rfl] at hd201
                refine own_st (B := T198.setTop (mkF m 131 #[.val (.ref a), .val (.int x)] [(.ref a)])) (fun t_ k_ => XS.icmpNo X198.here hx rfl (hb hby own_b7_d128) rfl (teq hc201).2 k_) ?_
                refine own_st (B := T198.setTop (mkF m 134 #[.val (.ref a), .val (.int x)] [(.int (143 : Int32)), (.ref a)])) (fun t_ k_ => XS.sipush X198.here hx rfl (hb hby own_b7_d131) k_) ?_
                refine own_st (B := T198.setTop (mkF m 140 #[.val (.ref a), .val (.int x)] [(.int (143 : Int32)), (.ref a)])) (fun t_ k_ => XS.goto X198.here hx rfl (pc0 := 134) (pc' := 140) rfl (hb hby own_b7_d134) (by decide) (by decide) k_) ?_
                have u202 := u196.wr W198
                have u203 := F2.other W168 (Or.inr (slot_ne (Or.inl (hw _ (List.mem_of_getElem? (i := 23) rfl))) (Or.inl (hw _ (List.mem_of_getElem? (i := 30) rfl))) (by decide) (t := .int) (t' := .int) (by decide) (by decide)))
                have u204 := u203.other W198 (Or.inr (slot_ne (Or.inl (hw _ (List.mem_of_getElem? (i := 23) rfl))) (Or.inl (hw _ (List.mem_of_getElem? (i := 21) rfl))) (by decide) (t := .int) (t' := .int) (by decide) (by decide)))
                obtain ⟨T205, h205, X205, e205, W205, st205⟩ := putF X198 hx hZ hown (host := "") (Or.inl (hw _ (List.mem_of_getElem? (i := 22) rfl))) Via.refl e198 u204 u202 (Or.inl (hw _ (List.mem_of_getElem? (i := 23) rfl))) (hw _ (List.mem_of_getElem? (i := 12) rfl)) (ty := .int) (by decide) rfl rfl (g := (mkF m 140 #[.val (.ref a), .val (.int x)] [(.int (143 : Int32)), (.ref a)])) rfl rfl (hb hby own_b7_d140)
                have Fw205 := u204.same W205
                have N205 := Fr.snoc X205 N198 ga
                have Z206 := Nat.le_trans Z199 (Keep.of_wr W205).1
                have K207 := K200.wr W205 (Or.inl (List.mem_of_getElem? (i := 0) rfl))
                refine own_st (B := T205.setTop (mkF m 143 #[.val (.ref a), .val (.int x)] [])) st205 ?_
                refine own_st (B := T205.setTop (mkF m 148 #[.val (.ref a), .val (.int x)] [])) (fun t_ k_ => XS.goto X205.here hx rfl (pc0 := 143) (pc' := 148) rfl (hb hby own_b7_d143) (by decide) (by decide) k_) ?_
                refine own_st (B := T205.setTop (mkF m 149 #[.val (.ref a), .val (.int x)] [(.int (1 : Int32))])) (fun t_ k_ => XS.iconst X205.here hx rfl (hb hby own_b7_d148) k_) ?_
                refine own_retN X205 hx (t := .boolean) Bd.returns (by simp) hlk (hb hby own_b7_d149) (z' := (1 : Int32)) (by first | rfl | exact own_nb _) (by decide) (by decide) ?_
                show Q7 Z a x k y h0 n0 _ T205.heap _
                rw [e205]
                have u208 := Fw168.other W198 (Or.inr (slot_ne (Or.inl (hw _ (List.mem_of_getElem? (i := 30) rfl))) (Or.inl (hw _ (List.mem_of_getElem? (i := 21) rfl))) (by decide) (t := .int) (t' := .int) (by decide) (by decide)))
                have u209 := u208.other W205 (Or.inr (slot_ne (Or.inl (hw _ (List.mem_of_getElem? (i := 30) rfl))) (Or.inl (hw _ (List.mem_of_getElem? (i := 23) rfl))) (by decide) (t := .int) (t' := .int) (by decide) (by decide)))
                have u210 := Fw198.other W205 (Or.inr (slot_ne (Or.inl (hw _ (List.mem_of_getElem? (i := 21) rfl))) (Or.inl (hw _ (List.mem_of_getElem? (i := 23) rfl))) (by decide) (t := .int) (t' := .int) (by decide) (by decide)))
                exact Or.inr ⟨3, 128, 143, (own_beg3 (by omega) (if_neg (by omega)) (if_pos (by omega))), rfl, N205, K207, u209, u210, Fw205⟩
              · have hd201 := own_neq32 hc201
                rw [show (244 : Int32).toInt = 244 from rfl] at hd201
                refine own_st (B := T198.setTop (mkF m 137 #[.val (.ref a), .val (.int x)] [(.ref a)])) (fun t_ k_ => XS.icmpYes X198.here hx rfl (pc0 := 128) (pc' := 137) rfl (hb hby own_b7_d128) rfl (feq hc201).2 (by decide) (by decide) k_) ?_
                refine own_st (B := T198.setTop (mkF m 140 #[.val (.ref a), .val (.int x)] [(.int (191 : Int32)), (.ref a)])) (fun t_ k_ => XS.sipush X198.here hx rfl (hb hby own_b7_d137) k_) ?_
                have u211 := u196.wr W198
                have u212 := F2.other W168 (Or.inr (slot_ne (Or.inl (hw _ (List.mem_of_getElem? (i := 23) rfl))) (Or.inl (hw _ (List.mem_of_getElem? (i := 30) rfl))) (by decide) (t := .int) (t' := .int) (by decide) (by decide)))
                have u213 := u212.other W198 (Or.inr (slot_ne (Or.inl (hw _ (List.mem_of_getElem? (i := 23) rfl))) (Or.inl (hw _ (List.mem_of_getElem? (i := 21) rfl))) (by decide) (t := .int) (t' := .int) (by decide) (by decide)))
                obtain ⟨T214, h214, X214, e214, W214, st214⟩ := putF X198 hx hZ hown (host := "") (Or.inl (hw _ (List.mem_of_getElem? (i := 22) rfl))) Via.refl e198 u213 u211 (Or.inl (hw _ (List.mem_of_getElem? (i := 23) rfl))) (hw _ (List.mem_of_getElem? (i := 12) rfl)) (ty := .int) (by decide) rfl rfl (g := (mkF m 140 #[.val (.ref a), .val (.int x)] [(.int (191 : Int32)), (.ref a)])) rfl rfl (hb hby own_b7_d140)
                have Fw214 := u213.same W214
                have N214 := Fr.snoc X214 N198 ga
                have Z215 := Nat.le_trans Z199 (Keep.of_wr W214).1
                have K216 := K200.wr W214 (Or.inl (List.mem_of_getElem? (i := 0) rfl))
                refine own_st (B := T214.setTop (mkF m 143 #[.val (.ref a), .val (.int x)] [])) st214 ?_
                refine own_st (B := T214.setTop (mkF m 148 #[.val (.ref a), .val (.int x)] [])) (fun t_ k_ => XS.goto X214.here hx rfl (pc0 := 143) (pc' := 148) rfl (hb hby own_b7_d143) (by decide) (by decide) k_) ?_
                refine own_st (B := T214.setTop (mkF m 149 #[.val (.ref a), .val (.int x)] [(.int (1 : Int32))])) (fun t_ k_ => XS.iconst X214.here hx rfl (hb hby own_b7_d148) k_) ?_
                refine own_retN X214 hx (t := .boolean) Bd.returns (by simp) hlk (hb hby own_b7_d149) (z' := (1 : Int32)) (by first | rfl | exact own_nb _) (by decide) (by decide) ?_
                show Q7 Z a x k y h0 n0 _ T214.heap _
                rw [e214]
                have u217 := Fw168.other W198 (Or.inr (slot_ne (Or.inl (hw _ (List.mem_of_getElem? (i := 30) rfl))) (Or.inl (hw _ (List.mem_of_getElem? (i := 21) rfl))) (by decide) (t := .int) (t' := .int) (by decide) (by decide)))
                have u218 := u217.other W214 (Or.inr (slot_ne (Or.inl (hw _ (List.mem_of_getElem? (i := 30) rfl))) (Or.inl (hw _ (List.mem_of_getElem? (i := 23) rfl))) (by decide) (t := .int) (t' := .int) (by decide) (by decide)))
                have u219 := Fw198.other W214 (Or.inr (slot_ne (Or.inl (hw _ (List.mem_of_getElem? (i := 21) rfl))) (Or.inl (hw _ (List.mem_of_getElem? (i := 23) rfl))) (by decide) (t := .int) (t' := .int) (by decide) (by decide)))
                exact Or.inr ⟨3, 128, 191, (own_beg3 (by omega) (if_neg (by omega)) (if_neg (by omega))), rfl, N214, K216, u218, u219, Fw214⟩
      · have hd165 := own_nlt32 hc165
        rw [show (224 : Int32).toInt = 224 from rfl] at hd165
        refine own_st (B := s₁.setTop (mkF m 29 #[.val (.ref a), .val (.int x)] [])) (fun t_ k_ => XS.icmpNo X0.here hx rfl (hb hby own_b7_d26) rfl (flt hc165).1 k_) ?_
        refine own_st (B := s₁.setTop (mkF m 30 #[.val (.ref a), .val (.int x)] [(.int x)])) (fun t_ k_ => XS.iloadN X0.here hx rfl (hb hby own_b7_d29) rfl k_) ?_
        refine own_st (B := s₁.setTop (mkF m 33 #[.val (.ref a), .val (.int x)] [(.int (239 : Int32)), (.int x)])) (fun t_ k_ => XS.sipush X0.here hx rfl (hb hby own_b7_d30) k_) ?_
        by_cases hc220 : (239 : Int32) < x
        · have hd220 := own_lt32 hc220
          rw [show (239 : Int32).toInt = 239 from rfl] at hd220
          refine own_st (B := s₁.setTop (mkF m 84 #[.val (.ref a), .val (.int x)] [])) (fun t_ k_ => XS.icmpYes X0.here hx rfl (pc0 := 33) (pc' := 84) rfl (hb hby own_b7_d33) rfl (tlt hc220).2.2.1 (by decide) (by decide) k_) ?_
          refine own_st (B := s₁.setTop (mkF m 85 #[.val (.ref a), .val (.int x)] [(.int x)])) (fun t_ k_ => XS.iloadN X0.here hx rfl (hb hby own_b7_d84) rfl k_) ?_
          refine own_st (B := s₁.setTop (mkF m 88 #[.val (.ref a), .val (.int x)] [(.int (240 : Int32)), (.int x)])) (fun t_ k_ => XS.sipush X0.here hx rfl (hb hby own_b7_d85) k_) ?_
          by_cases hc221 : x < (240 : Int32)
          · have hd221 := own_lt32 hc221
            rw [show (240 : Int32).toInt = 240 from rfl] at hd221
            refine own_st (B := s₁.setTop (mkF m 146 #[.val (.ref a), .val (.int x)] [])) (fun t_ k_ => XS.icmpYes X0.here hx rfl (pc0 := 88) (pc' := 146) rfl (hb hby own_b7_d88) rfl (tlt hc221).1 (by decide) (by decide) k_) ?_
            refine own_st (B := s₁.setTop (mkF m 147 #[.val (.ref a), .val (.int x)] [(.int (0 : Int32))])) (fun t_ k_ => XS.iconst X0.here hx rfl (hb hby own_b7_d146) k_) ?_
            refine own_retN X0 hx (t := .boolean) Bd.returns (by simp) hlk (hb hby own_b7_d147) (z' := (0 : Int32)) (by first | rfl | exact own_nb _) (by decide) (by decide) ?_
            show Q7 Z a x k y h0 n0 _ s₁.heap _
            rw [e0]
            exact Or.inl ⟨own_begN (by omega) (by omega) (by omega), rfl, N0, K0⟩
          · have hd221 := own_nlt32 hc221
            rw [show (240 : Int32).toInt = 240 from rfl] at hd221
            refine own_st (B := s₁.setTop (mkF m 91 #[.val (.ref a), .val (.int x)] [])) (fun t_ k_ => XS.icmpNo X0.here hx rfl (hb hby own_b7_d88) rfl (flt hc221).1 k_) ?_
            refine own_st (B := s₁.setTop (mkF m 92 #[.val (.ref a), .val (.int x)] [(.int x)])) (fun t_ k_ => XS.iloadN X0.here hx rfl (hb hby own_b7_d91) rfl k_) ?_
            refine own_st (B := s₁.setTop (mkF m 95 #[.val (.ref a), .val (.int x)] [(.int (244 : Int32)), (.int x)])) (fun t_ k_ => XS.sipush X0.here hx rfl (hb hby own_b7_d92) k_) ?_
            by_cases hc222 : (244 : Int32) < x
            · have hd222 := own_lt32 hc222
              rw [show (244 : Int32).toInt = 244 from rfl] at hd222
              refine own_st (B := s₁.setTop (mkF m 146 #[.val (.ref a), .val (.int x)] [])) (fun t_ k_ => XS.icmpYes X0.here hx rfl (pc0 := 95) (pc' := 146) rfl (hb hby own_b7_d95) rfl (tlt hc222).2.2.1 (by decide) (by decide) k_) ?_
              refine own_st (B := s₁.setTop (mkF m 147 #[.val (.ref a), .val (.int x)] [(.int (0 : Int32))])) (fun t_ k_ => XS.iconst X0.here hx rfl (hb hby own_b7_d146) k_) ?_
              refine own_retN X0 hx (t := .boolean) Bd.returns (by simp) hlk (hb hby own_b7_d147) (z' := (0 : Int32)) (by first | rfl | exact own_nb _) (by decide) (by decide) ?_
              show Q7 Z a x k y h0 n0 _ s₁.heap _
              rw [e0]
              exact Or.inl ⟨own_begN (by omega) (by omega) (by omega), rfl, N0, K0⟩
            · have hd222 := own_nlt32 hc222
              rw [show (244 : Int32).toInt = 244 from rfl] at hd222
              refine own_st (B := s₁.setTop (mkF m 98 #[.val (.ref a), .val (.int x)] [])) (fun t_ k_ => XS.icmpNo X0.here hx rfl (hb hby own_b7_d95) rfl (flt hc222).2.2.1 k_) ?_
              refine own_st (B := s₁.setTop (mkF m 99 #[.val (.ref a), .val (.int x)] [(.ref a)])) (fun t_ k_ => XS.aloadN X0.here hx rfl (hb hby own_b7_d98) rfl rfl k_) ?_
              refine own_st (B := s₁.setTop (mkF m 100 #[.val (.ref a), .val (.int x)] [(.int (3 : Int32)), (.ref a)])) (fun t_ k_ => XS.iconst X0.here hx rfl (hb hby own_b7_d99) k_) ?_
              obtain ⟨T223, h223, X223, e223, W223, st223⟩ := putF X0 hx hZ hown (host := "") (Or.inl (hw _ (List.mem_of_getElem? (i := 29) rfl))) Via.refl e0 F0 E (Or.inl (hw _ (List.mem_of_getElem? (i := 30) rfl))) (hw _ (List.mem_of_getElem? (i := 12) rfl)) (ty := .int) (by decide) rfl rfl (g := (mkF m 100 #[.val (.ref a), .val (.int x)] [(.int (3 : Int32)), (.ref a)])) rfl rfl (hb hby own_b7_d100)
              have Fw223 := F0.same W223
              have N223 := Fr.snoc X223 N0 ga
              have Z224 := Nat.le_trans Z0 (Keep.of_wr W223).1
              have K225 := K0.wr W223 (Or.inl (List.mem_of_getElem? (i := 0) rfl))
              refine own_st (B := T223.setTop (mkF m 103 #[.val (.ref a), .val (.int x)] [])) st223 ?_
              refine own_st (B := T223.setTop (mkF m 104 #[.val (.ref a), .val (.int x)] [(.ref a)])) (fun t_ k_ => XS.aloadN X223.here hx rfl (hb hby own_b7_d103) rfl rfl k_) ?_
              refine own_st (B := T223.setTop (mkF m 105 #[.val (.ref a), .val (.int x)] [(.int x), (.ref a)])) (fun t_ k_ => XS.iloadN X223.here hx rfl (hb hby own_b7_d104) rfl k_) ?_
              refine own_st (B := T223.setTop (mkF m 108 #[.val (.ref a), .val (.int x)] [(.int (240 : Int32)), (.int x), (.ref a)])) (fun t_ k_ => XS.sipush X223.here hx rfl (hb hby own_b7_d105) k_) ?_
              by_cases hc226 : x = (240 : Int32)
              · have hd226 := own_eq32 hc226
                rw [show (240 : Int32).toInt = 240 from rfl] at hd226
                refine own_st (B := T223.setTop (mkF m 111 #[.val (.ref a), .val (.int x)] [(.ref a)])) (fun t_ k_ => XS.icmpNo X223.here hx rfl (hb hby own_b7_d108) rfl (teq hc226).2 k_) ?_
                refine own_st (B := T223.setTop (mkF m 114 #[.val (.ref a), .val (.int x)] [(.int (144 : Int32)), (.ref a)])) (fun t_ k_ => XS.sipush X223.here hx rfl (hb hby own_b7_d111) k_) ?_
                refine own_st (B := T223.setTop (mkF m 120 #[.val (.ref a), .val (.int x)] [(.int (144 : Int32)), (.ref a)])) (fun t_ k_ => XS.goto X223.here hx rfl (pc0 := 114) (pc' := 120) rfl (hb hby own_b7_d114) (by decide) (by decide) k_) ?_
                have u227 := E.wr W223
                have u228 := F1.other W223 (Or.inr (slot_ne (Or.inl (hw _ (List.mem_of_getElem? (i := 21) rfl))) (Or.inl (hw _ (List.mem_of_getElem? (i := 30) rfl))) (by decide) (t := .int) (t' := .int) (by decide) (by decide)))
                obtain ⟨T229, h229, X229, e229, W229, st229⟩ := putF X223 hx hZ hown (host := "") (Or.inl (hw _ (List.mem_of_getElem? (i := 20) rfl))) Via.refl e223 u228 u227 (Or.inl (hw _ (List.mem_of_getElem? (i := 21) rfl))) (hw _ (List.mem_of_getElem? (i := 12) rfl)) (ty := .int) (by decide) rfl rfl (g := (mkF m 120 #[.val (.ref a), .val (.int x)] [(.int (144 : Int32)), (.ref a)])) rfl rfl (hb hby own_b7_d120)
                have Fw229 := u228.same W229
                have N229 := Fr.snoc X229 N223 ga
                have Z230 := Nat.le_trans Z224 (Keep.of_wr W229).1
                have K231 := K225.wr W229 (Or.inl (List.mem_of_getElem? (i := 0) rfl))
                refine own_st (B := T229.setTop (mkF m 123 #[.val (.ref a), .val (.int x)] [])) st229 ?_
                refine own_st (B := T229.setTop (mkF m 124 #[.val (.ref a), .val (.int x)] [(.ref a)])) (fun t_ k_ => XS.aloadN X229.here hx rfl (hb hby own_b7_d123) rfl rfl k_) ?_
                refine own_st (B := T229.setTop (mkF m 125 #[.val (.ref a), .val (.int x)] [(.int x), (.ref a)])) (fun t_ k_ => XS.iloadN X229.here hx rfl (hb hby own_b7_d124) rfl k_) ?_
                refine own_st (B := T229.setTop (mkF m 128 #[.val (.ref a), .val (.int x)] [(.int (244 : Int32)), (.int x), (.ref a)])) (fun t_ k_ => XS.sipush X229.here hx rfl (hb hby own_b7_d125) k_) ?_
                by_cases hc232 : x = (244 : Int32)
                · have hd232 := own_eq32 hc232
                  rw [show (244 : Int32).toInt = 244 from rfl] at hd232
                  refine own_st (B := T229.setTop (mkF m 131 #[.val (.ref a), .val (.int x)] [(.ref a)])) (fun t_ k_ => XS.icmpNo X229.here hx rfl (hb hby own_b7_d128) rfl (teq hc232).2 k_) ?_
                  refine own_st (B := T229.setTop (mkF m 134 #[.val (.ref a), .val (.int x)] [(.int (143 : Int32)), (.ref a)])) (fun t_ k_ => XS.sipush X229.here hx rfl (hb hby own_b7_d131) k_) ?_
                  refine own_st (B := T229.setTop (mkF m 140 #[.val (.ref a), .val (.int x)] [(.int (143 : Int32)), (.ref a)])) (fun t_ k_ => XS.goto X229.here hx rfl (pc0 := 134) (pc' := 140) rfl (hb hby own_b7_d134) (by decide) (by decide) k_) ?_
                  have u233 := u227.wr W229
                  have u234 := F2.other W223 (Or.inr (slot_ne (Or.inl (hw _ (List.mem_of_getElem? (i := 23) rfl))) (Or.inl (hw _ (List.mem_of_getElem? (i := 30) rfl))) (by decide) (t := .int) (t' := .int) (by decide) (by decide)))
                  have u235 := u234.other W229 (Or.inr (slot_ne (Or.inl (hw _ (List.mem_of_getElem? (i := 23) rfl))) (Or.inl (hw _ (List.mem_of_getElem? (i := 21) rfl))) (by decide) (t := .int) (t' := .int) (by decide) (by decide)))
                  obtain ⟨T236, h236, X236, e236, W236, st236⟩ := putF X229 hx hZ hown (host := "") (Or.inl (hw _ (List.mem_of_getElem? (i := 22) rfl))) Via.refl e229 u235 u233 (Or.inl (hw _ (List.mem_of_getElem? (i := 23) rfl))) (hw _ (List.mem_of_getElem? (i := 12) rfl)) (ty := .int) (by decide) rfl rfl (g := (mkF m 140 #[.val (.ref a), .val (.int x)] [(.int (143 : Int32)), (.ref a)])) rfl rfl (hb hby own_b7_d140)
                  have Fw236 := u235.same W236
                  have N236 := Fr.snoc X236 N229 ga
                  have Z237 := Nat.le_trans Z230 (Keep.of_wr W236).1
                  have K238 := K231.wr W236 (Or.inl (List.mem_of_getElem? (i := 0) rfl))
                  refine own_st (B := T236.setTop (mkF m 143 #[.val (.ref a), .val (.int x)] [])) st236 ?_
                  refine own_st (B := T236.setTop (mkF m 148 #[.val (.ref a), .val (.int x)] [])) (fun t_ k_ => XS.goto X236.here hx rfl (pc0 := 143) (pc' := 148) rfl (hb hby own_b7_d143) (by decide) (by decide) k_) ?_
                  refine own_st (B := T236.setTop (mkF m 149 #[.val (.ref a), .val (.int x)] [(.int (1 : Int32))])) (fun t_ k_ => XS.iconst X236.here hx rfl (hb hby own_b7_d148) k_) ?_
                  refine own_retN X236 hx (t := .boolean) Bd.returns (by simp) hlk (hb hby own_b7_d149) (z' := (1 : Int32)) (by first | rfl | exact own_nb _) (by decide) (by decide) ?_
                  show Q7 Z a x k y h0 n0 _ T236.heap _
                  rw [e236]
                  have u239 := Fw223.other W229 (Or.inr (slot_ne (Or.inl (hw _ (List.mem_of_getElem? (i := 30) rfl))) (Or.inl (hw _ (List.mem_of_getElem? (i := 21) rfl))) (by decide) (t := .int) (t' := .int) (by decide) (by decide)))
                  have u240 := u239.other W236 (Or.inr (slot_ne (Or.inl (hw _ (List.mem_of_getElem? (i := 30) rfl))) (Or.inl (hw _ (List.mem_of_getElem? (i := 23) rfl))) (by decide) (t := .int) (t' := .int) (by decide) (by decide)))
                  have u241 := Fw229.other W236 (Or.inr (slot_ne (Or.inl (hw _ (List.mem_of_getElem? (i := 21) rfl))) (Or.inl (hw _ (List.mem_of_getElem? (i := 23) rfl))) (by decide) (t := .int) (t' := .int) (by decide) (by decide)))
                  exact Or.inr ⟨3, 144, 143, (own_beg3 (by omega) (if_pos (by omega)) (if_pos (by omega))), rfl, N236, K238, u240, u241, Fw236⟩
                · have hd232 := own_neq32 hc232
                  rw [show (244 : Int32).toInt = 244 from rfl] at hd232
                  refine own_st (B := T229.setTop (mkF m 137 #[.val (.ref a), .val (.int x)] [(.ref a)])) (fun t_ k_ => XS.icmpYes X229.here hx rfl (pc0 := 128) (pc' := 137) rfl (hb hby own_b7_d128) rfl (feq hc232).2 (by decide) (by decide) k_) ?_
                  refine own_st (B := T229.setTop (mkF m 140 #[.val (.ref a), .val (.int x)] [(.int (191 : Int32)), (.ref a)])) (fun t_ k_ => XS.sipush X229.here hx rfl (hb hby own_b7_d137) k_) ?_
                  have u242 := u227.wr W229
                  have u243 := F2.other W223 (Or.inr (slot_ne (Or.inl (hw _ (List.mem_of_getElem? (i := 23) rfl))) (Or.inl (hw _ (List.mem_of_getElem? (i := 30) rfl))) (by decide) (t := .int) (t' := .int) (by decide) (by decide)))
                  have u244 := u243.other W229 (Or.inr (slot_ne (Or.inl (hw _ (List.mem_of_getElem? (i := 23) rfl))) (Or.inl (hw _ (List.mem_of_getElem? (i := 21) rfl))) (by decide) (t := .int) (t' := .int) (by decide) (by decide)))
                  obtain ⟨T245, h245, X245, e245, W245, st245⟩ := putF X229 hx hZ hown (host := "") (Or.inl (hw _ (List.mem_of_getElem? (i := 22) rfl))) Via.refl e229 u244 u242 (Or.inl (hw _ (List.mem_of_getElem? (i := 23) rfl))) (hw _ (List.mem_of_getElem? (i := 12) rfl)) (ty := .int) (by decide) rfl rfl (g := (mkF m 140 #[.val (.ref a), .val (.int x)] [(.int (191 : Int32)), (.ref a)])) rfl rfl (hb hby own_b7_d140)
                  have Fw245 := u244.same W245
                  have N245 := Fr.snoc X245 N229 ga
                  have Z246 := Nat.le_trans Z230 (Keep.of_wr W245).1
                  have K247 := K231.wr W245 (Or.inl (List.mem_of_getElem? (i := 0) rfl))
                  refine own_st (B := T245.setTop (mkF m 143 #[.val (.ref a), .val (.int x)] [])) st245 ?_
                  refine own_st (B := T245.setTop (mkF m 148 #[.val (.ref a), .val (.int x)] [])) (fun t_ k_ => XS.goto X245.here hx rfl (pc0 := 143) (pc' := 148) rfl (hb hby own_b7_d143) (by decide) (by decide) k_) ?_
                  refine own_st (B := T245.setTop (mkF m 149 #[.val (.ref a), .val (.int x)] [(.int (1 : Int32))])) (fun t_ k_ => XS.iconst X245.here hx rfl (hb hby own_b7_d148) k_) ?_
                  refine own_retN X245 hx (t := .boolean) Bd.returns (by simp) hlk (hb hby own_b7_d149) (z' := (1 : Int32)) (by first | rfl | exact own_nb _) (by decide) (by decide) ?_
                  show Q7 Z a x k y h0 n0 _ T245.heap _
                  rw [e245]
                  have u248 := Fw223.other W229 (Or.inr (slot_ne (Or.inl (hw _ (List.mem_of_getElem? (i := 30) rfl))) (Or.inl (hw _ (List.mem_of_getElem? (i := 21) rfl))) (by decide) (t := .int) (t' := .int) (by decide) (by decide)))
                  have u249 := u248.other W245 (Or.inr (slot_ne (Or.inl (hw _ (List.mem_of_getElem? (i := 30) rfl))) (Or.inl (hw _ (List.mem_of_getElem? (i := 23) rfl))) (by decide) (t := .int) (t' := .int) (by decide) (by decide)))
                  have u250 := Fw229.other W245 (Or.inr (slot_ne (Or.inl (hw _ (List.mem_of_getElem? (i := 21) rfl))) (Or.inl (hw _ (List.mem_of_getElem? (i := 23) rfl))) (by decide) (t := .int) (t' := .int) (by decide) (by decide)))
                  exact Or.inr ⟨3, 144, 191, (own_beg3 (by omega) (if_pos (by omega)) (if_neg (by omega))), rfl, N245, K247, u249, u250, Fw245⟩
              · have hd226 := own_neq32 hc226
                rw [show (240 : Int32).toInt = 240 from rfl] at hd226
                refine own_st (B := T223.setTop (mkF m 117 #[.val (.ref a), .val (.int x)] [(.ref a)])) (fun t_ k_ => XS.icmpYes X223.here hx rfl (pc0 := 108) (pc' := 117) rfl (hb hby own_b7_d108) rfl (feq hc226).2 (by decide) (by decide) k_) ?_
                refine own_st (B := T223.setTop (mkF m 120 #[.val (.ref a), .val (.int x)] [(.int (128 : Int32)), (.ref a)])) (fun t_ k_ => XS.sipush X223.here hx rfl (hb hby own_b7_d117) k_) ?_
                have u251 := E.wr W223
                have u252 := F1.other W223 (Or.inr (slot_ne (Or.inl (hw _ (List.mem_of_getElem? (i := 21) rfl))) (Or.inl (hw _ (List.mem_of_getElem? (i := 30) rfl))) (by decide) (t := .int) (t' := .int) (by decide) (by decide)))
                obtain ⟨T253, h253, X253, e253, W253, st253⟩ := putF X223 hx hZ hown (host := "") (Or.inl (hw _ (List.mem_of_getElem? (i := 20) rfl))) Via.refl e223 u252 u251 (Or.inl (hw _ (List.mem_of_getElem? (i := 21) rfl))) (hw _ (List.mem_of_getElem? (i := 12) rfl)) (ty := .int) (by decide) rfl rfl (g := (mkF m 120 #[.val (.ref a), .val (.int x)] [(.int (128 : Int32)), (.ref a)])) rfl rfl (hb hby own_b7_d120)
                have Fw253 := u252.same W253
                have N253 := Fr.snoc X253 N223 ga
                have Z254 := Nat.le_trans Z224 (Keep.of_wr W253).1
                have K255 := K225.wr W253 (Or.inl (List.mem_of_getElem? (i := 0) rfl))
                refine own_st (B := T253.setTop (mkF m 123 #[.val (.ref a), .val (.int x)] [])) st253 ?_
                refine own_st (B := T253.setTop (mkF m 124 #[.val (.ref a), .val (.int x)] [(.ref a)])) (fun t_ k_ => XS.aloadN X253.here hx rfl (hb hby own_b7_d123) rfl rfl k_) ?_
                refine own_st (B := T253.setTop (mkF m 125 #[.val (.ref a), .val (.int x)] [(.int x), (.ref a)])) (fun t_ k_ => XS.iloadN X253.here hx rfl (hb hby own_b7_d124) rfl k_) ?_
                refine own_st (B := T253.setTop (mkF m 128 #[.val (.ref a), .val (.int x)] [(.int (244 : Int32)), (.int x), (.ref a)])) (fun t_ k_ => XS.sipush X253.here hx rfl (hb hby own_b7_d125) k_) ?_
                by_cases hc256 : x = (244 : Int32)
                · have hd256 := own_eq32 hc256
                  rw [show (244 : Int32).toInt = 244 from rfl] at hd256
                  refine own_st (B := T253.setTop (mkF m 131 #[.val (.ref a), .val (.int x)] [(.ref a)])) (fun t_ k_ => XS.icmpNo X253.here hx rfl (hb hby own_b7_d128) rfl (teq hc256).2 k_) ?_
                  refine own_st (B := T253.setTop (mkF m 134 #[.val (.ref a), .val (.int x)] [(.int (143 : Int32)), (.ref a)])) (fun t_ k_ => XS.sipush X253.here hx rfl (hb hby own_b7_d131) k_) ?_
                  refine own_st (B := T253.setTop (mkF m 140 #[.val (.ref a), .val (.int x)] [(.int (143 : Int32)), (.ref a)])) (fun t_ k_ => XS.goto X253.here hx rfl (pc0 := 134) (pc' := 140) rfl (hb hby own_b7_d134) (by decide) (by decide) k_) ?_
                  have u257 := u251.wr W253
                  have u258 := F2.other W223 (Or.inr (slot_ne (Or.inl (hw _ (List.mem_of_getElem? (i := 23) rfl))) (Or.inl (hw _ (List.mem_of_getElem? (i := 30) rfl))) (by decide) (t := .int) (t' := .int) (by decide) (by decide)))
                  have u259 := u258.other W253 (Or.inr (slot_ne (Or.inl (hw _ (List.mem_of_getElem? (i := 23) rfl))) (Or.inl (hw _ (List.mem_of_getElem? (i := 21) rfl))) (by decide) (t := .int) (t' := .int) (by decide) (by decide)))
                  obtain ⟨T260, h260, X260, e260, W260, st260⟩ := putF X253 hx hZ hown (host := "") (Or.inl (hw _ (List.mem_of_getElem? (i := 22) rfl))) Via.refl e253 u259 u257 (Or.inl (hw _ (List.mem_of_getElem? (i := 23) rfl))) (hw _ (List.mem_of_getElem? (i := 12) rfl)) (ty := .int) (by decide) rfl rfl (g := (mkF m 140 #[.val (.ref a), .val (.int x)] [(.int (143 : Int32)), (.ref a)])) rfl rfl (hb hby own_b7_d140)
                  have Fw260 := u259.same W260
                  have N260 := Fr.snoc X260 N253 ga
                  have Z261 := Nat.le_trans Z254 (Keep.of_wr W260).1
                  have K262 := K255.wr W260 (Or.inl (List.mem_of_getElem? (i := 0) rfl))
                  refine own_st (B := T260.setTop (mkF m 143 #[.val (.ref a), .val (.int x)] [])) st260 ?_
                  refine own_st (B := T260.setTop (mkF m 148 #[.val (.ref a), .val (.int x)] [])) (fun t_ k_ => XS.goto X260.here hx rfl (pc0 := 143) (pc' := 148) rfl (hb hby own_b7_d143) (by decide) (by decide) k_) ?_
                  refine own_st (B := T260.setTop (mkF m 149 #[.val (.ref a), .val (.int x)] [(.int (1 : Int32))])) (fun t_ k_ => XS.iconst X260.here hx rfl (hb hby own_b7_d148) k_) ?_
                  refine own_retN X260 hx (t := .boolean) Bd.returns (by simp) hlk (hb hby own_b7_d149) (z' := (1 : Int32)) (by first | rfl | exact own_nb _) (by decide) (by decide) ?_
                  show Q7 Z a x k y h0 n0 _ T260.heap _
                  rw [e260]
                  have u263 := Fw223.other W253 (Or.inr (slot_ne (Or.inl (hw _ (List.mem_of_getElem? (i := 30) rfl))) (Or.inl (hw _ (List.mem_of_getElem? (i := 21) rfl))) (by decide) (t := .int) (t' := .int) (by decide) (by decide)))
                  have u264 := u263.other W260 (Or.inr (slot_ne (Or.inl (hw _ (List.mem_of_getElem? (i := 30) rfl))) (Or.inl (hw _ (List.mem_of_getElem? (i := 23) rfl))) (by decide) (t := .int) (t' := .int) (by decide) (by decide)))
                  have u265 := Fw253.other W260 (Or.inr (slot_ne (Or.inl (hw _ (List.mem_of_getElem? (i := 21) rfl))) (Or.inl (hw _ (List.mem_of_getElem? (i := 23) rfl))) (by decide) (t := .int) (t' := .int) (by decide) (by decide)))
                  exact Or.inr ⟨3, 128, 143, (own_beg3 (by omega) (if_neg (by omega)) (if_pos (by omega))), rfl, N260, K262, u264, u265, Fw260⟩
                · have hd256 := own_neq32 hc256
                  rw [show (244 : Int32).toInt = 244 from rfl] at hd256
                  refine own_st (B := T253.setTop (mkF m 137 #[.val (.ref a), .val (.int x)] [(.ref a)])) (fun t_ k_ => XS.icmpYes X253.here hx rfl (pc0 := 128) (pc' := 137) rfl (hb hby own_b7_d128) rfl (feq hc256).2 (by decide) (by decide) k_) ?_
                  refine own_st (B := T253.setTop (mkF m 140 #[.val (.ref a), .val (.int x)] [(.int (191 : Int32)), (.ref a)])) (fun t_ k_ => XS.sipush X253.here hx rfl (hb hby own_b7_d137) k_) ?_
                  have u266 := u251.wr W253
                  have u267 := F2.other W223 (Or.inr (slot_ne (Or.inl (hw _ (List.mem_of_getElem? (i := 23) rfl))) (Or.inl (hw _ (List.mem_of_getElem? (i := 30) rfl))) (by decide) (t := .int) (t' := .int) (by decide) (by decide)))
                  have u268 := u267.other W253 (Or.inr (slot_ne (Or.inl (hw _ (List.mem_of_getElem? (i := 23) rfl))) (Or.inl (hw _ (List.mem_of_getElem? (i := 21) rfl))) (by decide) (t := .int) (t' := .int) (by decide) (by decide)))
                  obtain ⟨T269, h269, X269, e269, W269, st269⟩ := putF X253 hx hZ hown (host := "") (Or.inl (hw _ (List.mem_of_getElem? (i := 22) rfl))) Via.refl e253 u268 u266 (Or.inl (hw _ (List.mem_of_getElem? (i := 23) rfl))) (hw _ (List.mem_of_getElem? (i := 12) rfl)) (ty := .int) (by decide) rfl rfl (g := (mkF m 140 #[.val (.ref a), .val (.int x)] [(.int (191 : Int32)), (.ref a)])) rfl rfl (hb hby own_b7_d140)
                  have Fw269 := u268.same W269
                  have N269 := Fr.snoc X269 N253 ga
                  have Z270 := Nat.le_trans Z254 (Keep.of_wr W269).1
                  have K271 := K255.wr W269 (Or.inl (List.mem_of_getElem? (i := 0) rfl))
                  refine own_st (B := T269.setTop (mkF m 143 #[.val (.ref a), .val (.int x)] [])) st269 ?_
                  refine own_st (B := T269.setTop (mkF m 148 #[.val (.ref a), .val (.int x)] [])) (fun t_ k_ => XS.goto X269.here hx rfl (pc0 := 143) (pc' := 148) rfl (hb hby own_b7_d143) (by decide) (by decide) k_) ?_
                  refine own_st (B := T269.setTop (mkF m 149 #[.val (.ref a), .val (.int x)] [(.int (1 : Int32))])) (fun t_ k_ => XS.iconst X269.here hx rfl (hb hby own_b7_d148) k_) ?_
                  refine own_retN X269 hx (t := .boolean) Bd.returns (by simp) hlk (hb hby own_b7_d149) (z' := (1 : Int32)) (by first | rfl | exact own_nb _) (by decide) (by decide) ?_
                  show Q7 Z a x k y h0 n0 _ T269.heap _
                  rw [e269]
                  have u272 := Fw223.other W253 (Or.inr (slot_ne (Or.inl (hw _ (List.mem_of_getElem? (i := 30) rfl))) (Or.inl (hw _ (List.mem_of_getElem? (i := 21) rfl))) (by decide) (t := .int) (t' := .int) (by decide) (by decide)))
                  have u273 := u272.other W269 (Or.inr (slot_ne (Or.inl (hw _ (List.mem_of_getElem? (i := 30) rfl))) (Or.inl (hw _ (List.mem_of_getElem? (i := 23) rfl))) (by decide) (t := .int) (t' := .int) (by decide) (by decide)))
                  have u274 := Fw253.other W269 (Or.inr (slot_ne (Or.inl (hw _ (List.mem_of_getElem? (i := 21) rfl))) (Or.inl (hw _ (List.mem_of_getElem? (i := 23) rfl))) (by decide) (t := .int) (t' := .int) (by decide) (by decide)))
                  exact Or.inr ⟨3, 128, 191, (own_beg3 (by omega) (if_neg (by omega)) (if_neg (by omega))), rfl, N269, K271, u273, u274, Fw269⟩
        · have hd220 := own_nlt32 hc220
          rw [show (239 : Int32).toInt = 239 from rfl] at hd220
          refine own_st (B := s₁.setTop (mkF m 36 #[.val (.ref a), .val (.int x)] [])) (fun t_ k_ => XS.icmpNo X0.here hx rfl (hb hby own_b7_d33) rfl (flt hc220).2.2.1 k_) ?_
          refine own_st (B := s₁.setTop (mkF m 37 #[.val (.ref a), .val (.int x)] [(.ref a)])) (fun t_ k_ => XS.aloadN X0.here hx rfl (hb hby own_b7_d36) rfl rfl k_) ?_
          refine own_st (B := s₁.setTop (mkF m 38 #[.val (.ref a), .val (.int x)] [(.int (2 : Int32)), (.ref a)])) (fun t_ k_ => XS.iconst X0.here hx rfl (hb hby own_b7_d37) k_) ?_
          obtain ⟨T275, h275, X275, e275, W275, st275⟩ := putF X0 hx hZ hown (host := "") (Or.inl (hw _ (List.mem_of_getElem? (i := 29) rfl))) Via.refl e0 F0 E (Or.inl (hw _ (List.mem_of_getElem? (i := 30) rfl))) (hw _ (List.mem_of_getElem? (i := 12) rfl)) (ty := .int) (by decide) rfl rfl (g := (mkF m 38 #[.val (.ref a), .val (.int x)] [(.int (2 : Int32)), (.ref a)])) rfl rfl (hb hby own_b7_d38)
          have Fw275 := F0.same W275
          have N275 := Fr.snoc X275 N0 ga
          have Z276 := Nat.le_trans Z0 (Keep.of_wr W275).1
          have K277 := K0.wr W275 (Or.inl (List.mem_of_getElem? (i := 0) rfl))
          refine own_st (B := T275.setTop (mkF m 41 #[.val (.ref a), .val (.int x)] [])) st275 ?_
          refine own_st (B := T275.setTop (mkF m 42 #[.val (.ref a), .val (.int x)] [(.ref a)])) (fun t_ k_ => XS.aloadN X275.here hx rfl (hb hby own_b7_d41) rfl rfl k_) ?_
          refine own_st (B := T275.setTop (mkF m 43 #[.val (.ref a), .val (.int x)] [(.int x), (.ref a)])) (fun t_ k_ => XS.iloadN X275.here hx rfl (hb hby own_b7_d42) rfl k_) ?_
          refine own_st (B := T275.setTop (mkF m 46 #[.val (.ref a), .val (.int x)] [(.int (224 : Int32)), (.int x), (.ref a)])) (fun t_ k_ => XS.sipush X275.here hx rfl (hb hby own_b7_d43) k_) ?_
          by_cases hc278 : x = (224 : Int32)
          · have hd278 := own_eq32 hc278
            rw [show (224 : Int32).toInt = 224 from rfl] at hd278
            refine own_st (B := T275.setTop (mkF m 49 #[.val (.ref a), .val (.int x)] [(.ref a)])) (fun t_ k_ => XS.icmpNo X275.here hx rfl (hb hby own_b7_d46) rfl (teq hc278).2 k_) ?_
            refine own_st (B := T275.setTop (mkF m 52 #[.val (.ref a), .val (.int x)] [(.int (160 : Int32)), (.ref a)])) (fun t_ k_ => XS.sipush X275.here hx rfl (hb hby own_b7_d49) k_) ?_
            refine own_st (B := T275.setTop (mkF m 58 #[.val (.ref a), .val (.int x)] [(.int (160 : Int32)), (.ref a)])) (fun t_ k_ => XS.goto X275.here hx rfl (pc0 := 52) (pc' := 58) rfl (hb hby own_b7_d52) (by decide) (by decide) k_) ?_
            have u279 := E.wr W275
            have u280 := F1.other W275 (Or.inr (slot_ne (Or.inl (hw _ (List.mem_of_getElem? (i := 21) rfl))) (Or.inl (hw _ (List.mem_of_getElem? (i := 30) rfl))) (by decide) (t := .int) (t' := .int) (by decide) (by decide)))
            obtain ⟨T281, h281, X281, e281, W281, st281⟩ := putF X275 hx hZ hown (host := "") (Or.inl (hw _ (List.mem_of_getElem? (i := 20) rfl))) Via.refl e275 u280 u279 (Or.inl (hw _ (List.mem_of_getElem? (i := 21) rfl))) (hw _ (List.mem_of_getElem? (i := 12) rfl)) (ty := .int) (by decide) rfl rfl (g := (mkF m 58 #[.val (.ref a), .val (.int x)] [(.int (160 : Int32)), (.ref a)])) rfl rfl (hb hby own_b7_d58)
            have Fw281 := u280.same W281
            have N281 := Fr.snoc X281 N275 ga
            have Z282 := Nat.le_trans Z276 (Keep.of_wr W281).1
            have K283 := K277.wr W281 (Or.inl (List.mem_of_getElem? (i := 0) rfl))
            refine own_st (B := T281.setTop (mkF m 61 #[.val (.ref a), .val (.int x)] [])) st281 ?_
            refine own_st (B := T281.setTop (mkF m 62 #[.val (.ref a), .val (.int x)] [(.ref a)])) (fun t_ k_ => XS.aloadN X281.here hx rfl (hb hby own_b7_d61) rfl rfl k_) ?_
            refine own_st (B := T281.setTop (mkF m 63 #[.val (.ref a), .val (.int x)] [(.int x), (.ref a)])) (fun t_ k_ => XS.iloadN X281.here hx rfl (hb hby own_b7_d62) rfl k_) ?_
            refine own_st (B := T281.setTop (mkF m 66 #[.val (.ref a), .val (.int x)] [(.int (237 : Int32)), (.int x), (.ref a)])) (fun t_ k_ => XS.sipush X281.here hx rfl (hb hby own_b7_d63) k_) ?_
            by_cases hc284 : x = (237 : Int32)
            · have hd284 := own_eq32 hc284
              rw [show (237 : Int32).toInt = 237 from rfl] at hd284
              refine own_st (B := T281.setTop (mkF m 69 #[.val (.ref a), .val (.int x)] [(.ref a)])) (fun t_ k_ => XS.icmpNo X281.here hx rfl (hb hby own_b7_d66) rfl (teq hc284).2 k_) ?_
              refine own_st (B := T281.setTop (mkF m 72 #[.val (.ref a), .val (.int x)] [(.int (159 : Int32)), (.ref a)])) (fun t_ k_ => XS.sipush X281.here hx rfl (hb hby own_b7_d69) k_) ?_
              refine own_st (B := T281.setTop (mkF m 78 #[.val (.ref a), .val (.int x)] [(.int (159 : Int32)), (.ref a)])) (fun t_ k_ => XS.goto X281.here hx rfl (pc0 := 72) (pc' := 78) rfl (hb hby own_b7_d72) (by decide) (by decide) k_) ?_
              have u285 := u279.wr W281
              have u286 := F2.other W275 (Or.inr (slot_ne (Or.inl (hw _ (List.mem_of_getElem? (i := 23) rfl))) (Or.inl (hw _ (List.mem_of_getElem? (i := 30) rfl))) (by decide) (t := .int) (t' := .int) (by decide) (by decide)))
              have u287 := u286.other W281 (Or.inr (slot_ne (Or.inl (hw _ (List.mem_of_getElem? (i := 23) rfl))) (Or.inl (hw _ (List.mem_of_getElem? (i := 21) rfl))) (by decide) (t := .int) (t' := .int) (by decide) (by decide)))
              obtain ⟨T288, h288, X288, e288, W288, st288⟩ := putF X281 hx hZ hown (host := "") (Or.inl (hw _ (List.mem_of_getElem? (i := 22) rfl))) Via.refl e281 u287 u285 (Or.inl (hw _ (List.mem_of_getElem? (i := 23) rfl))) (hw _ (List.mem_of_getElem? (i := 12) rfl)) (ty := .int) (by decide) rfl rfl (g := (mkF m 78 #[.val (.ref a), .val (.int x)] [(.int (159 : Int32)), (.ref a)])) rfl rfl (hb hby own_b7_d78)
              have Fw288 := u287.same W288
              have N288 := Fr.snoc X288 N281 ga
              have Z289 := Nat.le_trans Z282 (Keep.of_wr W288).1
              have K290 := K283.wr W288 (Or.inl (List.mem_of_getElem? (i := 0) rfl))
              refine own_st (B := T288.setTop (mkF m 81 #[.val (.ref a), .val (.int x)] [])) st288 ?_
              refine own_st (B := T288.setTop (mkF m 148 #[.val (.ref a), .val (.int x)] [])) (fun t_ k_ => XS.goto X288.here hx rfl (pc0 := 81) (pc' := 148) rfl (hb hby own_b7_d81) (by decide) (by decide) k_) ?_
              refine own_st (B := T288.setTop (mkF m 149 #[.val (.ref a), .val (.int x)] [(.int (1 : Int32))])) (fun t_ k_ => XS.iconst X288.here hx rfl (hb hby own_b7_d148) k_) ?_
              refine own_retN X288 hx (t := .boolean) Bd.returns (by simp) hlk (hb hby own_b7_d149) (z' := (1 : Int32)) (by first | rfl | exact own_nb _) (by decide) (by decide) ?_
              show Q7 Z a x k y h0 n0 _ T288.heap _
              rw [e288]
              have u291 := Fw275.other W281 (Or.inr (slot_ne (Or.inl (hw _ (List.mem_of_getElem? (i := 30) rfl))) (Or.inl (hw _ (List.mem_of_getElem? (i := 21) rfl))) (by decide) (t := .int) (t' := .int) (by decide) (by decide)))
              have u292 := u291.other W288 (Or.inr (slot_ne (Or.inl (hw _ (List.mem_of_getElem? (i := 30) rfl))) (Or.inl (hw _ (List.mem_of_getElem? (i := 23) rfl))) (by decide) (t := .int) (t' := .int) (by decide) (by decide)))
              have u293 := Fw281.other W288 (Or.inr (slot_ne (Or.inl (hw _ (List.mem_of_getElem? (i := 21) rfl))) (Or.inl (hw _ (List.mem_of_getElem? (i := 23) rfl))) (by decide) (t := .int) (t' := .int) (by decide) (by decide)))
              exact Or.inr ⟨2, 160, 159, (own_beg2 (by omega) (if_pos (by omega)) (if_pos (by omega))), rfl, N288, K290, u292, u293, Fw288⟩
            · have hd284 := own_neq32 hc284
              rw [show (237 : Int32).toInt = 237 from rfl] at hd284
              refine own_st (B := T281.setTop (mkF m 75 #[.val (.ref a), .val (.int x)] [(.ref a)])) (fun t_ k_ => XS.icmpYes X281.here hx rfl (pc0 := 66) (pc' := 75) rfl (hb hby own_b7_d66) rfl (feq hc284).2 (by decide) (by decide) k_) ?_
              refine own_st (B := T281.setTop (mkF m 78 #[.val (.ref a), .val (.int x)] [(.int (191 : Int32)), (.ref a)])) (fun t_ k_ => XS.sipush X281.here hx rfl (hb hby own_b7_d75) k_) ?_
              have u294 := u279.wr W281
              have u295 := F2.other W275 (Or.inr (slot_ne (Or.inl (hw _ (List.mem_of_getElem? (i := 23) rfl))) (Or.inl (hw _ (List.mem_of_getElem? (i := 30) rfl))) (by decide) (t := .int) (t' := .int) (by decide) (by decide)))
              have u296 := u295.other W281 (Or.inr (slot_ne (Or.inl (hw _ (List.mem_of_getElem? (i := 23) rfl))) (Or.inl (hw _ (List.mem_of_getElem? (i := 21) rfl))) (by decide) (t := .int) (t' := .int) (by decide) (by decide)))
              obtain ⟨T297, h297, X297, e297, W297, st297⟩ := putF X281 hx hZ hown (host := "") (Or.inl (hw _ (List.mem_of_getElem? (i := 22) rfl))) Via.refl e281 u296 u294 (Or.inl (hw _ (List.mem_of_getElem? (i := 23) rfl))) (hw _ (List.mem_of_getElem? (i := 12) rfl)) (ty := .int) (by decide) rfl rfl (g := (mkF m 78 #[.val (.ref a), .val (.int x)] [(.int (191 : Int32)), (.ref a)])) rfl rfl (hb hby own_b7_d78)
              have Fw297 := u296.same W297
              have N297 := Fr.snoc X297 N281 ga
              have Z298 := Nat.le_trans Z282 (Keep.of_wr W297).1
              have K299 := K283.wr W297 (Or.inl (List.mem_of_getElem? (i := 0) rfl))
              refine own_st (B := T297.setTop (mkF m 81 #[.val (.ref a), .val (.int x)] [])) st297 ?_
              refine own_st (B := T297.setTop (mkF m 148 #[.val (.ref a), .val (.int x)] [])) (fun t_ k_ => XS.goto X297.here hx rfl (pc0 := 81) (pc' := 148) rfl (hb hby own_b7_d81) (by decide) (by decide) k_) ?_
              refine own_st (B := T297.setTop (mkF m 149 #[.val (.ref a), .val (.int x)] [(.int (1 : Int32))])) (fun t_ k_ => XS.iconst X297.here hx rfl (hb hby own_b7_d148) k_) ?_
              refine own_retN X297 hx (t := .boolean) Bd.returns (by simp) hlk (hb hby own_b7_d149) (z' := (1 : Int32)) (by first | rfl | exact own_nb _) (by decide) (by decide) ?_
              show Q7 Z a x k y h0 n0 _ T297.heap _
              rw [e297]
              have u300 := Fw275.other W281 (Or.inr (slot_ne (Or.inl (hw _ (List.mem_of_getElem? (i := 30) rfl))) (Or.inl (hw _ (List.mem_of_getElem? (i := 21) rfl))) (by decide) (t := .int) (t' := .int) (by decide) (by decide)))
              have u301 := u300.other W297 (Or.inr (slot_ne (Or.inl (hw _ (List.mem_of_getElem? (i := 30) rfl))) (Or.inl (hw _ (List.mem_of_getElem? (i := 23) rfl))) (by decide) (t := .int) (t' := .int) (by decide) (by decide)))
              have u302 := Fw281.other W297 (Or.inr (slot_ne (Or.inl (hw _ (List.mem_of_getElem? (i := 21) rfl))) (Or.inl (hw _ (List.mem_of_getElem? (i := 23) rfl))) (by decide) (t := .int) (t' := .int) (by decide) (by decide)))
              exact Or.inr ⟨2, 160, 191, (own_beg2 (by omega) (if_pos (by omega)) (if_neg (by omega))), rfl, N297, K299, u301, u302, Fw297⟩
          · have hd278 := own_neq32 hc278
            rw [show (224 : Int32).toInt = 224 from rfl] at hd278
            refine own_st (B := T275.setTop (mkF m 55 #[.val (.ref a), .val (.int x)] [(.ref a)])) (fun t_ k_ => XS.icmpYes X275.here hx rfl (pc0 := 46) (pc' := 55) rfl (hb hby own_b7_d46) rfl (feq hc278).2 (by decide) (by decide) k_) ?_
            refine own_st (B := T275.setTop (mkF m 58 #[.val (.ref a), .val (.int x)] [(.int (128 : Int32)), (.ref a)])) (fun t_ k_ => XS.sipush X275.here hx rfl (hb hby own_b7_d55) k_) ?_
            have u303 := E.wr W275
            have u304 := F1.other W275 (Or.inr (slot_ne (Or.inl (hw _ (List.mem_of_getElem? (i := 21) rfl))) (Or.inl (hw _ (List.mem_of_getElem? (i := 30) rfl))) (by decide) (t := .int) (t' := .int) (by decide) (by decide)))
            obtain ⟨T305, h305, X305, e305, W305, st305⟩ := putF X275 hx hZ hown (host := "") (Or.inl (hw _ (List.mem_of_getElem? (i := 20) rfl))) Via.refl e275 u304 u303 (Or.inl (hw _ (List.mem_of_getElem? (i := 21) rfl))) (hw _ (List.mem_of_getElem? (i := 12) rfl)) (ty := .int) (by decide) rfl rfl (g := (mkF m 58 #[.val (.ref a), .val (.int x)] [(.int (128 : Int32)), (.ref a)])) rfl rfl (hb hby own_b7_d58)
            have Fw305 := u304.same W305
            have N305 := Fr.snoc X305 N275 ga
            have Z306 := Nat.le_trans Z276 (Keep.of_wr W305).1
            have K307 := K277.wr W305 (Or.inl (List.mem_of_getElem? (i := 0) rfl))
            refine own_st (B := T305.setTop (mkF m 61 #[.val (.ref a), .val (.int x)] [])) st305 ?_
            refine own_st (B := T305.setTop (mkF m 62 #[.val (.ref a), .val (.int x)] [(.ref a)])) (fun t_ k_ => XS.aloadN X305.here hx rfl (hb hby own_b7_d61) rfl rfl k_) ?_
            refine own_st (B := T305.setTop (mkF m 63 #[.val (.ref a), .val (.int x)] [(.int x), (.ref a)])) (fun t_ k_ => XS.iloadN X305.here hx rfl (hb hby own_b7_d62) rfl k_) ?_
            refine own_st (B := T305.setTop (mkF m 66 #[.val (.ref a), .val (.int x)] [(.int (237 : Int32)), (.int x), (.ref a)])) (fun t_ k_ => XS.sipush X305.here hx rfl (hb hby own_b7_d63) k_) ?_
            by_cases hc308 : x = (237 : Int32)
            · have hd308 := own_eq32 hc308
              rw [show (237 : Int32).toInt = 237 from rfl] at hd308
              refine own_st (B := T305.setTop (mkF m 69 #[.val (.ref a), .val (.int x)] [(.ref a)])) (fun t_ k_ => XS.icmpNo X305.here hx rfl (hb hby own_b7_d66) rfl (teq hc308).2 k_) ?_
              refine own_st (B := T305.setTop (mkF m 72 #[.val (.ref a), .val (.int x)] [(.int (159 : Int32)), (.ref a)])) (fun t_ k_ => XS.sipush X305.here hx rfl (hb hby own_b7_d69) k_) ?_
              refine own_st (B := T305.setTop (mkF m 78 #[.val (.ref a), .val (.int x)] [(.int (159 : Int32)), (.ref a)])) (fun t_ k_ => XS.goto X305.here hx rfl (pc0 := 72) (pc' := 78) rfl (hb hby own_b7_d72) (by decide) (by decide) k_) ?_
              have u309 := u303.wr W305
              have u310 := F2.other W275 (Or.inr (slot_ne (Or.inl (hw _ (List.mem_of_getElem? (i := 23) rfl))) (Or.inl (hw _ (List.mem_of_getElem? (i := 30) rfl))) (by decide) (t := .int) (t' := .int) (by decide) (by decide)))
              have u311 := u310.other W305 (Or.inr (slot_ne (Or.inl (hw _ (List.mem_of_getElem? (i := 23) rfl))) (Or.inl (hw _ (List.mem_of_getElem? (i := 21) rfl))) (by decide) (t := .int) (t' := .int) (by decide) (by decide)))
              obtain ⟨T312, h312, X312, e312, W312, st312⟩ := putF X305 hx hZ hown (host := "") (Or.inl (hw _ (List.mem_of_getElem? (i := 22) rfl))) Via.refl e305 u311 u309 (Or.inl (hw _ (List.mem_of_getElem? (i := 23) rfl))) (hw _ (List.mem_of_getElem? (i := 12) rfl)) (ty := .int) (by decide) rfl rfl (g := (mkF m 78 #[.val (.ref a), .val (.int x)] [(.int (159 : Int32)), (.ref a)])) rfl rfl (hb hby own_b7_d78)
              have Fw312 := u311.same W312
              have N312 := Fr.snoc X312 N305 ga
              have Z313 := Nat.le_trans Z306 (Keep.of_wr W312).1
              have K314 := K307.wr W312 (Or.inl (List.mem_of_getElem? (i := 0) rfl))
              refine own_st (B := T312.setTop (mkF m 81 #[.val (.ref a), .val (.int x)] [])) st312 ?_
              refine own_st (B := T312.setTop (mkF m 148 #[.val (.ref a), .val (.int x)] [])) (fun t_ k_ => XS.goto X312.here hx rfl (pc0 := 81) (pc' := 148) rfl (hb hby own_b7_d81) (by decide) (by decide) k_) ?_
              refine own_st (B := T312.setTop (mkF m 149 #[.val (.ref a), .val (.int x)] [(.int (1 : Int32))])) (fun t_ k_ => XS.iconst X312.here hx rfl (hb hby own_b7_d148) k_) ?_
              refine own_retN X312 hx (t := .boolean) Bd.returns (by simp) hlk (hb hby own_b7_d149) (z' := (1 : Int32)) (by first | rfl | exact own_nb _) (by decide) (by decide) ?_
              show Q7 Z a x k y h0 n0 _ T312.heap _
              rw [e312]
              have u315 := Fw275.other W305 (Or.inr (slot_ne (Or.inl (hw _ (List.mem_of_getElem? (i := 30) rfl))) (Or.inl (hw _ (List.mem_of_getElem? (i := 21) rfl))) (by decide) (t := .int) (t' := .int) (by decide) (by decide)))
              have u316 := u315.other W312 (Or.inr (slot_ne (Or.inl (hw _ (List.mem_of_getElem? (i := 30) rfl))) (Or.inl (hw _ (List.mem_of_getElem? (i := 23) rfl))) (by decide) (t := .int) (t' := .int) (by decide) (by decide)))
              have u317 := Fw305.other W312 (Or.inr (slot_ne (Or.inl (hw _ (List.mem_of_getElem? (i := 21) rfl))) (Or.inl (hw _ (List.mem_of_getElem? (i := 23) rfl))) (by decide) (t := .int) (t' := .int) (by decide) (by decide)))
              exact Or.inr ⟨2, 128, 159, (own_beg2 (by omega) (if_neg (by omega)) (if_pos (by omega))), rfl, N312, K314, u316, u317, Fw312⟩
            · have hd308 := own_neq32 hc308
              rw [show (237 : Int32).toInt = 237 from rfl] at hd308
              refine own_st (B := T305.setTop (mkF m 75 #[.val (.ref a), .val (.int x)] [(.ref a)])) (fun t_ k_ => XS.icmpYes X305.here hx rfl (pc0 := 66) (pc' := 75) rfl (hb hby own_b7_d66) rfl (feq hc308).2 (by decide) (by decide) k_) ?_
              refine own_st (B := T305.setTop (mkF m 78 #[.val (.ref a), .val (.int x)] [(.int (191 : Int32)), (.ref a)])) (fun t_ k_ => XS.sipush X305.here hx rfl (hb hby own_b7_d75) k_) ?_
              have u318 := u303.wr W305
              have u319 := F2.other W275 (Or.inr (slot_ne (Or.inl (hw _ (List.mem_of_getElem? (i := 23) rfl))) (Or.inl (hw _ (List.mem_of_getElem? (i := 30) rfl))) (by decide) (t := .int) (t' := .int) (by decide) (by decide)))
              have u320 := u319.other W305 (Or.inr (slot_ne (Or.inl (hw _ (List.mem_of_getElem? (i := 23) rfl))) (Or.inl (hw _ (List.mem_of_getElem? (i := 21) rfl))) (by decide) (t := .int) (t' := .int) (by decide) (by decide)))
              obtain ⟨T321, h321, X321, e321, W321, st321⟩ := putF X305 hx hZ hown (host := "") (Or.inl (hw _ (List.mem_of_getElem? (i := 22) rfl))) Via.refl e305 u320 u318 (Or.inl (hw _ (List.mem_of_getElem? (i := 23) rfl))) (hw _ (List.mem_of_getElem? (i := 12) rfl)) (ty := .int) (by decide) rfl rfl (g := (mkF m 78 #[.val (.ref a), .val (.int x)] [(.int (191 : Int32)), (.ref a)])) rfl rfl (hb hby own_b7_d78)
              have Fw321 := u320.same W321
              have N321 := Fr.snoc X321 N305 ga
              have Z322 := Nat.le_trans Z306 (Keep.of_wr W321).1
              have K323 := K307.wr W321 (Or.inl (List.mem_of_getElem? (i := 0) rfl))
              refine own_st (B := T321.setTop (mkF m 81 #[.val (.ref a), .val (.int x)] [])) st321 ?_
              refine own_st (B := T321.setTop (mkF m 148 #[.val (.ref a), .val (.int x)] [])) (fun t_ k_ => XS.goto X321.here hx rfl (pc0 := 81) (pc' := 148) rfl (hb hby own_b7_d81) (by decide) (by decide) k_) ?_
              refine own_st (B := T321.setTop (mkF m 149 #[.val (.ref a), .val (.int x)] [(.int (1 : Int32))])) (fun t_ k_ => XS.iconst X321.here hx rfl (hb hby own_b7_d148) k_) ?_
              refine own_retN X321 hx (t := .boolean) Bd.returns (by simp) hlk (hb hby own_b7_d149) (z' := (1 : Int32)) (by first | rfl | exact own_nb _) (by decide) (by decide) ?_
              show Q7 Z a x k y h0 n0 _ T321.heap _
              rw [e321]
              have u324 := Fw275.other W305 (Or.inr (slot_ne (Or.inl (hw _ (List.mem_of_getElem? (i := 30) rfl))) (Or.inl (hw _ (List.mem_of_getElem? (i := 21) rfl))) (by decide) (t := .int) (t' := .int) (by decide) (by decide)))
              have u325 := u324.other W321 (Or.inr (slot_ne (Or.inl (hw _ (List.mem_of_getElem? (i := 30) rfl))) (Or.inl (hw _ (List.mem_of_getElem? (i := 23) rfl))) (by decide) (t := .int) (t' := .int) (by decide) (by decide)))
              have u326 := Fw305.other W321 (Or.inr (slot_ne (Or.inl (hw _ (List.mem_of_getElem? (i := 21) rfl))) (Or.inl (hw _ (List.mem_of_getElem? (i := 23) rfl))) (by decide) (t := .int) (t' := .int) (by decide) (by decide)))
              exact Or.inr ⟨2, 128, 191, (own_beg2 (by omega) (if_neg (by omega)) (if_neg (by omega))), rfl, N321, K323, u325, u326, Fw321⟩
    · have hd164 := own_nlt32 hc164
      rw [show (223 : Int32).toInt = 223 from rfl] at hd164
      refine own_st (B := s₁.setTop (mkF m 14 #[.val (.ref a), .val (.int x)] [])) (fun t_ k_ => XS.icmpNo X0.here hx rfl (hb hby own_b7_d11) rfl (flt hc164).2.2.1 k_) ?_
      refine own_st (B := s₁.setTop (mkF m 15 #[.val (.ref a), .val (.int x)] [(.ref a)])) (fun t_ k_ => XS.aloadN X0.here hx rfl (hb hby own_b7_d14) rfl rfl k_) ?_
      refine own_st (B := s₁.setTop (mkF m 16 #[.val (.ref a), .val (.int x)] [(.int (1 : Int32)), (.ref a)])) (fun t_ k_ => XS.iconst X0.here hx rfl (hb hby own_b7_d15) k_) ?_
      obtain ⟨T327, h327, X327, e327, W327, st327⟩ := putF X0 hx hZ hown (host := "") (Or.inl (hw _ (List.mem_of_getElem? (i := 29) rfl))) Via.refl e0 F0 E (Or.inl (hw _ (List.mem_of_getElem? (i := 30) rfl))) (hw _ (List.mem_of_getElem? (i := 12) rfl)) (ty := .int) (by decide) rfl rfl (g := (mkF m 16 #[.val (.ref a), .val (.int x)] [(.int (1 : Int32)), (.ref a)])) rfl rfl (hb hby own_b7_d16)
      have Fw327 := F0.same W327
      have N327 := Fr.snoc X327 N0 ga
      have Z328 := Nat.le_trans Z0 (Keep.of_wr W327).1
      have K329 := K0.wr W327 (Or.inl (List.mem_of_getElem? (i := 0) rfl))
      refine own_st (B := T327.setTop (mkF m 19 #[.val (.ref a), .val (.int x)] [])) st327 ?_
      refine own_st (B := T327.setTop (mkF m 148 #[.val (.ref a), .val (.int x)] [])) (fun t_ k_ => XS.goto X327.here hx rfl (pc0 := 19) (pc' := 148) rfl (hb hby own_b7_d19) (by decide) (by decide) k_) ?_
      refine own_st (B := T327.setTop (mkF m 149 #[.val (.ref a), .val (.int x)] [(.int (1 : Int32))])) (fun t_ k_ => XS.iconst X327.here hx rfl (hb hby own_b7_d148) k_) ?_
      refine own_retN X327 hx (t := .boolean) Bd.returns (by simp) hlk (hb hby own_b7_d149) (z' := (1 : Int32)) (by first | rfl | exact own_nb _) (by decide) (by decide) ?_
      show Q7 Z a x k y h0 n0 _ T327.heap _
      rw [e327]
      have u330 := F1.other W327 (Or.inr (slot_ne (Or.inl (hw _ (List.mem_of_getElem? (i := 21) rfl))) (Or.inl (hw _ (List.mem_of_getElem? (i := 30) rfl))) (by decide) (t := .int) (t' := .int) (by decide) (by decide)))
      have u331 := F2.other W327 (Or.inr (slot_ne (Or.inl (hw _ (List.mem_of_getElem? (i := 23) rfl))) (Or.inl (hw _ (List.mem_of_getElem? (i := 30) rfl))) (by decide) (t := .int) (t' := .int) (by decide) (by decide)))
      exact Or.inr ⟨1, 128, 191, (own_beg1 (by omega)), rfl, N327, K329, Fw327, u330, u331⟩
theorem own_pd0 : parseMethodDescriptor "(I)Z" = some ⟨[.int], some .boolean⟩ := by decide +kernel
theorem own_b5_d0 : decode prog_31_method_2_code 0 = .ok (.iload_n 2, 1) := by decide +kernel
theorem own_b5_d1 : decode prog_31_method_2_code 1 = .ok (.istore 4, 2) := by decide +kernel
theorem own_b5_d3 : decode prog_31_method_2_code 3 = .ok (.iload_n 2, 1) := by decide +kernel
theorem own_b5_d4 : decode prog_31_method_2_code 4 = .ok (.istore 5, 2) := by decide +kernel
theorem own_b5_d6 : decode prog_31_method_2_code 6 = .ok (.iload 5, 2) := by decide +kernel
theorem own_b5_d8 : decode prog_31_method_2_code 8 = .ok (.iload_n 3, 1) := by decide +kernel
theorem own_b5_d9 : decode prog_31_method_2_code 9 = .ok (.if_icmp .ge 107, 3) := by decide +kernel
theorem own_b5_d12 : decode prog_31_method_2_code 12 = .ok (.aload_n 1, 1) := by decide +kernel
theorem own_b5_d13 : decode prog_31_method_2_code 13 = .ok (.iload 5, 2) := by decide +kernel
theorem own_b5_d15 : decode prog_31_method_2_code 15 = .ok (.baload, 1) := by decide +kernel
theorem own_b5_d16 : decode prog_31_method_2_code 16 = .ok (.sipush 255, 3) := by decide +kernel
theorem own_b5_d19 : decode prog_31_method_2_code 19 = .ok (.iand, 1) := by decide +kernel
theorem own_b5_d20 : decode prog_31_method_2_code 20 = .ok (.istore 6, 2) := by decide +kernel
theorem own_b5_d22 : decode prog_31_method_2_code 22 = .ok (.aload_n 0, 1) := by decide +kernel
theorem own_b5_d23 : decode prog_31_method_2_code 23 = .ok (.getfield 16, 3) := by decide +kernel
theorem own_b5_d26 : decode prog_31_method_2_code 26 = .ok (.ifCond .le 51, 3) := by decide +kernel
theorem own_b5_d29 : decode prog_31_method_2_code 29 = .ok (.iload 6, 2) := by decide +kernel
theorem own_b5_d31 : decode prog_31_method_2_code 31 = .ok (.aload_n 0, 1) := by decide +kernel
theorem own_b5_d32 : decode prog_31_method_2_code 32 = .ok (.getfield 9, 3) := by decide +kernel
theorem own_b5_d35 : decode prog_31_method_2_code 35 = .ok (.if_icmp .lt 12, 3) := by decide +kernel
theorem own_b5_d38 : decode prog_31_method_2_code 38 = .ok (.iload 6, 2) := by decide +kernel
theorem own_b5_d40 : decode prog_31_method_2_code 40 = .ok (.aload_n 0, 1) := by decide +kernel
theorem own_b5_d41 : decode prog_31_method_2_code 41 = .ok (.getfield 13, 3) := by decide +kernel
theorem own_b5_d44 : decode prog_31_method_2_code 44 = .ok (.if_icmp .le 6, 3) := by decide +kernel
theorem own_b5_d47 : decode prog_31_method_2_code 47 = .ok (.iload 4, 2) := by decide +kernel
theorem own_b5_d49 : decode prog_31_method_2_code 49 = .ok (.ireturn, 1) := by decide +kernel
theorem own_b5_d50 : decode prog_31_method_2_code 50 = .ok (.aload_n 0, 1) := by decide +kernel
theorem own_b5_d51 : decode prog_31_method_2_code 51 = .ok (.sipush 128, 3) := by decide +kernel
theorem own_b5_d54 : decode prog_31_method_2_code 54 = .ok (.putfield 9, 3) := by decide +kernel
theorem own_b5_d57 : decode prog_31_method_2_code 57 = .ok (.aload_n 0, 1) := by decide +kernel
theorem own_b5_d58 : decode prog_31_method_2_code 58 = .ok (.sipush 191, 3) := by decide +kernel
theorem own_b5_d61 : decode prog_31_method_2_code 61 = .ok (.putfield 13, 3) := by decide +kernel
theorem own_b5_d64 : decode prog_31_method_2_code 64 = .ok (.aload_n 0, 1) := by decide +kernel
theorem own_b5_d65 : decode prog_31_method_2_code 65 = .ok (.dup, 1) := by decide +kernel
theorem own_b5_d66 : decode prog_31_method_2_code 66 = .ok (.getfield 16, 3) := by decide +kernel
theorem own_b5_d69 : decode prog_31_method_2_code 69 = .ok (.iconst 1, 1) := by decide +kernel
theorem own_b5_d70 : decode prog_31_method_2_code 70 = .ok (.isub, 1) := by decide +kernel
theorem own_b5_d71 : decode prog_31_method_2_code 71 = .ok (.putfield 16, 3) := by decide +kernel
theorem own_b5_d74 : decode prog_31_method_2_code 74 = .ok (.goto 23, 3) := by decide +kernel
theorem own_b5_d77 : decode prog_31_method_2_code 77 = .ok (.iload 6, 2) := by decide +kernel
theorem own_b5_d79 : decode prog_31_method_2_code 79 = .ok (.sipush 128, 3) := by decide +kernel
theorem own_b5_d82 : decode prog_31_method_2_code 82 = .ok (.if_icmp .lt 15, 3) := by decide +kernel
theorem own_b5_d85 : decode prog_31_method_2_code 85 = .ok (.aload_n 0, 1) := by decide +kernel
theorem own_b5_d86 : decode prog_31_method_2_code 86 = .ok (.iload 6, 2) := by decide +kernel
theorem own_b5_d88 : decode prog_31_method_2_code 88 = .ok (.invokevirtual 19, 3) := by decide +kernel
theorem own_b5_d91 : decode prog_31_method_2_code 91 = .ok (.ifCond .ne 6, 3) := by decide +kernel
theorem own_b5_d94 : decode prog_31_method_2_code 94 = .ok (.iload 4, 2) := by decide +kernel
theorem own_b5_d96 : decode prog_31_method_2_code 96 = .ok (.ireturn, 1) := by decide +kernel
theorem own_b5_d97 : decode prog_31_method_2_code 97 = .ok (.aload_n 0, 1) := by decide +kernel
theorem own_b5_d98 : decode prog_31_method_2_code 98 = .ok (.getfield 16, 3) := by decide +kernel
theorem own_b5_d101 : decode prog_31_method_2_code 101 = .ok (.ifCond .ne 9, 3) := by decide +kernel
theorem own_b5_d104 : decode prog_31_method_2_code 104 = .ok (.iload 5, 2) := by decide +kernel
theorem own_b5_d106 : decode prog_31_method_2_code 106 = .ok (.iconst 1, 1) := by decide +kernel
theorem own_b5_d107 : decode prog_31_method_2_code 107 = .ok (.iadd, 1) := by decide +kernel
theorem own_b5_d108 : decode prog_31_method_2_code 108 = .ok (.istore 4, 2) := by decide +kernel
theorem own_b5_d110 : decode prog_31_method_2_code 110 = .ok (.iinc 5 1, 3) := by decide +kernel
theorem own_b5_d113 : decode prog_31_method_2_code 113 = .ok (.goto (-107), 3) := by decide +kernel
theorem own_b5_d116 : decode prog_31_method_2_code 116 = .ok (.iload_n 3, 1) := by decide +kernel
theorem own_b5_d117 : decode prog_31_method_2_code 117 = .ok (.ireturn, 1) := by decide +kernel
theorem own_ef_rm5 (m : MethodId) (x0 : Addr) (x1 : Addr) (x2 : Int32) (x3 : Int32) : entryFrame m #[(.ref x0), (.ref x1), (.int x2), (.int x3)] 7 = mkF m 0 #[.val (.ref x0), .val (.ref x1), .val (.int x2), .val (.int x3), .unset, .unset, .unset] [] := by first | (simp [entryFrame, mkF, argsToLocals, Value.category]; done) | rfl
def Q5 (Z : State) (a : Addr) (d : Addr) (x2 : Int32) (x3 : Int32) (ka : Nat) (kt : Nat) (n : Nat) (f : Nat → Int32) (nd : Nat) (lo : Nat) (hi : Nat) (h0 : Heap) (n0 : Nat) (v : Option Value) (h : Heap) (L : List Loc) : Prop := (∃ (sq : Nat) (y : Int32), own_run (own_by f) (kt - ka) ka (nd, lo, hi) ka = .inl sq ∧ v = some (.int y) ∧ own_ix y sq ∧ Fr n0 L ∧ Keep h0 h [a]) ∨ ∃ nd' lo' hi' : Nat, own_run (own_by f) (kt - ka) ka (nd, lo, hi) ka = .inr (nd', lo', hi') ∧ own_ok (nd', lo', hi') ∧ v = some (.int x3) ∧ Fr n0 L ∧ Keep h0 h [a] ∧ Fld Z h a "com/example/mapwright/mapwright/Utf8Check" "needed" "I" (.int (Int32.ofNat nd')) ∧ Fld Z h a "com/example/mapwright/mapwright/Utf8Check" "least" "I" (.int (Int32.ofNat lo')) ∧ Fld Z h a "com/example/mapwright/mapwright/Utf8Check" "greatest" "I" (.int (Int32.ofNat hi'))
set_option maxRecDepth 65536 in
set_option maxHeartbeats 40000000 in
theorem rm5 (l : Launch) (Z : State) (a0 : Array Value) (hw : ∀ d ∈ tables_1, d.before a0 Z = true) (ws : List Jvm.Cond) (a : Addr) (d : Addr) (x2 : Int32) (x3 : Int32) (ka : Nat) (kt : Nat) (n : Nat) (f : Nat → Int32) (nd : Nat) (lo : Nat) (hi : Nat) (h0 : Heap) (n0 : Nat) (Z0 : n0 ≤ h0.size) (E : Exa Z h0 a "com/example/mapwright/mapwright/Utf8Check") (F0 : Fld Z h0 a "com/example/mapwright/mapwright/Utf8Check" "needed" "I" (.int (Int32.ofNat nd))) (F1 : Fld Z h0 a "com/example/mapwright/mapwright/Utf8Check" "least" "I" (.int (Int32.ofNat lo))) (F2 : Fld Z h0 a "com/example/mapwright/mapwright/Utf8Check" "greatest" "I" (.int (Int32.ofNat hi))) (A : own_A Z h0 d .byte n f) (ga : n0 ≤ a) (hne : a ≠ d) (hk : own_ix x2 ka) (ht : own_ix x3 kt) (hl : ka ≤ kt) (hn : kt ≤ n) (hs : n < 100) (hst : own_ok (nd, lo, hi)) :
    MetFree l (⟨"com/example/mapwright/mapwright/Utf8Check", "check", "([BII)I"⟩ : MethodName) (head1 (Jvm.Cond.code (⟨"com/example/mapwright/mapwright/Utf8Check", "check", "([BII)I"⟩ : MethodName) prog_31_method_2_code 7 (some .int) :: ws) ({ frames := 1, cells := 0, slots := 0, locals := 13 } : Room)) (fun aa_ U_ => aa_ = #[(.ref a), (.ref d), (.int x2), (.int x3)] ∧ Z.Warmed39 U_.vm ∧ U_.heap = h0) (fun _ _ _ _ _ => True) (fun _ U_ o_ U1_ => ∃ v_ L_, o_ = .returned v_ ∧ Q5 Z a d x2 x3 ka kt n f nd lo hi h0 n0 v_ U1_.heap L_ ∧ FrameEnd U_ o_ U1_ L_ ({ frames := 1, cells := 0, slots := 0, locals := 13 } : Room).cells ({ frames := 1, cells := 0, slots := 0, locals := 13 } : Room).slots) := by
  refine MetFree.of_bodySF (plainFor_of_name own_pn0) hisR ?_
  intro p e s m args below meth c s₁ Bd hml0 hP hK
  obtain ⟨rfl, hZ, hh⟩ := hP
  have hx := Bd.exec
  have hby := Bd.bytes
  have hlk := Bd.notSynchronized
  have hml : c.maxLocals = 7 := hml0
  have hown : s.vm.findClass "com/example/mapwright/mapwright/Utf8Check" = some m.cls := findClass_of_methodNamed Bd.named
  have hnm := (name_of_methodNamed Bd.named Bd.method).1
  have X0 : Stand p l e ({ frames := 1, cells := 0, slots := 0, locals := 13 } : Room) s m #[(.ref a), (.ref d), (.int x2), (.int x3)] below meth c s₁ [] 0 0 := Stand.of_body Bd
  have e0 : s₁.heap = h0 := by rw [← hh, Bd.state]; rfl
  have N0 := Fr.nil n0
  show own_E p e below s (Q5 Z a d x2 x3 ka kt n f nd lo hi h0 n0) ({ frames := 1, cells := 0, slots := 0, locals := 13 } : Room).cells ({ frames := 1, cells := 0, slots := 0, locals := 13 } : Room).slots (s₁.setTop (entryFrame m #[(.ref a), (.ref d), (.int x2), (.int x3)] 7))
  refine own_st (B := s₁.setTop (mkF m 0 #[.val (.ref a), .val (.ref d), .val (.int x2), .val (.int x3), .unset, .unset, .unset] [])) (fun t_ k_ => castTop (own_ef_rm5 m a d x2 x3) k_) ?_
  have K0 : Keep h0 h0 [a] := Keep.refl _ _
  refine own_st (B := s₁.setTop (mkF m 1 #[.val (.ref a), .val (.ref d), .val (.int x2), .val (.int x3), .unset, .unset, .unset] [(.int x2)])) (fun t_ k_ => XS.iloadN X0.here hx rfl (hb hby own_b5_d0) rfl k_) ?_
  refine own_st (B := s₁.setTop (mkF m 3 #[.val (.ref a), .val (.ref d), .val (.int x2), .val (.int x3), .val (.int x2), .unset, .unset] [])) (fun t_ k_ => XS.istore X0.here hx rfl (hb hby own_b5_d1) rfl (l' := #[.val (.ref a), .val (.ref d), .val (.int x2), .val (.int x3), .val (.int x2), .unset, .unset]) rfl k_) ?_
  refine own_st (B := s₁.setTop (mkF m 4 #[.val (.ref a), .val (.ref d), .val (.int x2), .val (.int x3), .val (.int x2), .unset, .unset] [(.int x2)])) (fun t_ k_ => XS.iloadN X0.here hx rfl (hb hby own_b5_d3) rfl k_) ?_
  refine own_st (B := s₁.setTop (mkF m 6 #[.val (.ref a), .val (.ref d), .val (.int x2), .val (.int x3), .val (.int x2), .val (.int x2), .unset] [])) (fun t_ k_ => XS.istore X0.here hx rfl (hb hby own_b5_d4) rfl (l' := #[.val (.ref a), .val (.ref d), .val (.int x2), .val (.int x3), .val (.int x2), .val (.int x2), .unset]) rfl k_) ?_
  have lp1 : ∀ (q : Nat) (Tlp1 : State) (lolp1 : List Loc) (Xlp1 : Stand p l e ({ frames := 1, cells := 0, slots := 0, locals := 13 } : Room) s m #[(.ref a), (.ref d), (.int x2), (.int x3)] below meth c Tlp1 lolp1 0 0) (hlp1 : Heap) (elp1 : Tlp1.heap = hlp1) (Nlp1 : Fr n0 lolp1) (i : Nat) (j : Int32) (sq : Nat) (y : Int32) (r1 : Nat) (r2 : Nat) (r3 : Nat) (s6 : Slot) (EL : Exa Z hlp1 a "com/example/mapwright/mapwright/Utf8Check") (FnL : Fld Z hlp1 a "com/example/mapwright/mapwright/Utf8Check" "needed" "I" (.int (Int32.ofNat r1))) (FlL : Fld Z hlp1 a "com/example/mapwright/mapwright/Utf8Check" "least" "I" (.int (Int32.ofNat r2))) (FgL : Fld Z hlp1 a "com/example/mapwright/mapwright/Utf8Check" "greatest" "I" (.int (Int32.ofNat r3))) (AL : own_A Z hlp1 d .byte n f) (KL : Keep h0 hlp1 [a]) (ZL : n0 ≤ hlp1.size), (q + i = kt) → (own_ix j i) → (own_ix y sq) → (own_ok (r1, r2, r3)) → (own_run (own_by f) q i (r1, r2, r3) sq = own_run (own_by f) (kt - ka) ka (nd, lo, hi) ka) → (s6 = .unset ∨ ∃ w, s6 = .val w ∧ w.category = 1) → own_E p e below s (Q5 Z a d x2 x3 ka kt n f nd lo hi h0 n0) ({ frames := 1, cells := 0, slots := 0, locals := 13 } : Room).cells ({ frames := 1, cells := 0, slots := 0, locals := 13 } : Room).slots (Tlp1.setTop (mkF m 6 #[.val (.ref a), .val (.ref d), .val (.int x2), .val (.int x3), .val (.int y), .val (.int j), s6] [])) := by
    intro q
    induction q using Nat.strongRecOn with
    | _ q ih =>
      intro Tlp1 lolp1 Xlp1 hlp1 elp1 Nlp1 i j sq y r1 r2 r3 s6 EL FnL FlL FgL AL KL ZL hq hj hy hok hrun hs6
      have hji := own_ixI hj; have hti := own_ixI ht
      have hok1 : r1 ≤ 3 := hok.1; have hok2 : 128 ≤ r2 := hok.2.1; have hok3 : r2 ≤ 255 := hok.2.2.1; have hok4 : r3 ≤ 191 := hok.2.2.2.1
      refine own_st (B := Tlp1.setTop (mkF m 8 #[.val (.ref a), .val (.ref d), .val (.int x2), .val (.int x3), .val (.int y), .val (.int j), s6] [(.int j)])) (fun t_ k_ => XS.iload Xlp1.here hx rfl (hb hby own_b5_d6) rfl k_) ?_
      refine own_st (B := Tlp1.setTop (mkF m 9 #[.val (.ref a), .val (.ref d), .val (.int x2), .val (.int x3), .val (.int y), .val (.int j), s6] [(.int x3), (.int j)])) (fun t_ k_ => XS.iloadN Xlp1.here hx rfl (hb hby own_b5_d8) rfl k_) ?_
      by_cases hc2 : j < x3
      · have hd2 := own_lt32 hc2
        refine own_st (B := Tlp1.setTop (mkF m 12 #[.val (.ref a), .val (.ref d), .val (.int x2), .val (.int x3), .val (.int y), .val (.int j), s6] [])) (fun t_ k_ => XS.icmpNo Xlp1.here hx rfl (hb hby own_b5_d9) rfl (tlt hc2).2.1 k_) ?_
        obtain ⟨q', rfl⟩ : ∃ q', q = q' + 1 := ⟨q - 1, by omega⟩
        have hbl := own_byl f i; have hcI := own_byI f i
        have h1I := own_oI (n := r1) (by omega); have h2I := own_oI (n := r2) (by omega); have h3I := own_oI (n := r3) (by omega)
        refine own_st (B := Tlp1.setTop (mkF m 13 #[.val (.ref a), .val (.ref d), .val (.int x2), .val (.int x3), .val (.int y), .val (.int j), s6] [(.ref d)])) (fun t_ k_ => XS.aloadN Xlp1.here hx rfl (hb hby own_b5_d12) rfl rfl k_) ?_
        refine own_st (B := Tlp1.setTop (mkF m 15 #[.val (.ref a), .val (.ref d), .val (.int x2), .val (.int x3), .val (.int y), .val (.int j), s6] [(.int j), (.ref d)])) (fun t_ k_ => XS.iload Xlp1.here hx rfl (hb hby own_b5_d13) rfl k_) ?_
        refine own_st (B := Tlp1.setTop (mkF m 16 #[.val (.ref a), .val (.ref d), .val (.int x2), .val (.int x3), .val (.int y), .val (.int j), s6] [(.int (f i))])) (fun t_ k_ => own_ldB Xlp1 hx hZ elp1 AL (i := i) hj (by omega) (hb hby own_b5_d15) t_ k_) ?_
        refine own_st (B := Tlp1.setTop (mkF m 19 #[.val (.ref a), .val (.ref d), .val (.int x2), .val (.int x3), .val (.int y), .val (.int j), s6] [(.int (255 : Int32)), (.int (f i))])) (fun t_ k_ => XS.sipush Xlp1.here hx rfl (hb hby own_b5_d16) k_) ?_
        refine own_st (B := Tlp1.setTop (mkF m 20 #[.val (.ref a), .val (.ref d), .val (.int x2), .val (.int x3), .val (.int y), .val (.int j), s6] [(.int ((f i) &&& (255 : Int32)))])) (fun t_ k_ => XS.iand Xlp1.here hx rfl (hb hby own_b5_d19) rfl k_) ?_
        refine own_st (B := Tlp1.setTop (mkF m 22 #[.val (.ref a), .val (.ref d), .val (.int x2), .val (.int x3), .val (.int y), .val (.int j), .val (.int ((f i) &&& (255 : Int32)))] [])) (fun t_ k_ => XS.istore Xlp1.here hx rfl (hb hby own_b5_d20) rfl (l' := #[.val (.ref a), .val (.ref d), .val (.int x2), .val (.int x3), .val (.int y), .val (.int j), .val (.int ((f i) &&& (255 : Int32)))]) (own_stV rfl hs6 rfl) k_) ?_
        obtain ⟨cc, hcc⟩ : ∃ z, z = ((f i) &&& (255 : Int32)) := ⟨_, rfl⟩
        rw [← hcc] at hcI ⊢
        refine own_st (B := Tlp1.setTop (mkF m 23 #[.val (.ref a), .val (.ref d), .val (.int x2), .val (.int x3), .val (.int y), .val (.int j), .val (.int cc)] [(.ref a)])) (fun t_ k_ => XS.aloadN Xlp1.here hx rfl (hb hby own_b5_d22) rfl rfl k_) ?_
        obtain ⟨T3, X3, e3, st3⟩ := getF Xlp1 hx hZ hown (host := "") (Or.inl (hw _ (List.mem_of_getElem? (i := 29) rfl))) Via.refl elp1 FnL (g := (mkF m 23 #[.val (.ref a), .val (.ref d), .val (.int x2), .val (.int x3), .val (.int y), .val (.int j), .val (.int cc)] [(.ref a)])) rfl rfl (hb hby own_b5_d23)
        refine own_st (B := T3.setTop (mkF m 26 #[.val (.ref a), .val (.ref d), .val (.int x2), .val (.int x3), .val (.int y), .val (.int j), .val (.int cc)] [(.int (Int32.ofNat r1))])) st3 ?_
        by_cases hc4 : (0 : Int32) < (Int32.ofNat r1)
        · have hd4 := own_lt32 hc4
          rw [show (0 : Int32).toInt = 0 from rfl] at hd4
          refine own_st (B := T3.setTop (mkF m 29 #[.val (.ref a), .val (.ref d), .val (.int x2), .val (.int x3), .val (.int y), .val (.int j), .val (.int cc)] [])) (fun t_ k_ => XS.ifNo X3.here hx rfl (hb hby own_b5_d26) rfl ((if0 _ _).trans (tlt hc4).2.2.2) k_) ?_
          have h01 : 0 < r1 := by omega
          refine own_st (B := T3.setTop (mkF m 31 #[.val (.ref a), .val (.ref d), .val (.int x2), .val (.int x3), .val (.int y), .val (.int j), .val (.int cc)] [(.int cc)])) (fun t_ k_ => XS.iload X3.here hx rfl (hb hby own_b5_d29) rfl k_) ?_
          refine own_st (B := T3.setTop (mkF m 32 #[.val (.ref a), .val (.ref d), .val (.int x2), .val (.int x3), .val (.int y), .val (.int j), .val (.int cc)] [(.ref a), (.int cc)])) (fun t_ k_ => XS.aloadN X3.here hx rfl (hb hby own_b5_d31) rfl rfl k_) ?_
          obtain ⟨T5, X5, e5, st5⟩ := getF X3 hx hZ hown (host := "") (Or.inl (hw _ (List.mem_of_getElem? (i := 20) rfl))) Via.refl e3 FlL (g := (mkF m 32 #[.val (.ref a), .val (.ref d), .val (.int x2), .val (.int x3), .val (.int y), .val (.int j), .val (.int cc)] [(.ref a), (.int cc)])) rfl rfl (hb hby own_b5_d32)
          refine own_st (B := T5.setTop (mkF m 35 #[.val (.ref a), .val (.ref d), .val (.int x2), .val (.int x3), .val (.int y), .val (.int j), .val (.int cc)] [(.int (Int32.ofNat r2)), (.int cc)])) st5 ?_
          by_cases hc6 : cc < (Int32.ofNat r2)
          · have hd6 := own_lt32 hc6
            refine own_st (B := T5.setTop (mkF m 47 #[.val (.ref a), .val (.ref d), .val (.int x2), .val (.int x3), .val (.int y), .val (.int j), .val (.int cc)] [])) (fun t_ k_ => XS.icmpYes X5.here hx rfl (pc0 := 35) (pc' := 47) rfl (hb hby own_b5_d35) rfl (tlt hc6).1 (by decide) (by decide) k_) ?_
            refine own_st (B := T5.setTop (mkF m 49 #[.val (.ref a), .val (.ref d), .val (.int x2), .val (.int x3), .val (.int y), .val (.int j), .val (.int cc)] [(.int y)])) (fun t_ k_ => XS.iload X5.here hx rfl (hb hby own_b5_d47) rfl k_) ?_
            refine own_retI X5 hx Bd.returns hlk (hb hby own_b5_d49) (by decide) (by decide) ?_
            show Q5 Z a d x2 x3 ka kt n f nd lo hi h0 n0 _ T5.heap _
            rw [e5]
            exact Or.inl ⟨sq, y, hrun.symm.trans (own_runN (own_stpX h01 (by omega))), rfl, hy, Nlp1, KL⟩
          · have hd6 := own_nlt32 hc6
            refine own_st (B := T5.setTop (mkF m 38 #[.val (.ref a), .val (.ref d), .val (.int x2), .val (.int x3), .val (.int y), .val (.int j), .val (.int cc)] [])) (fun t_ k_ => XS.icmpNo X5.here hx rfl (hb hby own_b5_d35) rfl (flt hc6).1 k_) ?_
            refine own_st (B := T5.setTop (mkF m 40 #[.val (.ref a), .val (.ref d), .val (.int x2), .val (.int x3), .val (.int y), .val (.int j), .val (.int cc)] [(.int cc)])) (fun t_ k_ => XS.iload X5.here hx rfl (hb hby own_b5_d38) rfl k_) ?_
            refine own_st (B := T5.setTop (mkF m 41 #[.val (.ref a), .val (.ref d), .val (.int x2), .val (.int x3), .val (.int y), .val (.int j), .val (.int cc)] [(.ref a), (.int cc)])) (fun t_ k_ => XS.aloadN X5.here hx rfl (hb hby own_b5_d40) rfl rfl k_) ?_
            obtain ⟨T7, X7, e7, st7⟩ := getF X5 hx hZ hown (host := "") (Or.inl (hw _ (List.mem_of_getElem? (i := 22) rfl))) Via.refl e5 FgL (g := (mkF m 41 #[.val (.ref a), .val (.ref d), .val (.int x2), .val (.int x3), .val (.int y), .val (.int j), .val (.int cc)] [(.ref a), (.int cc)])) rfl rfl (hb hby own_b5_d41)
            refine own_st (B := T7.setTop (mkF m 44 #[.val (.ref a), .val (.ref d), .val (.int x2), .val (.int x3), .val (.int y), .val (.int j), .val (.int cc)] [(.int (Int32.ofNat r3)), (.int cc)])) st7 ?_
            by_cases hc8 : (Int32.ofNat r3) < cc
            · have hd8 := own_lt32 hc8
              refine own_st (B := T7.setTop (mkF m 47 #[.val (.ref a), .val (.ref d), .val (.int x2), .val (.int x3), .val (.int y), .val (.int j), .val (.int cc)] [])) (fun t_ k_ => XS.icmpNo X7.here hx rfl (hb hby own_b5_d44) rfl (tlt hc8).2.2.2 k_) ?_
              refine own_st (B := T7.setTop (mkF m 49 #[.val (.ref a), .val (.ref d), .val (.int x2), .val (.int x3), .val (.int y), .val (.int j), .val (.int cc)] [(.int y)])) (fun t_ k_ => XS.iload X7.here hx rfl (hb hby own_b5_d47) rfl k_) ?_
              refine own_retI X7 hx Bd.returns hlk (hb hby own_b5_d49) (by decide) (by decide) ?_
              show Q5 Z a d x2 x3 ka kt n f nd lo hi h0 n0 _ T7.heap _
              rw [e7]
              exact Or.inl ⟨sq, y, hrun.symm.trans (own_runN (own_stpX h01 (by omega))), rfl, hy, Nlp1, KL⟩
            · have hd8 := own_nlt32 hc8
              refine own_st (B := T7.setTop (mkF m 50 #[.val (.ref a), .val (.ref d), .val (.int x2), .val (.int x3), .val (.int y), .val (.int j), .val (.int cc)] [])) (fun t_ k_ => XS.icmpYes X7.here hx rfl (pc0 := 44) (pc' := 50) rfl (hb hby own_b5_d44) rfl (flt hc8).2.2.2 (by decide) (by decide) k_) ?_
              have hrg : r2 ≤ own_by f i ∧ own_by f i ≤ r3 := by omega
              refine own_st (B := T7.setTop (mkF m 51 #[.val (.ref a), .val (.ref d), .val (.int x2), .val (.int x3), .val (.int y), .val (.int j), .val (.int cc)] [(.ref a)])) (fun t_ k_ => XS.aloadN X7.here hx rfl (hb hby own_b5_d50) rfl rfl k_) ?_
              refine own_st (B := T7.setTop (mkF m 54 #[.val (.ref a), .val (.ref d), .val (.int x2), .val (.int x3), .val (.int y), .val (.int j), .val (.int cc)] [(.int (128 : Int32)), (.ref a)])) (fun t_ k_ => XS.sipush X7.here hx rfl (hb hby own_b5_d51) k_) ?_
              obtain ⟨T9, h9, X9, e9, W9, st9⟩ := putF X7 hx hZ hown (host := "") (Or.inl (hw _ (List.mem_of_getElem? (i := 20) rfl))) Via.refl e7 FlL EL (Or.inl (hw _ (List.mem_of_getElem? (i := 21) rfl))) (hw _ (List.mem_of_getElem? (i := 12) rfl)) (ty := .int) (by decide) rfl rfl (g := (mkF m 54 #[.val (.ref a), .val (.ref d), .val (.int x2), .val (.int x3), .val (.int y), .val (.int j), .val (.int cc)] [(.int (128 : Int32)), (.ref a)])) rfl rfl (hb hby own_b5_d54)
              have Fw9 := FlL.same W9
              have N9 := Fr.snoc X9 Nlp1 ga
              have Z10 := Nat.le_trans ZL (Keep.of_wr W9).1
              have K11 := KL.wr W9 (Or.inl (List.mem_of_getElem? (i := 0) rfl))
              refine own_st (B := T9.setTop (mkF m 57 #[.val (.ref a), .val (.ref d), .val (.int x2), .val (.int x3), .val (.int y), .val (.int j), .val (.int cc)] [])) st9 ?_
              refine own_st (B := T9.setTop (mkF m 58 #[.val (.ref a), .val (.ref d), .val (.int x2), .val (.int x3), .val (.int y), .val (.int j), .val (.int cc)] [(.ref a)])) (fun t_ k_ => XS.aloadN X9.here hx rfl (hb hby own_b5_d57) rfl rfl k_) ?_
              refine own_st (B := T9.setTop (mkF m 61 #[.val (.ref a), .val (.ref d), .val (.int x2), .val (.int x3), .val (.int y), .val (.int j), .val (.int cc)] [(.int (191 : Int32)), (.ref a)])) (fun t_ k_ => XS.sipush X9.here hx rfl (hb hby own_b5_d58) k_) ?_
              have u12 := EL.wr W9
              have u13 := FgL.other W9 (Or.inr (slot_ne (Or.inl (hw _ (List.mem_of_getElem? (i := 23) rfl))) (Or.inl (hw _ (List.mem_of_getElem? (i := 21) rfl))) (by decide) (t := .int) (t' := .int) (by decide) (by decide)))
              obtain ⟨T14, h14, X14, e14, W14, st14⟩ := putF X9 hx hZ hown (host := "") (Or.inl (hw _ (List.mem_of_getElem? (i := 22) rfl))) Via.refl e9 u13 u12 (Or.inl (hw _ (List.mem_of_getElem? (i := 23) rfl))) (hw _ (List.mem_of_getElem? (i := 12) rfl)) (ty := .int) (by decide) rfl rfl (g := (mkF m 61 #[.val (.ref a), .val (.ref d), .val (.int x2), .val (.int x3), .val (.int y), .val (.int j), .val (.int cc)] [(.int (191 : Int32)), (.ref a)])) rfl rfl (hb hby own_b5_d61)
              have Fw14 := u13.same W14
              have N14 := Fr.snoc X14 N9 ga
              have Z15 := Nat.le_trans Z10 (Keep.of_wr W14).1
              have K16 := K11.wr W14 (Or.inl (List.mem_of_getElem? (i := 0) rfl))
              refine own_st (B := T14.setTop (mkF m 64 #[.val (.ref a), .val (.ref d), .val (.int x2), .val (.int x3), .val (.int y), .val (.int j), .val (.int cc)] [])) st14 ?_
              refine own_st (B := T14.setTop (mkF m 65 #[.val (.ref a), .val (.ref d), .val (.int x2), .val (.int x3), .val (.int y), .val (.int j), .val (.int cc)] [(.ref a)])) (fun t_ k_ => XS.aloadN X14.here hx rfl (hb hby own_b5_d64) rfl rfl k_) ?_
              refine own_st (B := T14.setTop (mkF m 66 #[.val (.ref a), .val (.ref d), .val (.int x2), .val (.int x3), .val (.int y), .val (.int j), .val (.int cc)] [(.ref a), (.ref a)])) (fun t_ k_ => XS.dup X14.here hx rfl (hb hby own_b5_d65) rfl rfl k_) ?_
              have u17 := FnL.other W9 (Or.inr (slot_ne (Or.inl (hw _ (List.mem_of_getElem? (i := 30) rfl))) (Or.inl (hw _ (List.mem_of_getElem? (i := 21) rfl))) (by decide) (t := .int) (t' := .int) (by decide) (by decide)))
              have u18 := u17.other W14 (Or.inr (slot_ne (Or.inl (hw _ (List.mem_of_getElem? (i := 30) rfl))) (Or.inl (hw _ (List.mem_of_getElem? (i := 23) rfl))) (by decide) (t := .int) (t' := .int) (by decide) (by decide)))
              obtain ⟨T19, X19, e19, st19⟩ := getF X14 hx hZ hown (host := "") (Or.inl (hw _ (List.mem_of_getElem? (i := 29) rfl))) Via.refl e14 u18 (g := (mkF m 66 #[.val (.ref a), .val (.ref d), .val (.int x2), .val (.int x3), .val (.int y), .val (.int j), .val (.int cc)] [(.ref a), (.ref a)])) rfl rfl (hb hby own_b5_d66)
              refine own_st (B := T19.setTop (mkF m 69 #[.val (.ref a), .val (.ref d), .val (.int x2), .val (.int x3), .val (.int y), .val (.int j), .val (.int cc)] [(.int (Int32.ofNat r1)), (.ref a)])) st19 ?_
              refine own_st (B := T19.setTop (mkF m 70 #[.val (.ref a), .val (.ref d), .val (.int x2), .val (.int x3), .val (.int y), .val (.int j), .val (.int cc)] [(.int (1 : Int32)), (.int (Int32.ofNat r1)), (.ref a)])) (fun t_ k_ => XS.iconst X19.here hx rfl (hb hby own_b5_d69) k_) ?_
              refine own_st (B := T19.setTop (mkF m 71 #[.val (.ref a), .val (.ref d), .val (.int x2), .val (.int x3), .val (.int y), .val (.int j), .val (.int cc)] [(.int ((Int32.ofNat r1) - (1 : Int32))), (.ref a)])) (fun t_ k_ => XS.isub X19.here hx rfl (hb hby own_b5_d70) rfl k_) ?_
              have u20 := u12.wr W14
              obtain ⟨T21, h21, X21, e21, W21, st21⟩ := putF X19 hx hZ hown (host := "") (Or.inl (hw _ (List.mem_of_getElem? (i := 29) rfl))) Via.refl e19 u18 u20 (Or.inl (hw _ (List.mem_of_getElem? (i := 30) rfl))) (hw _ (List.mem_of_getElem? (i := 12) rfl)) (ty := .int) (by decide) rfl rfl (g := (mkF m 71 #[.val (.ref a), .val (.ref d), .val (.int x2), .val (.int x3), .val (.int y), .val (.int j), .val (.int cc)] [(.int ((Int32.ofNat r1) - (1 : Int32))), (.ref a)])) rfl rfl (hb hby own_b5_d71)
              have Fw21 := u18.same W21
              have N21 := Fr.snoc X21 N14 ga
              have Z22 := Nat.le_trans Z15 (Keep.of_wr W21).1
              have K23 := K16.wr W21 (Or.inl (List.mem_of_getElem? (i := 0) rfl))
              refine own_st (B := T21.setTop (mkF m 74 #[.val (.ref a), .val (.ref d), .val (.int x2), .val (.int x3), .val (.int y), .val (.int j), .val (.int cc)] [])) st21 ?_
              rw [own_osub (by omega) h01] at Fw21
              refine own_st (B := T21.setTop (mkF m 97 #[.val (.ref a), .val (.ref d), .val (.int x2), .val (.int x3), .val (.int y), .val (.int j), .val (.int cc)] [])) (fun t_ k_ => XS.goto X21.here hx rfl (pc0 := 74) (pc' := 97) rfl (hb hby own_b5_d74) (by decide) (by decide) k_) ?_
              refine own_st (B := T21.setTop (mkF m 98 #[.val (.ref a), .val (.ref d), .val (.int x2), .val (.int x3), .val (.int y), .val (.int j), .val (.int cc)] [(.ref a)])) (fun t_ k_ => XS.aloadN X21.here hx rfl (hb hby own_b5_d97) rfl rfl k_) ?_
              obtain ⟨T24, X24, e24, st24⟩ := getF X21 hx hZ hown (host := "") (Or.inl (hw _ (List.mem_of_getElem? (i := 29) rfl))) Via.refl e21 Fw21 (g := (mkF m 98 #[.val (.ref a), .val (.ref d), .val (.int x2), .val (.int x3), .val (.int y), .val (.int j), .val (.int cc)] [(.ref a)])) rfl rfl (hb hby own_b5_d98)
              refine own_st (B := T24.setTop (mkF m 101 #[.val (.ref a), .val (.ref d), .val (.int x2), .val (.int x3), .val (.int y), .val (.int j), .val (.int cc)] [(.int (Int32.ofNat (r1 - 1)))])) st24 ?_
              by_cases hc25 : (Int32.ofNat (r1 - 1)) = (0 : Int32)
              · have hd25 := own_eq32 hc25
                rw [show (0 : Int32).toInt = 0 from rfl] at hd25
                refine own_st (B := T24.setTop (mkF m 104 #[.val (.ref a), .val (.ref d), .val (.int x2), .val (.int x3), .val (.int y), .val (.int j), .val (.int cc)] [])) (fun t_ k_ => XS.ifNo X24.here hx rfl (hb hby own_b5_d101) rfl ((if0 _ _).trans (teq hc25).2) k_) ?_
                have hz0 : r1 - 1 = 0 := own_o0 (by omega) hc25
                refine own_st (B := T24.setTop (mkF m 106 #[.val (.ref a), .val (.ref d), .val (.int x2), .val (.int x3), .val (.int y), .val (.int j), .val (.int cc)] [(.int j)])) (fun t_ k_ => XS.iload X24.here hx rfl (hb hby own_b5_d104) rfl k_) ?_
                refine own_st (B := T24.setTop (mkF m 107 #[.val (.ref a), .val (.ref d), .val (.int x2), .val (.int x3), .val (.int y), .val (.int j), .val (.int cc)] [(.int (1 : Int32)), (.int j)])) (fun t_ k_ => XS.iconst X24.here hx rfl (hb hby own_b5_d106) k_) ?_
                refine own_st (B := T24.setTop (mkF m 108 #[.val (.ref a), .val (.ref d), .val (.int x2), .val (.int x3), .val (.int y), .val (.int j), .val (.int cc)] [(.int (j + (1 : Int32)))])) (fun t_ k_ => XS.iadd X24.here hx rfl (hb hby own_b5_d107) rfl k_) ?_
                refine own_st (B := T24.setTop (mkF m 110 #[.val (.ref a), .val (.ref d), .val (.int x2), .val (.int x3), .val (.int (j + (1 : Int32))), .val (.int j), .val (.int cc)] [])) (fun t_ k_ => XS.istore X24.here hx rfl (hb hby own_b5_d108) rfl (l' := #[.val (.ref a), .val (.ref d), .val (.int x2), .val (.int x3), .val (.int (j + (1 : Int32))), .val (.int j), .val (.int cc)]) rfl k_) ?_
                refine own_st (B := T24.setTop (mkF m 113 #[.val (.ref a), .val (.ref d), .val (.int x2), .val (.int x3), .val (.int (j + (1 : Int32))), .val (.int (j + (1 : Int32))), .val (.int cc)] [])) (fun t_ k_ => XS.iinc X24.here hx rfl (hb hby own_b5_d110) rfl (l' := #[.val (.ref a), .val (.ref d), .val (.int x2), .val (.int x3), .val (.int (j + (1 : Int32))), .val (.int (j + (1 : Int32))), .val (.int cc)]) rfl k_) ?_
                refine own_st (B := T24.setTop (mkF m 6 #[.val (.ref a), .val (.ref d), .val (.int x2), .val (.int x3), .val (.int (j + (1 : Int32))), .val (.int (j + (1 : Int32))), .val (.int cc)] [])) (fun t_ k_ => XS.goto X24.here hx rfl (pc0 := 113) (pc' := 6) rfl (hb hby own_b5_d113) (by decide) (by decide) k_) ?_
                have u26 := u20.wr W21
                have u27 := Fw9.other W14 (Or.inr (slot_ne (Or.inl (hw _ (List.mem_of_getElem? (i := 21) rfl))) (Or.inl (hw _ (List.mem_of_getElem? (i := 23) rfl))) (by decide) (t := .int) (t' := .int) (by decide) (by decide)))
                have u28 := u27.other W21 (Or.inr (slot_ne (Or.inl (hw _ (List.mem_of_getElem? (i := 21) rfl))) (Or.inl (hw _ (List.mem_of_getElem? (i := 30) rfl))) (by decide) (t := .int) (t' := .int) (by decide) (by decide)))
                have u29 := Fw14.other W21 (Or.inr (slot_ne (Or.inl (hw _ (List.mem_of_getElem? (i := 23) rfl))) (Or.inl (hw _ (List.mem_of_getElem? (i := 30) rfl))) (by decide) (t := .int) (t' := .int) (by decide) (by decide)))
                have u30 := AL.other W9 (Ne.symm hne)
                have u31 := u30.other W14 (Ne.symm hne)
                have u32 := u31.other W21 (Ne.symm hne)
                exact ih q' (by omega) _ _ X24 _ e24 N21 (i + 1) (j + (1 : Int32)) (i + 1) (j + (1 : Int32)) (r1 - 1) 128 191 (.val (.int cc)) u26 Fw21 u28 u29 u32 K23 Z22 (by omega) (own_ixa hj 1 (by omega)) (own_ixa hj 1 (by omega)) ⟨by show r1 - 1 ≤ 3; omega, Nat.le_refl 128, by show 128 ≤ 255; decide, Nat.le_refl 191, fun _ => ⟨rfl, rfl⟩⟩ ((own_runZ (own_stpY h01 hrg) (by show r1 - 1 = 0; omega)).symm.trans hrun) (Or.inr ⟨_, rfl, rfl⟩)
              · have hd25 := own_neq32 hc25
                rw [show (0 : Int32).toInt = 0 from rfl] at hd25
                refine own_st (B := T24.setTop (mkF m 110 #[.val (.ref a), .val (.ref d), .val (.int x2), .val (.int x3), .val (.int y), .val (.int j), .val (.int cc)] [])) (fun t_ k_ => XS.ifYes X24.here hx rfl (pc0 := 101) (pc' := 110) rfl (hb hby own_b5_d101) rfl ((if0 _ _).trans (feq hc25).2) (by decide) (by decide) k_) ?_
                have hz0 : ¬ r1 - 1 = 0 := fun q1 => hc25 (by rw [q1]; rfl)
                refine own_st (B := T24.setTop (mkF m 113 #[.val (.ref a), .val (.ref d), .val (.int x2), .val (.int x3), .val (.int y), .val (.int (j + (1 : Int32))), .val (.int cc)] [])) (fun t_ k_ => XS.iinc X24.here hx rfl (hb hby own_b5_d110) rfl (l' := #[.val (.ref a), .val (.ref d), .val (.int x2), .val (.int x3), .val (.int y), .val (.int (j + (1 : Int32))), .val (.int cc)]) rfl k_) ?_
                refine own_st (B := T24.setTop (mkF m 6 #[.val (.ref a), .val (.ref d), .val (.int x2), .val (.int x3), .val (.int y), .val (.int (j + (1 : Int32))), .val (.int cc)] [])) (fun t_ k_ => XS.goto X24.here hx rfl (pc0 := 113) (pc' := 6) rfl (hb hby own_b5_d113) (by decide) (by decide) k_) ?_
                have u33 := u20.wr W21
                have u34 := Fw9.other W14 (Or.inr (slot_ne (Or.inl (hw _ (List.mem_of_getElem? (i := 21) rfl))) (Or.inl (hw _ (List.mem_of_getElem? (i := 23) rfl))) (by decide) (t := .int) (t' := .int) (by decide) (by decide)))
                have u35 := u34.other W21 (Or.inr (slot_ne (Or.inl (hw _ (List.mem_of_getElem? (i := 21) rfl))) (Or.inl (hw _ (List.mem_of_getElem? (i := 30) rfl))) (by decide) (t := .int) (t' := .int) (by decide) (by decide)))
                have u36 := Fw14.other W21 (Or.inr (slot_ne (Or.inl (hw _ (List.mem_of_getElem? (i := 23) rfl))) (Or.inl (hw _ (List.mem_of_getElem? (i := 30) rfl))) (by decide) (t := .int) (t' := .int) (by decide) (by decide)))
                have u37 := AL.other W9 (Ne.symm hne)
                have u38 := u37.other W14 (Ne.symm hne)
                have u39 := u38.other W21 (Ne.symm hne)
                exact ih q' (by omega) _ _ X24 _ e24 N21 (i + 1) (j + (1 : Int32)) sq y (r1 - 1) 128 191 (.val (.int cc)) u33 Fw21 u35 u36 u39 K23 Z22 (by omega) (own_ixa hj 1 (by omega)) hy ⟨by show r1 - 1 ≤ 3; omega, Nat.le_refl 128, by show 128 ≤ 255; decide, Nat.le_refl 191, fun _ => ⟨rfl, rfl⟩⟩ ((own_runG (own_stpY h01 hrg) (by show ¬ r1 - 1 = 0; omega)).symm.trans hrun) (Or.inr ⟨_, rfl, rfl⟩)
        · have hd4 := own_nlt32 hc4
          rw [show (0 : Int32).toInt = 0 from rfl] at hd4
          refine own_st (B := T3.setTop (mkF m 77 #[.val (.ref a), .val (.ref d), .val (.int x2), .val (.int x3), .val (.int y), .val (.int j), .val (.int cc)] [])) (fun t_ k_ => XS.ifYes X3.here hx rfl (pc0 := 26) (pc' := 77) rfl (hb hby own_b5_d26) rfl ((if0 _ _).trans (flt hc4).2.2.2) (by decide) (by decide) k_) ?_
          have h01 : ¬ 0 < r1 := by omega
          have hr23 := hok.2.2.2.2 (show r1 = 0 by omega)
          have hr2 : r2 = 128 := hr23.1; have hr3 : r3 = 191 := hr23.2
          refine own_st (B := T3.setTop (mkF m 79 #[.val (.ref a), .val (.ref d), .val (.int x2), .val (.int x3), .val (.int y), .val (.int j), .val (.int cc)] [(.int cc)])) (fun t_ k_ => XS.iload X3.here hx rfl (hb hby own_b5_d77) rfl k_) ?_
          refine own_st (B := T3.setTop (mkF m 82 #[.val (.ref a), .val (.ref d), .val (.int x2), .val (.int x3), .val (.int y), .val (.int j), .val (.int cc)] [(.int (128 : Int32)), (.int cc)])) (fun t_ k_ => XS.sipush X3.here hx rfl (hb hby own_b5_d79) k_) ?_
          by_cases hc40 : cc < (128 : Int32)
          · have hd40 := own_lt32 hc40
            rw [show (128 : Int32).toInt = 128 from rfl] at hd40
            refine own_st (B := T3.setTop (mkF m 97 #[.val (.ref a), .val (.ref d), .val (.int x2), .val (.int x3), .val (.int y), .val (.int j), .val (.int cc)] [])) (fun t_ k_ => XS.icmpYes X3.here hx rfl (pc0 := 82) (pc' := 97) rfl (hb hby own_b5_d82) rfl (tlt hc40).1 (by decide) (by decide) k_) ?_
            have h128 : own_by f i < 128 := by omega
            refine own_st (B := T3.setTop (mkF m 98 #[.val (.ref a), .val (.ref d), .val (.int x2), .val (.int x3), .val (.int y), .val (.int j), .val (.int cc)] [(.ref a)])) (fun t_ k_ => XS.aloadN X3.here hx rfl (hb hby own_b5_d97) rfl rfl k_) ?_
            obtain ⟨T41, X41, e41, st41⟩ := getF X3 hx hZ hown (host := "") (Or.inl (hw _ (List.mem_of_getElem? (i := 29) rfl))) Via.refl e3 FnL (g := (mkF m 98 #[.val (.ref a), .val (.ref d), .val (.int x2), .val (.int x3), .val (.int y), .val (.int j), .val (.int cc)] [(.ref a)])) rfl rfl (hb hby own_b5_d98)
            refine own_st (B := T41.setTop (mkF m 101 #[.val (.ref a), .val (.ref d), .val (.int x2), .val (.int x3), .val (.int y), .val (.int j), .val (.int cc)] [(.int (Int32.ofNat r1))])) st41 ?_
            have hc42 : (Int32.ofNat r1) = (0 : Int32) := by rw [show r1 = 0 by omega]; rfl
            have hd42 := own_eq32 hc42
            rw [show (0 : Int32).toInt = 0 from rfl] at hd42
            refine own_st (B := T41.setTop (mkF m 104 #[.val (.ref a), .val (.ref d), .val (.int x2), .val (.int x3), .val (.int y), .val (.int j), .val (.int cc)] [])) (fun t_ k_ => XS.ifNo X41.here hx rfl (hb hby own_b5_d101) rfl ((if0 _ _).trans (teq hc42).2) k_) ?_
            refine own_st (B := T41.setTop (mkF m 106 #[.val (.ref a), .val (.ref d), .val (.int x2), .val (.int x3), .val (.int y), .val (.int j), .val (.int cc)] [(.int j)])) (fun t_ k_ => XS.iload X41.here hx rfl (hb hby own_b5_d104) rfl k_) ?_
            refine own_st (B := T41.setTop (mkF m 107 #[.val (.ref a), .val (.ref d), .val (.int x2), .val (.int x3), .val (.int y), .val (.int j), .val (.int cc)] [(.int (1 : Int32)), (.int j)])) (fun t_ k_ => XS.iconst X41.here hx rfl (hb hby own_b5_d106) k_) ?_
            refine own_st (B := T41.setTop (mkF m 108 #[.val (.ref a), .val (.ref d), .val (.int x2), .val (.int x3), .val (.int y), .val (.int j), .val (.int cc)] [(.int (j + (1 : Int32)))])) (fun t_ k_ => XS.iadd X41.here hx rfl (hb hby own_b5_d107) rfl k_) ?_
            refine own_st (B := T41.setTop (mkF m 110 #[.val (.ref a), .val (.ref d), .val (.int x2), .val (.int x3), .val (.int (j + (1 : Int32))), .val (.int j), .val (.int cc)] [])) (fun t_ k_ => XS.istore X41.here hx rfl (hb hby own_b5_d108) rfl (l' := #[.val (.ref a), .val (.ref d), .val (.int x2), .val (.int x3), .val (.int (j + (1 : Int32))), .val (.int j), .val (.int cc)]) rfl k_) ?_
            refine own_st (B := T41.setTop (mkF m 113 #[.val (.ref a), .val (.ref d), .val (.int x2), .val (.int x3), .val (.int (j + (1 : Int32))), .val (.int (j + (1 : Int32))), .val (.int cc)] [])) (fun t_ k_ => XS.iinc X41.here hx rfl (hb hby own_b5_d110) rfl (l' := #[.val (.ref a), .val (.ref d), .val (.int x2), .val (.int x3), .val (.int (j + (1 : Int32))), .val (.int (j + (1 : Int32))), .val (.int cc)]) rfl k_) ?_
            refine own_st (B := T41.setTop (mkF m 6 #[.val (.ref a), .val (.ref d), .val (.int x2), .val (.int x3), .val (.int (j + (1 : Int32))), .val (.int (j + (1 : Int32))), .val (.int cc)] [])) (fun t_ k_ => XS.goto X41.here hx rfl (pc0 := 113) (pc' := 6) rfl (hb hby own_b5_d113) (by decide) (by decide) k_) ?_
            exact ih q' (by omega) _ _ X41 _ e41 Nlp1 (i + 1) (j + (1 : Int32)) (i + 1) (j + (1 : Int32)) r1 r2 r3 (.val (.int cc)) EL FnL FlL FgL AL KL ZL (by omega) (own_ixa hj 1 (by omega)) (own_ixa hj 1 (by omega)) hok ((own_runZ (own_stpA h01 h128) (by show r1 = 0; omega)).symm.trans hrun) (Or.inr ⟨_, rfl, rfl⟩)
          · have hd40 := own_nlt32 hc40
            rw [show (128 : Int32).toInt = 128 from rfl] at hd40
            refine own_st (B := T3.setTop (mkF m 85 #[.val (.ref a), .val (.ref d), .val (.int x2), .val (.int x3), .val (.int y), .val (.int j), .val (.int cc)] [])) (fun t_ k_ => XS.icmpNo X3.here hx rfl (hb hby own_b5_d82) rfl (flt hc40).1 k_) ?_
            have h128 : ¬ own_by f i < 128 := by omega
            refine own_st (B := T3.setTop (mkF m 86 #[.val (.ref a), .val (.ref d), .val (.int x2), .val (.int x3), .val (.int y), .val (.int j), .val (.int cc)] [(.ref a)])) (fun t_ k_ => XS.aloadN X3.here hx rfl (hb hby own_b5_d85) rfl rfl k_) ?_
            refine own_st (B := T3.setTop (mkF m 88 #[.val (.ref a), .val (.ref d), .val (.int x2), .val (.int x3), .val (.int y), .val (.int j), .val (.int cc)] [(.int cc), (.ref a)])) (fun t_ k_ => XS.iload X3.here hx rfl (hb hby own_b5_d86) rfl k_) ?_
            obtain ⟨cq43, q43, q43'⟩ := EL.cell
            obtain ⟨_, _, ⟨T43, Lq43, kq43, nq43⟩, -, X43, ⟨Lc43, hQ43, lq43, yq43, zq43⟩, st43⟩ := X3.privateBack hx (y := (⟨"com/example/mapwright/mapwright/Utf8Check", "begin", "(I)Z"⟩ : MethodName)) hown (mvT hZ (hw _ (List.mem_of_getElem? (i := 36) rfl))) (mvT hZ (hw _ (List.mem_of_getElem? (i := 37) rfl))) (own_selP (y := (⟨"com/example/mapwright/mapwright/Utf8Check", "begin", "(I)Z"⟩ : MethodName)) (mvT hZ (hw _ (List.mem_of_getElem? (i := 12) rfl))) (Cond.privateMethod_at (mvP hZ (hw _ (List.mem_of_getElem? (i := 38) rfl)) (args := #[]))) (mvT hZ (hw _ (List.mem_of_getElem? (i := 37) rfl))) (by decide)) (Cond.privateMethod_at (mvP hZ (hw _ (List.mem_of_getElem? (i := 38) rfl)) (args := #[]))) (mvT hZ (hw _ (List.mem_of_getElem? (i := 39) rfl))) (by decide) (backOf (W := 0) (rm7 l Z a0 hw [] a cc (own_by f i) (Int32.ofNat r1) hlp1 n0 ZL EL FnL (hr2 ▸ FlL) (hr3 ▸ FgL) ga hcI) hZ (hw _ (List.mem_of_getElem? (i := 39) rfl)) (hw _ (List.mem_of_getElem? (i := 13) rfl)) (by decide) (by decide)) (g := (mkF m 88 #[.val (.ref a), .val (.ref d), .val (.int x2), .val (.int x3), .val (.int y), .val (.int j), .val (.int cc)] [(.int cc), (.ref a)])) rfl (by rw [hml]; rfl) (Steps.refl _) (a := a) (by rw [e3]; exact q43) q43' (argsL := [(.int cc)]) (rest := []) (lenOf own_pd0 rfl) rfl (by show 2 * 0 + _ ≤ _; exact Nat.le_of_eq rfl) (hb hby own_b5_d88) (fun _ _ => ⟨rfl, e3, (by decide : 0 + 0 ≤ _), (by decide : 0 + 0 ≤ _)⟩)
            dsimp only [Pt.U, Pt.locs, Pt.cells, Pt.slots] at X43 lq43 yq43 zq43 st43 hQ43
            rw [lq43, yq43, zq43] at X43
            have X43 : Stand p l e _ s m _ below meth c T43 _ 0 0 := X43
            rcases hQ43 with hQ43 | hQ43
            · obtain ⟨hbg, rfl, N43q, K43⟩ := hQ43
              have N43 := Fr.app Nlp1 N43q
              have Z44 := Nat.le_trans ZL K43.1
              have K45 := KL.trans K43 (allS (Or.inl (List.mem_of_getElem? (i := 0) rfl)) all0)
              refine own_st (B := T43.setTop (mkF m 91 #[.val (.ref a), .val (.ref d), .val (.int x2), .val (.int x3), .val (.int y), .val (.int j), .val (.int cc)] [(.int (0 : Int32))])) (fun t_ k_ => st43.trans k_) ?_
              refine own_st (B := T43.setTop (mkF m 94 #[.val (.ref a), .val (.ref d), .val (.int x2), .val (.int x3), .val (.int y), .val (.int j), .val (.int cc)] [])) (fun t_ k_ => XS.ifNo X43.here hx rfl (hb hby own_b5_d91) rfl ((if0 _ _).trans (teq (by decide : (0 : Int32) = (0 : Int32))).2) k_) ?_
              refine own_st (B := T43.setTop (mkF m 96 #[.val (.ref a), .val (.ref d), .val (.int x2), .val (.int x3), .val (.int y), .val (.int j), .val (.int cc)] [(.int y)])) (fun t_ k_ => XS.iload X43.here hx rfl (hb hby own_b5_d94) rfl k_) ?_
              refine own_retI X43 hx Bd.returns hlk (hb hby own_b5_d96) (by decide) (by decide) ?_
              show Q5 Z a d x2 x3 ka kt n f nd lo hi h0 n0 _ T43.heap _
              exact Or.inl ⟨sq, y, hrun.symm.trans (own_runN ((own_stpB h01 h128).trans hbg)), rfl, hy, N43, K45⟩
            · obtain ⟨m1, m2, m3, hbg, rfl, N43q, K43, Fn43, Fl43, Fg43⟩ := hQ43
              have N43 := Fr.app Nlp1 N43q
              have Z46 := Nat.le_trans ZL K43.1
              have K47 := KL.trans K43 (allS (Or.inl (List.mem_of_getElem? (i := 0) rfl)) all0)
              have hbk := own_begK hbg
              refine own_st (B := T43.setTop (mkF m 91 #[.val (.ref a), .val (.ref d), .val (.int x2), .val (.int x3), .val (.int y), .val (.int j), .val (.int cc)] [(.int (1 : Int32))])) (fun t_ k_ => st43.trans k_) ?_
              refine own_st (B := T43.setTop (mkF m 97 #[.val (.ref a), .val (.ref d), .val (.int x2), .val (.int x3), .val (.int y), .val (.int j), .val (.int cc)] [])) (fun t_ k_ => XS.ifYes X43.here hx rfl (pc0 := 91) (pc' := 97) rfl (hb hby own_b5_d91) rfl ((if0 _ _).trans (feq (by decide : ¬ ((1 : Int32) = (0 : Int32)))).2) (by decide) (by decide) k_) ?_
              refine own_st (B := T43.setTop (mkF m 98 #[.val (.ref a), .val (.ref d), .val (.int x2), .val (.int x3), .val (.int y), .val (.int j), .val (.int cc)] [(.ref a)])) (fun t_ k_ => XS.aloadN X43.here hx rfl (hb hby own_b5_d97) rfl rfl k_) ?_
              obtain ⟨T48, X48, e48, st48⟩ := getF X43 hx hZ hown (host := "") (Or.inl (hw _ (List.mem_of_getElem? (i := 29) rfl))) Via.refl rfl Fn43 (g := (mkF m 98 #[.val (.ref a), .val (.ref d), .val (.int x2), .val (.int x3), .val (.int y), .val (.int j), .val (.int cc)] [(.ref a)])) rfl rfl (hb hby own_b5_d98)
              refine own_st (B := T48.setTop (mkF m 101 #[.val (.ref a), .val (.ref d), .val (.int x2), .val (.int x3), .val (.int y), .val (.int j), .val (.int cc)] [(.int (Int32.ofNat m1))])) st48 ?_
              have hc49 : ¬ ((Int32.ofNat m1) = (0 : Int32)) := own_on (by omega) (by omega)
              have hd49 := own_neq32 hc49
              rw [show (0 : Int32).toInt = 0 from rfl] at hd49
              refine own_st (B := T48.setTop (mkF m 110 #[.val (.ref a), .val (.ref d), .val (.int x2), .val (.int x3), .val (.int y), .val (.int j), .val (.int cc)] [])) (fun t_ k_ => XS.ifYes X48.here hx rfl (pc0 := 101) (pc' := 110) rfl (hb hby own_b5_d101) rfl ((if0 _ _).trans (feq hc49).2) (by decide) (by decide) k_) ?_
              refine own_st (B := T48.setTop (mkF m 113 #[.val (.ref a), .val (.ref d), .val (.int x2), .val (.int x3), .val (.int y), .val (.int (j + (1 : Int32))), .val (.int cc)] [])) (fun t_ k_ => XS.iinc X48.here hx rfl (hb hby own_b5_d110) rfl (l' := #[.val (.ref a), .val (.ref d), .val (.int x2), .val (.int x3), .val (.int y), .val (.int (j + (1 : Int32))), .val (.int cc)]) rfl k_) ?_
              refine own_st (B := T48.setTop (mkF m 6 #[.val (.ref a), .val (.ref d), .val (.int x2), .val (.int x3), .val (.int y), .val (.int (j + (1 : Int32))), .val (.int cc)] [])) (fun t_ k_ => XS.goto X48.here hx rfl (pc0 := 113) (pc' := 6) rfl (hb hby own_b5_d113) (by decide) (by decide) k_) ?_
              have u50 := EL.keep K43
              have u51 := AL.keep K43 (ninS (Ne.symm hne) nin0)
              exact ih q' (by omega) _ _ X48 _ e48 N43 (i + 1) (j + (1 : Int32)) sq y m1 m2 m3 (.val (.int cc)) u50 Fn43 Fl43 Fg43 u51 K47 Z46 (by omega) (own_ixa hj 1 (by omega)) hy ⟨by show m1 ≤ 3; omega, by show 128 ≤ m2; omega, by show m2 ≤ 255; omega, by show m3 ≤ 191; omega, fun q1 => absurd q1 (by show ¬ m1 = 0; omega)⟩ ((own_runG ((own_stpB h01 h128).trans hbg) (by show ¬ m1 = 0; omega)).symm.trans hrun) (Or.inr ⟨_, rfl, rfl⟩)
      · have hd2 := own_nlt32 hc2
        refine own_st (B := Tlp1.setTop (mkF m 116 #[.val (.ref a), .val (.ref d), .val (.int x2), .val (.int x3), .val (.int y), .val (.int j), s6] [])) (fun t_ k_ => XS.icmpYes Xlp1.here hx rfl (pc0 := 9) (pc' := 116) rfl (hb hby own_b5_d9) rfl (flt hc2).2.1 (by decide) (by decide) k_) ?_
        refine own_st (B := Tlp1.setTop (mkF m 117 #[.val (.ref a), .val (.ref d), .val (.int x2), .val (.int x3), .val (.int y), .val (.int j), s6] [(.int x3)])) (fun t_ k_ => XS.iloadN Xlp1.here hx rfl (hb hby own_b5_d116) rfl k_) ?_
        refine own_retI Xlp1 hx Bd.returns hlk (hb hby own_b5_d117) (by decide) (by decide) ?_
        show Q5 Z a d x2 x3 ka kt n f nd lo hi h0 n0 _ Tlp1.heap _
        rw [elp1]
        exact Or.inr ⟨r1, r2, r3, hrun.symm.trans (by rw [show q = 0 by omega]; rfl), hok, rfl, Nlp1, KL, FnL, FlL, FgL⟩
  exact lp1 (kt - ka) _ _ X0 _ e0 N0 ka x2 ka x2 nd lo hi .unset E F0 F1 F2 A K0 Z0 (by omega) hk hk hst rfl (Or.inl rfl)
def own_ref2 (b : Nat → Nat) (p nd lo hi : Nat) : Int :=
  if 8 ≤ p + 1 then 100 else if ¬ (lo ≤ b (p + 1) ∧ b (p + 1) ≤ hi) then -2 - (p : Int) else if nd = 1 then (p : Int) + 2 else if 8 ≤ p + 2 then 100 else if ¬ (128 ≤ b (p + 2) ∧ b (p + 2) ≤ 191) then -3 - (p : Int) else if nd = 2 then (p : Int) + 3 else if 8 ≤ p + 3 then 100 else if ¬ (128 ≤ b (p + 3) ∧ b (p + 3) ≤ 191) then -4 - (p : Int) else (p : Int) + 4
def own_ref (b : Nat → Nat) (p : Nat) : Int :=
  if 8 ≤ p then 8 else if b p < 128 then (p : Int) + 1 else match own_beg (b p) with
    | none => -1 - (p : Int)
    | some (nd, lo, hi) => own_ref2 b p nd lo hi
theorem own_refA {b : Nat → Nat} {p : Nat} (h : 8 ≤ p) : own_ref b p = 8 := by unfold own_ref; rw [if_pos h]
theorem own_refB {b : Nat → Nat} {p : Nat} (h : ¬ 8 ≤ p) (h1 : b p < 128) : own_ref b p = (p : Int) + 1 := by unfold own_ref; rw [if_neg h, if_pos h1]
theorem own_refC {b : Nat → Nat} {p : Nat} (h : ¬ 8 ≤ p) (h1 : ¬ b p < 128) (h2 : own_beg (b p) = none) : own_ref b p = -1 - (p : Int) := by unfold own_ref; rw [if_neg h, if_neg h1, h2]
theorem own_refD {b : Nat → Nat} {p nd lo hi : Nat} (h : ¬ 8 ≤ p) (h1 : ¬ b p < 128) (h2 : own_beg (b p) = some (nd, lo, hi)) : own_ref b p = own_ref2 b p nd lo hi := by unfold own_ref; rw [if_neg h, if_neg h1, h2]
theorem own_pl {x : Int32} {k : Nat} (h : x.toInt = k) (hk : k ≤ 8) (m : Int32) (hm : -10 ≤ m.toInt ∧ m.toInt ≤ 10) : (x + m).toInt = k + m.toInt := by
  have q1 := c_iadd x m; have q2 := rng32 (x + m); omega
theorem own_mi {x : Int32} {k : Nat} (h : x.toInt = k) (hk : k ≤ 8) (m : Int32) (hm : -10 ≤ m.toInt ∧ m.toInt ≤ 10) : (m - x).toInt = m.toInt - k := by
  have q1 := c_isub m x; have q2 := rng32 (m - x); omega
theorem own_ixp {x : Int32} {k : Nat} (h : own_ix x k) (hk : k ≤ 8) (m : Nat) (hm : m ≤ 8) : own_ix (x + Int32.ofNat m) (k + m) := own_ixa h m (by omega)
def own_tr (b : Nat → Nat) : Nat → Option (Nat × Nat × Nat)
  | 0 => some (0, 128, 191)
  | i + 1 => match own_tr b i with
    | none => none
    | some s => own_stp s (b i)
theorem own_trS {b : Nat → Nat} {i : Nat} {s : Nat × Nat × Nat} (h : own_tr b i = some s) : own_tr b (i + 1) = own_stp s (b i) := by rw [own_tr, h]
/-- what the reference's one step says of the machine's trace -/
theorem own_A1 {b : Nat → Nat} {p : Nat} (hp : p < 8) (h : own_tr b p = some (0, 128, 191)) :
    (∃ p' : Nat, own_ref b p = p' ∧ p < p' ∧ p' ≤ 8 ∧ own_tr b p' = some (0, 128, 191)) ∨
    (∃ i : Nat, own_ref b p = -1 - (i : Int) ∧ p ≤ i ∧ i < 8 ∧ (∃ q, own_tr b i = some q ∧ own_stp q (b i) = none) ∧ ∀ x, p < x → x ≤ i → ∃ q, own_tr b x = some q ∧ q.1 ≠ 0) ∨
    (own_ref b p = 100 ∧ ∃ q, own_tr b 8 = some q ∧ q.1 ≠ 0) := by
  have hn0 : ¬ 0 < (0 : Nat) := by decide
  have h8 : ¬ 8 ≤ p := by omega
  by_cases h1 : b p < 128
  · exact Or.inl ⟨p + 1, by rw [own_refB h8 h1]; omega, by omega, by omega, (own_trS h).trans (own_stpA hn0 h1)⟩
  · cases hb : own_beg (b p) with
    | none => exact Or.inr (Or.inl ⟨p, own_refC h8 h1 hb, by omega, hp, ⟨_, h, (own_stpB hn0 h1).trans hb⟩, fun x q1 q2 => absurd q1 (by omega)⟩)
    | some s =>
      obtain ⟨nd, lo, hi⟩ := s
      have hk := own_begK hb
      have t1 : own_tr b (p + 1) = some (nd, lo, hi) := (own_trS h).trans ((own_stpB hn0 h1).trans hb)
      rw [own_refD h8 h1 hb]; unfold own_ref2
      by_cases c1 : 8 ≤ p + 1
      · rw [if_pos c1]
        have e : p + 1 = 8 := by omega
        exact Or.inr (Or.inr ⟨rfl, _, e ▸ t1, by show nd ≠ 0; omega⟩)
      · rw [if_neg c1]
        by_cases c2 : lo ≤ b (p + 1) ∧ b (p + 1) ≤ hi
        · rw [if_neg (not_not_intro c2)]
          have t2 : own_tr b (p + 2) = some (nd - 1, 128, 191) := (own_trS t1).trans (own_stpY (by omega) c2)
          by_cases c3 : nd = 1
          · rw [if_pos c3]; exact Or.inl ⟨p + 2, by omega, by omega, by omega, by rw [t2, c3]⟩
          · rw [if_neg c3]
            by_cases c4 : 8 ≤ p + 2
            · rw [if_pos c4]
              have e : p + 2 = 8 := by omega
              exact Or.inr (Or.inr ⟨rfl, _, e ▸ t2, by show nd - 1 ≠ 0; omega⟩)
            · rw [if_neg c4]
              by_cases c5 : 128 ≤ b (p + 2) ∧ b (p + 2) ≤ 191
              · rw [if_neg (not_not_intro c5)]
                have t3 : own_tr b (p + 3) = some (nd - 1 - 1, 128, 191) := (own_trS t2).trans (own_stpY (by omega) c5)
                by_cases c6 : nd = 2
                · rw [if_pos c6]; exact Or.inl ⟨p + 3, by omega, by omega, by omega, by rw [t3, c6]⟩
                · rw [if_neg c6]
                  by_cases c7 : 8 ≤ p + 3
                  · rw [if_pos c7]
                    have e : p + 3 = 8 := by omega
                    exact Or.inr (Or.inr ⟨rfl, _, e ▸ t3, by show nd - 1 - 1 ≠ 0; omega⟩)
                  · rw [if_neg c7]
                    by_cases c8 : 128 ≤ b (p + 3) ∧ b (p + 3) ≤ 191
                    · rw [if_neg (not_not_intro c8)]
                      have t4 : own_tr b (p + 4) = some (nd - 1 - 1 - 1, 128, 191) := (own_trS t3).trans (own_stpY (by omega) c8)
                      exact Or.inl ⟨p + 4, by omega, by omega, by omega, by rw [t4, show nd = 3 by omega]⟩
                    · rw [if_pos c8]
                      refine Or.inr (Or.inl ⟨p + 3, by omega, by omega, by omega, ⟨_, t3, own_stpX (by omega) c8⟩, fun x q1 q2 => ?_⟩)
                      have : x = p + 1 ∨ x = p + 2 ∨ x = p + 3 := by omega
                      rcases this with rfl | rfl | rfl
                      · exact ⟨_, t1, by show nd ≠ 0; omega⟩
                      · exact ⟨_, t2, by show nd - 1 ≠ 0; omega⟩
                      · exact ⟨_, t3, by show nd - 1 - 1 ≠ 0; omega⟩
              · rw [if_pos c5]
                refine Or.inr (Or.inl ⟨p + 2, by omega, by omega, by omega, ⟨_, t2, own_stpX (by omega) c5⟩, fun x q1 q2 => ?_⟩)
                have : x = p + 1 ∨ x = p + 2 := by omega
                rcases this with rfl | rfl
                · exact ⟨_, t1, by show nd ≠ 0; omega⟩
                · exact ⟨_, t2, by show nd - 1 ≠ 0; omega⟩
        · rw [if_pos c2]
          refine Or.inr (Or.inl ⟨p + 1, by omega, by omega, by omega, ⟨_, t1, own_stpX (by omega) c2⟩, fun x q1 q2 => ?_⟩)
          have : x = p + 1 := by omega
          subst this; exact ⟨_, t1, by show nd ≠ 0; omega⟩
def own_adv (b : Nat → Nat) (s : Int × Int × Int × Int × Int) : Int × Int × Int × Int × Int :=
  if s.2.2.2.2 = 0 then (if own_ref b s.1.toNat < 0 then (s.1, -1 - own_ref b s.1.toNat, s.1, s.2.2.2.1, 1) else if own_ref b s.1.toNat = 100 then (s.1, s.2.1, s.2.2.1, 1, 1) else (own_ref b s.1.toNat, s.2.1, s.2.2.1, s.2.2.2.1, s.2.2.2.2)) else s
def own_inv (b : Nat → Nat) (t : Nat) (s : Int × Int × Int × Int × Int) : Prop :=
  (s.2.2.2.2 = 0 ∧ s.2.1 = 8 ∧ s.2.2.1 = 8 ∧ s.2.2.2.1 = 0 ∧ ∃ p : Nat, s.1 = p ∧ p ≤ 8 ∧ (t ≤ p ∨ p = 8) ∧ own_tr b p = some (0, 128, 191)) ∨
  (s.2.2.2.2 = 1 ∧ s.2.2.2.1 = 0 ∧ 0 ≤ s.1 ∧ s.1 ≤ 8 ∧ ∃ i S : Nat, s.2.1 = i ∧ s.2.2.1 = S ∧ S ≤ i ∧ i < 8 ∧ own_tr b S = some (0, 128, 191) ∧ (∃ q, own_tr b i = some q ∧ own_stp q (b i) = none) ∧ ∀ x, S < x → x ≤ i → ∃ q, own_tr b x = some q ∧ q.1 ≠ 0) ∨
  (s.2.2.2.2 = 1 ∧ s.2.2.2.1 = 1 ∧ 0 ≤ s.1 ∧ s.1 ≤ 8 ∧ s.2.1 = 8 ∧ ∃ q, own_tr b 8 = some q ∧ q.1 ≠ 0)
theorem own_advI {b : Nat → Nat} {t : Nat} {s : Int × Int × Int × Int × Int} (h : own_inv b t s) : own_inv b (t + 1) (own_adv b s) := by
  obtain ⟨P, B, S, In, D⟩ := s
  rcases h with ⟨h1, h2, h3, h4, p, h5, h6, h7, h8⟩ | ⟨h1, h2⟩ | ⟨h1, h2⟩
  · dsimp only at h1 h2 h3 h4 h5
    subst h1 h2 h3 h4 h5
    unfold own_adv; dsimp only
    rw [if_pos rfl, Int.toNat_natCast]
    by_cases hp : p = 8
    · subst hp
      rw [own_refA (Nat.le_refl 8), if_neg (by decide), if_neg (by decide)]
      exact Or.inl ⟨rfl, rfl, rfl, rfl, 8, rfl, by decide, Or.inr rfl, h8⟩
    · rcases own_A1 (by omega : p < 8) h8 with ⟨p', e1, e2, e3, e4⟩ | ⟨i, e1, e2, e3, e4, e5⟩ | ⟨e1, e2⟩
      · rw [e1, if_neg (by omega), if_neg (by omega)]
        exact Or.inl ⟨rfl, rfl, rfl, rfl, p', rfl, e3, by omega, e4⟩
      · rw [e1, if_pos (by omega)]
        exact Or.inr (Or.inl ⟨rfl, rfl, by show (0 : Int) ≤ p; omega, by show (p : Int) ≤ 8; omega, i, p, by show -1 - (-1 - (i : Int)) = i; omega, rfl, e2, e3, h8, e4, e5⟩)
      · rw [e1, if_neg (by decide), if_pos rfl]
        exact Or.inr (Or.inr ⟨rfl, rfl, by show (0 : Int) ≤ p; omega, by show (p : Int) ≤ 8; omega, rfl, e2⟩)
  · have e : own_adv b (P, B, S, In, D) = (P, B, S, In, D) := by unfold own_adv; rw [if_neg (by rw [h1]; decide)]
    rw [e]; exact Or.inr (Or.inl ⟨h1, h2⟩)
  · have e : own_adv b (P, B, S, In, D) = (P, B, S, In, D) := by unfold own_adv; rw [if_neg (by rw [h1]; decide)]
    rw [e]; exact Or.inr (Or.inr ⟨h1, h2⟩)
theorem own_invP {b : Nat → Nat} {t : Nat} {s : Int × Int × Int × Int × Int} (h : own_inv b t s) : 0 ≤ s.1 ∧ s.1 ≤ 8 := by
  rcases h with ⟨-, -, -, -, p, h5, h6, -, -⟩ | ⟨-, -, h1, h2, -⟩ | ⟨-, -, h1, h2, -⟩
  · rw [h5]; omega
  · exact ⟨h1, h2⟩
  · exact ⟨h1, h2⟩
/-- a chunk that the machine comes through -/
theorem own_B1 {b : Nat → Nat} {s' : Nat × Nat × Nat} : ∀ (t i : Nat) (s : Nat × Nat × Nat) (q : Nat), own_tr b i = some s → own_tr b (i + t) = some s' → own_run b t i s q = .inr s'
  | 0, i, s, q, h1, h2 => by rw [Nat.add_zero, h1] at h2; cases h2; rfl
  | t + 1, i, s, q, h1, h2 => by
    cases hs : own_stp s (b i) with
    | none =>
      have : ∀ k, own_tr b (i + 1 + k) = none := by
        intro k; induction k with
        | zero => rw [Nat.add_zero, own_trS h1, hs]
        | succ k ih => rw [← Nat.add_assoc, own_tr, ih]
      rw [show i + (t + 1) = i + 1 + t by omega, this] at h2; cases h2
    | some s1 =>
      rw [own_runS hs]
      exact own_B1 t (i + 1) s1 _ ((own_trS h1).trans hs) (by rw [← h2]; congr 1; omega)
/-- a chunk in which it fails at x; S: the sequence's start -/
theorem own_B2 {b : Nat → Nat} {x S : Nat} (hS : own_tr b S = some (0, 128, 191)) (hx : ∃ q, own_tr b x = some q ∧ own_stp q (b x) = none) (hz : ∀ y, S < y → y ≤ x → ∃ q, own_tr b y = some q ∧ q.1 ≠ 0) : ∀ (t i : Nat) (s : Nat × Nat × Nat) (q : Nat), own_tr b i = some s → i ≤ x → x < i + t → own_run b t i s q = .inl (if i < S then S else q)
  | 0, i, s, q, _, h2, h3 => by omega
  | t + 1, i, s, q, h1, h2, h3 => by
    by_cases e : i = x
    · subst e
      obtain ⟨q1, h4, h5⟩ := hx
      cases h1.symm.trans h4
      rw [own_runN h5]
      by_cases hS' : i < S
      · exfalso
        have hno : ∀ k, own_tr b (i + 1 + k) = none := by
          intro k; induction k with
          | zero => rw [Nat.add_zero, own_trS h1, h5]
          | succ k ih => rw [← Nat.add_assoc, own_tr, ih]
        have := hno (S - (i + 1)); rw [show i + 1 + (S - (i + 1)) = S by omega, hS] at this; cases this
      · rw [if_neg hS']
    · cases hs : own_stp s (b i) with
      | none =>
        exfalso
        have hno : ∀ k, own_tr b (i + 1 + k) = none := by
          intro k; induction k with
          | zero => rw [Nat.add_zero, own_trS h1, hs]
          | succ k ih => rw [← Nat.add_assoc, own_tr, ih]
        obtain ⟨q1, h4, -⟩ := hx
        have := hno (x - (i + 1)); rw [show i + 1 + (x - (i + 1)) = x by omega, h4] at this; cases this
      | some s1 =>
        have t1 := (own_trS h1).trans hs
        rw [own_runS hs, own_B2 hS hx hz t (i + 1) s1 _ t1 (by omega) (by omega)]
        by_cases c1 : i + 1 < S
        · rw [if_pos c1, if_pos (by omega)]
        · rw [if_neg c1]
          by_cases c2 : i < S
          · have e2 : i + 1 = S := by omega
            rw [e2, hS] at t1; cases t1
            rw [if_pos rfl, if_pos c2, e2]
          · rw [if_neg c2]
            obtain ⟨q1, h4, h5⟩ := hz (i + 1) (by omega) (by omega)
            cases t1.symm.trans h4
            rw [if_neg h5]
theorem own_dF {P : Prop} [Decidable P] (h : decide P = false) : ¬ P := of_decide_eq_false h
theorem own_dT {P : Prop} [Decidable P] (h : ¬ (decide P = false)) : P := by simpa using h
theorem own_b9_d0 : decode method_4_code 0 = .ok (.iload_n 0, 1) := by decide +kernel
theorem own_b9_d1 : decode method_4_code 1 = .ok (.sipush 128, 3) := by decide +kernel
theorem own_b9_d4 : decode method_4_code 4 = .ok (.if_icmp .lt 14, 3) := by decide +kernel
theorem own_b9_d7 : decode method_4_code 7 = .ok (.iload_n 0, 1) := by decide +kernel
theorem own_b9_d8 : decode method_4_code 8 = .ok (.sipush 191, 3) := by decide +kernel
theorem own_b9_d11 : decode method_4_code 11 = .ok (.if_icmp .gt 7, 3) := by decide +kernel
theorem own_b9_d14 : decode method_4_code 14 = .ok (.iconst 1, 1) := by decide +kernel
theorem own_b9_d15 : decode method_4_code 15 = .ok (.goto 4, 3) := by decide +kernel
theorem own_b9_d18 : decode method_4_code 18 = .ok (.iconst 0, 1) := by decide +kernel
theorem own_b9_d19 : decode method_4_code 19 = .ok (.ireturn, 1) := by decide +kernel
theorem own_pn1 : plainName "com/example/mapwright/mapwright/Utf8CheckCheckPinLaw" = true := by first | (simp [plainName, overriddenIn]; done) | decide +kernel
theorem own_ef_rm9 (m : MethodId) (x0 : Int32) : entryFrame m #[(.int x0)] 1 = mkF m 0 #[.val (.int x0)] [] := by first | (simp [entryFrame, mkF, argsToLocals, Value.category]; done) | rfl
def Q9 (Z : State) (x : Int32) (h0 : Heap) (n0 : Nat) (v : Option Value) (h : Heap) (L : List Loc) : Prop := v = some (.int (own_b (decide (128 ≤ x.toInt ∧ x.toInt ≤ 191)))) ∧ Fr n0 L ∧ h = h0
set_option maxRecDepth 65536 in
set_option maxHeartbeats 40000000 in
theorem rm9 (l : Launch) (Z : State) (a0 : Array Value) (hw : ∀ d ∈ tables_1, d.before a0 Z = true) (ws : List Jvm.Cond) (x : Int32) (h0 : Heap) (n0 : Nat) (Z0 : n0 ≤ h0.size) :
    MetFree l (⟨"com/example/mapwright/mapwright/Utf8CheckCheckPinLaw", "cont", "(I)Z"⟩ : MethodName) (head1 (Jvm.Cond.code (⟨"com/example/mapwright/mapwright/Utf8CheckCheckPinLaw", "cont", "(I)Z"⟩ : MethodName) method_4_code 1 (some .boolean) :: ws) ({ frames := 0, cells := 0, slots := 0, locals := 0 } : Room)) (fun aa_ U_ => aa_ = #[(.int x)] ∧ Z.Warmed39 U_.vm ∧ U_.heap = h0) (fun _ _ _ _ _ => True) (fun _ U_ o_ U1_ => ∃ v_ L_, o_ = .returned v_ ∧ Q9 Z x h0 n0 v_ U1_.heap L_ ∧ FrameEnd U_ o_ U1_ L_ ({ frames := 0, cells := 0, slots := 0, locals := 0 } : Room).cells ({ frames := 0, cells := 0, slots := 0, locals := 0 } : Room).slots) := by
  refine MetFree.of_bodySF (plainFor_of_name own_pn1) hisR ?_
  intro p e s m args below meth c s₁ Bd hml0 hP hK
  obtain ⟨rfl, hZ, hh⟩ := hP
  have hx := Bd.exec
  have hby := Bd.bytes
  have hlk := Bd.notSynchronized
  have hml : c.maxLocals = 1 := hml0
  have hown : s.vm.findClass "com/example/mapwright/mapwright/Utf8CheckCheckPinLaw" = some m.cls := findClass_of_methodNamed Bd.named
  have hnm := (name_of_methodNamed Bd.named Bd.method).1
  have X0 : Stand p l e ({ frames := 0, cells := 0, slots := 0, locals := 0 } : Room) s m #[(.int x)] below meth c s₁ [] 0 0 := Stand.of_body Bd
  have e0 : s₁.heap = h0 := by rw [← hh, Bd.state]; rfl
  have N0 := Fr.nil n0
  show own_E p e below s (Q9 Z x h0 n0) ({ frames := 0, cells := 0, slots := 0, locals := 0 } : Room).cells ({ frames := 0, cells := 0, slots := 0, locals := 0 } : Room).slots (s₁.setTop (entryFrame m #[(.int x)] 1))
  refine own_st (B := s₁.setTop (mkF m 0 #[.val (.int x)] [])) (fun t_ k_ => castTop (own_ef_rm9 m x) k_) ?_
  refine own_st (B := s₁.setTop (mkF m 1 #[.val (.int x)] [(.int x)])) (fun t_ k_ => XS.iloadN X0.here hx rfl (hb hby own_b9_d0) rfl k_) ?_
  refine own_st (B := s₁.setTop (mkF m 4 #[.val (.int x)] [(.int (128 : Int32)), (.int x)])) (fun t_ k_ => XS.sipush X0.here hx rfl (hb hby own_b9_d1) k_) ?_
  by_cases hc1 : x < (128 : Int32)
  · have hd1 := own_lt32 hc1
    rw [show (128 : Int32).toInt = 128 from rfl] at hd1
    refine own_st (B := s₁.setTop (mkF m 18 #[.val (.int x)] [])) (fun t_ k_ => XS.icmpYes X0.here hx rfl (pc0 := 4) (pc' := 18) rfl (hb hby own_b9_d4) rfl (tlt hc1).1 (by decide) (by decide) k_) ?_
    refine own_st (B := s₁.setTop (mkF m 19 #[.val (.int x)] [(.int (0 : Int32))])) (fun t_ k_ => XS.iconst X0.here hx rfl (hb hby own_b9_d18) k_) ?_
    refine own_retN X0 hx (t := .boolean) Bd.returns (by simp) hlk (hb hby own_b9_d19) (z' := (0 : Int32)) (by first | rfl | exact own_nb _) (by decide) (by decide) ?_
    show Q9 Z x h0 n0 _ s₁.heap _
    rw [e0]
    exact ⟨by rw [own_bz]; omega, N0, rfl⟩
  · have hd1 := own_nlt32 hc1
    rw [show (128 : Int32).toInt = 128 from rfl] at hd1
    refine own_st (B := s₁.setTop (mkF m 7 #[.val (.int x)] [])) (fun t_ k_ => XS.icmpNo X0.here hx rfl (hb hby own_b9_d4) rfl (flt hc1).1 k_) ?_
    refine own_st (B := s₁.setTop (mkF m 8 #[.val (.int x)] [(.int x)])) (fun t_ k_ => XS.iloadN X0.here hx rfl (hb hby own_b9_d7) rfl k_) ?_
    refine own_st (B := s₁.setTop (mkF m 11 #[.val (.int x)] [(.int (191 : Int32)), (.int x)])) (fun t_ k_ => XS.sipush X0.here hx rfl (hb hby own_b9_d8) k_) ?_
    by_cases hc2 : (191 : Int32) < x
    · have hd2 := own_lt32 hc2
      rw [show (191 : Int32).toInt = 191 from rfl] at hd2
      refine own_st (B := s₁.setTop (mkF m 18 #[.val (.int x)] [])) (fun t_ k_ => XS.icmpYes X0.here hx rfl (pc0 := 11) (pc' := 18) rfl (hb hby own_b9_d11) rfl (tlt hc2).2.2.1 (by decide) (by decide) k_) ?_
      refine own_st (B := s₁.setTop (mkF m 19 #[.val (.int x)] [(.int (0 : Int32))])) (fun t_ k_ => XS.iconst X0.here hx rfl (hb hby own_b9_d18) k_) ?_
      refine own_retN X0 hx (t := .boolean) Bd.returns (by simp) hlk (hb hby own_b9_d19) (z' := (0 : Int32)) (by first | rfl | exact own_nb _) (by decide) (by decide) ?_
      show Q9 Z x h0 n0 _ s₁.heap _
      rw [e0]
      exact ⟨by rw [own_bz]; omega, N0, rfl⟩
    · have hd2 := own_nlt32 hc2
      rw [show (191 : Int32).toInt = 191 from rfl] at hd2
      refine own_st (B := s₁.setTop (mkF m 14 #[.val (.int x)] [])) (fun t_ k_ => XS.icmpNo X0.here hx rfl (hb hby own_b9_d11) rfl (flt hc2).2.2.1 k_) ?_
      refine own_st (B := s₁.setTop (mkF m 15 #[.val (.int x)] [(.int (1 : Int32))])) (fun t_ k_ => XS.iconst X0.here hx rfl (hb hby own_b9_d14) k_) ?_
      refine own_st (B := s₁.setTop (mkF m 19 #[.val (.int x)] [(.int (1 : Int32))])) (fun t_ k_ => XS.goto X0.here hx rfl (pc0 := 15) (pc' := 19) rfl (hb hby own_b9_d15) (by decide) (by decide) k_) ?_
      refine own_retN X0 hx (t := .boolean) Bd.returns (by simp) hlk (hb hby own_b9_d19) (z' := (1 : Int32)) (by first | rfl | exact own_nb _) (by decide) (by decide) ?_
      show Q9 Z x h0 n0 _ s₁.heap _
      rw [e0]
      exact ⟨by rw [own_b1]; omega, N0, rfl⟩
def own_imax (x y : Int32) : Int32 := if x < y then y else x
theorem own_b8_d0 : decode jdk_29_method_65_code 0 = .ok (.iload_n 0, 1) := by decide +kernel
theorem own_b8_d1 : decode jdk_29_method_65_code 1 = .ok (.iload_n 1, 1) := by decide +kernel
theorem own_b8_d2 : decode jdk_29_method_65_code 2 = .ok (.if_icmp .lt 7, 3) := by decide +kernel
theorem own_b8_d5 : decode jdk_29_method_65_code 5 = .ok (.iload_n 0, 1) := by decide +kernel
theorem own_b8_d6 : decode jdk_29_method_65_code 6 = .ok (.goto 4, 3) := by decide +kernel
theorem own_b8_d9 : decode jdk_29_method_65_code 9 = .ok (.iload_n 1, 1) := by decide +kernel
theorem own_b8_d10 : decode jdk_29_method_65_code 10 = .ok (.ireturn, 1) := by decide +kernel
theorem own_ef_rm8 (m : MethodId) (x0 : Int32) (x1 : Int32) : entryFrame m #[(.int x0), (.int x1)] 2 = mkF m 0 #[.val (.int x0), .val (.int x1)] [] := by first | (simp [entryFrame, mkF, argsToLocals, Value.category]; done) | rfl
def Q8 (Z : State) (x0 : Int32) (x1 : Int32) (h0 : Heap) (n0 : Nat) (v : Option Value) (h : Heap) (L : List Loc) : Prop := v = some (.int (own_imax x0 x1)) ∧ Fr n0 L ∧ h = h0
set_option maxRecDepth 65536 in
set_option maxHeartbeats 40000000 in
theorem rm8 (l : Launch) (Z : State) (a0 : Array Value) (hw : ∀ d ∈ tables_1, d.before a0 Z = true) (ws : List Jvm.Cond) (x0 : Int32) (x1 : Int32) (h0 : Heap) (n0 : Nat) (Z0 : n0 ≤ h0.size) :
    MetFree l (⟨"java/lang/Math", "max", "(II)I"⟩ : MethodName) (head1 (Jvm.Cond.code (⟨"java/lang/Math", "max", "(II)I"⟩ : MethodName) jdk_29_method_65_code 2 (some .int) :: ws) ({ frames := 0, cells := 0, slots := 0, locals := 0 } : Room)) (fun aa_ U_ => aa_ = #[(.int x0), (.int x1)] ∧ Z.Warmed39 U_.vm ∧ U_.heap = h0) (fun _ _ _ _ _ => True) (fun _ U_ o_ U1_ => ∃ v_ L_, o_ = .returned v_ ∧ Q8 Z x0 x1 h0 n0 v_ U1_.heap L_ ∧ FrameEnd U_ o_ U1_ L_ ({ frames := 0, cells := 0, slots := 0, locals := 0 } : Room).cells ({ frames := 0, cells := 0, slots := 0, locals := 0 } : Room).slots) := by
  refine MetFree.of_bodySF (Jvm.Free.JP.mathPlain rfl (by decide +kernel)) hisR ?_
  intro p e s m args below meth c s₁ Bd hml0 hP hK
  obtain ⟨rfl, hZ, hh⟩ := hP
  have hx := Bd.exec
  have hby := Bd.bytes
  have hlk := Bd.notSynchronized
  have hml : c.maxLocals = 2 := hml0
  have hown : s.vm.findClass "java/lang/Math" = some m.cls := findClass_of_methodNamed Bd.named
  have hnm := (name_of_methodNamed Bd.named Bd.method).1
  have X0 : Stand p l e ({ frames := 0, cells := 0, slots := 0, locals := 0 } : Room) s m #[(.int x0), (.int x1)] below meth c s₁ [] 0 0 := Stand.of_body Bd
  have e0 : s₁.heap = h0 := by rw [← hh, Bd.state]; rfl
  have N0 := Fr.nil n0
  show own_E p e below s (Q8 Z x0 x1 h0 n0) ({ frames := 0, cells := 0, slots := 0, locals := 0 } : Room).cells ({ frames := 0, cells := 0, slots := 0, locals := 0 } : Room).slots (s₁.setTop (entryFrame m #[(.int x0), (.int x1)] 2))
  refine own_st (B := s₁.setTop (mkF m 0 #[.val (.int x0), .val (.int x1)] [])) (fun t_ k_ => castTop (own_ef_rm8 m x0 x1) k_) ?_
  refine own_st (B := s₁.setTop (mkF m 1 #[.val (.int x0), .val (.int x1)] [(.int x0)])) (fun t_ k_ => XS.iloadN X0.here hx rfl (hb hby own_b8_d0) rfl k_) ?_
  refine own_st (B := s₁.setTop (mkF m 2 #[.val (.int x0), .val (.int x1)] [(.int x1), (.int x0)])) (fun t_ k_ => XS.iloadN X0.here hx rfl (hb hby own_b8_d1) rfl k_) ?_
  by_cases hc1 : x0 < x1
  · have hd1 := own_lt32 hc1
    refine own_st (B := s₁.setTop (mkF m 9 #[.val (.int x0), .val (.int x1)] [])) (fun t_ k_ => XS.icmpYes X0.here hx rfl (pc0 := 2) (pc' := 9) rfl (hb hby own_b8_d2) rfl (tlt hc1).1 (by decide) (by decide) k_) ?_
    refine own_st (B := s₁.setTop (mkF m 10 #[.val (.int x0), .val (.int x1)] [(.int x1)])) (fun t_ k_ => XS.iloadN X0.here hx rfl (hb hby own_b8_d9) rfl k_) ?_
    refine own_retI X0 hx Bd.returns hlk (hb hby own_b8_d10) (by decide) (by decide) ?_
    show Q8 Z x0 x1 h0 n0 _ s₁.heap _
    rw [e0]
    exact ⟨by simp [own_imax, hc1], N0, rfl⟩
  · have hd1 := own_nlt32 hc1
    refine own_st (B := s₁.setTop (mkF m 5 #[.val (.int x0), .val (.int x1)] [])) (fun t_ k_ => XS.icmpNo X0.here hx rfl (hb hby own_b8_d2) rfl (flt hc1).1 k_) ?_
    refine own_st (B := s₁.setTop (mkF m 6 #[.val (.int x0), .val (.int x1)] [(.int x0)])) (fun t_ k_ => XS.iloadN X0.here hx rfl (hb hby own_b8_d5) rfl k_) ?_
    refine own_st (B := s₁.setTop (mkF m 10 #[.val (.int x0), .val (.int x1)] [(.int x0)])) (fun t_ k_ => XS.goto X0.here hx rfl (pc0 := 6) (pc' := 10) rfl (hb hby own_b8_d6) (by decide) (by decide) k_) ?_
    refine own_retI X0 hx Bd.returns hlk (hb hby own_b8_d10) (by decide) (by decide) ?_
    show Q8 Z x0 x1 h0 n0 _ s₁.heap _
    rw [e0]
    exact ⟨by simp [own_imax, hc1], N0, rfl⟩
theorem own_b2_d0 : decode method_5_code 0 = .ok (.iload_n 1, 1) := by decide +kernel
theorem own_b2_d1 : decode method_5_code 1 = .ok (.bipush 8, 2) := by decide +kernel
theorem own_b2_d3 : decode method_5_code 3 = .ok (.if_icmp .lt 6, 3) := by decide +kernel
theorem own_b2_d6 : decode method_5_code 6 = .ok (.bipush 8, 2) := by decide +kernel
theorem own_b2_d8 : decode method_5_code 8 = .ok (.ireturn, 1) := by decide +kernel
theorem own_b2_d9 : decode method_5_code 9 = .ok (.aload_n 0, 1) := by decide +kernel
theorem own_b2_d10 : decode method_5_code 10 = .ok (.iload_n 1, 1) := by decide +kernel
theorem own_b2_d11 : decode method_5_code 11 = .ok (.iaload, 1) := by decide +kernel
theorem own_b2_d12 : decode method_5_code 12 = .ok (.istore_n 2, 1) := by decide +kernel
theorem own_b2_d13 : decode method_5_code 13 = .ok (.iload_n 2, 1) := by decide +kernel
theorem own_b2_d14 : decode method_5_code 14 = .ok (.sipush 128, 3) := by decide +kernel
theorem own_b2_d17 : decode method_5_code 17 = .ok (.if_icmp .ge 7, 3) := by decide +kernel
theorem own_b2_d20 : decode method_5_code 20 = .ok (.iload_n 1, 1) := by decide +kernel
theorem own_b2_d21 : decode method_5_code 21 = .ok (.iconst 1, 1) := by decide +kernel
theorem own_b2_d22 : decode method_5_code 22 = .ok (.iadd, 1) := by decide +kernel
theorem own_b2_d23 : decode method_5_code 23 = .ok (.ireturn, 1) := by decide +kernel
theorem own_b2_d24 : decode method_5_code 24 = .ok (.sipush 128, 3) := by decide +kernel
theorem own_b2_d27 : decode method_5_code 27 = .ok (.istore 4, 2) := by decide +kernel
theorem own_b2_d29 : decode method_5_code 29 = .ok (.sipush 191, 3) := by decide +kernel
theorem own_b2_d32 : decode method_5_code 32 = .ok (.istore 5, 2) := by decide +kernel
theorem own_b2_d34 : decode method_5_code 34 = .ok (.iload_n 2, 1) := by decide +kernel
theorem own_b2_d35 : decode method_5_code 35 = .ok (.sipush 194, 3) := by decide +kernel
theorem own_b2_d38 : decode method_5_code 38 = .ok (.if_icmp .lt 15, 3) := by decide +kernel
theorem own_b2_d41 : decode method_5_code 41 = .ok (.iload_n 2, 1) := by decide +kernel
theorem own_b2_d42 : decode method_5_code 42 = .ok (.sipush 223, 3) := by decide +kernel
theorem own_b2_d45 : decode method_5_code 45 = .ok (.if_icmp .gt 8, 3) := by decide +kernel
theorem own_b2_d48 : decode method_5_code 48 = .ok (.iconst 2, 1) := by decide +kernel
theorem own_b2_d49 : decode method_5_code 49 = .ok (.istore_n 3, 1) := by decide +kernel
theorem own_b2_d50 : decode method_5_code 50 = .ok (.goto 132, 3) := by decide +kernel
theorem own_b2_d53 : decode method_5_code 53 = .ok (.iload_n 2, 1) := by decide +kernel
theorem own_b2_d54 : decode method_5_code 54 = .ok (.sipush 224, 3) := by decide +kernel
theorem own_b2_d57 : decode method_5_code 57 = .ok (.if_icmp .ne 13, 3) := by decide +kernel
theorem own_b2_d60 : decode method_5_code 60 = .ok (.iconst 3, 1) := by decide +kernel
theorem own_b2_d61 : decode method_5_code 61 = .ok (.istore_n 3, 1) := by decide +kernel
theorem own_b2_d62 : decode method_5_code 62 = .ok (.sipush 160, 3) := by decide +kernel
theorem own_b2_d65 : decode method_5_code 65 = .ok (.istore 4, 2) := by decide +kernel
theorem own_b2_d67 : decode method_5_code 67 = .ok (.goto 115, 3) := by decide +kernel
theorem own_b2_d70 : decode method_5_code 70 = .ok (.iload_n 2, 1) := by decide +kernel
theorem own_b2_d71 : decode method_5_code 71 = .ok (.sipush 225, 3) := by decide +kernel
theorem own_b2_d74 : decode method_5_code 74 = .ok (.if_icmp .lt 15, 3) := by decide +kernel
theorem own_b2_d77 : decode method_5_code 77 = .ok (.iload_n 2, 1) := by decide +kernel
theorem own_b2_d78 : decode method_5_code 78 = .ok (.sipush 236, 3) := by decide +kernel
theorem own_b2_d81 : decode method_5_code 81 = .ok (.if_icmp .gt 8, 3) := by decide +kernel
theorem own_b2_d84 : decode method_5_code 84 = .ok (.iconst 3, 1) := by decide +kernel
theorem own_b2_d85 : decode method_5_code 85 = .ok (.istore_n 3, 1) := by decide +kernel
theorem own_b2_d86 : decode method_5_code 86 = .ok (.goto 96, 3) := by decide +kernel
theorem own_b2_d89 : decode method_5_code 89 = .ok (.iload_n 2, 1) := by decide +kernel
theorem own_b2_d90 : decode method_5_code 90 = .ok (.sipush 237, 3) := by decide +kernel
theorem own_b2_d93 : decode method_5_code 93 = .ok (.if_icmp .ne 13, 3) := by decide +kernel
theorem own_b2_d96 : decode method_5_code 96 = .ok (.iconst 3, 1) := by decide +kernel
theorem own_b2_d97 : decode method_5_code 97 = .ok (.istore_n 3, 1) := by decide +kernel
theorem own_b2_d98 : decode method_5_code 98 = .ok (.sipush 159, 3) := by decide +kernel
theorem own_b2_d101 : decode method_5_code 101 = .ok (.istore 5, 2) := by decide +kernel
theorem own_b2_d103 : decode method_5_code 103 = .ok (.goto 79, 3) := by decide +kernel
theorem own_b2_d106 : decode method_5_code 106 = .ok (.iload_n 2, 1) := by decide +kernel
theorem own_b2_d107 : decode method_5_code 107 = .ok (.sipush 238, 3) := by decide +kernel
theorem own_b2_d110 : decode method_5_code 110 = .ok (.if_icmp .eq 10, 3) := by decide +kernel
theorem own_b2_d113 : decode method_5_code 113 = .ok (.iload_n 2, 1) := by decide +kernel
theorem own_b2_d114 : decode method_5_code 114 = .ok (.sipush 239, 3) := by decide +kernel
theorem own_b2_d117 : decode method_5_code 117 = .ok (.if_icmp .ne 8, 3) := by decide +kernel
theorem own_b2_d120 : decode method_5_code 120 = .ok (.iconst 3, 1) := by decide +kernel
theorem own_b2_d121 : decode method_5_code 121 = .ok (.istore_n 3, 1) := by decide +kernel
theorem own_b2_d122 : decode method_5_code 122 = .ok (.goto 60, 3) := by decide +kernel
theorem own_b2_d125 : decode method_5_code 125 = .ok (.iload_n 2, 1) := by decide +kernel
theorem own_b2_d126 : decode method_5_code 126 = .ok (.sipush 240, 3) := by decide +kernel
theorem own_b2_d129 : decode method_5_code 129 = .ok (.if_icmp .ne 13, 3) := by decide +kernel
theorem own_b2_d132 : decode method_5_code 132 = .ok (.iconst 4, 1) := by decide +kernel
theorem own_b2_d133 : decode method_5_code 133 = .ok (.istore_n 3, 1) := by decide +kernel
theorem own_b2_d134 : decode method_5_code 134 = .ok (.sipush 144, 3) := by decide +kernel
theorem own_b2_d137 : decode method_5_code 137 = .ok (.istore 4, 2) := by decide +kernel
theorem own_b2_d139 : decode method_5_code 139 = .ok (.goto 43, 3) := by decide +kernel
theorem own_b2_d142 : decode method_5_code 142 = .ok (.iload_n 2, 1) := by decide +kernel
theorem own_b2_d143 : decode method_5_code 143 = .ok (.sipush 241, 3) := by decide +kernel
theorem own_b2_d146 : decode method_5_code 146 = .ok (.if_icmp .lt 15, 3) := by decide +kernel
theorem own_b2_d149 : decode method_5_code 149 = .ok (.iload_n 2, 1) := by decide +kernel
theorem own_b2_d150 : decode method_5_code 150 = .ok (.sipush 243, 3) := by decide +kernel
theorem own_b2_d153 : decode method_5_code 153 = .ok (.if_icmp .gt 8, 3) := by decide +kernel
theorem own_b2_d156 : decode method_5_code 156 = .ok (.iconst 4, 1) := by decide +kernel
theorem own_b2_d157 : decode method_5_code 157 = .ok (.istore_n 3, 1) := by decide +kernel
theorem own_b2_d158 : decode method_5_code 158 = .ok (.goto 24, 3) := by decide +kernel
theorem own_b2_d161 : decode method_5_code 161 = .ok (.iload_n 2, 1) := by decide +kernel
theorem own_b2_d162 : decode method_5_code 162 = .ok (.sipush 244, 3) := by decide +kernel
theorem own_b2_d165 : decode method_5_code 165 = .ok (.if_icmp .ne 13, 3) := by decide +kernel
theorem own_b2_d168 : decode method_5_code 168 = .ok (.iconst 4, 1) := by decide +kernel
theorem own_b2_d169 : decode method_5_code 169 = .ok (.istore_n 3, 1) := by decide +kernel
theorem own_b2_d170 : decode method_5_code 170 = .ok (.sipush 143, 3) := by decide +kernel
theorem own_b2_d173 : decode method_5_code 173 = .ok (.istore 5, 2) := by decide +kernel
theorem own_b2_d175 : decode method_5_code 175 = .ok (.goto 7, 3) := by decide +kernel
theorem own_b2_d178 : decode method_5_code 178 = .ok (.iconst (-1), 1) := by decide +kernel
theorem own_b2_d179 : decode method_5_code 179 = .ok (.iload_n 1, 1) := by decide +kernel
theorem own_b2_d180 : decode method_5_code 180 = .ok (.isub, 1) := by decide +kernel
theorem own_b2_d181 : decode method_5_code 181 = .ok (.ireturn, 1) := by decide +kernel
theorem own_b2_d182 : decode method_5_code 182 = .ok (.iload_n 1, 1) := by decide +kernel
theorem own_b2_d183 : decode method_5_code 183 = .ok (.iconst 1, 1) := by decide +kernel
theorem own_b2_d184 : decode method_5_code 184 = .ok (.iadd, 1) := by decide +kernel
theorem own_b2_d185 : decode method_5_code 185 = .ok (.bipush 8, 2) := by decide +kernel
theorem own_b2_d187 : decode method_5_code 187 = .ok (.if_icmp .lt 6, 3) := by decide +kernel
theorem own_b2_d190 : decode method_5_code 190 = .ok (.bipush 100, 2) := by decide +kernel
theorem own_b2_d192 : decode method_5_code 192 = .ok (.ireturn, 1) := by decide +kernel
theorem own_b2_d193 : decode method_5_code 193 = .ok (.aload_n 0, 1) := by decide +kernel
theorem own_b2_d194 : decode method_5_code 194 = .ok (.iload_n 1, 1) := by decide +kernel
theorem own_b2_d195 : decode method_5_code 195 = .ok (.iconst 1, 1) := by decide +kernel
theorem own_b2_d196 : decode method_5_code 196 = .ok (.iadd, 1) := by decide +kernel
theorem own_b2_d197 : decode method_5_code 197 = .ok (.iaload, 1) := by decide +kernel
theorem own_b2_d198 : decode method_5_code 198 = .ok (.iload 4, 2) := by decide +kernel
theorem own_b2_d200 : decode method_5_code 200 = .ok (.if_icmp .lt 13, 3) := by decide +kernel
theorem own_b2_d203 : decode method_5_code 203 = .ok (.aload_n 0, 1) := by decide +kernel
theorem own_b2_d204 : decode method_5_code 204 = .ok (.iload_n 1, 1) := by decide +kernel
theorem own_b2_d205 : decode method_5_code 205 = .ok (.iconst 1, 1) := by decide +kernel
theorem own_b2_d206 : decode method_5_code 206 = .ok (.iadd, 1) := by decide +kernel
theorem own_b2_d207 : decode method_5_code 207 = .ok (.iaload, 1) := by decide +kernel
theorem own_b2_d208 : decode method_5_code 208 = .ok (.iload 5, 2) := by decide +kernel
theorem own_b2_d210 : decode method_5_code 210 = .ok (.if_icmp .le 8, 3) := by decide +kernel
theorem own_b2_d213 : decode method_5_code 213 = .ok (.bipush (-2), 2) := by decide +kernel
theorem own_b2_d215 : decode method_5_code 215 = .ok (.iload_n 1, 1) := by decide +kernel
theorem own_b2_d216 : decode method_5_code 216 = .ok (.isub, 1) := by decide +kernel
theorem own_b2_d217 : decode method_5_code 217 = .ok (.ireturn, 1) := by decide +kernel
theorem own_b2_d218 : decode method_5_code 218 = .ok (.iload_n 3, 1) := by decide +kernel
theorem own_b2_d219 : decode method_5_code 219 = .ok (.iconst 2, 1) := by decide +kernel
theorem own_b2_d220 : decode method_5_code 220 = .ok (.if_icmp .ne 7, 3) := by decide +kernel
theorem own_b2_d223 : decode method_5_code 223 = .ok (.iload_n 1, 1) := by decide +kernel
theorem own_b2_d224 : decode method_5_code 224 = .ok (.iconst 2, 1) := by decide +kernel
theorem own_b2_d225 : decode method_5_code 225 = .ok (.iadd, 1) := by decide +kernel
theorem own_b2_d226 : decode method_5_code 226 = .ok (.ireturn, 1) := by decide +kernel
theorem own_b2_d227 : decode method_5_code 227 = .ok (.iload_n 1, 1) := by decide +kernel
theorem own_b2_d228 : decode method_5_code 228 = .ok (.iconst 2, 1) := by decide +kernel
theorem own_b2_d229 : decode method_5_code 229 = .ok (.iadd, 1) := by decide +kernel
theorem own_b2_d230 : decode method_5_code 230 = .ok (.bipush 8, 2) := by decide +kernel
theorem own_b2_d232 : decode method_5_code 232 = .ok (.if_icmp .lt 6, 3) := by decide +kernel
theorem own_b2_d235 : decode method_5_code 235 = .ok (.bipush 100, 2) := by decide +kernel
theorem own_b2_d237 : decode method_5_code 237 = .ok (.ireturn, 1) := by decide +kernel
theorem own_b2_d238 : decode method_5_code 238 = .ok (.aload_n 0, 1) := by decide +kernel
theorem own_b2_d239 : decode method_5_code 239 = .ok (.iload_n 1, 1) := by decide +kernel
theorem own_b2_d240 : decode method_5_code 240 = .ok (.iconst 2, 1) := by decide +kernel
theorem own_b2_d241 : decode method_5_code 241 = .ok (.iadd, 1) := by decide +kernel
theorem own_b2_d242 : decode method_5_code 242 = .ok (.iaload, 1) := by decide +kernel
theorem own_b2_d243 : decode method_5_code 243 = .ok (.invokestatic 37, 3) := by decide +kernel
theorem own_b2_d246 : decode method_5_code 246 = .ok (.ifCond .ne 8, 3) := by decide +kernel
theorem own_b2_d249 : decode method_5_code 249 = .ok (.bipush (-3), 2) := by decide +kernel
theorem own_b2_d251 : decode method_5_code 251 = .ok (.iload_n 1, 1) := by decide +kernel
theorem own_b2_d252 : decode method_5_code 252 = .ok (.isub, 1) := by decide +kernel
theorem own_b2_d253 : decode method_5_code 253 = .ok (.ireturn, 1) := by decide +kernel
theorem own_b2_d254 : decode method_5_code 254 = .ok (.iload_n 3, 1) := by decide +kernel
theorem own_b2_d255 : decode method_5_code 255 = .ok (.iconst 3, 1) := by decide +kernel
theorem own_b2_d256 : decode method_5_code 256 = .ok (.if_icmp .ne 7, 3) := by decide +kernel
theorem own_b2_d259 : decode method_5_code 259 = .ok (.iload_n 1, 1) := by decide +kernel
theorem own_b2_d260 : decode method_5_code 260 = .ok (.iconst 3, 1) := by decide +kernel
theorem own_b2_d261 : decode method_5_code 261 = .ok (.iadd, 1) := by decide +kernel
theorem own_b2_d262 : decode method_5_code 262 = .ok (.ireturn, 1) := by decide +kernel
theorem own_b2_d263 : decode method_5_code 263 = .ok (.iload_n 1, 1) := by decide +kernel
theorem own_b2_d264 : decode method_5_code 264 = .ok (.iconst 3, 1) := by decide +kernel
theorem own_b2_d265 : decode method_5_code 265 = .ok (.iadd, 1) := by decide +kernel
theorem own_b2_d266 : decode method_5_code 266 = .ok (.bipush 8, 2) := by decide +kernel
theorem own_b2_d268 : decode method_5_code 268 = .ok (.if_icmp .lt 6, 3) := by decide +kernel
theorem own_b2_d271 : decode method_5_code 271 = .ok (.bipush 100, 2) := by decide +kernel
theorem own_b2_d273 : decode method_5_code 273 = .ok (.ireturn, 1) := by decide +kernel
theorem own_b2_d274 : decode method_5_code 274 = .ok (.aload_n 0, 1) := by decide +kernel
theorem own_b2_d275 : decode method_5_code 275 = .ok (.iload_n 1, 1) := by decide +kernel
theorem own_b2_d276 : decode method_5_code 276 = .ok (.iconst 3, 1) := by decide +kernel
theorem own_b2_d277 : decode method_5_code 277 = .ok (.iadd, 1) := by decide +kernel
theorem own_b2_d278 : decode method_5_code 278 = .ok (.iaload, 1) := by decide +kernel
theorem own_b2_d279 : decode method_5_code 279 = .ok (.invokestatic 37, 3) := by decide +kernel
theorem own_b2_d282 : decode method_5_code 282 = .ok (.ifCond .ne 8, 3) := by decide +kernel
theorem own_b2_d285 : decode method_5_code 285 = .ok (.bipush (-4), 2) := by decide +kernel
theorem own_b2_d287 : decode method_5_code 287 = .ok (.iload_n 1, 1) := by decide +kernel
theorem own_b2_d288 : decode method_5_code 288 = .ok (.isub, 1) := by decide +kernel
theorem own_b2_d289 : decode method_5_code 289 = .ok (.ireturn, 1) := by decide +kernel
theorem own_b2_d290 : decode method_5_code 290 = .ok (.iload_n 1, 1) := by decide +kernel
theorem own_b2_d291 : decode method_5_code 291 = .ok (.iconst 4, 1) := by decide +kernel
theorem own_b2_d292 : decode method_5_code 292 = .ok (.iadd, 1) := by decide +kernel
theorem own_b2_d293 : decode method_5_code 293 = .ok (.ireturn, 1) := by decide +kernel
theorem own_ef_rm2 (m : MethodId) (x0 : Addr) (x1 : Int32) : entryFrame m #[(.ref x0), (.int x1)] 6 = mkF m 0 #[.val (.ref x0), .val (.int x1), .unset, .unset, .unset, .unset] [] := by first | (simp [entryFrame, mkF, argsToLocals, Value.category]; done) | rfl
def Q2 (Z : State) (d : Addr) (x1 : Int32) (kp : Nat) (g : Nat → Int32) (b : Nat → Nat) (h0 : Heap) (n0 : Nat) (v : Option Value) (h : Heap) (L : List Loc) : Prop := ∃ y : Int32, v = some (.int y) ∧ y.toInt = own_ref b kp ∧ Fr n0 L ∧ h = h0
set_option maxRecDepth 65536 in
set_option maxHeartbeats 40000000 in
theorem rm2 (l : Launch) (Z : State) (a0 : Array Value) (hw : ∀ d ∈ tables_1, d.before a0 Z = true) (ws : List Jvm.Cond) (d : Addr) (x1 : Int32) (kp : Nat) (g : Nat → Int32) (b : Nat → Nat) (h0 : Heap) (n0 : Nat) (Z0 : n0 ≤ h0.size) (A : own_A Z h0 d .int 8 g) (hp : own_ix x1 kp) (hp8 : kp ≤ 8) (hg : ∀ j, j < 8 → (g j).toInt = (b j : Int)) :
    MetFree l (⟨"com/example/mapwright/mapwright/Utf8CheckCheckPinLaw", "step", "([II)I"⟩ : MethodName) (head1 (Jvm.Cond.code (⟨"com/example/mapwright/mapwright/Utf8CheckCheckPinLaw", "step", "([II)I"⟩ : MethodName) method_5_code 6 (some .int) :: ws) ({ frames := 1, cells := 0, slots := 0, locals := 12 } : Room)) (fun aa_ U_ => aa_ = #[(.ref d), (.int x1)] ∧ Z.Warmed39 U_.vm ∧ U_.heap = h0) (fun _ _ _ _ _ => True) (fun _ U_ o_ U1_ => ∃ v_ L_, o_ = .returned v_ ∧ Q2 Z d x1 kp g b h0 n0 v_ U1_.heap L_ ∧ FrameEnd U_ o_ U1_ L_ ({ frames := 1, cells := 0, slots := 0, locals := 12 } : Room).cells ({ frames := 1, cells := 0, slots := 0, locals := 12 } : Room).slots) := by
  refine MetFree.of_bodySF (plainFor_of_name own_pn1) hisR ?_
  intro p e s m args below meth c s₁ Bd hml0 hP hK
  obtain ⟨rfl, hZ, hh⟩ := hP
  have hx := Bd.exec
  have hby := Bd.bytes
  have hlk := Bd.notSynchronized
  have hml : c.maxLocals = 6 := hml0
  have hown : s.vm.findClass "com/example/mapwright/mapwright/Utf8CheckCheckPinLaw" = some m.cls := findClass_of_methodNamed Bd.named
  have hnm := (name_of_methodNamed Bd.named Bd.method).1
  have X0 : Stand p l e ({ frames := 1, cells := 0, slots := 0, locals := 12 } : Room) s m #[(.ref d), (.int x1)] below meth c s₁ [] 0 0 := Stand.of_body Bd
  have e0 : s₁.heap = h0 := by rw [← hh, Bd.state]; rfl
  have N0 := Fr.nil n0
  show own_E p e below s (Q2 Z d x1 kp g b h0 n0) ({ frames := 1, cells := 0, slots := 0, locals := 12 } : Room).cells ({ frames := 1, cells := 0, slots := 0, locals := 12 } : Room).slots (s₁.setTop (entryFrame m #[(.ref d), (.int x1)] 6))
  refine own_st (B := s₁.setTop (mkF m 0 #[.val (.ref d), .val (.int x1), .unset, .unset, .unset, .unset] [])) (fun t_ k_ => castTop (own_ef_rm2 m d x1) k_) ?_
  have hpi := own_ixI hp
  refine own_st (B := s₁.setTop (mkF m 1 #[.val (.ref d), .val (.int x1), .unset, .unset, .unset, .unset] [(.int x1)])) (fun t_ k_ => XS.iloadN X0.here hx rfl (hb hby own_b2_d0) rfl k_) ?_
  refine own_st (B := s₁.setTop (mkF m 3 #[.val (.ref d), .val (.int x1), .unset, .unset, .unset, .unset] [(.int (8 : Int32)), (.int x1)])) (fun t_ k_ => XS.bipush X0.here hx rfl (hb hby own_b2_d1) k_) ?_
  by_cases hc1 : x1 < (8 : Int32)
  · have hd1 := own_lt32 hc1
    rw [show (8 : Int32).toInt = 8 from rfl] at hd1
    refine own_st (B := s₁.setTop (mkF m 9 #[.val (.ref d), .val (.int x1), .unset, .unset, .unset, .unset] [])) (fun t_ k_ => XS.icmpYes X0.here hx rfl (pc0 := 3) (pc' := 9) rfl (hb hby own_b2_d3) rfl (tlt hc1).1 (by decide) (by decide) k_) ?_
    refine own_st (B := s₁.setTop (mkF m 10 #[.val (.ref d), .val (.int x1), .unset, .unset, .unset, .unset] [(.ref d)])) (fun t_ k_ => XS.aloadN X0.here hx rfl (hb hby own_b2_d9) rfl rfl k_) ?_
    refine own_st (B := s₁.setTop (mkF m 11 #[.val (.ref d), .val (.int x1), .unset, .unset, .unset, .unset] [(.int x1), (.ref d)])) (fun t_ k_ => XS.iloadN X0.here hx rfl (hb hby own_b2_d10) rfl k_) ?_
    refine own_st (B := s₁.setTop (mkF m 12 #[.val (.ref d), .val (.int x1), .unset, .unset, .unset, .unset] [(.int (g kp))])) (fun t_ k_ => own_ldI X0 hx hZ e0 A (i := kp) hp (by omega) (hb hby own_b2_d11) t_ k_) ?_
    refine own_st (B := s₁.setTop (mkF m 13 #[.val (.ref d), .val (.int x1), .val (.int (g kp)), .unset, .unset, .unset] [])) (fun t_ k_ => XS.istoreN X0.here hx rfl (hb hby own_b2_d12) rfl (l' := #[.val (.ref d), .val (.int x1), .val (.int (g kp)), .unset, .unset, .unset]) rfl k_) ?_
    have hg0 := hg kp (by omega)
    refine own_st (B := s₁.setTop (mkF m 14 #[.val (.ref d), .val (.int x1), .val (.int (g kp)), .unset, .unset, .unset] [(.int (g kp))])) (fun t_ k_ => XS.iloadN X0.here hx rfl (hb hby own_b2_d13) rfl k_) ?_
    refine own_st (B := s₁.setTop (mkF m 17 #[.val (.ref d), .val (.int x1), .val (.int (g kp)), .unset, .unset, .unset] [(.int (128 : Int32)), (.int (g kp))])) (fun t_ k_ => XS.sipush X0.here hx rfl (hb hby own_b2_d14) k_) ?_
    by_cases hc2 : (g kp) < (128 : Int32)
    · have hd2 := own_lt32 hc2
      rw [show (128 : Int32).toInt = 128 from rfl] at hd2
      refine own_st (B := s₁.setTop (mkF m 20 #[.val (.ref d), .val (.int x1), .val (.int (g kp)), .unset, .unset, .unset] [])) (fun t_ k_ => XS.icmpNo X0.here hx rfl (hb hby own_b2_d17) rfl (tlt hc2).2.1 k_) ?_
      refine own_st (B := s₁.setTop (mkF m 21 #[.val (.ref d), .val (.int x1), .val (.int (g kp)), .unset, .unset, .unset] [(.int x1)])) (fun t_ k_ => XS.iloadN X0.here hx rfl (hb hby own_b2_d20) rfl k_) ?_
      refine own_st (B := s₁.setTop (mkF m 22 #[.val (.ref d), .val (.int x1), .val (.int (g kp)), .unset, .unset, .unset] [(.int (1 : Int32)), (.int x1)])) (fun t_ k_ => XS.iconst X0.here hx rfl (hb hby own_b2_d21) k_) ?_
      refine own_st (B := s₁.setTop (mkF m 23 #[.val (.ref d), .val (.int x1), .val (.int (g kp)), .unset, .unset, .unset] [(.int (x1 + (1 : Int32)))])) (fun t_ k_ => XS.iadd X0.here hx rfl (hb hby own_b2_d22) rfl k_) ?_
      refine own_retI X0 hx Bd.returns hlk (hb hby own_b2_d23) (by decide) (by decide) ?_
      show Q2 Z d x1 kp g b h0 n0 _ s₁.heap _
      rw [e0]
      exact ⟨_, rfl, (own_pl hpi hp8 (1 : Int32) (by decide)).trans (own_refB (by omega) (by omega)).symm, N0, rfl⟩
    · have hd2 := own_nlt32 hc2
      rw [show (128 : Int32).toInt = 128 from rfl] at hd2
      refine own_st (B := s₁.setTop (mkF m 24 #[.val (.ref d), .val (.int x1), .val (.int (g kp)), .unset, .unset, .unset] [])) (fun t_ k_ => XS.icmpYes X0.here hx rfl (pc0 := 17) (pc' := 24) rfl (hb hby own_b2_d17) rfl (flt hc2).2.1 (by decide) (by decide) k_) ?_
      refine own_st (B := s₁.setTop (mkF m 27 #[.val (.ref d), .val (.int x1), .val (.int (g kp)), .unset, .unset, .unset] [(.int (128 : Int32))])) (fun t_ k_ => XS.sipush X0.here hx rfl (hb hby own_b2_d24) k_) ?_
      refine own_st (B := s₁.setTop (mkF m 29 #[.val (.ref d), .val (.int x1), .val (.int (g kp)), .unset, .val (.int (128 : Int32)), .unset] [])) (fun t_ k_ => XS.istore X0.here hx rfl (hb hby own_b2_d27) rfl (l' := #[.val (.ref d), .val (.int x1), .val (.int (g kp)), .unset, .val (.int (128 : Int32)), .unset]) rfl k_) ?_
      refine own_st (B := s₁.setTop (mkF m 32 #[.val (.ref d), .val (.int x1), .val (.int (g kp)), .unset, .val (.int (128 : Int32)), .unset] [(.int (191 : Int32))])) (fun t_ k_ => XS.sipush X0.here hx rfl (hb hby own_b2_d29) k_) ?_
      refine own_st (B := s₁.setTop (mkF m 34 #[.val (.ref d), .val (.int x1), .val (.int (g kp)), .unset, .val (.int (128 : Int32)), .val (.int (191 : Int32))] [])) (fun t_ k_ => XS.istore X0.here hx rfl (hb hby own_b2_d32) rfl (l' := #[.val (.ref d), .val (.int x1), .val (.int (g kp)), .unset, .val (.int (128 : Int32)), .val (.int (191 : Int32))]) rfl k_) ?_
      have hg0 := hg kp (by omega)
      have J3 : ∀  (nd : Nat) (lo : Nat) (hi : Nat), (own_beg (b kp) = some (nd, lo, hi)) → own_E p e below s (Q2 Z d x1 kp g b h0 n0) ({ frames := 1, cells := 0, slots := 0, locals := 12 } : Room).cells ({ frames := 1, cells := 0, slots := 0, locals := 12 } : Room).slots (s₁.setTop (mkF m 182 #[.val (.ref d), .val (.int x1), .val (.int (g kp)), .val (.int (Int32.ofNat (nd + 1))), .val (.int (Int32.ofNat lo)), .val (.int (Int32.ofNat hi))] [])) := by
        intro nd lo hi hbg
        have hbk := own_begK hbg
        have hrf := own_refD (b := b) (p := kp) (by omega) (by omega) hbg
        unfold own_ref2 at hrf
        have hloI := own_oI (n := lo) (by omega); have hhiI := own_oI (n := hi) (by omega); have hndI := own_oI (n := nd + 1) (by omega)
        refine own_st (B := s₁.setTop (mkF m 183 #[.val (.ref d), .val (.int x1), .val (.int (g kp)), .val (.int (Int32.ofNat (nd + 1))), .val (.int (Int32.ofNat lo)), .val (.int (Int32.ofNat hi))] [(.int x1)])) (fun t_ k_ => XS.iloadN X0.here hx rfl (hb hby own_b2_d182) rfl k_) ?_
        refine own_st (B := s₁.setTop (mkF m 184 #[.val (.ref d), .val (.int x1), .val (.int (g kp)), .val (.int (Int32.ofNat (nd + 1))), .val (.int (Int32.ofNat lo)), .val (.int (Int32.ofNat hi))] [(.int (1 : Int32)), (.int x1)])) (fun t_ k_ => XS.iconst X0.here hx rfl (hb hby own_b2_d183) k_) ?_
        refine own_st (B := s₁.setTop (mkF m 185 #[.val (.ref d), .val (.int x1), .val (.int (g kp)), .val (.int (Int32.ofNat (nd + 1))), .val (.int (Int32.ofNat lo)), .val (.int (Int32.ofNat hi))] [(.int (x1 + (1 : Int32)))])) (fun t_ k_ => XS.iadd X0.here hx rfl (hb hby own_b2_d184) rfl k_) ?_
        have hsm1 := own_pl hpi hp8 (1 : Int32) (by decide)
        rw [show (1 : Int32).toInt = 1 from rfl] at hsm1
        obtain ⟨sm1, h_sm1⟩ : ∃ z_, z_ = (x1 + (1 : Int32)) := ⟨_, rfl⟩
        rw [← h_sm1] at hsm1 ⊢
        clear h_sm1
        refine own_st (B := s₁.setTop (mkF m 187 #[.val (.ref d), .val (.int x1), .val (.int (g kp)), .val (.int (Int32.ofNat (nd + 1))), .val (.int (Int32.ofNat lo)), .val (.int (Int32.ofNat hi))] [(.int (8 : Int32)), (.int sm1)])) (fun t_ k_ => XS.bipush X0.here hx rfl (hb hby own_b2_d185) k_) ?_
        by_cases hc4 : sm1 < (8 : Int32)
        · have hd4 := own_lt32 hc4
          rw [show (8 : Int32).toInt = 8 from rfl] at hd4
          refine own_st (B := s₁.setTop (mkF m 193 #[.val (.ref d), .val (.int x1), .val (.int (g kp)), .val (.int (Int32.ofNat (nd + 1))), .val (.int (Int32.ofNat lo)), .val (.int (Int32.ofNat hi))] [])) (fun t_ k_ => XS.icmpYes X0.here hx rfl (pc0 := 187) (pc' := 193) rfl (hb hby own_b2_d187) rfl (tlt hc4).1 (by decide) (by decide) k_) ?_
          have hg1 := hg (kp + 1) (by omega)
          refine own_st (B := s₁.setTop (mkF m 194 #[.val (.ref d), .val (.int x1), .val (.int (g kp)), .val (.int (Int32.ofNat (nd + 1))), .val (.int (Int32.ofNat lo)), .val (.int (Int32.ofNat hi))] [(.ref d)])) (fun t_ k_ => XS.aloadN X0.here hx rfl (hb hby own_b2_d193) rfl rfl k_) ?_
          refine own_st (B := s₁.setTop (mkF m 195 #[.val (.ref d), .val (.int x1), .val (.int (g kp)), .val (.int (Int32.ofNat (nd + 1))), .val (.int (Int32.ofNat lo)), .val (.int (Int32.ofNat hi))] [(.int x1), (.ref d)])) (fun t_ k_ => XS.iloadN X0.here hx rfl (hb hby own_b2_d194) rfl k_) ?_
          refine own_st (B := s₁.setTop (mkF m 196 #[.val (.ref d), .val (.int x1), .val (.int (g kp)), .val (.int (Int32.ofNat (nd + 1))), .val (.int (Int32.ofNat lo)), .val (.int (Int32.ofNat hi))] [(.int (1 : Int32)), (.int x1), (.ref d)])) (fun t_ k_ => XS.iconst X0.here hx rfl (hb hby own_b2_d195) k_) ?_
          refine own_st (B := s₁.setTop (mkF m 197 #[.val (.ref d), .val (.int x1), .val (.int (g kp)), .val (.int (Int32.ofNat (nd + 1))), .val (.int (Int32.ofNat lo)), .val (.int (Int32.ofNat hi))] [(.int (x1 + (1 : Int32))), (.ref d)])) (fun t_ k_ => XS.iadd X0.here hx rfl (hb hby own_b2_d196) rfl k_) ?_
          refine own_st (B := s₁.setTop (mkF m 198 #[.val (.ref d), .val (.int x1), .val (.int (g kp)), .val (.int (Int32.ofNat (nd + 1))), .val (.int (Int32.ofNat lo)), .val (.int (Int32.ofNat hi))] [(.int (g (kp + 1)))])) (fun t_ k_ => own_ldI X0 hx hZ e0 A (i := (kp + 1)) (own_ixp hp hp8 1 (by decide)) (by omega) (hb hby own_b2_d197) t_ k_) ?_
          refine own_st (B := s₁.setTop (mkF m 200 #[.val (.ref d), .val (.int x1), .val (.int (g kp)), .val (.int (Int32.ofNat (nd + 1))), .val (.int (Int32.ofNat lo)), .val (.int (Int32.ofNat hi))] [(.int (Int32.ofNat lo)), (.int (g (kp + 1)))])) (fun t_ k_ => XS.iload X0.here hx rfl (hb hby own_b2_d198) rfl k_) ?_
          by_cases hc5 : (g (kp + 1)) < (Int32.ofNat lo)
          · have hd5 := own_lt32 hc5
            refine own_st (B := s₁.setTop (mkF m 213 #[.val (.ref d), .val (.int x1), .val (.int (g kp)), .val (.int (Int32.ofNat (nd + 1))), .val (.int (Int32.ofNat lo)), .val (.int (Int32.ofNat hi))] [])) (fun t_ k_ => XS.icmpYes X0.here hx rfl (pc0 := 200) (pc' := 213) rfl (hb hby own_b2_d200) rfl (tlt hc5).1 (by decide) (by decide) k_) ?_
            refine own_st (B := s₁.setTop (mkF m 215 #[.val (.ref d), .val (.int x1), .val (.int (g kp)), .val (.int (Int32.ofNat (nd + 1))), .val (.int (Int32.ofNat lo)), .val (.int (Int32.ofNat hi))] [(.int (-2 : Int32))])) (fun t_ k_ => XS.bipush X0.here hx rfl (hb hby own_b2_d213) k_) ?_
            refine own_st (B := s₁.setTop (mkF m 216 #[.val (.ref d), .val (.int x1), .val (.int (g kp)), .val (.int (Int32.ofNat (nd + 1))), .val (.int (Int32.ofNat lo)), .val (.int (Int32.ofNat hi))] [(.int x1), (.int (-2 : Int32))])) (fun t_ k_ => XS.iloadN X0.here hx rfl (hb hby own_b2_d215) rfl k_) ?_
            refine own_st (B := s₁.setTop (mkF m 217 #[.val (.ref d), .val (.int x1), .val (.int (g kp)), .val (.int (Int32.ofNat (nd + 1))), .val (.int (Int32.ofNat lo)), .val (.int (Int32.ofNat hi))] [(.int ((-2 : Int32) - x1))])) (fun t_ k_ => XS.isub X0.here hx rfl (hb hby own_b2_d216) rfl k_) ?_
            refine own_retI X0 hx Bd.returns hlk (hb hby own_b2_d217) (by decide) (by decide) ?_
            show Q2 Z d x1 kp g b h0 n0 _ s₁.heap _
            rw [e0]
            rw [if_neg (by omega), if_pos (by omega)] at hrf
            exact ⟨_, rfl, (own_mi hpi hp8 (-2 : Int32) (by decide)).trans hrf.symm, N0, rfl⟩
          · have hd5 := own_nlt32 hc5
            refine own_st (B := s₁.setTop (mkF m 203 #[.val (.ref d), .val (.int x1), .val (.int (g kp)), .val (.int (Int32.ofNat (nd + 1))), .val (.int (Int32.ofNat lo)), .val (.int (Int32.ofNat hi))] [])) (fun t_ k_ => XS.icmpNo X0.here hx rfl (hb hby own_b2_d200) rfl (flt hc5).1 k_) ?_
            refine own_st (B := s₁.setTop (mkF m 204 #[.val (.ref d), .val (.int x1), .val (.int (g kp)), .val (.int (Int32.ofNat (nd + 1))), .val (.int (Int32.ofNat lo)), .val (.int (Int32.ofNat hi))] [(.ref d)])) (fun t_ k_ => XS.aloadN X0.here hx rfl (hb hby own_b2_d203) rfl rfl k_) ?_
            refine own_st (B := s₁.setTop (mkF m 205 #[.val (.ref d), .val (.int x1), .val (.int (g kp)), .val (.int (Int32.ofNat (nd + 1))), .val (.int (Int32.ofNat lo)), .val (.int (Int32.ofNat hi))] [(.int x1), (.ref d)])) (fun t_ k_ => XS.iloadN X0.here hx rfl (hb hby own_b2_d204) rfl k_) ?_
            refine own_st (B := s₁.setTop (mkF m 206 #[.val (.ref d), .val (.int x1), .val (.int (g kp)), .val (.int (Int32.ofNat (nd + 1))), .val (.int (Int32.ofNat lo)), .val (.int (Int32.ofNat hi))] [(.int (1 : Int32)), (.int x1), (.ref d)])) (fun t_ k_ => XS.iconst X0.here hx rfl (hb hby own_b2_d205) k_) ?_
            refine own_st (B := s₁.setTop (mkF m 207 #[.val (.ref d), .val (.int x1), .val (.int (g kp)), .val (.int (Int32.ofNat (nd + 1))), .val (.int (Int32.ofNat lo)), .val (.int (Int32.ofNat hi))] [(.int (x1 + (1 : Int32))), (.ref d)])) (fun t_ k_ => XS.iadd X0.here hx rfl (hb hby own_b2_d206) rfl k_) ?_
            refine own_st (B := s₁.setTop (mkF m 208 #[.val (.ref d), .val (.int x1), .val (.int (g kp)), .val (.int (Int32.ofNat (nd + 1))), .val (.int (Int32.ofNat lo)), .val (.int (Int32.ofNat hi))] [(.int (g (kp + 1)))])) (fun t_ k_ => own_ldI X0 hx hZ e0 A (i := (kp + 1)) (own_ixp hp hp8 1 (by decide)) (by omega) (hb hby own_b2_d207) t_ k_) ?_
            refine own_st (B := s₁.setTop (mkF m 210 #[.val (.ref d), .val (.int x1), .val (.int (g kp)), .val (.int (Int32.ofNat (nd + 1))), .val (.int (Int32.ofNat lo)), .val (.int (Int32.ofNat hi))] [(.int (Int32.ofNat hi)), (.int (g (kp + 1)))])) (fun t_ k_ => XS.iload X0.here hx rfl (hb hby own_b2_d208) rfl k_) ?_
            by_cases hc6 : (Int32.ofNat hi) < (g (kp + 1))
            · have hd6 := own_lt32 hc6
              refine own_st (B := s₁.setTop (mkF m 213 #[.val (.ref d), .val (.int x1), .val (.int (g kp)), .val (.int (Int32.ofNat (nd + 1))), .val (.int (Int32.ofNat lo)), .val (.int (Int32.ofNat hi))] [])) (fun t_ k_ => XS.icmpNo X0.here hx rfl (hb hby own_b2_d210) rfl (tlt hc6).2.2.2 k_) ?_
              refine own_st (B := s₁.setTop (mkF m 215 #[.val (.ref d), .val (.int x1), .val (.int (g kp)), .val (.int (Int32.ofNat (nd + 1))), .val (.int (Int32.ofNat lo)), .val (.int (Int32.ofNat hi))] [(.int (-2 : Int32))])) (fun t_ k_ => XS.bipush X0.here hx rfl (hb hby own_b2_d213) k_) ?_
              refine own_st (B := s₁.setTop (mkF m 216 #[.val (.ref d), .val (.int x1), .val (.int (g kp)), .val (.int (Int32.ofNat (nd + 1))), .val (.int (Int32.ofNat lo)), .val (.int (Int32.ofNat hi))] [(.int x1), (.int (-2 : Int32))])) (fun t_ k_ => XS.iloadN X0.here hx rfl (hb hby own_b2_d215) rfl k_) ?_
              refine own_st (B := s₁.setTop (mkF m 217 #[.val (.ref d), .val (.int x1), .val (.int (g kp)), .val (.int (Int32.ofNat (nd + 1))), .val (.int (Int32.ofNat lo)), .val (.int (Int32.ofNat hi))] [(.int ((-2 : Int32) - x1))])) (fun t_ k_ => XS.isub X0.here hx rfl (hb hby own_b2_d216) rfl k_) ?_
              refine own_retI X0 hx Bd.returns hlk (hb hby own_b2_d217) (by decide) (by decide) ?_
              show Q2 Z d x1 kp g b h0 n0 _ s₁.heap _
              rw [e0]
              rw [if_neg (by omega), if_pos (by omega)] at hrf
              exact ⟨_, rfl, (own_mi hpi hp8 (-2 : Int32) (by decide)).trans hrf.symm, N0, rfl⟩
            · have hd6 := own_nlt32 hc6
              refine own_st (B := s₁.setTop (mkF m 218 #[.val (.ref d), .val (.int x1), .val (.int (g kp)), .val (.int (Int32.ofNat (nd + 1))), .val (.int (Int32.ofNat lo)), .val (.int (Int32.ofNat hi))] [])) (fun t_ k_ => XS.icmpYes X0.here hx rfl (pc0 := 210) (pc' := 218) rfl (hb hby own_b2_d210) rfl (flt hc6).2.2.2 (by decide) (by decide) k_) ?_
              refine own_st (B := s₁.setTop (mkF m 219 #[.val (.ref d), .val (.int x1), .val (.int (g kp)), .val (.int (Int32.ofNat (nd + 1))), .val (.int (Int32.ofNat lo)), .val (.int (Int32.ofNat hi))] [(.int (Int32.ofNat (nd + 1)))])) (fun t_ k_ => XS.iloadN X0.here hx rfl (hb hby own_b2_d218) rfl k_) ?_
              refine own_st (B := s₁.setTop (mkF m 220 #[.val (.ref d), .val (.int x1), .val (.int (g kp)), .val (.int (Int32.ofNat (nd + 1))), .val (.int (Int32.ofNat lo)), .val (.int (Int32.ofNat hi))] [(.int (2 : Int32)), (.int (Int32.ofNat (nd + 1)))])) (fun t_ k_ => XS.iconst X0.here hx rfl (hb hby own_b2_d219) k_) ?_
              by_cases hc7 : (Int32.ofNat (nd + 1)) = (2 : Int32)
              · have hd7 := own_eq32 hc7
                rw [show (2 : Int32).toInt = 2 from rfl] at hd7
                refine own_st (B := s₁.setTop (mkF m 223 #[.val (.ref d), .val (.int x1), .val (.int (g kp)), .val (.int (Int32.ofNat (nd + 1))), .val (.int (Int32.ofNat lo)), .val (.int (Int32.ofNat hi))] [])) (fun t_ k_ => XS.icmpNo X0.here hx rfl (hb hby own_b2_d220) rfl (teq hc7).2 k_) ?_
                refine own_st (B := s₁.setTop (mkF m 224 #[.val (.ref d), .val (.int x1), .val (.int (g kp)), .val (.int (Int32.ofNat (nd + 1))), .val (.int (Int32.ofNat lo)), .val (.int (Int32.ofNat hi))] [(.int x1)])) (fun t_ k_ => XS.iloadN X0.here hx rfl (hb hby own_b2_d223) rfl k_) ?_
                refine own_st (B := s₁.setTop (mkF m 225 #[.val (.ref d), .val (.int x1), .val (.int (g kp)), .val (.int (Int32.ofNat (nd + 1))), .val (.int (Int32.ofNat lo)), .val (.int (Int32.ofNat hi))] [(.int (2 : Int32)), (.int x1)])) (fun t_ k_ => XS.iconst X0.here hx rfl (hb hby own_b2_d224) k_) ?_
                refine own_st (B := s₁.setTop (mkF m 226 #[.val (.ref d), .val (.int x1), .val (.int (g kp)), .val (.int (Int32.ofNat (nd + 1))), .val (.int (Int32.ofNat lo)), .val (.int (Int32.ofNat hi))] [(.int (x1 + (2 : Int32)))])) (fun t_ k_ => XS.iadd X0.here hx rfl (hb hby own_b2_d225) rfl k_) ?_
                refine own_retI X0 hx Bd.returns hlk (hb hby own_b2_d226) (by decide) (by decide) ?_
                show Q2 Z d x1 kp g b h0 n0 _ s₁.heap _
                rw [e0]
                rw [if_neg (by omega), if_neg (by omega), if_pos (by omega)] at hrf
                exact ⟨_, rfl, (own_pl hpi hp8 (2 : Int32) (by decide)).trans hrf.symm, N0, rfl⟩
              · have hd7 := own_neq32 hc7
                rw [show (2 : Int32).toInt = 2 from rfl] at hd7
                refine own_st (B := s₁.setTop (mkF m 227 #[.val (.ref d), .val (.int x1), .val (.int (g kp)), .val (.int (Int32.ofNat (nd + 1))), .val (.int (Int32.ofNat lo)), .val (.int (Int32.ofNat hi))] [])) (fun t_ k_ => XS.icmpYes X0.here hx rfl (pc0 := 220) (pc' := 227) rfl (hb hby own_b2_d220) rfl (feq hc7).2 (by decide) (by decide) k_) ?_
                refine own_st (B := s₁.setTop (mkF m 228 #[.val (.ref d), .val (.int x1), .val (.int (g kp)), .val (.int (Int32.ofNat (nd + 1))), .val (.int (Int32.ofNat lo)), .val (.int (Int32.ofNat hi))] [(.int x1)])) (fun t_ k_ => XS.iloadN X0.here hx rfl (hb hby own_b2_d227) rfl k_) ?_
                refine own_st (B := s₁.setTop (mkF m 229 #[.val (.ref d), .val (.int x1), .val (.int (g kp)), .val (.int (Int32.ofNat (nd + 1))), .val (.int (Int32.ofNat lo)), .val (.int (Int32.ofNat hi))] [(.int (2 : Int32)), (.int x1)])) (fun t_ k_ => XS.iconst X0.here hx rfl (hb hby own_b2_d228) k_) ?_
                refine own_st (B := s₁.setTop (mkF m 230 #[.val (.ref d), .val (.int x1), .val (.int (g kp)), .val (.int (Int32.ofNat (nd + 1))), .val (.int (Int32.ofNat lo)), .val (.int (Int32.ofNat hi))] [(.int (x1 + (2 : Int32)))])) (fun t_ k_ => XS.iadd X0.here hx rfl (hb hby own_b2_d229) rfl k_) ?_
                have hsm2 := own_pl hpi hp8 (2 : Int32) (by decide)
                rw [show (2 : Int32).toInt = 2 from rfl] at hsm2
                obtain ⟨sm2, h_sm2⟩ : ∃ z_, z_ = (x1 + (2 : Int32)) := ⟨_, rfl⟩
                rw [← h_sm2] at hsm2 ⊢
                clear h_sm2
                refine own_st (B := s₁.setTop (mkF m 232 #[.val (.ref d), .val (.int x1), .val (.int (g kp)), .val (.int (Int32.ofNat (nd + 1))), .val (.int (Int32.ofNat lo)), .val (.int (Int32.ofNat hi))] [(.int (8 : Int32)), (.int sm2)])) (fun t_ k_ => XS.bipush X0.here hx rfl (hb hby own_b2_d230) k_) ?_
                by_cases hc8 : sm2 < (8 : Int32)
                · have hd8 := own_lt32 hc8
                  rw [show (8 : Int32).toInt = 8 from rfl] at hd8
                  refine own_st (B := s₁.setTop (mkF m 238 #[.val (.ref d), .val (.int x1), .val (.int (g kp)), .val (.int (Int32.ofNat (nd + 1))), .val (.int (Int32.ofNat lo)), .val (.int (Int32.ofNat hi))] [])) (fun t_ k_ => XS.icmpYes X0.here hx rfl (pc0 := 232) (pc' := 238) rfl (hb hby own_b2_d232) rfl (tlt hc8).1 (by decide) (by decide) k_) ?_
                  have hg2 := hg (kp + 2) (by omega)
                  refine own_st (B := s₁.setTop (mkF m 239 #[.val (.ref d), .val (.int x1), .val (.int (g kp)), .val (.int (Int32.ofNat (nd + 1))), .val (.int (Int32.ofNat lo)), .val (.int (Int32.ofNat hi))] [(.ref d)])) (fun t_ k_ => XS.aloadN X0.here hx rfl (hb hby own_b2_d238) rfl rfl k_) ?_
                  refine own_st (B := s₁.setTop (mkF m 240 #[.val (.ref d), .val (.int x1), .val (.int (g kp)), .val (.int (Int32.ofNat (nd + 1))), .val (.int (Int32.ofNat lo)), .val (.int (Int32.ofNat hi))] [(.int x1), (.ref d)])) (fun t_ k_ => XS.iloadN X0.here hx rfl (hb hby own_b2_d239) rfl k_) ?_
                  refine own_st (B := s₁.setTop (mkF m 241 #[.val (.ref d), .val (.int x1), .val (.int (g kp)), .val (.int (Int32.ofNat (nd + 1))), .val (.int (Int32.ofNat lo)), .val (.int (Int32.ofNat hi))] [(.int (2 : Int32)), (.int x1), (.ref d)])) (fun t_ k_ => XS.iconst X0.here hx rfl (hb hby own_b2_d240) k_) ?_
                  refine own_st (B := s₁.setTop (mkF m 242 #[.val (.ref d), .val (.int x1), .val (.int (g kp)), .val (.int (Int32.ofNat (nd + 1))), .val (.int (Int32.ofNat lo)), .val (.int (Int32.ofNat hi))] [(.int (x1 + (2 : Int32))), (.ref d)])) (fun t_ k_ => XS.iadd X0.here hx rfl (hb hby own_b2_d241) rfl k_) ?_
                  refine own_st (B := s₁.setTop (mkF m 243 #[.val (.ref d), .val (.int x1), .val (.int (g kp)), .val (.int (Int32.ofNat (nd + 1))), .val (.int (Int32.ofNat lo)), .val (.int (Int32.ofNat hi))] [(.int (g (kp + 2)))])) (fun t_ k_ => own_ldI X0 hx hZ e0 A (i := (kp + 2)) (own_ixp hp hp8 2 (by decide)) (by omega) (hb hby own_b2_d242) t_ k_) ?_
                  obtain ⟨_, _, ⟨T9, Lq9, kq9, nq9⟩, -, X9, ⟨Lc9, hQ9, lq9, yq9, zq9⟩, st9⟩ := Jvm.LawKit.callS X0 hx (y := (⟨"com/example/mapwright/mapwright/Utf8CheckCheckPinLaw", "cont", "(I)Z"⟩ : MethodName)) hown (mvT hZ (hw _ (List.mem_of_getElem? (i := 44) rfl))) (mvT hZ (hw _ (List.mem_of_getElem? (i := 45) rfl))) (mvT hZ (hw _ (List.mem_of_getElem? (i := 6) rfl))) (mvT hZ (hw _ (List.mem_of_getElem? (i := 46) rfl))) (by decide) (backOf (W := 0) (rm9 l Z a0 hw [] (g (kp + 2)) h0 n0 Z0 ) hZ (hw _ (List.mem_of_getElem? (i := 46) rfl)) (hw _ (List.mem_of_getElem? (i := 6) rfl)) (by decide) (by decide)) (g := (mkF m 243 #[.val (.ref d), .val (.int x1), .val (.int (g kp)), .val (.int (Int32.ofNat (nd + 1))), .val (.int (Int32.ofNat lo)), .val (.int (Int32.ofNat hi))] [(.int (g (kp + 2)))])) rfl (by rw [hml]; rfl) (argsL := [(.int (g (kp + 2)))]) (rest := []) (lenOf own_pd0 rfl) rfl (by show 2 * 0 + _ ≤ _; exact Nat.le_of_eq rfl) (hb hby own_b2_d243) (fun _ _ => ⟨rfl, e0, (by decide : 0 + 0 ≤ _), (by decide : 0 + 0 ≤ _)⟩)
                  dsimp only [Pt.U, Pt.locs, Pt.cells, Pt.slots] at X9 lq9 yq9 zq9 st9 hQ9
                  rw [lq9, yq9, zq9] at X9
                  have X9 : Stand p l e _ s m _ below meth c T9 _ 0 0 := X9
                  obtain ⟨rfl, N9q, eh9⟩ := hQ9
                  have N9 := Fr.app N0 N9q
                  refine own_st (B := T9.setTop (mkF m 246 #[.val (.ref d), .val (.int x1), .val (.int (g kp)), .val (.int (Int32.ofNat (nd + 1))), .val (.int (Int32.ofNat lo)), .val (.int (Int32.ofNat hi))] [(.int (own_b (decide (128 ≤ (g (kp + 2)).toInt ∧ (g (kp + 2)).toInt ≤ 191))))])) st9 ?_
                  by_cases hc10 : (decide (128 ≤ (g (kp + 2)).toInt ∧ (g (kp + 2)).toInt ≤ 191)) = false
                  · refine own_st (B := T9.setTop (mkF m 249 #[.val (.ref d), .val (.int x1), .val (.int (g kp)), .val (.int (Int32.ofNat (nd + 1))), .val (.int (Int32.ofNat lo)), .val (.int (Int32.ofNat hi))] [])) (fun t_ k_ => XS.ifNo X9.here hx rfl (hb hby own_b2_d246) rfl ((if0 _ _).trans (teq (own_b0.mpr hc10)).2) k_) ?_
                    have hcF2 := own_dF hc10
                    refine own_st (B := T9.setTop (mkF m 251 #[.val (.ref d), .val (.int x1), .val (.int (g kp)), .val (.int (Int32.ofNat (nd + 1))), .val (.int (Int32.ofNat lo)), .val (.int (Int32.ofNat hi))] [(.int (-3 : Int32))])) (fun t_ k_ => XS.bipush X9.here hx rfl (hb hby own_b2_d249) k_) ?_
                    refine own_st (B := T9.setTop (mkF m 252 #[.val (.ref d), .val (.int x1), .val (.int (g kp)), .val (.int (Int32.ofNat (nd + 1))), .val (.int (Int32.ofNat lo)), .val (.int (Int32.ofNat hi))] [(.int x1), (.int (-3 : Int32))])) (fun t_ k_ => XS.iloadN X9.here hx rfl (hb hby own_b2_d251) rfl k_) ?_
                    refine own_st (B := T9.setTop (mkF m 253 #[.val (.ref d), .val (.int x1), .val (.int (g kp)), .val (.int (Int32.ofNat (nd + 1))), .val (.int (Int32.ofNat lo)), .val (.int (Int32.ofNat hi))] [(.int ((-3 : Int32) - x1))])) (fun t_ k_ => XS.isub X9.here hx rfl (hb hby own_b2_d252) rfl k_) ?_
                    refine own_retI X9 hx Bd.returns hlk (hb hby own_b2_d253) (by decide) (by decide) ?_
                    show Q2 Z d x1 kp g b h0 n0 _ T9.heap _
                    rw [eh9]
                    rw [if_neg (by omega), if_neg (by omega), if_neg (by omega), if_neg (by omega), if_pos (by omega)] at hrf
                    exact ⟨_, rfl, (own_mi hpi hp8 (-3 : Int32) (by decide)).trans hrf.symm, N9, rfl⟩
                  · refine own_st (B := T9.setTop (mkF m 254 #[.val (.ref d), .val (.int x1), .val (.int (g kp)), .val (.int (Int32.ofNat (nd + 1))), .val (.int (Int32.ofNat lo)), .val (.int (Int32.ofNat hi))] [])) (fun t_ k_ => XS.ifYes X9.here hx rfl (pc0 := 246) (pc' := 254) rfl (hb hby own_b2_d246) rfl ((if0 _ _).trans (feq (fun q => hc10 (own_b0.mp q))).2) (by decide) (by decide) k_) ?_
                    have hcT2 := own_dT hc10
                    refine own_st (B := T9.setTop (mkF m 255 #[.val (.ref d), .val (.int x1), .val (.int (g kp)), .val (.int (Int32.ofNat (nd + 1))), .val (.int (Int32.ofNat lo)), .val (.int (Int32.ofNat hi))] [(.int (Int32.ofNat (nd + 1)))])) (fun t_ k_ => XS.iloadN X9.here hx rfl (hb hby own_b2_d254) rfl k_) ?_
                    refine own_st (B := T9.setTop (mkF m 256 #[.val (.ref d), .val (.int x1), .val (.int (g kp)), .val (.int (Int32.ofNat (nd + 1))), .val (.int (Int32.ofNat lo)), .val (.int (Int32.ofNat hi))] [(.int (3 : Int32)), (.int (Int32.ofNat (nd + 1)))])) (fun t_ k_ => XS.iconst X9.here hx rfl (hb hby own_b2_d255) k_) ?_
                    by_cases hc11 : (Int32.ofNat (nd + 1)) = (3 : Int32)
                    · have hd11 := own_eq32 hc11
                      rw [show (3 : Int32).toInt = 3 from rfl] at hd11
                      refine own_st (B := T9.setTop (mkF m 259 #[.val (.ref d), .val (.int x1), .val (.int (g kp)), .val (.int (Int32.ofNat (nd + 1))), .val (.int (Int32.ofNat lo)), .val (.int (Int32.ofNat hi))] [])) (fun t_ k_ => XS.icmpNo X9.here hx rfl (hb hby own_b2_d256) rfl (teq hc11).2 k_) ?_
                      refine own_st (B := T9.setTop (mkF m 260 #[.val (.ref d), .val (.int x1), .val (.int (g kp)), .val (.int (Int32.ofNat (nd + 1))), .val (.int (Int32.ofNat lo)), .val (.int (Int32.ofNat hi))] [(.int x1)])) (fun t_ k_ => XS.iloadN X9.here hx rfl (hb hby own_b2_d259) rfl k_) ?_
                      refine own_st (B := T9.setTop (mkF m 261 #[.val (.ref d), .val (.int x1), .val (.int (g kp)), .val (.int (Int32.ofNat (nd + 1))), .val (.int (Int32.ofNat lo)), .val (.int (Int32.ofNat hi))] [(.int (3 : Int32)), (.int x1)])) (fun t_ k_ => XS.iconst X9.here hx rfl (hb hby own_b2_d260) k_) ?_
                      refine own_st (B := T9.setTop (mkF m 262 #[.val (.ref d), .val (.int x1), .val (.int (g kp)), .val (.int (Int32.ofNat (nd + 1))), .val (.int (Int32.ofNat lo)), .val (.int (Int32.ofNat hi))] [(.int (x1 + (3 : Int32)))])) (fun t_ k_ => XS.iadd X9.here hx rfl (hb hby own_b2_d261) rfl k_) ?_
                      refine own_retI X9 hx Bd.returns hlk (hb hby own_b2_d262) (by decide) (by decide) ?_
                      show Q2 Z d x1 kp g b h0 n0 _ T9.heap _
                      rw [eh9]
                      rw [if_neg (by omega), if_neg (by omega), if_neg (by omega), if_neg (by omega), if_neg (by omega), if_pos (by omega)] at hrf
                      exact ⟨_, rfl, (own_pl hpi hp8 (3 : Int32) (by decide)).trans hrf.symm, N9, rfl⟩
                    · have hd11 := own_neq32 hc11
                      rw [show (3 : Int32).toInt = 3 from rfl] at hd11
                      refine own_st (B := T9.setTop (mkF m 263 #[.val (.ref d), .val (.int x1), .val (.int (g kp)), .val (.int (Int32.ofNat (nd + 1))), .val (.int (Int32.ofNat lo)), .val (.int (Int32.ofNat hi))] [])) (fun t_ k_ => XS.icmpYes X9.here hx rfl (pc0 := 256) (pc' := 263) rfl (hb hby own_b2_d256) rfl (feq hc11).2 (by decide) (by decide) k_) ?_
                      refine own_st (B := T9.setTop (mkF m 264 #[.val (.ref d), .val (.int x1), .val (.int (g kp)), .val (.int (Int32.ofNat (nd + 1))), .val (.int (Int32.ofNat lo)), .val (.int (Int32.ofNat hi))] [(.int x1)])) (fun t_ k_ => XS.iloadN X9.here hx rfl (hb hby own_b2_d263) rfl k_) ?_
                      refine own_st (B := T9.setTop (mkF m 265 #[.val (.ref d), .val (.int x1), .val (.int (g kp)), .val (.int (Int32.ofNat (nd + 1))), .val (.int (Int32.ofNat lo)), .val (.int (Int32.ofNat hi))] [(.int (3 : Int32)), (.int x1)])) (fun t_ k_ => XS.iconst X9.here hx rfl (hb hby own_b2_d264) k_) ?_
                      refine own_st (B := T9.setTop (mkF m 266 #[.val (.ref d), .val (.int x1), .val (.int (g kp)), .val (.int (Int32.ofNat (nd + 1))), .val (.int (Int32.ofNat lo)), .val (.int (Int32.ofNat hi))] [(.int (x1 + (3 : Int32)))])) (fun t_ k_ => XS.iadd X9.here hx rfl (hb hby own_b2_d265) rfl k_) ?_
                      have hsm3 := own_pl hpi hp8 (3 : Int32) (by decide)
                      rw [show (3 : Int32).toInt = 3 from rfl] at hsm3
                      obtain ⟨sm3, h_sm3⟩ : ∃ z_, z_ = (x1 + (3 : Int32)) := ⟨_, rfl⟩
                      rw [← h_sm3] at hsm3 ⊢
                      clear h_sm3
                      refine own_st (B := T9.setTop (mkF m 268 #[.val (.ref d), .val (.int x1), .val (.int (g kp)), .val (.int (Int32.ofNat (nd + 1))), .val (.int (Int32.ofNat lo)), .val (.int (Int32.ofNat hi))] [(.int (8 : Int32)), (.int sm3)])) (fun t_ k_ => XS.bipush X9.here hx rfl (hb hby own_b2_d266) k_) ?_
                      by_cases hc12 : sm3 < (8 : Int32)
                      · have hd12 := own_lt32 hc12
                        rw [show (8 : Int32).toInt = 8 from rfl] at hd12
                        refine own_st (B := T9.setTop (mkF m 274 #[.val (.ref d), .val (.int x1), .val (.int (g kp)), .val (.int (Int32.ofNat (nd + 1))), .val (.int (Int32.ofNat lo)), .val (.int (Int32.ofNat hi))] [])) (fun t_ k_ => XS.icmpYes X9.here hx rfl (pc0 := 268) (pc' := 274) rfl (hb hby own_b2_d268) rfl (tlt hc12).1 (by decide) (by decide) k_) ?_
                        have hg3 := hg (kp + 3) (by omega)
                        refine own_st (B := T9.setTop (mkF m 275 #[.val (.ref d), .val (.int x1), .val (.int (g kp)), .val (.int (Int32.ofNat (nd + 1))), .val (.int (Int32.ofNat lo)), .val (.int (Int32.ofNat hi))] [(.ref d)])) (fun t_ k_ => XS.aloadN X9.here hx rfl (hb hby own_b2_d274) rfl rfl k_) ?_
                        refine own_st (B := T9.setTop (mkF m 276 #[.val (.ref d), .val (.int x1), .val (.int (g kp)), .val (.int (Int32.ofNat (nd + 1))), .val (.int (Int32.ofNat lo)), .val (.int (Int32.ofNat hi))] [(.int x1), (.ref d)])) (fun t_ k_ => XS.iloadN X9.here hx rfl (hb hby own_b2_d275) rfl k_) ?_
                        refine own_st (B := T9.setTop (mkF m 277 #[.val (.ref d), .val (.int x1), .val (.int (g kp)), .val (.int (Int32.ofNat (nd + 1))), .val (.int (Int32.ofNat lo)), .val (.int (Int32.ofNat hi))] [(.int (3 : Int32)), (.int x1), (.ref d)])) (fun t_ k_ => XS.iconst X9.here hx rfl (hb hby own_b2_d276) k_) ?_
                        refine own_st (B := T9.setTop (mkF m 278 #[.val (.ref d), .val (.int x1), .val (.int (g kp)), .val (.int (Int32.ofNat (nd + 1))), .val (.int (Int32.ofNat lo)), .val (.int (Int32.ofNat hi))] [(.int (x1 + (3 : Int32))), (.ref d)])) (fun t_ k_ => XS.iadd X9.here hx rfl (hb hby own_b2_d277) rfl k_) ?_
                        refine own_st (B := T9.setTop (mkF m 279 #[.val (.ref d), .val (.int x1), .val (.int (g kp)), .val (.int (Int32.ofNat (nd + 1))), .val (.int (Int32.ofNat lo)), .val (.int (Int32.ofNat hi))] [(.int (g (kp + 3)))])) (fun t_ k_ => own_ldI X9 hx hZ eh9 A (i := (kp + 3)) (own_ixp hp hp8 3 (by decide)) (by omega) (hb hby own_b2_d278) t_ k_) ?_
                        obtain ⟨_, _, ⟨T13, Lq13, kq13, nq13⟩, -, X13, ⟨Lc13, hQ13, lq13, yq13, zq13⟩, st13⟩ := Jvm.LawKit.callS X9 hx (y := (⟨"com/example/mapwright/mapwright/Utf8CheckCheckPinLaw", "cont", "(I)Z"⟩ : MethodName)) hown (mvT hZ (hw _ (List.mem_of_getElem? (i := 44) rfl))) (mvT hZ (hw _ (List.mem_of_getElem? (i := 45) rfl))) (mvT hZ (hw _ (List.mem_of_getElem? (i := 6) rfl))) (mvT hZ (hw _ (List.mem_of_getElem? (i := 46) rfl))) (by decide) (backOf (W := 0) (rm9 l Z a0 hw [] (g (kp + 3)) h0 n0 Z0 ) hZ (hw _ (List.mem_of_getElem? (i := 46) rfl)) (hw _ (List.mem_of_getElem? (i := 6) rfl)) (by decide) (by decide)) (g := (mkF m 279 #[.val (.ref d), .val (.int x1), .val (.int (g kp)), .val (.int (Int32.ofNat (nd + 1))), .val (.int (Int32.ofNat lo)), .val (.int (Int32.ofNat hi))] [(.int (g (kp + 3)))])) rfl (by rw [hml]; rfl) (argsL := [(.int (g (kp + 3)))]) (rest := []) (lenOf own_pd0 rfl) rfl (by show 2 * 0 + _ ≤ _; exact Nat.le_of_eq rfl) (hb hby own_b2_d279) (fun _ _ => ⟨rfl, eh9, (by decide : 0 + 0 ≤ _), (by decide : 0 + 0 ≤ _)⟩)
                        dsimp only [Pt.U, Pt.locs, Pt.cells, Pt.slots] at X13 lq13 yq13 zq13 st13 hQ13
                        rw [lq13, yq13, zq13] at X13
                        have X13 : Stand p l e _ s m _ below meth c T13 _ 0 0 := X13
                        obtain ⟨rfl, N13q, eh13⟩ := hQ13
                        have N13 := Fr.app N9 N13q
                        refine own_st (B := T13.setTop (mkF m 282 #[.val (.ref d), .val (.int x1), .val (.int (g kp)), .val (.int (Int32.ofNat (nd + 1))), .val (.int (Int32.ofNat lo)), .val (.int (Int32.ofNat hi))] [(.int (own_b (decide (128 ≤ (g (kp + 3)).toInt ∧ (g (kp + 3)).toInt ≤ 191))))])) st13 ?_
                        by_cases hc14 : (decide (128 ≤ (g (kp + 3)).toInt ∧ (g (kp + 3)).toInt ≤ 191)) = false
                        · refine own_st (B := T13.setTop (mkF m 285 #[.val (.ref d), .val (.int x1), .val (.int (g kp)), .val (.int (Int32.ofNat (nd + 1))), .val (.int (Int32.ofNat lo)), .val (.int (Int32.ofNat hi))] [])) (fun t_ k_ => XS.ifNo X13.here hx rfl (hb hby own_b2_d282) rfl ((if0 _ _).trans (teq (own_b0.mpr hc14)).2) k_) ?_
                          have hcF3 := own_dF hc14
                          refine own_st (B := T13.setTop (mkF m 287 #[.val (.ref d), .val (.int x1), .val (.int (g kp)), .val (.int (Int32.ofNat (nd + 1))), .val (.int (Int32.ofNat lo)), .val (.int (Int32.ofNat hi))] [(.int (-4 : Int32))])) (fun t_ k_ => XS.bipush X13.here hx rfl (hb hby own_b2_d285) k_) ?_
                          refine own_st (B := T13.setTop (mkF m 288 #[.val (.ref d), .val (.int x1), .val (.int (g kp)), .val (.int (Int32.ofNat (nd + 1))), .val (.int (Int32.ofNat lo)), .val (.int (Int32.ofNat hi))] [(.int x1), (.int (-4 : Int32))])) (fun t_ k_ => XS.iloadN X13.here hx rfl (hb hby own_b2_d287) rfl k_) ?_
                          refine own_st (B := T13.setTop (mkF m 289 #[.val (.ref d), .val (.int x1), .val (.int (g kp)), .val (.int (Int32.ofNat (nd + 1))), .val (.int (Int32.ofNat lo)), .val (.int (Int32.ofNat hi))] [(.int ((-4 : Int32) - x1))])) (fun t_ k_ => XS.isub X13.here hx rfl (hb hby own_b2_d288) rfl k_) ?_
                          refine own_retI X13 hx Bd.returns hlk (hb hby own_b2_d289) (by decide) (by decide) ?_
                          show Q2 Z d x1 kp g b h0 n0 _ T13.heap _
                          rw [eh13]
                          rw [if_neg (by omega), if_neg (by omega), if_neg (by omega), if_neg (by omega), if_neg (by omega), if_neg (by omega), if_neg (by omega), if_pos (by omega)] at hrf
                          exact ⟨_, rfl, (own_mi hpi hp8 (-4 : Int32) (by decide)).trans hrf.symm, N13, rfl⟩
                        · refine own_st (B := T13.setTop (mkF m 290 #[.val (.ref d), .val (.int x1), .val (.int (g kp)), .val (.int (Int32.ofNat (nd + 1))), .val (.int (Int32.ofNat lo)), .val (.int (Int32.ofNat hi))] [])) (fun t_ k_ => XS.ifYes X13.here hx rfl (pc0 := 282) (pc' := 290) rfl (hb hby own_b2_d282) rfl ((if0 _ _).trans (feq (fun q => hc14 (own_b0.mp q))).2) (by decide) (by decide) k_) ?_
                          have hcT3 := own_dT hc14
                          refine own_st (B := T13.setTop (mkF m 291 #[.val (.ref d), .val (.int x1), .val (.int (g kp)), .val (.int (Int32.ofNat (nd + 1))), .val (.int (Int32.ofNat lo)), .val (.int (Int32.ofNat hi))] [(.int x1)])) (fun t_ k_ => XS.iloadN X13.here hx rfl (hb hby own_b2_d290) rfl k_) ?_
                          refine own_st (B := T13.setTop (mkF m 292 #[.val (.ref d), .val (.int x1), .val (.int (g kp)), .val (.int (Int32.ofNat (nd + 1))), .val (.int (Int32.ofNat lo)), .val (.int (Int32.ofNat hi))] [(.int (4 : Int32)), (.int x1)])) (fun t_ k_ => XS.iconst X13.here hx rfl (hb hby own_b2_d291) k_) ?_
                          refine own_st (B := T13.setTop (mkF m 293 #[.val (.ref d), .val (.int x1), .val (.int (g kp)), .val (.int (Int32.ofNat (nd + 1))), .val (.int (Int32.ofNat lo)), .val (.int (Int32.ofNat hi))] [(.int (x1 + (4 : Int32)))])) (fun t_ k_ => XS.iadd X13.here hx rfl (hb hby own_b2_d292) rfl k_) ?_
                          refine own_retI X13 hx Bd.returns hlk (hb hby own_b2_d293) (by decide) (by decide) ?_
                          show Q2 Z d x1 kp g b h0 n0 _ T13.heap _
                          rw [eh13]
                          rw [if_neg (by omega), if_neg (by omega), if_neg (by omega), if_neg (by omega), if_neg (by omega), if_neg (by omega), if_neg (by omega), if_neg (by omega)] at hrf
                          exact ⟨_, rfl, (own_pl hpi hp8 (4 : Int32) (by decide)).trans hrf.symm, N13, rfl⟩
                      · have hd12 := own_nlt32 hc12
                        rw [show (8 : Int32).toInt = 8 from rfl] at hd12
                        refine own_st (B := T9.setTop (mkF m 271 #[.val (.ref d), .val (.int x1), .val (.int (g kp)), .val (.int (Int32.ofNat (nd + 1))), .val (.int (Int32.ofNat lo)), .val (.int (Int32.ofNat hi))] [])) (fun t_ k_ => XS.icmpNo X9.here hx rfl (hb hby own_b2_d268) rfl (flt hc12).1 k_) ?_
                        refine own_st (B := T9.setTop (mkF m 273 #[.val (.ref d), .val (.int x1), .val (.int (g kp)), .val (.int (Int32.ofNat (nd + 1))), .val (.int (Int32.ofNat lo)), .val (.int (Int32.ofNat hi))] [(.int (100 : Int32))])) (fun t_ k_ => XS.bipush X9.here hx rfl (hb hby own_b2_d271) k_) ?_
                        refine own_retI X9 hx Bd.returns hlk (hb hby own_b2_d273) (by decide) (by decide) ?_
                        show Q2 Z d x1 kp g b h0 n0 _ T9.heap _
                        rw [eh9]
                        rw [if_neg (by omega), if_neg (by omega), if_neg (by omega), if_neg (by omega), if_neg (by omega), if_neg (by omega), if_pos (by omega)] at hrf
                        exact ⟨_, rfl,  hrf.symm, N9, rfl⟩
                · have hd8 := own_nlt32 hc8
                  rw [show (8 : Int32).toInt = 8 from rfl] at hd8
                  refine own_st (B := s₁.setTop (mkF m 235 #[.val (.ref d), .val (.int x1), .val (.int (g kp)), .val (.int (Int32.ofNat (nd + 1))), .val (.int (Int32.ofNat lo)), .val (.int (Int32.ofNat hi))] [])) (fun t_ k_ => XS.icmpNo X0.here hx rfl (hb hby own_b2_d232) rfl (flt hc8).1 k_) ?_
                  refine own_st (B := s₁.setTop (mkF m 237 #[.val (.ref d), .val (.int x1), .val (.int (g kp)), .val (.int (Int32.ofNat (nd + 1))), .val (.int (Int32.ofNat lo)), .val (.int (Int32.ofNat hi))] [(.int (100 : Int32))])) (fun t_ k_ => XS.bipush X0.here hx rfl (hb hby own_b2_d235) k_) ?_
                  refine own_retI X0 hx Bd.returns hlk (hb hby own_b2_d237) (by decide) (by decide) ?_
                  show Q2 Z d x1 kp g b h0 n0 _ s₁.heap _
                  rw [e0]
                  rw [if_neg (by omega), if_neg (by omega), if_neg (by omega), if_pos (by omega)] at hrf
                  exact ⟨_, rfl,  hrf.symm, N0, rfl⟩
        · have hd4 := own_nlt32 hc4
          rw [show (8 : Int32).toInt = 8 from rfl] at hd4
          refine own_st (B := s₁.setTop (mkF m 190 #[.val (.ref d), .val (.int x1), .val (.int (g kp)), .val (.int (Int32.ofNat (nd + 1))), .val (.int (Int32.ofNat lo)), .val (.int (Int32.ofNat hi))] [])) (fun t_ k_ => XS.icmpNo X0.here hx rfl (hb hby own_b2_d187) rfl (flt hc4).1 k_) ?_
          refine own_st (B := s₁.setTop (mkF m 192 #[.val (.ref d), .val (.int x1), .val (.int (g kp)), .val (.int (Int32.ofNat (nd + 1))), .val (.int (Int32.ofNat lo)), .val (.int (Int32.ofNat hi))] [(.int (100 : Int32))])) (fun t_ k_ => XS.bipush X0.here hx rfl (hb hby own_b2_d190) k_) ?_
          refine own_retI X0 hx Bd.returns hlk (hb hby own_b2_d192) (by decide) (by decide) ?_
          show Q2 Z d x1 kp g b h0 n0 _ s₁.heap _
          rw [e0]
          rw [if_pos (by omega)] at hrf
          exact ⟨_, rfl,  hrf.symm, N0, rfl⟩
      refine own_st (B := s₁.setTop (mkF m 35 #[.val (.ref d), .val (.int x1), .val (.int (g kp)), .unset, .val (.int (128 : Int32)), .val (.int (191 : Int32))] [(.int (g kp))])) (fun t_ k_ => XS.iloadN X0.here hx rfl (hb hby own_b2_d34) rfl k_) ?_
      refine own_st (B := s₁.setTop (mkF m 38 #[.val (.ref d), .val (.int x1), .val (.int (g kp)), .unset, .val (.int (128 : Int32)), .val (.int (191 : Int32))] [(.int (194 : Int32)), (.int (g kp))])) (fun t_ k_ => XS.sipush X0.here hx rfl (hb hby own_b2_d35) k_) ?_
      by_cases hc15 : (g kp) < (194 : Int32)
      · have hd15 := own_lt32 hc15
        rw [show (194 : Int32).toInt = 194 from rfl] at hd15
        refine own_st (B := s₁.setTop (mkF m 53 #[.val (.ref d), .val (.int x1), .val (.int (g kp)), .unset, .val (.int (128 : Int32)), .val (.int (191 : Int32))] [])) (fun t_ k_ => XS.icmpYes X0.here hx rfl (pc0 := 38) (pc' := 53) rfl (hb hby own_b2_d38) rfl (tlt hc15).1 (by decide) (by decide) k_) ?_
        refine own_st (B := s₁.setTop (mkF m 54 #[.val (.ref d), .val (.int x1), .val (.int (g kp)), .unset, .val (.int (128 : Int32)), .val (.int (191 : Int32))] [(.int (g kp))])) (fun t_ k_ => XS.iloadN X0.here hx rfl (hb hby own_b2_d53) rfl k_) ?_
        refine own_st (B := s₁.setTop (mkF m 57 #[.val (.ref d), .val (.int x1), .val (.int (g kp)), .unset, .val (.int (128 : Int32)), .val (.int (191 : Int32))] [(.int (224 : Int32)), (.int (g kp))])) (fun t_ k_ => XS.sipush X0.here hx rfl (hb hby own_b2_d54) k_) ?_
        by_cases hc16 : (g kp) = (224 : Int32)
        · have hd16 := own_eq32 hc16
          rw [show (224 : Int32).toInt = 224 from rfl] at hd16
          refine own_st (B := s₁.setTop (mkF m 60 #[.val (.ref d), .val (.int x1), .val (.int (g kp)), .unset, .val (.int (128 : Int32)), .val (.int (191 : Int32))] [])) (fun t_ k_ => XS.icmpNo X0.here hx rfl (hb hby own_b2_d57) rfl (teq hc16).2 k_) ?_
          refine own_st (B := s₁.setTop (mkF m 61 #[.val (.ref d), .val (.int x1), .val (.int (g kp)), .unset, .val (.int (128 : Int32)), .val (.int (191 : Int32))] [(.int (3 : Int32))])) (fun t_ k_ => XS.iconst X0.here hx rfl (hb hby own_b2_d60) k_) ?_
          refine own_st (B := s₁.setTop (mkF m 62 #[.val (.ref d), .val (.int x1), .val (.int (g kp)), .val (.int (3 : Int32)), .val (.int (128 : Int32)), .val (.int (191 : Int32))] [])) (fun t_ k_ => XS.istoreN X0.here hx rfl (hb hby own_b2_d61) rfl (l' := #[.val (.ref d), .val (.int x1), .val (.int (g kp)), .val (.int (3 : Int32)), .val (.int (128 : Int32)), .val (.int (191 : Int32))]) rfl k_) ?_
          refine own_st (B := s₁.setTop (mkF m 65 #[.val (.ref d), .val (.int x1), .val (.int (g kp)), .val (.int (3 : Int32)), .val (.int (128 : Int32)), .val (.int (191 : Int32))] [(.int (160 : Int32))])) (fun t_ k_ => XS.sipush X0.here hx rfl (hb hby own_b2_d62) k_) ?_
          refine own_st (B := s₁.setTop (mkF m 67 #[.val (.ref d), .val (.int x1), .val (.int (g kp)), .val (.int (3 : Int32)), .val (.int (160 : Int32)), .val (.int (191 : Int32))] [])) (fun t_ k_ => XS.istore X0.here hx rfl (hb hby own_b2_d65) rfl (l' := #[.val (.ref d), .val (.int x1), .val (.int (g kp)), .val (.int (3 : Int32)), .val (.int (160 : Int32)), .val (.int (191 : Int32))]) rfl k_) ?_
          refine own_st (B := s₁.setTop (mkF m 182 #[.val (.ref d), .val (.int x1), .val (.int (g kp)), .val (.int (3 : Int32)), .val (.int (160 : Int32)), .val (.int (191 : Int32))] [])) (fun t_ k_ => XS.goto X0.here hx rfl (pc0 := 67) (pc' := 182) rfl (hb hby own_b2_d67) (by decide) (by decide) k_) ?_
          exact J3  2 160 191 (own_beg2 (by omega) (if_pos (by omega)) (if_neg (by omega)))
        · have hd16 := own_neq32 hc16
          rw [show (224 : Int32).toInt = 224 from rfl] at hd16
          refine own_st (B := s₁.setTop (mkF m 70 #[.val (.ref d), .val (.int x1), .val (.int (g kp)), .unset, .val (.int (128 : Int32)), .val (.int (191 : Int32))] [])) (fun t_ k_ => XS.icmpYes X0.here hx rfl (pc0 := 57) (pc' := 70) rfl (hb hby own_b2_d57) rfl (feq hc16).2 (by decide) (by decide) k_) ?_
          refine own_st (B := s₁.setTop (mkF m 71 #[.val (.ref d), .val (.int x1), .val (.int (g kp)), .unset, .val (.int (128 : Int32)), .val (.int (191 : Int32))] [(.int (g kp))])) (fun t_ k_ => XS.iloadN X0.here hx rfl (hb hby own_b2_d70) rfl k_) ?_
          refine own_st (B := s₁.setTop (mkF m 74 #[.val (.ref d), .val (.int x1), .val (.int (g kp)), .unset, .val (.int (128 : Int32)), .val (.int (191 : Int32))] [(.int (225 : Int32)), (.int (g kp))])) (fun t_ k_ => XS.sipush X0.here hx rfl (hb hby own_b2_d71) k_) ?_
          by_cases hc17 : (g kp) < (225 : Int32)
          · have hd17 := own_lt32 hc17
            rw [show (225 : Int32).toInt = 225 from rfl] at hd17
            refine own_st (B := s₁.setTop (mkF m 89 #[.val (.ref d), .val (.int x1), .val (.int (g kp)), .unset, .val (.int (128 : Int32)), .val (.int (191 : Int32))] [])) (fun t_ k_ => XS.icmpYes X0.here hx rfl (pc0 := 74) (pc' := 89) rfl (hb hby own_b2_d74) rfl (tlt hc17).1 (by decide) (by decide) k_) ?_
            refine own_st (B := s₁.setTop (mkF m 90 #[.val (.ref d), .val (.int x1), .val (.int (g kp)), .unset, .val (.int (128 : Int32)), .val (.int (191 : Int32))] [(.int (g kp))])) (fun t_ k_ => XS.iloadN X0.here hx rfl (hb hby own_b2_d89) rfl k_) ?_
            refine own_st (B := s₁.setTop (mkF m 93 #[.val (.ref d), .val (.int x1), .val (.int (g kp)), .unset, .val (.int (128 : Int32)), .val (.int (191 : Int32))] [(.int (237 : Int32)), (.int (g kp))])) (fun t_ k_ => XS.sipush X0.here hx rfl (hb hby own_b2_d90) k_) ?_
            by_cases hc18 : (g kp) = (237 : Int32)
            · have hd18 := own_eq32 hc18
              rw [show (237 : Int32).toInt = 237 from rfl] at hd18
              refine own_st (B := s₁.setTop (mkF m 96 #[.val (.ref d), .val (.int x1), .val (.int (g kp)), .unset, .val (.int (128 : Int32)), .val (.int (191 : Int32))] [])) (fun t_ k_ => XS.icmpNo X0.here hx rfl (hb hby own_b2_d93) rfl (teq hc18).2 k_) ?_
              refine own_st (B := s₁.setTop (mkF m 97 #[.val (.ref d), .val (.int x1), .val (.int (g kp)), .unset, .val (.int (128 : Int32)), .val (.int (191 : Int32))] [(.int (3 : Int32))])) (fun t_ k_ => XS.iconst X0.here hx rfl (hb hby own_b2_d96) k_) ?_
              refine own_st (B := s₁.setTop (mkF m 98 #[.val (.ref d), .val (.int x1), .val (.int (g kp)), .val (.int (3 : Int32)), .val (.int (128 : Int32)), .val (.int (191 : Int32))] [])) (fun t_ k_ => XS.istoreN X0.here hx rfl (hb hby own_b2_d97) rfl (l' := #[.val (.ref d), .val (.int x1), .val (.int (g kp)), .val (.int (3 : Int32)), .val (.int (128 : Int32)), .val (.int (191 : Int32))]) rfl k_) ?_
              refine own_st (B := s₁.setTop (mkF m 101 #[.val (.ref d), .val (.int x1), .val (.int (g kp)), .val (.int (3 : Int32)), .val (.int (128 : Int32)), .val (.int (191 : Int32))] [(.int (159 : Int32))])) (fun t_ k_ => XS.sipush X0.here hx rfl (hb hby own_b2_d98) k_) ?_
              refine own_st (B := s₁.setTop (mkF m 103 #[.val (.ref d), .val (.int x1), .val (.int (g kp)), .val (.int (3 : Int32)), .val (.int (128 : Int32)), .val (.int (159 : Int32))] [])) (fun t_ k_ => XS.istore X0.here hx rfl (hb hby own_b2_d101) rfl (l' := #[.val (.ref d), .val (.int x1), .val (.int (g kp)), .val (.int (3 : Int32)), .val (.int (128 : Int32)), .val (.int (159 : Int32))]) rfl k_) ?_
              refine own_st (B := s₁.setTop (mkF m 182 #[.val (.ref d), .val (.int x1), .val (.int (g kp)), .val (.int (3 : Int32)), .val (.int (128 : Int32)), .val (.int (159 : Int32))] [])) (fun t_ k_ => XS.goto X0.here hx rfl (pc0 := 103) (pc' := 182) rfl (hb hby own_b2_d103) (by decide) (by decide) k_) ?_
              exact J3  2 128 159 (own_beg2 (by omega) (if_neg (by omega)) (if_pos (by omega)))
            · have hd18 := own_neq32 hc18
              rw [show (237 : Int32).toInt = 237 from rfl] at hd18
              refine own_st (B := s₁.setTop (mkF m 106 #[.val (.ref d), .val (.int x1), .val (.int (g kp)), .unset, .val (.int (128 : Int32)), .val (.int (191 : Int32))] [])) (fun t_ k_ => XS.icmpYes X0.here hx rfl (pc0 := 93) (pc' := 106) rfl (hb hby own_b2_d93) rfl (feq hc18).2 (by decide) (by decide) k_) ?_
              refine own_st (B := s₁.setTop (mkF m 107 #[.val (.ref d), .val (.int x1), .val (.int (g kp)), .unset, .val (.int (128 : Int32)), .val (.int (191 : Int32))] [(.int (g kp))])) (fun t_ k_ => XS.iloadN X0.here hx rfl (hb hby own_b2_d106) rfl k_) ?_
              refine own_st (B := s₁.setTop (mkF m 110 #[.val (.ref d), .val (.int x1), .val (.int (g kp)), .unset, .val (.int (128 : Int32)), .val (.int (191 : Int32))] [(.int (238 : Int32)), (.int (g kp))])) (fun t_ k_ => XS.sipush X0.here hx rfl (hb hby own_b2_d107) k_) ?_
              by_cases hc19 : (g kp) = (238 : Int32)
              · have hd19 := own_eq32 hc19
                rw [show (238 : Int32).toInt = 238 from rfl] at hd19
                refine own_st (B := s₁.setTop (mkF m 120 #[.val (.ref d), .val (.int x1), .val (.int (g kp)), .unset, .val (.int (128 : Int32)), .val (.int (191 : Int32))] [])) (fun t_ k_ => XS.icmpYes X0.here hx rfl (pc0 := 110) (pc' := 120) rfl (hb hby own_b2_d110) rfl (teq hc19).1 (by decide) (by decide) k_) ?_
                refine own_st (B := s₁.setTop (mkF m 121 #[.val (.ref d), .val (.int x1), .val (.int (g kp)), .unset, .val (.int (128 : Int32)), .val (.int (191 : Int32))] [(.int (3 : Int32))])) (fun t_ k_ => XS.iconst X0.here hx rfl (hb hby own_b2_d120) k_) ?_
                refine own_st (B := s₁.setTop (mkF m 122 #[.val (.ref d), .val (.int x1), .val (.int (g kp)), .val (.int (3 : Int32)), .val (.int (128 : Int32)), .val (.int (191 : Int32))] [])) (fun t_ k_ => XS.istoreN X0.here hx rfl (hb hby own_b2_d121) rfl (l' := #[.val (.ref d), .val (.int x1), .val (.int (g kp)), .val (.int (3 : Int32)), .val (.int (128 : Int32)), .val (.int (191 : Int32))]) rfl k_) ?_
                refine own_st (B := s₁.setTop (mkF m 182 #[.val (.ref d), .val (.int x1), .val (.int (g kp)), .val (.int (3 : Int32)), .val (.int (128 : Int32)), .val (.int (191 : Int32))] [])) (fun t_ k_ => XS.goto X0.here hx rfl (pc0 := 122) (pc' := 182) rfl (hb hby own_b2_d122) (by decide) (by decide) k_) ?_
                exact J3  2 128 191 (own_beg2 (by omega) (if_neg (by omega)) (if_neg (by omega)))
              · have hd19 := own_neq32 hc19
                rw [show (238 : Int32).toInt = 238 from rfl] at hd19
                refine own_st (B := s₁.setTop (mkF m 113 #[.val (.ref d), .val (.int x1), .val (.int (g kp)), .unset, .val (.int (128 : Int32)), .val (.int (191 : Int32))] [])) (fun t_ k_ => XS.icmpNo X0.here hx rfl (hb hby own_b2_d110) rfl (feq hc19).1 k_) ?_
                refine own_st (B := s₁.setTop (mkF m 114 #[.val (.ref d), .val (.int x1), .val (.int (g kp)), .unset, .val (.int (128 : Int32)), .val (.int (191 : Int32))] [(.int (g kp))])) (fun t_ k_ => XS.iloadN X0.here hx rfl (hb hby own_b2_d113) rfl k_) ?_
                refine own_st (B := s₁.setTop (mkF m 117 #[.val (.ref d), .val (.int x1), .val (.int (g kp)), .unset, .val (.int (128 : Int32)), .val (.int (191 : Int32))] [(.int (239 : Int32)), (.int (g kp))])) (fun t_ k_ => XS.sipush X0.here hx rfl (hb hby own_b2_d114) k_) ?_
                by_cases hc20 : (g kp) = (239 : Int32)
                · have hd20 := own_eq32 hc20
                  rw [show (239 : Int32).toInt = 239 from rfl] at hd20
                  refine own_st (B := s₁.setTop (mkF m 120 #[.val (.ref d), .val (.int x1), .val (.int (g kp)), .unset, .val (.int (128 : Int32)), .val (.int (191 : Int32))] [])) (fun t_ k_ => XS.icmpNo X0.here hx rfl (hb hby own_b2_d117) rfl (teq hc20).2 k_) ?_
                  refine own_st (B := s₁.setTop (mkF m 121 #[.val (.ref d), .val (.int x1), .val (.int (g kp)), .unset, .val (.int (128 : Int32)), .val (.int (191 : Int32))] [(.int (3 : Int32))])) (fun t_ k_ => XS.iconst X0.here hx rfl (hb hby own_b2_d120) k_) ?_
                  refine own_st (B := s₁.setTop (mkF m 122 #[.val (.ref d), .val (.int x1), .val (.int (g kp)), .val (.int (3 : Int32)), .val (.int (128 : Int32)), .val (.int (191 : Int32))] [])) (fun t_ k_ => XS.istoreN X0.here hx rfl (hb hby own_b2_d121) rfl (l' := #[.val (.ref d), .val (.int x1), .val (.int (g kp)), .val (.int (3 : Int32)), .val (.int (128 : Int32)), .val (.int (191 : Int32))]) rfl k_) ?_
                  refine own_st (B := s₁.setTop (mkF m 182 #[.val (.ref d), .val (.int x1), .val (.int (g kp)), .val (.int (3 : Int32)), .val (.int (128 : Int32)), .val (.int (191 : Int32))] [])) (fun t_ k_ => XS.goto X0.here hx rfl (pc0 := 122) (pc' := 182) rfl (hb hby own_b2_d122) (by decide) (by decide) k_) ?_
                  exact J3  2 128 191 (own_beg2 (by omega) (if_neg (by omega)) (if_neg (by omega)))
                · have hd20 := own_neq32 hc20
                  rw [show (239 : Int32).toInt = 239 from rfl] at hd20
                  refine own_st (B := s₁.setTop (mkF m 125 #[.val (.ref d), .val (.int x1), .val (.int (g kp)), .unset, .val (.int (128 : Int32)), .val (.int (191 : Int32))] [])) (fun t_ k_ => XS.icmpYes X0.here hx rfl (pc0 := 117) (pc' := 125) rfl (hb hby own_b2_d117) rfl (feq hc20).2 (by decide) (by decide) k_) ?_
                  refine own_st (B := s₁.setTop (mkF m 126 #[.val (.ref d), .val (.int x1), .val (.int (g kp)), .unset, .val (.int (128 : Int32)), .val (.int (191 : Int32))] [(.int (g kp))])) (fun t_ k_ => XS.iloadN X0.here hx rfl (hb hby own_b2_d125) rfl k_) ?_
                  refine own_st (B := s₁.setTop (mkF m 129 #[.val (.ref d), .val (.int x1), .val (.int (g kp)), .unset, .val (.int (128 : Int32)), .val (.int (191 : Int32))] [(.int (240 : Int32)), (.int (g kp))])) (fun t_ k_ => XS.sipush X0.here hx rfl (hb hby own_b2_d126) k_) ?_
                  by_cases hc21 : (g kp) = (240 : Int32)
                  · have hd21 := own_eq32 hc21
                    rw [show (240 : Int32).toInt = 240 from rfl] at hd21
                    refine own_st (B := s₁.setTop (mkF m 132 #[.val (.ref d), .val (.int x1), .val (.int (g kp)), .unset, .val (.int (128 : Int32)), .val (.int (191 : Int32))] [])) (fun t_ k_ => XS.icmpNo X0.here hx rfl (hb hby own_b2_d129) rfl (teq hc21).2 k_) ?_
                    refine own_st (B := s₁.setTop (mkF m 133 #[.val (.ref d), .val (.int x1), .val (.int (g kp)), .unset, .val (.int (128 : Int32)), .val (.int (191 : Int32))] [(.int (4 : Int32))])) (fun t_ k_ => XS.iconst X0.here hx rfl (hb hby own_b2_d132) k_) ?_
                    refine own_st (B := s₁.setTop (mkF m 134 #[.val (.ref d), .val (.int x1), .val (.int (g kp)), .val (.int (4 : Int32)), .val (.int (128 : Int32)), .val (.int (191 : Int32))] [])) (fun t_ k_ => XS.istoreN X0.here hx rfl (hb hby own_b2_d133) rfl (l' := #[.val (.ref d), .val (.int x1), .val (.int (g kp)), .val (.int (4 : Int32)), .val (.int (128 : Int32)), .val (.int (191 : Int32))]) rfl k_) ?_
                    refine own_st (B := s₁.setTop (mkF m 137 #[.val (.ref d), .val (.int x1), .val (.int (g kp)), .val (.int (4 : Int32)), .val (.int (128 : Int32)), .val (.int (191 : Int32))] [(.int (144 : Int32))])) (fun t_ k_ => XS.sipush X0.here hx rfl (hb hby own_b2_d134) k_) ?_
                    refine own_st (B := s₁.setTop (mkF m 139 #[.val (.ref d), .val (.int x1), .val (.int (g kp)), .val (.int (4 : Int32)), .val (.int (144 : Int32)), .val (.int (191 : Int32))] [])) (fun t_ k_ => XS.istore X0.here hx rfl (hb hby own_b2_d137) rfl (l' := #[.val (.ref d), .val (.int x1), .val (.int (g kp)), .val (.int (4 : Int32)), .val (.int (144 : Int32)), .val (.int (191 : Int32))]) rfl k_) ?_
                    refine own_st (B := s₁.setTop (mkF m 182 #[.val (.ref d), .val (.int x1), .val (.int (g kp)), .val (.int (4 : Int32)), .val (.int (144 : Int32)), .val (.int (191 : Int32))] [])) (fun t_ k_ => XS.goto X0.here hx rfl (pc0 := 139) (pc' := 182) rfl (hb hby own_b2_d139) (by decide) (by decide) k_) ?_
                    exact J3  3 144 191 (own_beg3 (by omega) (if_pos (by omega)) (if_neg (by omega)))
                  · have hd21 := own_neq32 hc21
                    rw [show (240 : Int32).toInt = 240 from rfl] at hd21
                    refine own_st (B := s₁.setTop (mkF m 142 #[.val (.ref d), .val (.int x1), .val (.int (g kp)), .unset, .val (.int (128 : Int32)), .val (.int (191 : Int32))] [])) (fun t_ k_ => XS.icmpYes X0.here hx rfl (pc0 := 129) (pc' := 142) rfl (hb hby own_b2_d129) rfl (feq hc21).2 (by decide) (by decide) k_) ?_
                    refine own_st (B := s₁.setTop (mkF m 143 #[.val (.ref d), .val (.int x1), .val (.int (g kp)), .unset, .val (.int (128 : Int32)), .val (.int (191 : Int32))] [(.int (g kp))])) (fun t_ k_ => XS.iloadN X0.here hx rfl (hb hby own_b2_d142) rfl k_) ?_
                    refine own_st (B := s₁.setTop (mkF m 146 #[.val (.ref d), .val (.int x1), .val (.int (g kp)), .unset, .val (.int (128 : Int32)), .val (.int (191 : Int32))] [(.int (241 : Int32)), (.int (g kp))])) (fun t_ k_ => XS.sipush X0.here hx rfl (hb hby own_b2_d143) k_) ?_
                    by_cases hc22 : (g kp) < (241 : Int32)
                    · have hd22 := own_lt32 hc22
                      rw [show (241 : Int32).toInt = 241 from rfl] at hd22
                      refine own_st (B := s₁.setTop (mkF m 161 #[.val (.ref d), .val (.int x1), .val (.int (g kp)), .unset, .val (.int (128 : Int32)), .val (.int (191 : Int32))] [])) (fun t_ k_ => XS.icmpYes X0.here hx rfl (pc0 := 146) (pc' := 161) rfl (hb hby own_b2_d146) rfl (tlt hc22).1 (by decide) (by decide) k_) ?_
                      refine own_st (B := s₁.setTop (mkF m 162 #[.val (.ref d), .val (.int x1), .val (.int (g kp)), .unset, .val (.int (128 : Int32)), .val (.int (191 : Int32))] [(.int (g kp))])) (fun t_ k_ => XS.iloadN X0.here hx rfl (hb hby own_b2_d161) rfl k_) ?_
                      refine own_st (B := s₁.setTop (mkF m 165 #[.val (.ref d), .val (.int x1), .val (.int (g kp)), .unset, .val (.int (128 : Int32)), .val (.int (191 : Int32))] [(.int (244 : Int32)), (.int (g kp))])) (fun t_ k_ => XS.sipush X0.here hx rfl (hb hby own_b2_d162) k_) ?_
                      by_cases hc23 : (g kp) = (244 : Int32)
                      · have hd23 := own_eq32 hc23
                        rw [show (244 : Int32).toInt = 244 from rfl] at hd23
                        refine own_st (B := s₁.setTop (mkF m 168 #[.val (.ref d), .val (.int x1), .val (.int (g kp)), .unset, .val (.int (128 : Int32)), .val (.int (191 : Int32))] [])) (fun t_ k_ => XS.icmpNo X0.here hx rfl (hb hby own_b2_d165) rfl (teq hc23).2 k_) ?_
                        refine own_st (B := s₁.setTop (mkF m 169 #[.val (.ref d), .val (.int x1), .val (.int (g kp)), .unset, .val (.int (128 : Int32)), .val (.int (191 : Int32))] [(.int (4 : Int32))])) (fun t_ k_ => XS.iconst X0.here hx rfl (hb hby own_b2_d168) k_) ?_
                        refine own_st (B := s₁.setTop (mkF m 170 #[.val (.ref d), .val (.int x1), .val (.int (g kp)), .val (.int (4 : Int32)), .val (.int (128 : Int32)), .val (.int (191 : Int32))] [])) (fun t_ k_ => XS.istoreN X0.here hx rfl (hb hby own_b2_d169) rfl (l' := #[.val (.ref d), .val (.int x1), .val (.int (g kp)), .val (.int (4 : Int32)), .val (.int (128 : Int32)), .val (.int (191 : Int32))]) rfl k_) ?_
                        refine own_st (B := s₁.setTop (mkF m 173 #[.val (.ref d), .val (.int x1), .val (.int (g kp)), .val (.int (4 : Int32)), .val (.int (128 : Int32)), .val (.int (191 : Int32))] [(.int (143 : Int32))])) (fun t_ k_ => XS.sipush X0.here hx rfl (hb hby own_b2_d170) k_) ?_
                        refine own_st (B := s₁.setTop (mkF m 175 #[.val (.ref d), .val (.int x1), .val (.int (g kp)), .val (.int (4 : Int32)), .val (.int (128 : Int32)), .val (.int (143 : Int32))] [])) (fun t_ k_ => XS.istore X0.here hx rfl (hb hby own_b2_d173) rfl (l' := #[.val (.ref d), .val (.int x1), .val (.int (g kp)), .val (.int (4 : Int32)), .val (.int (128 : Int32)), .val (.int (143 : Int32))]) rfl k_) ?_
                        refine own_st (B := s₁.setTop (mkF m 182 #[.val (.ref d), .val (.int x1), .val (.int (g kp)), .val (.int (4 : Int32)), .val (.int (128 : Int32)), .val (.int (143 : Int32))] [])) (fun t_ k_ => XS.goto X0.here hx rfl (pc0 := 175) (pc' := 182) rfl (hb hby own_b2_d175) (by decide) (by decide) k_) ?_
                        exact J3  3 128 143 (own_beg3 (by omega) (if_neg (by omega)) (if_pos (by omega)))
                      · have hd23 := own_neq32 hc23
                        rw [show (244 : Int32).toInt = 244 from rfl] at hd23
                        refine own_st (B := s₁.setTop (mkF m 178 #[.val (.ref d), .val (.int x1), .val (.int (g kp)), .unset, .val (.int (128 : Int32)), .val (.int (191 : Int32))] [])) (fun t_ k_ => XS.icmpYes X0.here hx rfl (pc0 := 165) (pc' := 178) rfl (hb hby own_b2_d165) rfl (feq hc23).2 (by decide) (by decide) k_) ?_
                        refine own_st (B := s₁.setTop (mkF m 179 #[.val (.ref d), .val (.int x1), .val (.int (g kp)), .unset, .val (.int (128 : Int32)), .val (.int (191 : Int32))] [(.int (-1 : Int32))])) (fun t_ k_ => XS.iconst X0.here hx rfl (hb hby own_b2_d178) k_) ?_
                        refine own_st (B := s₁.setTop (mkF m 180 #[.val (.ref d), .val (.int x1), .val (.int (g kp)), .unset, .val (.int (128 : Int32)), .val (.int (191 : Int32))] [(.int x1), (.int (-1 : Int32))])) (fun t_ k_ => XS.iloadN X0.here hx rfl (hb hby own_b2_d179) rfl k_) ?_
                        refine own_st (B := s₁.setTop (mkF m 181 #[.val (.ref d), .val (.int x1), .val (.int (g kp)), .unset, .val (.int (128 : Int32)), .val (.int (191 : Int32))] [(.int ((-1 : Int32) - x1))])) (fun t_ k_ => XS.isub X0.here hx rfl (hb hby own_b2_d180) rfl k_) ?_
                        refine own_retI X0 hx Bd.returns hlk (hb hby own_b2_d181) (by decide) (by decide) ?_
                        show Q2 Z d x1 kp g b h0 n0 _ s₁.heap _
                        rw [e0]
                        exact ⟨_, rfl, (own_mi hpi hp8 (-1 : Int32) (by decide)).trans (own_refC (by omega) (by omega) (own_begN (by omega) (by omega) (by omega))).symm, N0, rfl⟩
                    · have hd22 := own_nlt32 hc22
                      rw [show (241 : Int32).toInt = 241 from rfl] at hd22
                      refine own_st (B := s₁.setTop (mkF m 149 #[.val (.ref d), .val (.int x1), .val (.int (g kp)), .unset, .val (.int (128 : Int32)), .val (.int (191 : Int32))] [])) (fun t_ k_ => XS.icmpNo X0.here hx rfl (hb hby own_b2_d146) rfl (flt hc22).1 k_) ?_
                      refine own_st (B := s₁.setTop (mkF m 150 #[.val (.ref d), .val (.int x1), .val (.int (g kp)), .unset, .val (.int (128 : Int32)), .val (.int (191 : Int32))] [(.int (g kp))])) (fun t_ k_ => XS.iloadN X0.here hx rfl (hb hby own_b2_d149) rfl k_) ?_
                      refine own_st (B := s₁.setTop (mkF m 153 #[.val (.ref d), .val (.int x1), .val (.int (g kp)), .unset, .val (.int (128 : Int32)), .val (.int (191 : Int32))] [(.int (243 : Int32)), (.int (g kp))])) (fun t_ k_ => XS.sipush X0.here hx rfl (hb hby own_b2_d150) k_) ?_
                      by_cases hc24 : (243 : Int32) < (g kp)
                      · have hd24 := own_lt32 hc24
                        rw [show (243 : Int32).toInt = 243 from rfl] at hd24
                        refine own_st (B := s₁.setTop (mkF m 161 #[.val (.ref d), .val (.int x1), .val (.int (g kp)), .unset, .val (.int (128 : Int32)), .val (.int (191 : Int32))] [])) (fun t_ k_ => XS.icmpYes X0.here hx rfl (pc0 := 153) (pc' := 161) rfl (hb hby own_b2_d153) rfl (tlt hc24).2.2.1 (by decide) (by decide) k_) ?_
                        refine own_st (B := s₁.setTop (mkF m 162 #[.val (.ref d), .val (.int x1), .val (.int (g kp)), .unset, .val (.int (128 : Int32)), .val (.int (191 : Int32))] [(.int (g kp))])) (fun t_ k_ => XS.iloadN X0.here hx rfl (hb hby own_b2_d161) rfl k_) ?_
                        refine own_st (B := s₁.setTop (mkF m 165 #[.val (.ref d), .val (.int x1), .val (.int (g kp)), .unset, .val (.int (128 : Int32)), .val (.int (191 : Int32))] [(.int (244 : Int32)), (.int (g kp))])) (fun t_ k_ => XS.sipush X0.here hx rfl (hb hby own_b2_d162) k_) ?_
                        by_cases hc25 : (g kp) = (244 : Int32)
                        · have hd25 := own_eq32 hc25
                          rw [show (244 : Int32).toInt = 244 from rfl] at hd25
                          refine own_st (B := s₁.setTop (mkF m 168 #[.val (.ref d), .val (.int x1), .val (.int (g kp)), .unset, .val (.int (128 : Int32)), .val (.int (191 : Int32))] [])) (fun t_ k_ => XS.icmpNo X0.here hx rfl (hb hby own_b2_d165) rfl (teq hc25).2 k_) ?_
                          refine own_st (B := s₁.setTop (mkF m 169 #[.val (.ref d), .val (.int x1), .val (.int (g kp)), .unset, .val (.int (128 : Int32)), .val (.int (191 : Int32))] [(.int (4 : Int32))])) (fun t_ k_ => XS.iconst X0.here hx rfl (hb hby own_b2_d168) k_) ?_
                          refine own_st (B := s₁.setTop (mkF m 170 #[.val (.ref d), .val (.int x1), .val (.int (g kp)), .val (.int (4 : Int32)), .val (.int (128 : Int32)), .val (.int (191 : Int32))] [])) (fun t_ k_ => XS.istoreN X0.here hx rfl (hb hby own_b2_d169) rfl (l' := #[.val (.ref d), .val (.int x1), .val (.int (g kp)), .val (.int (4 : Int32)), .val (.int (128 : Int32)), .val (.int (191 : Int32))]) rfl k_) ?_
                          refine own_st (B := s₁.setTop (mkF m 173 #[.val (.ref d), .val (.int x1), .val (.int (g kp)), .val (.int (4 : Int32)), .val (.int (128 : Int32)), .val (.int (191 : Int32))] [(.int (143 : Int32))])) (fun t_ k_ => XS.sipush X0.here hx rfl (hb hby own_b2_d170) k_) ?_
                          refine own_st (B := s₁.setTop (mkF m 175 #[.val (.ref d), .val (.int x1), .val (.int (g kp)), .val (.int (4 : Int32)), .val (.int (128 : Int32)), .val (.int (143 : Int32))] [])) (fun t_ k_ => XS.istore X0.here hx rfl (hb hby own_b2_d173) rfl (l' := #[.val (.ref d), .val (.int x1), .val (.int (g kp)), .val (.int (4 : Int32)), .val (.int (128 : Int32)), .val (.int (143 : Int32))]) rfl k_) ?_
                          refine own_st (B := s₁.setTop (mkF m 182 #[.val (.ref d), .val (.int x1), .val (.int (g kp)), .val (.int (4 : Int32)), .val (.int (128 : Int32)), .val (.int (143 : Int32))] [])) (fun t_ k_ => XS.goto X0.here hx rfl (pc0 := 175) (pc' := 182) rfl (hb hby own_b2_d175) (by decide) (by decide) k_) ?_
                          exact J3  3 128 143 (own_beg3 (by omega) (if_neg (by omega)) (if_pos (by omega)))
                        · have hd25 := own_neq32 hc25
                          rw [show (244 : Int32).toInt = 244 from rfl] at hd25
                          refine own_st (B := s₁.setTop (mkF m 178 #[.val (.ref d), .val (.int x1), .val (.int (g kp)), .unset, .val (.int (128 : Int32)), .val (.int (191 : Int32))] [])) (fun t_ k_ => XS.icmpYes X0.here hx rfl (pc0 := 165) (pc' := 178) rfl (hb hby own_b2_d165) rfl (feq hc25).2 (by decide) (by decide) k_) ?_
                          refine own_st (B := s₁.setTop (mkF m 179 #[.val (.ref d), .val (.int x1), .val (.int (g kp)), .unset, .val (.int (128 : Int32)), .val (.int (191 : Int32))] [(.int (-1 : Int32))])) (fun t_ k_ => XS.iconst X0.here hx rfl (hb hby own_b2_d178) k_) ?_
                          refine own_st (B := s₁.setTop (mkF m 180 #[.val (.ref d), .val (.int x1), .val (.int (g kp)), .unset, .val (.int (128 : Int32)), .val (.int (191 : Int32))] [(.int x1), (.int (-1 : Int32))])) (fun t_ k_ => XS.iloadN X0.here hx rfl (hb hby own_b2_d179) rfl k_) ?_
                          refine own_st (B := s₁.setTop (mkF m 181 #[.val (.ref d), .val (.int x1), .val (.int (g kp)), .unset, .val (.int (128 : Int32)), .val (.int (191 : Int32))] [(.int ((-1 : Int32) - x1))])) (fun t_ k_ => XS.isub X0.here hx rfl (hb hby own_b2_d180) rfl k_) ?_
                          refine own_retI X0 hx Bd.returns hlk (hb hby own_b2_d181) (by decide) (by decide) ?_
                          show Q2 Z d x1 kp g b h0 n0 _ s₁.heap _
                          rw [e0]
                          exact ⟨_, rfl, (own_mi hpi hp8 (-1 : Int32) (by decide)).trans (own_refC (by omega) (by omega) (own_begN (by omega) (by omega) (by omega))).symm, N0, rfl⟩
                      · have hd24 := own_nlt32 hc24
                        rw [show (243 : Int32).toInt = 243 from rfl] at hd24
                        refine own_st (B := s₁.setTop (mkF m 156 #[.val (.ref d), .val (.int x1), .val (.int (g kp)), .unset, .val (.int (128 : Int32)), .val (.int (191 : Int32))] [])) (fun t_ k_ => XS.icmpNo X0.here hx rfl (hb hby own_b2_d153) rfl (flt hc24).2.2.1 k_) ?_
                        refine own_st (B := s₁.setTop (mkF m 157 #[.val (.ref d), .val (.int x1), .val (.int (g kp)), .unset, .val (.int (128 : Int32)), .val (.int (191 : Int32))] [(.int (4 : Int32))])) (fun t_ k_ => XS.iconst X0.here hx rfl (hb hby own_b2_d156) k_) ?_
                        refine own_st (B := s₁.setTop (mkF m 158 #[.val (.ref d), .val (.int x1), .val (.int (g kp)), .val (.int (4 : Int32)), .val (.int (128 : Int32)), .val (.int (191 : Int32))] [])) (fun t_ k_ => XS.istoreN X0.here hx rfl (hb hby own_b2_d157) rfl (l' := #[.val (.ref d), .val (.int x1), .val (.int (g kp)), .val (.int (4 : Int32)), .val (.int (128 : Int32)), .val (.int (191 : Int32))]) rfl k_) ?_
                        refine own_st (B := s₁.setTop (mkF m 182 #[.val (.ref d), .val (.int x1), .val (.int (g kp)), .val (.int (4 : Int32)), .val (.int (128 : Int32)), .val (.int (191 : Int32))] [])) (fun t_ k_ => XS.goto X0.here hx rfl (pc0 := 158) (pc' := 182) rfl (hb hby own_b2_d158) (by decide) (by decide) k_) ?_
                        exact J3  3 128 191 (own_beg3 (by omega) (if_neg (by omega)) (if_neg (by omega)))
          · have hd17 := own_nlt32 hc17
            rw [show (225 : Int32).toInt = 225 from rfl] at hd17
            refine own_st (B := s₁.setTop (mkF m 77 #[.val (.ref d), .val (.int x1), .val (.int (g kp)), .unset, .val (.int (128 : Int32)), .val (.int (191 : Int32))] [])) (fun t_ k_ => XS.icmpNo X0.here hx rfl (hb hby own_b2_d74) rfl (flt hc17).1 k_) ?_
            refine own_st (B := s₁.setTop (mkF m 78 #[.val (.ref d), .val (.int x1), .val (.int (g kp)), .unset, .val (.int (128 : Int32)), .val (.int (191 : Int32))] [(.int (g kp))])) (fun t_ k_ => XS.iloadN X0.here hx rfl (hb hby own_b2_d77) rfl k_) ?_
            refine own_st (B := s₁.setTop (mkF m 81 #[.val (.ref d), .val (.int x1), .val (.int (g kp)), .unset, .val (.int (128 : Int32)), .val (.int (191 : Int32))] [(.int (236 : Int32)), (.int (g kp))])) (fun t_ k_ => XS.sipush X0.here hx rfl (hb hby own_b2_d78) k_) ?_
            by_cases hc26 : (236 : Int32) < (g kp)
            · have hd26 := own_lt32 hc26
              rw [show (236 : Int32).toInt = 236 from rfl] at hd26
              refine own_st (B := s₁.setTop (mkF m 89 #[.val (.ref d), .val (.int x1), .val (.int (g kp)), .unset, .val (.int (128 : Int32)), .val (.int (191 : Int32))] [])) (fun t_ k_ => XS.icmpYes X0.here hx rfl (pc0 := 81) (pc' := 89) rfl (hb hby own_b2_d81) rfl (tlt hc26).2.2.1 (by decide) (by decide) k_) ?_
              refine own_st (B := s₁.setTop (mkF m 90 #[.val (.ref d), .val (.int x1), .val (.int (g kp)), .unset, .val (.int (128 : Int32)), .val (.int (191 : Int32))] [(.int (g kp))])) (fun t_ k_ => XS.iloadN X0.here hx rfl (hb hby own_b2_d89) rfl k_) ?_
              refine own_st (B := s₁.setTop (mkF m 93 #[.val (.ref d), .val (.int x1), .val (.int (g kp)), .unset, .val (.int (128 : Int32)), .val (.int (191 : Int32))] [(.int (237 : Int32)), (.int (g kp))])) (fun t_ k_ => XS.sipush X0.here hx rfl (hb hby own_b2_d90) k_) ?_
              by_cases hc27 : (g kp) = (237 : Int32)
              · have hd27 := own_eq32 hc27
                rw [show (237 : Int32).toInt = 237 from rfl] at hd27
                refine own_st (B := s₁.setTop (mkF m 96 #[.val (.ref d), .val (.int x1), .val (.int (g kp)), .unset, .val (.int (128 : Int32)), .val (.int (191 : Int32))] [])) (fun t_ k_ => XS.icmpNo X0.here hx rfl (hb hby own_b2_d93) rfl (teq hc27).2 k_) ?_
                refine own_st (B := s₁.setTop (mkF m 97 #[.val (.ref d), .val (.int x1), .val (.int (g kp)), .unset, .val (.int (128 : Int32)), .val (.int (191 : Int32))] [(.int (3 : Int32))])) (fun t_ k_ => XS.iconst X0.here hx rfl (hb hby own_b2_d96) k_) ?_
                refine own_st (B := s₁.setTop (mkF m 98 #[.val (.ref d), .val (.int x1), .val (.int (g kp)), .val (.int (3 : Int32)), .val (.int (128 : Int32)), .val (.int (191 : Int32))] [])) (fun t_ k_ => XS.istoreN X0.here hx rfl (hb hby own_b2_d97) rfl (l' := #[.val (.ref d), .val (.int x1), .val (.int (g kp)), .val (.int (3 : Int32)), .val (.int (128 : Int32)), .val (.int (191 : Int32))]) rfl k_) ?_
                refine own_st (B := s₁.setTop (mkF m 101 #[.val (.ref d), .val (.int x1), .val (.int (g kp)), .val (.int (3 : Int32)), .val (.int (128 : Int32)), .val (.int (191 : Int32))] [(.int (159 : Int32))])) (fun t_ k_ => XS.sipush X0.here hx rfl (hb hby own_b2_d98) k_) ?_
                refine own_st (B := s₁.setTop (mkF m 103 #[.val (.ref d), .val (.int x1), .val (.int (g kp)), .val (.int (3 : Int32)), .val (.int (128 : Int32)), .val (.int (159 : Int32))] [])) (fun t_ k_ => XS.istore X0.here hx rfl (hb hby own_b2_d101) rfl (l' := #[.val (.ref d), .val (.int x1), .val (.int (g kp)), .val (.int (3 : Int32)), .val (.int (128 : Int32)), .val (.int (159 : Int32))]) rfl k_) ?_
                refine own_st (B := s₁.setTop (mkF m 182 #[.val (.ref d), .val (.int x1), .val (.int (g kp)), .val (.int (3 : Int32)), .val (.int (128 : Int32)), .val (.int (159 : Int32))] [])) (fun t_ k_ => XS.goto X0.here hx rfl (pc0 := 103) (pc' := 182) rfl (hb hby own_b2_d103) (by decide) (by decide) k_) ?_
                exact J3  2 128 159 (own_beg2 (by omega) (if_neg (by omega)) (if_pos (by omega)))
              · have hd27 := own_neq32 hc27
                rw [show (237 : Int32).toInt = 237 from rfl] at hd27
                refine own_st (B := s₁.setTop (mkF m 106 #[.val (.ref d), .val (.int x1), .val (.int (g kp)), .unset, .val (.int (128 : Int32)), .val (.int (191 : Int32))] [])) (fun t_ k_ => XS.icmpYes X0.here hx rfl (pc0 := 93) (pc' := 106) rfl (hb hby own_b2_d93) rfl (feq hc27).2 (by decide) (by decide) k_) ?_
                refine own_st (B := s₁.setTop (mkF m 107 #[.val (.ref d), .val (.int x1), .val (.int (g kp)), .unset, .val (.int (128 : Int32)), .val (.int (191 : Int32))] [(.int (g kp))])) (fun t_ k_ => XS.iloadN X0.here hx rfl (hb hby own_b2_d106) rfl k_) ?_
                refine own_st (B := s₁.setTop (mkF m 110 #[.val (.ref d), .val (.int x1), .val (.int (g kp)), .unset, .val (.int (128 : Int32)), .val (.int (191 : Int32))] [(.int (238 : Int32)), (.int (g kp))])) (fun t_ k_ => XS.sipush X0.here hx rfl (hb hby own_b2_d107) k_) ?_
                by_cases hc28 : (g kp) = (238 : Int32)
                · have hd28 := own_eq32 hc28
                  rw [show (238 : Int32).toInt = 238 from rfl] at hd28
                  refine own_st (B := s₁.setTop (mkF m 120 #[.val (.ref d), .val (.int x1), .val (.int (g kp)), .unset, .val (.int (128 : Int32)), .val (.int (191 : Int32))] [])) (fun t_ k_ => XS.icmpYes X0.here hx rfl (pc0 := 110) (pc' := 120) rfl (hb hby own_b2_d110) rfl (teq hc28).1 (by decide) (by decide) k_) ?_
                  refine own_st (B := s₁.setTop (mkF m 121 #[.val (.ref d), .val (.int x1), .val (.int (g kp)), .unset, .val (.int (128 : Int32)), .val (.int (191 : Int32))] [(.int (3 : Int32))])) (fun t_ k_ => XS.iconst X0.here hx rfl (hb hby own_b2_d120) k_) ?_
                  refine own_st (B := s₁.setTop (mkF m 122 #[.val (.ref d), .val (.int x1), .val (.int (g kp)), .val (.int (3 : Int32)), .val (.int (128 : Int32)), .val (.int (191 : Int32))] [])) (fun t_ k_ => XS.istoreN X0.here hx rfl (hb hby own_b2_d121) rfl (l' := #[.val (.ref d), .val (.int x1), .val (.int (g kp)), .val (.int (3 : Int32)), .val (.int (128 : Int32)), .val (.int (191 : Int32))]) rfl k_) ?_
                  refine own_st (B := s₁.setTop (mkF m 182 #[.val (.ref d), .val (.int x1), .val (.int (g kp)), .val (.int (3 : Int32)), .val (.int (128 : Int32)), .val (.int (191 : Int32))] [])) (fun t_ k_ => XS.goto X0.here hx rfl (pc0 := 122) (pc' := 182) rfl (hb hby own_b2_d122) (by decide) (by decide) k_) ?_
                  exact J3  2 128 191 (own_beg2 (by omega) (if_neg (by omega)) (if_neg (by omega)))
                · have hd28 := own_neq32 hc28
                  rw [show (238 : Int32).toInt = 238 from rfl] at hd28
                  refine own_st (B := s₁.setTop (mkF m 113 #[.val (.ref d), .val (.int x1), .val (.int (g kp)), .unset, .val (.int (128 : Int32)), .val (.int (191 : Int32))] [])) (fun t_ k_ => XS.icmpNo X0.here hx rfl (hb hby own_b2_d110) rfl (feq hc28).1 k_) ?_
                  refine own_st (B := s₁.setTop (mkF m 114 #[.val (.ref d), .val (.int x1), .val (.int (g kp)), .unset, .val (.int (128 : Int32)), .val (.int (191 : Int32))] [(.int (g kp))])) (fun t_ k_ => XS.iloadN X0.here hx rfl (hb hby own_b2_d113) rfl k_) ?_
                  refine own_st (B := s₁.setTop (mkF m 117 #[.val (.ref d), .val (.int x1), .val (.int (g kp)), .unset, .val (.int (128 : Int32)), .val (.int (191 : Int32))] [(.int (239 : Int32)), (.int (g kp))])) (fun t_ k_ => XS.sipush X0.here hx rfl (hb hby own_b2_d114) k_) ?_
                  by_cases hc29 : (g kp) = (239 : Int32)
                  · have hd29 := own_eq32 hc29
                    rw [show (239 : Int32).toInt = 239 from rfl] at hd29
                    refine own_st (B := s₁.setTop (mkF m 120 #[.val (.ref d), .val (.int x1), .val (.int (g kp)), .unset, .val (.int (128 : Int32)), .val (.int (191 : Int32))] [])) (fun t_ k_ => XS.icmpNo X0.here hx rfl (hb hby own_b2_d117) rfl (teq hc29).2 k_) ?_
                    refine own_st (B := s₁.setTop (mkF m 121 #[.val (.ref d), .val (.int x1), .val (.int (g kp)), .unset, .val (.int (128 : Int32)), .val (.int (191 : Int32))] [(.int (3 : Int32))])) (fun t_ k_ => XS.iconst X0.here hx rfl (hb hby own_b2_d120) k_) ?_
                    refine own_st (B := s₁.setTop (mkF m 122 #[.val (.ref d), .val (.int x1), .val (.int (g kp)), .val (.int (3 : Int32)), .val (.int (128 : Int32)), .val (.int (191 : Int32))] [])) (fun t_ k_ => XS.istoreN X0.here hx rfl (hb hby own_b2_d121) rfl (l' := #[.val (.ref d), .val (.int x1), .val (.int (g kp)), .val (.int (3 : Int32)), .val (.int (128 : Int32)), .val (.int (191 : Int32))]) rfl k_) ?_
                    refine own_st (B := s₁.setTop (mkF m 182 #[.val (.ref d), .val (.int x1), .val (.int (g kp)), .val (.int (3 : Int32)), .val (.int (128 : Int32)), .val (.int (191 : Int32))] [])) (fun t_ k_ => XS.goto X0.here hx rfl (pc0 := 122) (pc' := 182) rfl (hb hby own_b2_d122) (by decide) (by decide) k_) ?_
                    exact J3  2 128 191 (own_beg2 (by omega) (if_neg (by omega)) (if_neg (by omega)))
                  · have hd29 := own_neq32 hc29
                    rw [show (239 : Int32).toInt = 239 from rfl] at hd29
                    refine own_st (B := s₁.setTop (mkF m 125 #[.val (.ref d), .val (.int x1), .val (.int (g kp)), .unset, .val (.int (128 : Int32)), .val (.int (191 : Int32))] [])) (fun t_ k_ => XS.icmpYes X0.here hx rfl (pc0 := 117) (pc' := 125) rfl (hb hby own_b2_d117) rfl (feq hc29).2 (by decide) (by decide) k_) ?_
                    refine own_st (B := s₁.setTop (mkF m 126 #[.val (.ref d), .val (.int x1), .val (.int (g kp)), .unset, .val (.int (128 : Int32)), .val (.int (191 : Int32))] [(.int (g kp))])) (fun t_ k_ => XS.iloadN X0.here hx rfl (hb hby own_b2_d125) rfl k_) ?_
                    refine own_st (B := s₁.setTop (mkF m 129 #[.val (.ref d), .val (.int x1), .val (.int (g kp)), .unset, .val (.int (128 : Int32)), .val (.int (191 : Int32))] [(.int (240 : Int32)), (.int (g kp))])) (fun t_ k_ => XS.sipush X0.here hx rfl (hb hby own_b2_d126) k_) ?_
                    by_cases hc30 : (g kp) = (240 : Int32)
                    · have hd30 := own_eq32 hc30
                      rw [show (240 : Int32).toInt = 240 from rfl] at hd30
                      refine own_st (B := s₁.setTop (mkF m 132 #[.val (.ref d), .val (.int x1), .val (.int (g kp)), .unset, .val (.int (128 : Int32)), .val (.int (191 : Int32))] [])) (fun t_ k_ => XS.icmpNo X0.here hx rfl (hb hby own_b2_d129) rfl (teq hc30).2 k_) ?_
                      refine own_st (B := s₁.setTop (mkF m 133 #[.val (.ref d), .val (.int x1), .val (.int (g kp)), .unset, .val (.int (128 : Int32)), .val (.int (191 : Int32))] [(.int (4 : Int32))])) (fun t_ k_ => XS.iconst X0.here hx rfl (hb hby own_b2_d132) k_) ?_
                      refine own_st (B := s₁.setTop (mkF m 134 #[.val (.ref d), .val (.int x1), .val (.int (g kp)), .val (.int (4 : Int32)), .val (.int (128 : Int32)), .val (.int (191 : Int32))] [])) (fun t_ k_ => XS.istoreN X0.here hx rfl (hb hby own_b2_d133) rfl (l' := #[.val (.ref d), .val (.int x1), .val (.int (g kp)), .val (.int (4 : Int32)), .val (.int (128 : Int32)), .val (.int (191 : Int32))]) rfl k_) ?_
                      refine own_st (B := s₁.setTop (mkF m 137 #[.val (.ref d), .val (.int x1), .val (.int (g kp)), .val (.int (4 : Int32)), .val (.int (128 : Int32)), .val (.int (191 : Int32))] [(.int (144 : Int32))])) (fun t_ k_ => XS.sipush X0.here hx rfl (hb hby own_b2_d134) k_) ?_
                      refine own_st (B := s₁.setTop (mkF m 139 #[.val (.ref d), .val (.int x1), .val (.int (g kp)), .val (.int (4 : Int32)), .val (.int (144 : Int32)), .val (.int (191 : Int32))] [])) (fun t_ k_ => XS.istore X0.here hx rfl (hb hby own_b2_d137) rfl (l' := #[.val (.ref d), .val (.int x1), .val (.int (g kp)), .val (.int (4 : Int32)), .val (.int (144 : Int32)), .val (.int (191 : Int32))]) rfl k_) ?_
                      refine own_st (B := s₁.setTop (mkF m 182 #[.val (.ref d), .val (.int x1), .val (.int (g kp)), .val (.int (4 : Int32)), .val (.int (144 : Int32)), .val (.int (191 : Int32))] [])) (fun t_ k_ => XS.goto X0.here hx rfl (pc0 := 139) (pc' := 182) rfl (hb hby own_b2_d139) (by decide) (by decide) k_) ?_
                      exact J3  3 144 191 (own_beg3 (by omega) (if_pos (by omega)) (if_neg (by omega)))
                    · have hd30 := own_neq32 hc30
                      rw [show (240 : Int32).toInt = 240 from rfl] at hd30
                      refine own_st (B := s₁.setTop (mkF m 142 #[.val (.ref d), .val (.int x1), .val (.int (g kp)), .unset, .val (.int (128 : Int32)), .val (.int (191 : Int32))] [])) (fun t_ k_ => XS.icmpYes X0.here hx rfl (pc0 := 129) (pc' := 142) rfl (hb hby own_b2_d129) rfl (feq hc30).2 (by decide) (by decide) k_) ?_
                      refine own_st (B := s₁.setTop (mkF m 143 #[.val (.ref d), .val (.int x1), .val (.int (g kp)), .unset, .val (.int (128 : Int32)), .val (.int (191 : Int32))] [(.int (g kp))])) (fun t_ k_ => XS.iloadN X0.here hx rfl (hb hby own_b2_d142) rfl k_) ?_
                      refine own_st (B := s₁.setTop (mkF m 146 #[.val (.ref d), .val (.int x1), .val (.int (g kp)), .unset, .val (.int (128 : Int32)), .val (.int (191 : Int32))] [(.int (241 : Int32)), (.int (g kp))])) (fun t_ k_ => XS.sipush X0.here hx rfl (hb hby own_b2_d143) k_) ?_
                      by_cases hc31 : (g kp) < (241 : Int32)
                      · have hd31 := own_lt32 hc31
                        rw [show (241 : Int32).toInt = 241 from rfl] at hd31
                        refine own_st (B := s₁.setTop (mkF m 161 #[.val (.ref d), .val (.int x1), .val (.int (g kp)), .unset, .val (.int (128 : Int32)), .val (.int (191 : Int32))] [])) (fun t_ k_ => XS.icmpYes X0.here hx rfl (pc0 := 146) (pc' := 161) rfl (hb hby own_b2_d146) rfl (tlt hc31).1 (by decide) (by decide) k_) ?_
                        refine own_st (B := s₁.setTop (mkF m 162 #[.val (.ref d), .val (.int x1), .val (.int (g kp)), .unset, .val (.int (128 : Int32)), .val (.int (191 : Int32))] [(.int (g kp))])) (fun t_ k_ => XS.iloadN X0.here hx rfl (hb hby own_b2_d161) rfl k_) ?_
                        refine own_st (B := s₁.setTop (mkF m 165 #[.val (.ref d), .val (.int x1), .val (.int (g kp)), .unset, .val (.int (128 : Int32)), .val (.int (191 : Int32))] [(.int (244 : Int32)), (.int (g kp))])) (fun t_ k_ => XS.sipush X0.here hx rfl (hb hby own_b2_d162) k_) ?_
                        by_cases hc32 : (g kp) = (244 : Int32)
                        · have hd32 := own_eq32 hc32
                          rw [show (244 : Int32).toInt = 244 from rfl] at hd32
                          refine own_st (B := s₁.setTop (mkF m 168 #[.val (.ref d), .val (.int x1), .val (.int (g kp)), .unset, .val (.int (128 : Int32)), .val (.int (191 : Int32))] [])) (fun t_ k_ => XS.icmpNo X0.here hx rfl (hb hby own_b2_d165) rfl (teq hc32).2 k_) ?_
                          refine own_st (B := s₁.setTop (mkF m 169 #[.val (.ref d), .val (.int x1), .val (.int (g kp)), .unset, .val (.int (128 : Int32)), .val (.int (191 : Int32))] [(.int (4 : Int32))])) (fun t_ k_ => XS.iconst X0.here hx rfl (hb hby own_b2_d168) k_) ?_
                          refine own_st (B := s₁.setTop (mkF m 170 #[.val (.ref d), .val (.int x1), .val (.int (g kp)), .val (.int (4 : Int32)), .val (.int (128 : Int32)), .val (.int (191 : Int32))] [])) (fun t_ k_ => XS.istoreN X0.here hx rfl (hb hby own_b2_d169) rfl (l' := #[.val (.ref d), .val (.int x1), .val (.int (g kp)), .val (.int (4 : Int32)), .val (.int (128 : Int32)), .val (.int (191 : Int32))]) rfl k_) ?_
                          refine own_st (B := s₁.setTop (mkF m 173 #[.val (.ref d), .val (.int x1), .val (.int (g kp)), .val (.int (4 : Int32)), .val (.int (128 : Int32)), .val (.int (191 : Int32))] [(.int (143 : Int32))])) (fun t_ k_ => XS.sipush X0.here hx rfl (hb hby own_b2_d170) k_) ?_
                          refine own_st (B := s₁.setTop (mkF m 175 #[.val (.ref d), .val (.int x1), .val (.int (g kp)), .val (.int (4 : Int32)), .val (.int (128 : Int32)), .val (.int (143 : Int32))] [])) (fun t_ k_ => XS.istore X0.here hx rfl (hb hby own_b2_d173) rfl (l' := #[.val (.ref d), .val (.int x1), .val (.int (g kp)), .val (.int (4 : Int32)), .val (.int (128 : Int32)), .val (.int (143 : Int32))]) rfl k_) ?_
                          refine own_st (B := s₁.setTop (mkF m 182 #[.val (.ref d), .val (.int x1), .val (.int (g kp)), .val (.int (4 : Int32)), .val (.int (128 : Int32)), .val (.int (143 : Int32))] [])) (fun t_ k_ => XS.goto X0.here hx rfl (pc0 := 175) (pc' := 182) rfl (hb hby own_b2_d175) (by decide) (by decide) k_) ?_
                          exact J3  3 128 143 (own_beg3 (by omega) (if_neg (by omega)) (if_pos (by omega)))
                        · have hd32 := own_neq32 hc32
                          rw [show (244 : Int32).toInt = 244 from rfl] at hd32
                          refine own_st (B := s₁.setTop (mkF m 178 #[.val (.ref d), .val (.int x1), .val (.int (g kp)), .unset, .val (.int (128 : Int32)), .val (.int (191 : Int32))] [])) (fun t_ k_ => XS.icmpYes X0.here hx rfl (pc0 := 165) (pc' := 178) rfl (hb hby own_b2_d165) rfl (feq hc32).2 (by decide) (by decide) k_) ?_
                          refine own_st (B := s₁.setTop (mkF m 179 #[.val (.ref d), .val (.int x1), .val (.int (g kp)), .unset, .val (.int (128 : Int32)), .val (.int (191 : Int32))] [(.int (-1 : Int32))])) (fun t_ k_ => XS.iconst X0.here hx rfl (hb hby own_b2_d178) k_) ?_
                          refine own_st (B := s₁.setTop (mkF m 180 #[.val (.ref d), .val (.int x1), .val (.int (g kp)), .unset, .val (.int (128 : Int32)), .val (.int (191 : Int32))] [(.int x1), (.int (-1 : Int32))])) (fun t_ k_ => XS.iloadN X0.here hx rfl (hb hby own_b2_d179) rfl k_) ?_
                          refine own_st (B := s₁.setTop (mkF m 181 #[.val (.ref d), .val (.int x1), .val (.int (g kp)), .unset, .val (.int (128 : Int32)), .val (.int (191 : Int32))] [(.int ((-1 : Int32) - x1))])) (fun t_ k_ => XS.isub X0.here hx rfl (hb hby own_b2_d180) rfl k_) ?_
                          refine own_retI X0 hx Bd.returns hlk (hb hby own_b2_d181) (by decide) (by decide) ?_
                          show Q2 Z d x1 kp g b h0 n0 _ s₁.heap _
                          rw [e0]
                          exact ⟨_, rfl, (own_mi hpi hp8 (-1 : Int32) (by decide)).trans (own_refC (by omega) (by omega) (own_begN (by omega) (by omega) (by omega))).symm, N0, rfl⟩
                      · have hd31 := own_nlt32 hc31
                        rw [show (241 : Int32).toInt = 241 from rfl] at hd31
                        refine own_st (B := s₁.setTop (mkF m 149 #[.val (.ref d), .val (.int x1), .val (.int (g kp)), .unset, .val (.int (128 : Int32)), .val (.int (191 : Int32))] [])) (fun t_ k_ => XS.icmpNo X0.here hx rfl (hb hby own_b2_d146) rfl (flt hc31).1 k_) ?_
                        refine own_st (B := s₁.setTop (mkF m 150 #[.val (.ref d), .val (.int x1), .val (.int (g kp)), .unset, .val (.int (128 : Int32)), .val (.int (191 : Int32))] [(.int (g kp))])) (fun t_ k_ => XS.iloadN X0.here hx rfl (hb hby own_b2_d149) rfl k_) ?_
                        refine own_st (B := s₁.setTop (mkF m 153 #[.val (.ref d), .val (.int x1), .val (.int (g kp)), .unset, .val (.int (128 : Int32)), .val (.int (191 : Int32))] [(.int (243 : Int32)), (.int (g kp))])) (fun t_ k_ => XS.sipush X0.here hx rfl (hb hby own_b2_d150) k_) ?_
                        by_cases hc33 : (243 : Int32) < (g kp)
                        · have hd33 := own_lt32 hc33
                          rw [show (243 : Int32).toInt = 243 from rfl] at hd33
                          refine own_st (B := s₁.setTop (mkF m 161 #[.val (.ref d), .val (.int x1), .val (.int (g kp)), .unset, .val (.int (128 : Int32)), .val (.int (191 : Int32))] [])) (fun t_ k_ => XS.icmpYes X0.here hx rfl (pc0 := 153) (pc' := 161) rfl (hb hby own_b2_d153) rfl (tlt hc33).2.2.1 (by decide) (by decide) k_) ?_
                          refine own_st (B := s₁.setTop (mkF m 162 #[.val (.ref d), .val (.int x1), .val (.int (g kp)), .unset, .val (.int (128 : Int32)), .val (.int (191 : Int32))] [(.int (g kp))])) (fun t_ k_ => XS.iloadN X0.here hx rfl (hb hby own_b2_d161) rfl k_) ?_
                          refine own_st (B := s₁.setTop (mkF m 165 #[.val (.ref d), .val (.int x1), .val (.int (g kp)), .unset, .val (.int (128 : Int32)), .val (.int (191 : Int32))] [(.int (244 : Int32)), (.int (g kp))])) (fun t_ k_ => XS.sipush X0.here hx rfl (hb hby own_b2_d162) k_) ?_
                          by_cases hc34 : (g kp) = (244 : Int32)
                          · have hd34 := own_eq32 hc34
                            rw [show (244 : Int32).toInt = 244 from rfl] at hd34
                            refine own_st (B := s₁.setTop (mkF m 168 #[.val (.ref d), .val (.int x1), .val (.int (g kp)), .unset, .val (.int (128 : Int32)), .val (.int (191 : Int32))] [])) (fun t_ k_ => XS.icmpNo X0.here hx rfl (hb hby own_b2_d165) rfl (teq hc34).2 k_) ?_
                            refine own_st (B := s₁.setTop (mkF m 169 #[.val (.ref d), .val (.int x1), .val (.int (g kp)), .unset, .val (.int (128 : Int32)), .val (.int (191 : Int32))] [(.int (4 : Int32))])) (fun t_ k_ => XS.iconst X0.here hx rfl (hb hby own_b2_d168) k_) ?_
                            refine own_st (B := s₁.setTop (mkF m 170 #[.val (.ref d), .val (.int x1), .val (.int (g kp)), .val (.int (4 : Int32)), .val (.int (128 : Int32)), .val (.int (191 : Int32))] [])) (fun t_ k_ => XS.istoreN X0.here hx rfl (hb hby own_b2_d169) rfl (l' := #[.val (.ref d), .val (.int x1), .val (.int (g kp)), .val (.int (4 : Int32)), .val (.int (128 : Int32)), .val (.int (191 : Int32))]) rfl k_) ?_
                            refine own_st (B := s₁.setTop (mkF m 173 #[.val (.ref d), .val (.int x1), .val (.int (g kp)), .val (.int (4 : Int32)), .val (.int (128 : Int32)), .val (.int (191 : Int32))] [(.int (143 : Int32))])) (fun t_ k_ => XS.sipush X0.here hx rfl (hb hby own_b2_d170) k_) ?_
                            refine own_st (B := s₁.setTop (mkF m 175 #[.val (.ref d), .val (.int x1), .val (.int (g kp)), .val (.int (4 : Int32)), .val (.int (128 : Int32)), .val (.int (143 : Int32))] [])) (fun t_ k_ => XS.istore X0.here hx rfl (hb hby own_b2_d173) rfl (l' := #[.val (.ref d), .val (.int x1), .val (.int (g kp)), .val (.int (4 : Int32)), .val (.int (128 : Int32)), .val (.int (143 : Int32))]) rfl k_) ?_
                            refine own_st (B := s₁.setTop (mkF m 182 #[.val (.ref d), .val (.int x1), .val (.int (g kp)), .val (.int (4 : Int32)), .val (.int (128 : Int32)), .val (.int (143 : Int32))] [])) (fun t_ k_ => XS.goto X0.here hx rfl (pc0 := 175) (pc' := 182) rfl (hb hby own_b2_d175) (by decide) (by decide) k_) ?_
                            exact J3  3 128 143 (own_beg3 (by omega) (if_neg (by omega)) (if_pos (by omega)))
                          · have hd34 := own_neq32 hc34
                            rw [show (244 : Int32).toInt = 244 from rfl] at hd34
                            refine own_st (B := s₁.setTop (mkF m 178 #[.val (.ref d), .val (.int x1), .val (.int (g kp)), .unset, .val (.int (128 : Int32)), .val (.int (191 : Int32))] [])) (fun t_ k_ => XS.icmpYes X0.here hx rfl (pc0 := 165) (pc' := 178) rfl (hb hby own_b2_d165) rfl (feq hc34).2 (by decide) (by decide) k_) ?_
                            refine own_st (B := s₁.setTop (mkF m 179 #[.val (.ref d), .val (.int x1), .val (.int (g kp)), .unset, .val (.int (128 : Int32)), .val (.int (191 : Int32))] [(.int (-1 : Int32))])) (fun t_ k_ => XS.iconst X0.here hx rfl (hb hby own_b2_d178) k_) ?_
                            refine own_st (B := s₁.setTop (mkF m 180 #[.val (.ref d), .val (.int x1), .val (.int (g kp)), .unset, .val (.int (128 : Int32)), .val (.int (191 : Int32))] [(.int x1), (.int (-1 : Int32))])) (fun t_ k_ => XS.iloadN X0.here hx rfl (hb hby own_b2_d179) rfl k_) ?_
                            refine own_st (B := s₁.setTop (mkF m 181 #[.val (.ref d), .val (.int x1), .val (.int (g kp)), .unset, .val (.int (128 : Int32)), .val (.int (191 : Int32))] [(.int ((-1 : Int32) - x1))])) (fun t_ k_ => XS.isub X0.here hx rfl (hb hby own_b2_d180) rfl k_) ?_
                            refine own_retI X0 hx Bd.returns hlk (hb hby own_b2_d181) (by decide) (by decide) ?_
                            show Q2 Z d x1 kp g b h0 n0 _ s₁.heap _
                            rw [e0]
                            exact ⟨_, rfl, (own_mi hpi hp8 (-1 : Int32) (by decide)).trans (own_refC (by omega) (by omega) (own_begN (by omega) (by omega) (by omega))).symm, N0, rfl⟩
                        · have hd33 := own_nlt32 hc33
                          rw [show (243 : Int32).toInt = 243 from rfl] at hd33
                          refine own_st (B := s₁.setTop (mkF m 156 #[.val (.ref d), .val (.int x1), .val (.int (g kp)), .unset, .val (.int (128 : Int32)), .val (.int (191 : Int32))] [])) (fun t_ k_ => XS.icmpNo X0.here hx rfl (hb hby own_b2_d153) rfl (flt hc33).2.2.1 k_) ?_
                          refine own_st (B := s₁.setTop (mkF m 157 #[.val (.ref d), .val (.int x1), .val (.int (g kp)), .unset, .val (.int (128 : Int32)), .val (.int (191 : Int32))] [(.int (4 : Int32))])) (fun t_ k_ => XS.iconst X0.here hx rfl (hb hby own_b2_d156) k_) ?_
                          refine own_st (B := s₁.setTop (mkF m 158 #[.val (.ref d), .val (.int x1), .val (.int (g kp)), .val (.int (4 : Int32)), .val (.int (128 : Int32)), .val (.int (191 : Int32))] [])) (fun t_ k_ => XS.istoreN X0.here hx rfl (hb hby own_b2_d157) rfl (l' := #[.val (.ref d), .val (.int x1), .val (.int (g kp)), .val (.int (4 : Int32)), .val (.int (128 : Int32)), .val (.int (191 : Int32))]) rfl k_) ?_
                          refine own_st (B := s₁.setTop (mkF m 182 #[.val (.ref d), .val (.int x1), .val (.int (g kp)), .val (.int (4 : Int32)), .val (.int (128 : Int32)), .val (.int (191 : Int32))] [])) (fun t_ k_ => XS.goto X0.here hx rfl (pc0 := 158) (pc' := 182) rfl (hb hby own_b2_d158) (by decide) (by decide) k_) ?_
                          exact J3  3 128 191 (own_beg3 (by omega) (if_neg (by omega)) (if_neg (by omega)))
            · have hd26 := own_nlt32 hc26
              rw [show (236 : Int32).toInt = 236 from rfl] at hd26
              refine own_st (B := s₁.setTop (mkF m 84 #[.val (.ref d), .val (.int x1), .val (.int (g kp)), .unset, .val (.int (128 : Int32)), .val (.int (191 : Int32))] [])) (fun t_ k_ => XS.icmpNo X0.here hx rfl (hb hby own_b2_d81) rfl (flt hc26).2.2.1 k_) ?_
              refine own_st (B := s₁.setTop (mkF m 85 #[.val (.ref d), .val (.int x1), .val (.int (g kp)), .unset, .val (.int (128 : Int32)), .val (.int (191 : Int32))] [(.int (3 : Int32))])) (fun t_ k_ => XS.iconst X0.here hx rfl (hb hby own_b2_d84) k_) ?_
              refine own_st (B := s₁.setTop (mkF m 86 #[.val (.ref d), .val (.int x1), .val (.int (g kp)), .val (.int (3 : Int32)), .val (.int (128 : Int32)), .val (.int (191 : Int32))] [])) (fun t_ k_ => XS.istoreN X0.here hx rfl (hb hby own_b2_d85) rfl (l' := #[.val (.ref d), .val (.int x1), .val (.int (g kp)), .val (.int (3 : Int32)), .val (.int (128 : Int32)), .val (.int (191 : Int32))]) rfl k_) ?_
              refine own_st (B := s₁.setTop (mkF m 182 #[.val (.ref d), .val (.int x1), .val (.int (g kp)), .val (.int (3 : Int32)), .val (.int (128 : Int32)), .val (.int (191 : Int32))] [])) (fun t_ k_ => XS.goto X0.here hx rfl (pc0 := 86) (pc' := 182) rfl (hb hby own_b2_d86) (by decide) (by decide) k_) ?_
              exact J3  2 128 191 (own_beg2 (by omega) (if_neg (by omega)) (if_neg (by omega)))
      · have hd15 := own_nlt32 hc15
        rw [show (194 : Int32).toInt = 194 from rfl] at hd15
        refine own_st (B := s₁.setTop (mkF m 41 #[.val (.ref d), .val (.int x1), .val (.int (g kp)), .unset, .val (.int (128 : Int32)), .val (.int (191 : Int32))] [])) (fun t_ k_ => XS.icmpNo X0.here hx rfl (hb hby own_b2_d38) rfl (flt hc15).1 k_) ?_
        refine own_st (B := s₁.setTop (mkF m 42 #[.val (.ref d), .val (.int x1), .val (.int (g kp)), .unset, .val (.int (128 : Int32)), .val (.int (191 : Int32))] [(.int (g kp))])) (fun t_ k_ => XS.iloadN X0.here hx rfl (hb hby own_b2_d41) rfl k_) ?_
        refine own_st (B := s₁.setTop (mkF m 45 #[.val (.ref d), .val (.int x1), .val (.int (g kp)), .unset, .val (.int (128 : Int32)), .val (.int (191 : Int32))] [(.int (223 : Int32)), (.int (g kp))])) (fun t_ k_ => XS.sipush X0.here hx rfl (hb hby own_b2_d42) k_) ?_
        by_cases hc35 : (223 : Int32) < (g kp)
        · have hd35 := own_lt32 hc35
          rw [show (223 : Int32).toInt = 223 from rfl] at hd35
          refine own_st (B := s₁.setTop (mkF m 53 #[.val (.ref d), .val (.int x1), .val (.int (g kp)), .unset, .val (.int (128 : Int32)), .val (.int (191 : Int32))] [])) (fun t_ k_ => XS.icmpYes X0.here hx rfl (pc0 := 45) (pc' := 53) rfl (hb hby own_b2_d45) rfl (tlt hc35).2.2.1 (by decide) (by decide) k_) ?_
          refine own_st (B := s₁.setTop (mkF m 54 #[.val (.ref d), .val (.int x1), .val (.int (g kp)), .unset, .val (.int (128 : Int32)), .val (.int (191 : Int32))] [(.int (g kp))])) (fun t_ k_ => XS.iloadN X0.here hx rfl (hb hby own_b2_d53) rfl k_) ?_
          refine own_st (B := s₁.setTop (mkF m 57 #[.val (.ref d), .val (.int x1), .val (.int (g kp)), .unset, .val (.int (128 : Int32)), .val (.int (191 : Int32))] [(.int (224 : Int32)), (.int (g kp))])) (fun t_ k_ => XS.sipush X0.here hx rfl (hb hby own_b2_d54) k_) ?_
          by_cases hc36 : (g kp) = (224 : Int32)
          · have hd36 := own_eq32 hc36
            rw [show (224 : Int32).toInt = 224 from rfl] at hd36
            refine own_st (B := s₁.setTop (mkF m 60 #[.val (.ref d), .val (.int x1), .val (.int (g kp)), .unset, .val (.int (128 : Int32)), .val (.int (191 : Int32))] [])) (fun t_ k_ => XS.icmpNo X0.here hx rfl (hb hby own_b2_d57) rfl (teq hc36).2 k_) ?_
            refine own_st (B := s₁.setTop (mkF m 61 #[.val (.ref d), .val (.int x1), .val (.int (g kp)), .unset, .val (.int (128 : Int32)), .val (.int (191 : Int32))] [(.int (3 : Int32))])) (fun t_ k_ => XS.iconst X0.here hx rfl (hb hby own_b2_d60) k_) ?_
            refine own_st (B := s₁.setTop (mkF m 62 #[.val (.ref d), .val (.int x1), .val (.int (g kp)), .val (.int (3 : Int32)), .val (.int (128 : Int32)), .val (.int (191 : Int32))] [])) (fun t_ k_ => XS.istoreN X0.here hx rfl (hb hby own_b2_d61) rfl (l' := #[.val (.ref d), .val (.int x1), .val (.int (g kp)), .val (.int (3 : Int32)), .val (.int (128 : Int32)), .val (.int (191 : Int32))]) rfl k_) ?_
            refine own_st (B := s₁.setTop (mkF m 65 #[.val (.ref d), .val (.int x1), .val (.int (g kp)), .val (.int (3 : Int32)), .val (.int (128 : Int32)), .val (.int (191 : Int32))] [(.int (160 : Int32))])) (fun t_ k_ => XS.sipush X0.here hx rfl (hb hby own_b2_d62) k_) ?_
            refine own_st (B := s₁.setTop (mkF m 67 #[.val (.ref d), .val (.int x1), .val (.int (g kp)), .val (.int (3 : Int32)), .val (.int (160 : Int32)), .val (.int (191 : Int32))] [])) (fun t_ k_ => XS.istore X0.here hx rfl (hb hby own_b2_d65) rfl (l' := #[.val (.ref d), .val (.int x1), .val (.int (g kp)), .val (.int (3 : Int32)), .val (.int (160 : Int32)), .val (.int (191 : Int32))]) rfl k_) ?_
            refine own_st (B := s₁.setTop (mkF m 182 #[.val (.ref d), .val (.int x1), .val (.int (g kp)), .val (.int (3 : Int32)), .val (.int (160 : Int32)), .val (.int (191 : Int32))] [])) (fun t_ k_ => XS.goto X0.here hx rfl (pc0 := 67) (pc' := 182) rfl (hb hby own_b2_d67) (by decide) (by decide) k_) ?_
            exact J3  2 160 191 (own_beg2 (by omega) (if_pos (by omega)) (if_neg (by omega)))
          · have hd36 := own_neq32 hc36
            rw [show (224 : Int32).toInt = 224 from rfl] at hd36
            refine own_st (B := s₁.setTop (mkF m 70 #[.val (.ref d), .val (.int x1), .val (.int (g kp)), .unset, .val (.int (128 : Int32)), .val (.int (191 : Int32))] [])) (fun t_ k_ => XS.icmpYes X0.here hx rfl (pc0 := 57) (pc' := 70) rfl (hb hby own_b2_d57) rfl (feq hc36).2 (by decide) (by decide) k_) ?_
            refine own_st (B := s₁.setTop (mkF m 71 #[.val (.ref d), .val (.int x1), .val (.int (g kp)), .unset, .val (.int (128 : Int32)), .val (.int (191 : Int32))] [(.int (g kp))])) (fun t_ k_ => XS.iloadN X0.here hx rfl (hb hby own_b2_d70) rfl k_) ?_
            refine own_st (B := s₁.setTop (mkF m 74 #[.val (.ref d), .val (.int x1), .val (.int (g kp)), .unset, .val (.int (128 : Int32)), .val (.int (191 : Int32))] [(.int (225 : Int32)), (.int (g kp))])) (fun t_ k_ => XS.sipush X0.here hx rfl (hb hby own_b2_d71) k_) ?_
            by_cases hc37 : (g kp) < (225 : Int32)
            · have hd37 := own_lt32 hc37
              rw [show (225 : Int32).toInt = 225 from rfl] at hd37
              refine own_st (B := s₁.setTop (mkF m 89 #[.val (.ref d), .val (.int x1), .val (.int (g kp)), .unset, .val (.int (128 : Int32)), .val (.int (191 : Int32))] [])) (fun t_ k_ => XS.icmpYes X0.here hx rfl (pc0 := 74) (pc' := 89) rfl (hb hby own_b2_d74) rfl (tlt hc37).1 (by decide) (by decide) k_) ?_
              refine own_st (B := s₁.setTop (mkF m 90 #[.val (.ref d), .val (.int x1), .val (.int (g kp)), .unset, .val (.int (128 : Int32)), .val (.int (191 : Int32))] [(.int (g kp))])) (fun t_ k_ => XS.iloadN X0.here hx rfl (hb hby own_b2_d89) rfl k_) ?_
              refine own_st (B := s₁.setTop (mkF m 93 #[.val (.ref d), .val (.int x1), .val (.int (g kp)), .unset, .val (.int (128 : Int32)), .val (.int (191 : Int32))] [(.int (237 : Int32)), (.int (g kp))])) (fun t_ k_ => XS.sipush X0.here hx rfl (hb hby own_b2_d90) k_) ?_
              by_cases hc38 : (g kp) = (237 : Int32)
              · have hd38 := own_eq32 hc38
                rw [show (237 : Int32).toInt = 237 from rfl] at hd38
                refine own_st (B := s₁.setTop (mkF m 96 #[.val (.ref d), .val (.int x1), .val (.int (g kp)), .unset, .val (.int (128 : Int32)), .val (.int (191 : Int32))] [])) (fun t_ k_ => XS.icmpNo X0.here hx rfl (hb hby own_b2_d93) rfl (teq hc38).2 k_) ?_
                refine own_st (B := s₁.setTop (mkF m 97 #[.val (.ref d), .val (.int x1), .val (.int (g kp)), .unset, .val (.int (128 : Int32)), .val (.int (191 : Int32))] [(.int (3 : Int32))])) (fun t_ k_ => XS.iconst X0.here hx rfl (hb hby own_b2_d96) k_) ?_
                refine own_st (B := s₁.setTop (mkF m 98 #[.val (.ref d), .val (.int x1), .val (.int (g kp)), .val (.int (3 : Int32)), .val (.int (128 : Int32)), .val (.int (191 : Int32))] [])) (fun t_ k_ => XS.istoreN X0.here hx rfl (hb hby own_b2_d97) rfl (l' := #[.val (.ref d), .val (.int x1), .val (.int (g kp)), .val (.int (3 : Int32)), .val (.int (128 : Int32)), .val (.int (191 : Int32))]) rfl k_) ?_
                refine own_st (B := s₁.setTop (mkF m 101 #[.val (.ref d), .val (.int x1), .val (.int (g kp)), .val (.int (3 : Int32)), .val (.int (128 : Int32)), .val (.int (191 : Int32))] [(.int (159 : Int32))])) (fun t_ k_ => XS.sipush X0.here hx rfl (hb hby own_b2_d98) k_) ?_
                refine own_st (B := s₁.setTop (mkF m 103 #[.val (.ref d), .val (.int x1), .val (.int (g kp)), .val (.int (3 : Int32)), .val (.int (128 : Int32)), .val (.int (159 : Int32))] [])) (fun t_ k_ => XS.istore X0.here hx rfl (hb hby own_b2_d101) rfl (l' := #[.val (.ref d), .val (.int x1), .val (.int (g kp)), .val (.int (3 : Int32)), .val (.int (128 : Int32)), .val (.int (159 : Int32))]) rfl k_) ?_
                refine own_st (B := s₁.setTop (mkF m 182 #[.val (.ref d), .val (.int x1), .val (.int (g kp)), .val (.int (3 : Int32)), .val (.int (128 : Int32)), .val (.int (159 : Int32))] [])) (fun t_ k_ => XS.goto X0.here hx rfl (pc0 := 103) (pc' := 182) rfl (hb hby own_b2_d103) (by decide) (by decide) k_) ?_
                exact J3  2 128 159 (own_beg2 (by omega) (if_neg (by omega)) (if_pos (by omega)))
              · have hd38 := own_neq32 hc38
                rw [show (237 : Int32).toInt = 237 from rfl] at hd38
                refine own_st (B := s₁.setTop (mkF m 106 #[.val (.ref d), .val (.int x1), .val (.int (g kp)), .unset, .val (.int (128 : Int32)), .val (.int (191 : Int32))] [])) (fun t_ k_ => XS.icmpYes X0.here hx rfl (pc0 := 93) (pc' := 106) rfl (hb hby own_b2_d93) rfl (feq hc38).2 (by decide) (by decide) k_) ?_
                refine own_st (B := s₁.setTop (mkF m 107 #[.val (.ref d), .val (.int x1), .val (.int (g kp)), .unset, .val (.int (128 : Int32)), .val (.int (191 : Int32))] [(.int (g kp))])) (fun t_ k_ => XS.iloadN X0.here hx rfl (hb hby own_b2_d106) rfl k_) ?_
                refine own_st (B := s₁.setTop (mkF m 110 #[.val (.ref d), .val (.int x1), .val (.int (g kp)), .unset, .val (.int (128 : Int32)), .val (.int (191 : Int32))] [(.int (238 : Int32)), (.int (g kp))])) (fun t_ k_ => XS.sipush X0.here hx rfl (hb hby own_b2_d107) k_) ?_
                by_cases hc39 : (g kp) = (238 : Int32)
                · have hd39 := own_eq32 hc39
                  rw [show (238 : Int32).toInt = 238 from rfl] at hd39
                  refine own_st (B := s₁.setTop (mkF m 120 #[.val (.ref d), .val (.int x1), .val (.int (g kp)), .unset, .val (.int (128 : Int32)), .val (.int (191 : Int32))] [])) (fun t_ k_ => XS.icmpYes X0.here hx rfl (pc0 := 110) (pc' := 120) rfl (hb hby own_b2_d110) rfl (teq hc39).1 (by decide) (by decide) k_) ?_
                  refine own_st (B := s₁.setTop (mkF m 121 #[.val (.ref d), .val (.int x1), .val (.int (g kp)), .unset, .val (.int (128 : Int32)), .val (.int (191 : Int32))] [(.int (3 : Int32))])) (fun t_ k_ => XS.iconst X0.here hx rfl (hb hby own_b2_d120) k_) ?_
                  refine own_st (B := s₁.setTop (mkF m 122 #[.val (.ref d), .val (.int x1), .val (.int (g kp)), .val (.int (3 : Int32)), .val (.int (128 : Int32)), .val (.int (191 : Int32))] [])) (fun t_ k_ => XS.istoreN X0.here hx rfl (hb hby own_b2_d121) rfl (l' := #[.val (.ref d), .val (.int x1), .val (.int (g kp)), .val (.int (3 : Int32)), .val (.int (128 : Int32)), .val (.int (191 : Int32))]) rfl k_) ?_
                  refine own_st (B := s₁.setTop (mkF m 182 #[.val (.ref d), .val (.int x1), .val (.int (g kp)), .val (.int (3 : Int32)), .val (.int (128 : Int32)), .val (.int (191 : Int32))] [])) (fun t_ k_ => XS.goto X0.here hx rfl (pc0 := 122) (pc' := 182) rfl (hb hby own_b2_d122) (by decide) (by decide) k_) ?_
                  exact J3  2 128 191 (own_beg2 (by omega) (if_neg (by omega)) (if_neg (by omega)))
                · have hd39 := own_neq32 hc39
                  rw [show (238 : Int32).toInt = 238 from rfl] at hd39
                  refine own_st (B := s₁.setTop (mkF m 113 #[.val (.ref d), .val (.int x1), .val (.int (g kp)), .unset, .val (.int (128 : Int32)), .val (.int (191 : Int32))] [])) (fun t_ k_ => XS.icmpNo X0.here hx rfl (hb hby own_b2_d110) rfl (feq hc39).1 k_) ?_
                  refine own_st (B := s₁.setTop (mkF m 114 #[.val (.ref d), .val (.int x1), .val (.int (g kp)), .unset, .val (.int (128 : Int32)), .val (.int (191 : Int32))] [(.int (g kp))])) (fun t_ k_ => XS.iloadN X0.here hx rfl (hb hby own_b2_d113) rfl k_) ?_
                  refine own_st (B := s₁.setTop (mkF m 117 #[.val (.ref d), .val (.int x1), .val (.int (g kp)), .unset, .val (.int (128 : Int32)), .val (.int (191 : Int32))] [(.int (239 : Int32)), (.int (g kp))])) (fun t_ k_ => XS.sipush X0.here hx rfl (hb hby own_b2_d114) k_) ?_
                  by_cases hc40 : (g kp) = (239 : Int32)
                  · have hd40 := own_eq32 hc40
                    rw [show (239 : Int32).toInt = 239 from rfl] at hd40
                    refine own_st (B := s₁.setTop (mkF m 120 #[.val (.ref d), .val (.int x1), .val (.int (g kp)), .unset, .val (.int (128 : Int32)), .val (.int (191 : Int32))] [])) (fun t_ k_ => XS.icmpNo X0.here hx rfl (hb hby own_b2_d117) rfl (teq hc40).2 k_) ?_
                    refine own_st (B := s₁.setTop (mkF m 121 #[.val (.ref d), .val (.int x1), .val (.int (g kp)), .unset, .val (.int (128 : Int32)), .val (.int (191 : Int32))] [(.int (3 : Int32))])) (fun t_ k_ => XS.iconst X0.here hx rfl (hb hby own_b2_d120) k_) ?_
                    refine own_st (B := s₁.setTop (mkF m 122 #[.val (.ref d), .val (.int x1), .val (.int (g kp)), .val (.int (3 : Int32)), .val (.int (128 : Int32)), .val (.int (191 : Int32))] [])) (fun t_ k_ => XS.istoreN X0.here hx rfl (hb hby own_b2_d121) rfl (l' := #[.val (.ref d), .val (.int x1), .val (.int (g kp)), .val (.int (3 : Int32)), .val (.int (128 : Int32)), .val (.int (191 : Int32))]) rfl k_) ?_
                    refine own_st (B := s₁.setTop (mkF m 182 #[.val (.ref d), .val (.int x1), .val (.int (g kp)), .val (.int (3 : Int32)), .val (.int (128 : Int32)), .val (.int (191 : Int32))] [])) (fun t_ k_ => XS.goto X0.here hx rfl (pc0 := 122) (pc' := 182) rfl (hb hby own_b2_d122) (by decide) (by decide) k_) ?_
                    exact J3  2 128 191 (own_beg2 (by omega) (if_neg (by omega)) (if_neg (by omega)))
                  · have hd40 := own_neq32 hc40
                    rw [show (239 : Int32).toInt = 239 from rfl] at hd40
                    refine own_st (B := s₁.setTop (mkF m 125 #[.val (.ref d), .val (.int x1), .val (.int (g kp)), .unset, .val (.int (128 : Int32)), .val (.int (191 : Int32))] [])) (fun t_ k_ => XS.icmpYes X0.here hx rfl (pc0 := 117) (pc' := 125) rfl (hb hby own_b2_d117) rfl (feq hc40).2 (by decide) (by decide) k_) ?_
                    refine own_st (B := s₁.setTop (mkF m 126 #[.val (.ref d), .val (.int x1), .val (.int (g kp)), .unset, .val (.int (128 : Int32)), .val (.int (191 : Int32))] [(.int (g kp))])) (fun t_ k_ => XS.iloadN X0.here hx rfl (hb hby own_b2_d125) rfl k_) ?_
                    refine own_st (B := s₁.setTop (mkF m 129 #[.val (.ref d), .val (.int x1), .val (.int (g kp)), .unset, .val (.int (128 : Int32)), .val (.int (191 : Int32))] [(.int (240 : Int32)), (.int (g kp))])) (fun t_ k_ => XS.sipush X0.here hx rfl (hb hby own_b2_d126) k_) ?_
                    by_cases hc41 : (g kp) = (240 : Int32)
                    · have hd41 := own_eq32 hc41
                      rw [show (240 : Int32).toInt = 240 from rfl] at hd41
                      refine own_st (B := s₁.setTop (mkF m 132 #[.val (.ref d), .val (.int x1), .val (.int (g kp)), .unset, .val (.int (128 : Int32)), .val (.int (191 : Int32))] [])) (fun t_ k_ => XS.icmpNo X0.here hx rfl (hb hby own_b2_d129) rfl (teq hc41).2 k_) ?_
                      refine own_st (B := s₁.setTop (mkF m 133 #[.val (.ref d), .val (.int x1), .val (.int (g kp)), .unset, .val (.int (128 : Int32)), .val (.int (191 : Int32))] [(.int (4 : Int32))])) (fun t_ k_ => XS.iconst X0.here hx rfl (hb hby own_b2_d132) k_) ?_
                      refine own_st (B := s₁.setTop (mkF m 134 #[.val (.ref d), .val (.int x1), .val (.int (g kp)), .val (.int (4 : Int32)), .val (.int (128 : Int32)), .val (.int (191 : Int32))] [])) (fun t_ k_ => XS.istoreN X0.here hx rfl (hb hby own_b2_d133) rfl (l' := #[.val (.ref d), .val (.int x1), .val (.int (g kp)), .val (.int (4 : Int32)), .val (.int (128 : Int32)), .val (.int (191 : Int32))]) rfl k_) ?_
                      refine own_st (B := s₁.setTop (mkF m 137 #[.val (.ref d), .val (.int x1), .val (.int (g kp)), .val (.int (4 : Int32)), .val (.int (128 : Int32)), .val (.int (191 : Int32))] [(.int (144 : Int32))])) (fun t_ k_ => XS.sipush X0.here hx rfl (hb hby own_b2_d134) k_) ?_
                      refine own_st (B := s₁.setTop (mkF m 139 #[.val (.ref d), .val (.int x1), .val (.int (g kp)), .val (.int (4 : Int32)), .val (.int (144 : Int32)), .val (.int (191 : Int32))] [])) (fun t_ k_ => XS.istore X0.here hx rfl (hb hby own_b2_d137) rfl (l' := #[.val (.ref d), .val (.int x1), .val (.int (g kp)), .val (.int (4 : Int32)), .val (.int (144 : Int32)), .val (.int (191 : Int32))]) rfl k_) ?_
                      refine own_st (B := s₁.setTop (mkF m 182 #[.val (.ref d), .val (.int x1), .val (.int (g kp)), .val (.int (4 : Int32)), .val (.int (144 : Int32)), .val (.int (191 : Int32))] [])) (fun t_ k_ => XS.goto X0.here hx rfl (pc0 := 139) (pc' := 182) rfl (hb hby own_b2_d139) (by decide) (by decide) k_) ?_
                      exact J3  3 144 191 (own_beg3 (by omega) (if_pos (by omega)) (if_neg (by omega)))
                    · have hd41 := own_neq32 hc41
                      rw [show (240 : Int32).toInt = 240 from rfl] at hd41
                      refine own_st (B := s₁.setTop (mkF m 142 #[.val (.ref d), .val (.int x1), .val (.int (g kp)), .unset, .val (.int (128 : Int32)), .val (.int (191 : Int32))] [])) (fun t_ k_ => XS.icmpYes X0.here hx rfl (pc0 := 129) (pc' := 142) rfl (hb hby own_b2_d129) rfl (feq hc41).2 (by decide) (by decide) k_) ?_
                      refine own_st (B := s₁.setTop (mkF m 143 #[.val (.ref d), .val (.int x1), .val (.int (g kp)), .unset, .val (.int (128 : Int32)), .val (.int (191 : Int32))] [(.int (g kp))])) (fun t_ k_ => XS.iloadN X0.here hx rfl (hb hby own_b2_d142) rfl k_) ?_
                      refine own_st (B := s₁.setTop (mkF m 146 #[.val (.ref d), .val (.int x1), .val (.int (g kp)), .unset, .val (.int (128 : Int32)), .val (.int (191 : Int32))] [(.int (241 : Int32)), (.int (g kp))])) (fun t_ k_ => XS.sipush X0.here hx rfl (hb hby own_b2_d143) k_) ?_
                      by_cases hc42 : (g kp) < (241 : Int32)
                      · have hd42 := own_lt32 hc42
                        rw [show (241 : Int32).toInt = 241 from rfl] at hd42
                        refine own_st (B := s₁.setTop (mkF m 161 #[.val (.ref d), .val (.int x1), .val (.int (g kp)), .unset, .val (.int (128 : Int32)), .val (.int (191 : Int32))] [])) (fun t_ k_ => XS.icmpYes X0.here hx rfl (pc0 := 146) (pc' := 161) rfl (hb hby own_b2_d146) rfl (tlt hc42).1 (by decide) (by decide) k_) ?_
                        refine own_st (B := s₁.setTop (mkF m 162 #[.val (.ref d), .val (.int x1), .val (.int (g kp)), .unset, .val (.int (128 : Int32)), .val (.int (191 : Int32))] [(.int (g kp))])) (fun t_ k_ => XS.iloadN X0.here hx rfl (hb hby own_b2_d161) rfl k_) ?_
                        refine own_st (B := s₁.setTop (mkF m 165 #[.val (.ref d), .val (.int x1), .val (.int (g kp)), .unset, .val (.int (128 : Int32)), .val (.int (191 : Int32))] [(.int (244 : Int32)), (.int (g kp))])) (fun t_ k_ => XS.sipush X0.here hx rfl (hb hby own_b2_d162) k_) ?_
                        by_cases hc43 : (g kp) = (244 : Int32)
                        · have hd43 := own_eq32 hc43
                          rw [show (244 : Int32).toInt = 244 from rfl] at hd43
                          refine own_st (B := s₁.setTop (mkF m 168 #[.val (.ref d), .val (.int x1), .val (.int (g kp)), .unset, .val (.int (128 : Int32)), .val (.int (191 : Int32))] [])) (fun t_ k_ => XS.icmpNo X0.here hx rfl (hb hby own_b2_d165) rfl (teq hc43).2 k_) ?_
                          refine own_st (B := s₁.setTop (mkF m 169 #[.val (.ref d), .val (.int x1), .val (.int (g kp)), .unset, .val (.int (128 : Int32)), .val (.int (191 : Int32))] [(.int (4 : Int32))])) (fun t_ k_ => XS.iconst X0.here hx rfl (hb hby own_b2_d168) k_) ?_
                          refine own_st (B := s₁.setTop (mkF m 170 #[.val (.ref d), .val (.int x1), .val (.int (g kp)), .val (.int (4 : Int32)), .val (.int (128 : Int32)), .val (.int (191 : Int32))] [])) (fun t_ k_ => XS.istoreN X0.here hx rfl (hb hby own_b2_d169) rfl (l' := #[.val (.ref d), .val (.int x1), .val (.int (g kp)), .val (.int (4 : Int32)), .val (.int (128 : Int32)), .val (.int (191 : Int32))]) rfl k_) ?_
                          refine own_st (B := s₁.setTop (mkF m 173 #[.val (.ref d), .val (.int x1), .val (.int (g kp)), .val (.int (4 : Int32)), .val (.int (128 : Int32)), .val (.int (191 : Int32))] [(.int (143 : Int32))])) (fun t_ k_ => XS.sipush X0.here hx rfl (hb hby own_b2_d170) k_) ?_
                          refine own_st (B := s₁.setTop (mkF m 175 #[.val (.ref d), .val (.int x1), .val (.int (g kp)), .val (.int (4 : Int32)), .val (.int (128 : Int32)), .val (.int (143 : Int32))] [])) (fun t_ k_ => XS.istore X0.here hx rfl (hb hby own_b2_d173) rfl (l' := #[.val (.ref d), .val (.int x1), .val (.int (g kp)), .val (.int (4 : Int32)), .val (.int (128 : Int32)), .val (.int (143 : Int32))]) rfl k_) ?_
                          refine own_st (B := s₁.setTop (mkF m 182 #[.val (.ref d), .val (.int x1), .val (.int (g kp)), .val (.int (4 : Int32)), .val (.int (128 : Int32)), .val (.int (143 : Int32))] [])) (fun t_ k_ => XS.goto X0.here hx rfl (pc0 := 175) (pc' := 182) rfl (hb hby own_b2_d175) (by decide) (by decide) k_) ?_
                          exact J3  3 128 143 (own_beg3 (by omega) (if_neg (by omega)) (if_pos (by omega)))
                        · have hd43 := own_neq32 hc43
                          rw [show (244 : Int32).toInt = 244 from rfl] at hd43
                          refine own_st (B := s₁.setTop (mkF m 178 #[.val (.ref d), .val (.int x1), .val (.int (g kp)), .unset, .val (.int (128 : Int32)), .val (.int (191 : Int32))] [])) (fun t_ k_ => XS.icmpYes X0.here hx rfl (pc0 := 165) (pc' := 178) rfl (hb hby own_b2_d165) rfl (feq hc43).2 (by decide) (by decide) k_) ?_
                          refine own_st (B := s₁.setTop (mkF m 179 #[.val (.ref d), .val (.int x1), .val (.int (g kp)), .unset, .val (.int (128 : Int32)), .val (.int (191 : Int32))] [(.int (-1 : Int32))])) (fun t_ k_ => XS.iconst X0.here hx rfl (hb hby own_b2_d178) k_) ?_
                          refine own_st (B := s₁.setTop (mkF m 180 #[.val (.ref d), .val (.int x1), .val (.int (g kp)), .unset, .val (.int (128 : Int32)), .val (.int (191 : Int32))] [(.int x1), (.int (-1 : Int32))])) (fun t_ k_ => XS.iloadN X0.here hx rfl (hb hby own_b2_d179) rfl k_) ?_
                          refine own_st (B := s₁.setTop (mkF m 181 #[.val (.ref d), .val (.int x1), .val (.int (g kp)), .unset, .val (.int (128 : Int32)), .val (.int (191 : Int32))] [(.int ((-1 : Int32) - x1))])) (fun t_ k_ => XS.isub X0.here hx rfl (hb hby own_b2_d180) rfl k_) ?_
                          refine own_retI X0 hx Bd.returns hlk (hb hby own_b2_d181) (by decide) (by decide) ?_
                          show Q2 Z d x1 kp g b h0 n0 _ s₁.heap _
                          rw [e0]
                          exact ⟨_, rfl, (own_mi hpi hp8 (-1 : Int32) (by decide)).trans (own_refC (by omega) (by omega) (own_begN (by omega) (by omega) (by omega))).symm, N0, rfl⟩
                      · have hd42 := own_nlt32 hc42
                        rw [show (241 : Int32).toInt = 241 from rfl] at hd42
                        refine own_st (B := s₁.setTop (mkF m 149 #[.val (.ref d), .val (.int x1), .val (.int (g kp)), .unset, .val (.int (128 : Int32)), .val (.int (191 : Int32))] [])) (fun t_ k_ => XS.icmpNo X0.here hx rfl (hb hby own_b2_d146) rfl (flt hc42).1 k_) ?_
                        refine own_st (B := s₁.setTop (mkF m 150 #[.val (.ref d), .val (.int x1), .val (.int (g kp)), .unset, .val (.int (128 : Int32)), .val (.int (191 : Int32))] [(.int (g kp))])) (fun t_ k_ => XS.iloadN X0.here hx rfl (hb hby own_b2_d149) rfl k_) ?_
                        refine own_st (B := s₁.setTop (mkF m 153 #[.val (.ref d), .val (.int x1), .val (.int (g kp)), .unset, .val (.int (128 : Int32)), .val (.int (191 : Int32))] [(.int (243 : Int32)), (.int (g kp))])) (fun t_ k_ => XS.sipush X0.here hx rfl (hb hby own_b2_d150) k_) ?_
                        by_cases hc44 : (243 : Int32) < (g kp)
                        · have hd44 := own_lt32 hc44
                          rw [show (243 : Int32).toInt = 243 from rfl] at hd44
                          refine own_st (B := s₁.setTop (mkF m 161 #[.val (.ref d), .val (.int x1), .val (.int (g kp)), .unset, .val (.int (128 : Int32)), .val (.int (191 : Int32))] [])) (fun t_ k_ => XS.icmpYes X0.here hx rfl (pc0 := 153) (pc' := 161) rfl (hb hby own_b2_d153) rfl (tlt hc44).2.2.1 (by decide) (by decide) k_) ?_
                          refine own_st (B := s₁.setTop (mkF m 162 #[.val (.ref d), .val (.int x1), .val (.int (g kp)), .unset, .val (.int (128 : Int32)), .val (.int (191 : Int32))] [(.int (g kp))])) (fun t_ k_ => XS.iloadN X0.here hx rfl (hb hby own_b2_d161) rfl k_) ?_
                          refine own_st (B := s₁.setTop (mkF m 165 #[.val (.ref d), .val (.int x1), .val (.int (g kp)), .unset, .val (.int (128 : Int32)), .val (.int (191 : Int32))] [(.int (244 : Int32)), (.int (g kp))])) (fun t_ k_ => XS.sipush X0.here hx rfl (hb hby own_b2_d162) k_) ?_
                          by_cases hc45 : (g kp) = (244 : Int32)
                          · have hd45 := own_eq32 hc45
                            rw [show (244 : Int32).toInt = 244 from rfl] at hd45
                            refine own_st (B := s₁.setTop (mkF m 168 #[.val (.ref d), .val (.int x1), .val (.int (g kp)), .unset, .val (.int (128 : Int32)), .val (.int (191 : Int32))] [])) (fun t_ k_ => XS.icmpNo X0.here hx rfl (hb hby own_b2_d165) rfl (teq hc45).2 k_) ?_
                            refine own_st (B := s₁.setTop (mkF m 169 #[.val (.ref d), .val (.int x1), .val (.int (g kp)), .unset, .val (.int (128 : Int32)), .val (.int (191 : Int32))] [(.int (4 : Int32))])) (fun t_ k_ => XS.iconst X0.here hx rfl (hb hby own_b2_d168) k_) ?_
                            refine own_st (B := s₁.setTop (mkF m 170 #[.val (.ref d), .val (.int x1), .val (.int (g kp)), .val (.int (4 : Int32)), .val (.int (128 : Int32)), .val (.int (191 : Int32))] [])) (fun t_ k_ => XS.istoreN X0.here hx rfl (hb hby own_b2_d169) rfl (l' := #[.val (.ref d), .val (.int x1), .val (.int (g kp)), .val (.int (4 : Int32)), .val (.int (128 : Int32)), .val (.int (191 : Int32))]) rfl k_) ?_
                            refine own_st (B := s₁.setTop (mkF m 173 #[.val (.ref d), .val (.int x1), .val (.int (g kp)), .val (.int (4 : Int32)), .val (.int (128 : Int32)), .val (.int (191 : Int32))] [(.int (143 : Int32))])) (fun t_ k_ => XS.sipush X0.here hx rfl (hb hby own_b2_d170) k_) ?_
                            refine own_st (B := s₁.setTop (mkF m 175 #[.val (.ref d), .val (.int x1), .val (.int (g kp)), .val (.int (4 : Int32)), .val (.int (128 : Int32)), .val (.int (143 : Int32))] [])) (fun t_ k_ => XS.istore X0.here hx rfl (hb hby own_b2_d173) rfl (l' := #[.val (.ref d), .val (.int x1), .val (.int (g kp)), .val (.int (4 : Int32)), .val (.int (128 : Int32)), .val (.int (143 : Int32))]) rfl k_) ?_
                            refine own_st (B := s₁.setTop (mkF m 182 #[.val (.ref d), .val (.int x1), .val (.int (g kp)), .val (.int (4 : Int32)), .val (.int (128 : Int32)), .val (.int (143 : Int32))] [])) (fun t_ k_ => XS.goto X0.here hx rfl (pc0 := 175) (pc' := 182) rfl (hb hby own_b2_d175) (by decide) (by decide) k_) ?_
                            exact J3  3 128 143 (own_beg3 (by omega) (if_neg (by omega)) (if_pos (by omega)))
                          · have hd45 := own_neq32 hc45
                            rw [show (244 : Int32).toInt = 244 from rfl] at hd45
                            refine own_st (B := s₁.setTop (mkF m 178 #[.val (.ref d), .val (.int x1), .val (.int (g kp)), .unset, .val (.int (128 : Int32)), .val (.int (191 : Int32))] [])) (fun t_ k_ => XS.icmpYes X0.here hx rfl (pc0 := 165) (pc' := 178) rfl (hb hby own_b2_d165) rfl (feq hc45).2 (by decide) (by decide) k_) ?_
                            refine own_st (B := s₁.setTop (mkF m 179 #[.val (.ref d), .val (.int x1), .val (.int (g kp)), .unset, .val (.int (128 : Int32)), .val (.int (191 : Int32))] [(.int (-1 : Int32))])) (fun t_ k_ => XS.iconst X0.here hx rfl (hb hby own_b2_d178) k_) ?_
                            refine own_st (B := s₁.setTop (mkF m 180 #[.val (.ref d), .val (.int x1), .val (.int (g kp)), .unset, .val (.int (128 : Int32)), .val (.int (191 : Int32))] [(.int x1), (.int (-1 : Int32))])) (fun t_ k_ => XS.iloadN X0.here hx rfl (hb hby own_b2_d179) rfl k_) ?_
                            refine own_st (B := s₁.setTop (mkF m 181 #[.val (.ref d), .val (.int x1), .val (.int (g kp)), .unset, .val (.int (128 : Int32)), .val (.int (191 : Int32))] [(.int ((-1 : Int32) - x1))])) (fun t_ k_ => XS.isub X0.here hx rfl (hb hby own_b2_d180) rfl k_) ?_
                            refine own_retI X0 hx Bd.returns hlk (hb hby own_b2_d181) (by decide) (by decide) ?_
                            show Q2 Z d x1 kp g b h0 n0 _ s₁.heap _
                            rw [e0]
                            exact ⟨_, rfl, (own_mi hpi hp8 (-1 : Int32) (by decide)).trans (own_refC (by omega) (by omega) (own_begN (by omega) (by omega) (by omega))).symm, N0, rfl⟩
                        · have hd44 := own_nlt32 hc44
                          rw [show (243 : Int32).toInt = 243 from rfl] at hd44
                          refine own_st (B := s₁.setTop (mkF m 156 #[.val (.ref d), .val (.int x1), .val (.int (g kp)), .unset, .val (.int (128 : Int32)), .val (.int (191 : Int32))] [])) (fun t_ k_ => XS.icmpNo X0.here hx rfl (hb hby own_b2_d153) rfl (flt hc44).2.2.1 k_) ?_
                          refine own_st (B := s₁.setTop (mkF m 157 #[.val (.ref d), .val (.int x1), .val (.int (g kp)), .unset, .val (.int (128 : Int32)), .val (.int (191 : Int32))] [(.int (4 : Int32))])) (fun t_ k_ => XS.iconst X0.here hx rfl (hb hby own_b2_d156) k_) ?_
                          refine own_st (B := s₁.setTop (mkF m 158 #[.val (.ref d), .val (.int x1), .val (.int (g kp)), .val (.int (4 : Int32)), .val (.int (128 : Int32)), .val (.int (191 : Int32))] [])) (fun t_ k_ => XS.istoreN X0.here hx rfl (hb hby own_b2_d157) rfl (l' := #[.val (.ref d), .val (.int x1), .val (.int (g kp)), .val (.int (4 : Int32)), .val (.int (128 : Int32)), .val (.int (191 : Int32))]) rfl k_) ?_
                          refine own_st (B := s₁.setTop (mkF m 182 #[.val (.ref d), .val (.int x1), .val (.int (g kp)), .val (.int (4 : Int32)), .val (.int (128 : Int32)), .val (.int (191 : Int32))] [])) (fun t_ k_ => XS.goto X0.here hx rfl (pc0 := 158) (pc' := 182) rfl (hb hby own_b2_d158) (by decide) (by decide) k_) ?_
                          exact J3  3 128 191 (own_beg3 (by omega) (if_neg (by omega)) (if_neg (by omega)))
            · have hd37 := own_nlt32 hc37
              rw [show (225 : Int32).toInt = 225 from rfl] at hd37
              refine own_st (B := s₁.setTop (mkF m 77 #[.val (.ref d), .val (.int x1), .val (.int (g kp)), .unset, .val (.int (128 : Int32)), .val (.int (191 : Int32))] [])) (fun t_ k_ => XS.icmpNo X0.here hx rfl (hb hby own_b2_d74) rfl (flt hc37).1 k_) ?_
              refine own_st (B := s₁.setTop (mkF m 78 #[.val (.ref d), .val (.int x1), .val (.int (g kp)), .unset, .val (.int (128 : Int32)), .val (.int (191 : Int32))] [(.int (g kp))])) (fun t_ k_ => XS.iloadN X0.here hx rfl (hb hby own_b2_d77) rfl k_) ?_
              refine own_st (B := s₁.setTop (mkF m 81 #[.val (.ref d), .val (.int x1), .val (.int (g kp)), .unset, .val (.int (128 : Int32)), .val (.int (191 : Int32))] [(.int (236 : Int32)), (.int (g kp))])) (fun t_ k_ => XS.sipush X0.here hx rfl (hb hby own_b2_d78) k_) ?_
              by_cases hc46 : (236 : Int32) < (g kp)
              · have hd46 := own_lt32 hc46
                rw [show (236 : Int32).toInt = 236 from rfl] at hd46
                refine own_st (B := s₁.setTop (mkF m 89 #[.val (.ref d), .val (.int x1), .val (.int (g kp)), .unset, .val (.int (128 : Int32)), .val (.int (191 : Int32))] [])) (fun t_ k_ => XS.icmpYes X0.here hx rfl (pc0 := 81) (pc' := 89) rfl (hb hby own_b2_d81) rfl (tlt hc46).2.2.1 (by decide) (by decide) k_) ?_
                refine own_st (B := s₁.setTop (mkF m 90 #[.val (.ref d), .val (.int x1), .val (.int (g kp)), .unset, .val (.int (128 : Int32)), .val (.int (191 : Int32))] [(.int (g kp))])) (fun t_ k_ => XS.iloadN X0.here hx rfl (hb hby own_b2_d89) rfl k_) ?_
                refine own_st (B := s₁.setTop (mkF m 93 #[.val (.ref d), .val (.int x1), .val (.int (g kp)), .unset, .val (.int (128 : Int32)), .val (.int (191 : Int32))] [(.int (237 : Int32)), (.int (g kp))])) (fun t_ k_ => XS.sipush X0.here hx rfl (hb hby own_b2_d90) k_) ?_
                by_cases hc47 : (g kp) = (237 : Int32)
                · have hd47 := own_eq32 hc47
                  rw [show (237 : Int32).toInt = 237 from rfl] at hd47
                  refine own_st (B := s₁.setTop (mkF m 96 #[.val (.ref d), .val (.int x1), .val (.int (g kp)), .unset, .val (.int (128 : Int32)), .val (.int (191 : Int32))] [])) (fun t_ k_ => XS.icmpNo X0.here hx rfl (hb hby own_b2_d93) rfl (teq hc47).2 k_) ?_
                  refine own_st (B := s₁.setTop (mkF m 97 #[.val (.ref d), .val (.int x1), .val (.int (g kp)), .unset, .val (.int (128 : Int32)), .val (.int (191 : Int32))] [(.int (3 : Int32))])) (fun t_ k_ => XS.iconst X0.here hx rfl (hb hby own_b2_d96) k_) ?_
                  refine own_st (B := s₁.setTop (mkF m 98 #[.val (.ref d), .val (.int x1), .val (.int (g kp)), .val (.int (3 : Int32)), .val (.int (128 : Int32)), .val (.int (191 : Int32))] [])) (fun t_ k_ => XS.istoreN X0.here hx rfl (hb hby own_b2_d97) rfl (l' := #[.val (.ref d), .val (.int x1), .val (.int (g kp)), .val (.int (3 : Int32)), .val (.int (128 : Int32)), .val (.int (191 : Int32))]) rfl k_) ?_
                  refine own_st (B := s₁.setTop (mkF m 101 #[.val (.ref d), .val (.int x1), .val (.int (g kp)), .val (.int (3 : Int32)), .val (.int (128 : Int32)), .val (.int (191 : Int32))] [(.int (159 : Int32))])) (fun t_ k_ => XS.sipush X0.here hx rfl (hb hby own_b2_d98) k_) ?_
                  refine own_st (B := s₁.setTop (mkF m 103 #[.val (.ref d), .val (.int x1), .val (.int (g kp)), .val (.int (3 : Int32)), .val (.int (128 : Int32)), .val (.int (159 : Int32))] [])) (fun t_ k_ => XS.istore X0.here hx rfl (hb hby own_b2_d101) rfl (l' := #[.val (.ref d), .val (.int x1), .val (.int (g kp)), .val (.int (3 : Int32)), .val (.int (128 : Int32)), .val (.int (159 : Int32))]) rfl k_) ?_
                  refine own_st (B := s₁.setTop (mkF m 182 #[.val (.ref d), .val (.int x1), .val (.int (g kp)), .val (.int (3 : Int32)), .val (.int (128 : Int32)), .val (.int (159 : Int32))] [])) (fun t_ k_ => XS.goto X0.here hx rfl (pc0 := 103) (pc' := 182) rfl (hb hby own_b2_d103) (by decide) (by decide) k_) ?_
                  exact J3  2 128 159 (own_beg2 (by omega) (if_neg (by omega)) (if_pos (by omega)))
                · have hd47 := own_neq32 hc47
                  rw [show (237 : Int32).toInt = 237 from rfl] at hd47
                  refine own_st (B := s₁.setTop (mkF m 106 #[.val (.ref d), .val (.int x1), .val (.int (g kp)), .unset, .val (.int (128 : Int32)), .val (.int (191 : Int32))] [])) (fun t_ k_ => XS.icmpYes X0.here hx rfl (pc0 := 93) (pc' := 106) rfl (hb hby own_b2_d93) rfl (feq hc47).2 (by decide) (by decide) k_) ?_
                  refine own_st (B := s₁.setTop (mkF m 107 #[.val (.ref d), .val (.int x1), .val (.int (g kp)), .unset, .val (.int (128 : Int32)), .val (.int (191 : Int32))] [(.int (g kp))])) (fun t_ k_ => XS.iloadN X0.here hx rfl (hb hby own_b2_d106) rfl k_) ?_
                  refine own_st (B := s₁.setTop (mkF m 110 #[.val (.ref d), .val (.int x1), .val (.int (g kp)), .unset, .val (.int (128 : Int32)), .val (.int (191 : Int32))] [(.int (238 : Int32)), (.int (g kp))])) (fun t_ k_ => XS.sipush X0.here hx rfl (hb hby own_b2_d107) k_) ?_
                  by_cases hc48 : (g kp) = (238 : Int32)
                  · have hd48 := own_eq32 hc48
                    rw [show (238 : Int32).toInt = 238 from rfl] at hd48
                    refine own_st (B := s₁.setTop (mkF m 120 #[.val (.ref d), .val (.int x1), .val (.int (g kp)), .unset, .val (.int (128 : Int32)), .val (.int (191 : Int32))] [])) (fun t_ k_ => XS.icmpYes X0.here hx rfl (pc0 := 110) (pc' := 120) rfl (hb hby own_b2_d110) rfl (teq hc48).1 (by decide) (by decide) k_) ?_
                    refine own_st (B := s₁.setTop (mkF m 121 #[.val (.ref d), .val (.int x1), .val (.int (g kp)), .unset, .val (.int (128 : Int32)), .val (.int (191 : Int32))] [(.int (3 : Int32))])) (fun t_ k_ => XS.iconst X0.here hx rfl (hb hby own_b2_d120) k_) ?_
                    refine own_st (B := s₁.setTop (mkF m 122 #[.val (.ref d), .val (.int x1), .val (.int (g kp)), .val (.int (3 : Int32)), .val (.int (128 : Int32)), .val (.int (191 : Int32))] [])) (fun t_ k_ => XS.istoreN X0.here hx rfl (hb hby own_b2_d121) rfl (l' := #[.val (.ref d), .val (.int x1), .val (.int (g kp)), .val (.int (3 : Int32)), .val (.int (128 : Int32)), .val (.int (191 : Int32))]) rfl k_) ?_
                    refine own_st (B := s₁.setTop (mkF m 182 #[.val (.ref d), .val (.int x1), .val (.int (g kp)), .val (.int (3 : Int32)), .val (.int (128 : Int32)), .val (.int (191 : Int32))] [])) (fun t_ k_ => XS.goto X0.here hx rfl (pc0 := 122) (pc' := 182) rfl (hb hby own_b2_d122) (by decide) (by decide) k_) ?_
                    exact J3  2 128 191 (own_beg2 (by omega) (if_neg (by omega)) (if_neg (by omega)))
                  · have hd48 := own_neq32 hc48
                    rw [show (238 : Int32).toInt = 238 from rfl] at hd48
                    refine own_st (B := s₁.setTop (mkF m 113 #[.val (.ref d), .val (.int x1), .val (.int (g kp)), .unset, .val (.int (128 : Int32)), .val (.int (191 : Int32))] [])) (fun t_ k_ => XS.icmpNo X0.here hx rfl (hb hby own_b2_d110) rfl (feq hc48).1 k_) ?_
                    refine own_st (B := s₁.setTop (mkF m 114 #[.val (.ref d), .val (.int x1), .val (.int (g kp)), .unset, .val (.int (128 : Int32)), .val (.int (191 : Int32))] [(.int (g kp))])) (fun t_ k_ => XS.iloadN X0.here hx rfl (hb hby own_b2_d113) rfl k_) ?_
                    refine own_st (B := s₁.setTop (mkF m 117 #[.val (.ref d), .val (.int x1), .val (.int (g kp)), .unset, .val (.int (128 : Int32)), .val (.int (191 : Int32))] [(.int (239 : Int32)), (.int (g kp))])) (fun t_ k_ => XS.sipush X0.here hx rfl (hb hby own_b2_d114) k_) ?_
                    by_cases hc49 : (g kp) = (239 : Int32)
                    · have hd49 := own_eq32 hc49
                      rw [show (239 : Int32).toInt = 239 from rfl] at hd49
                      refine own_st (B := s₁.setTop (mkF m 120 #[.val (.ref d), .val (.int x1), .val (.int (g kp)), .unset, .val (.int (128 : Int32)), .val (.int (191 : Int32))] [])) (fun t_ k_ => XS.icmpNo X0.here hx rfl (hb hby own_b2_d117) rfl (teq hc49).2 k_) ?_
                      refine own_st (B := s₁.setTop (mkF m 121 #[.val (.ref d), .val (.int x1), .val (.int (g kp)), .unset, .val (.int (128 : Int32)), .val (.int (191 : Int32))] [(.int (3 : Int32))])) (fun t_ k_ => XS.iconst X0.here hx rfl (hb hby own_b2_d120) k_) ?_
                      refine own_st (B := s₁.setTop (mkF m 122 #[.val (.ref d), .val (.int x1), .val (.int (g kp)), .val (.int (3 : Int32)), .val (.int (128 : Int32)), .val (.int (191 : Int32))] [])) (fun t_ k_ => XS.istoreN X0.here hx rfl (hb hby own_b2_d121) rfl (l' := #[.val (.ref d), .val (.int x1), .val (.int (g kp)), .val (.int (3 : Int32)), .val (.int (128 : Int32)), .val (.int (191 : Int32))]) rfl k_) ?_
                      refine own_st (B := s₁.setTop (mkF m 182 #[.val (.ref d), .val (.int x1), .val (.int (g kp)), .val (.int (3 : Int32)), .val (.int (128 : Int32)), .val (.int (191 : Int32))] [])) (fun t_ k_ => XS.goto X0.here hx rfl (pc0 := 122) (pc' := 182) rfl (hb hby own_b2_d122) (by decide) (by decide) k_) ?_
                      exact J3  2 128 191 (own_beg2 (by omega) (if_neg (by omega)) (if_neg (by omega)))
                    · have hd49 := own_neq32 hc49
                      rw [show (239 : Int32).toInt = 239 from rfl] at hd49
                      refine own_st (B := s₁.setTop (mkF m 125 #[.val (.ref d), .val (.int x1), .val (.int (g kp)), .unset, .val (.int (128 : Int32)), .val (.int (191 : Int32))] [])) (fun t_ k_ => XS.icmpYes X0.here hx rfl (pc0 := 117) (pc' := 125) rfl (hb hby own_b2_d117) rfl (feq hc49).2 (by decide) (by decide) k_) ?_
                      refine own_st (B := s₁.setTop (mkF m 126 #[.val (.ref d), .val (.int x1), .val (.int (g kp)), .unset, .val (.int (128 : Int32)), .val (.int (191 : Int32))] [(.int (g kp))])) (fun t_ k_ => XS.iloadN X0.here hx rfl (hb hby own_b2_d125) rfl k_) ?_
                      refine own_st (B := s₁.setTop (mkF m 129 #[.val (.ref d), .val (.int x1), .val (.int (g kp)), .unset, .val (.int (128 : Int32)), .val (.int (191 : Int32))] [(.int (240 : Int32)), (.int (g kp))])) (fun t_ k_ => XS.sipush X0.here hx rfl (hb hby own_b2_d126) k_) ?_
                      by_cases hc50 : (g kp) = (240 : Int32)
                      · have hd50 := own_eq32 hc50
                        rw [show (240 : Int32).toInt = 240 from rfl] at hd50
                        refine own_st (B := s₁.setTop (mkF m 132 #[.val (.ref d), .val (.int x1), .val (.int (g kp)), .unset, .val (.int (128 : Int32)), .val (.int (191 : Int32))] [])) (fun t_ k_ => XS.icmpNo X0.here hx rfl (hb hby own_b2_d129) rfl (teq hc50).2 k_) ?_
                        refine own_st (B := s₁.setTop (mkF m 133 #[.val (.ref d), .val (.int x1), .val (.int (g kp)), .unset, .val (.int (128 : Int32)), .val (.int (191 : Int32))] [(.int (4 : Int32))])) (fun t_ k_ => XS.iconst X0.here hx rfl (hb hby own_b2_d132) k_) ?_
                        refine own_st (B := s₁.setTop (mkF m 134 #[.val (.ref d), .val (.int x1), .val (.int (g kp)), .val (.int (4 : Int32)), .val (.int (128 : Int32)), .val (.int (191 : Int32))] [])) (fun t_ k_ => XS.istoreN X0.here hx rfl (hb hby own_b2_d133) rfl (l' := #[.val (.ref d), .val (.int x1), .val (.int (g kp)), .val (.int (4 : Int32)), .val (.int (128 : Int32)), .val (.int (191 : Int32))]) rfl k_) ?_
                        refine own_st (B := s₁.setTop (mkF m 137 #[.val (.ref d), .val (.int x1), .val (.int (g kp)), .val (.int (4 : Int32)), .val (.int (128 : Int32)), .val (.int (191 : Int32))] [(.int (144 : Int32))])) (fun t_ k_ => XS.sipush X0.here hx rfl (hb hby own_b2_d134) k_) ?_
                        refine own_st (B := s₁.setTop (mkF m 139 #[.val (.ref d), .val (.int x1), .val (.int (g kp)), .val (.int (4 : Int32)), .val (.int (144 : Int32)), .val (.int (191 : Int32))] [])) (fun t_ k_ => XS.istore X0.here hx rfl (hb hby own_b2_d137) rfl (l' := #[.val (.ref d), .val (.int x1), .val (.int (g kp)), .val (.int (4 : Int32)), .val (.int (144 : Int32)), .val (.int (191 : Int32))]) rfl k_) ?_
                        refine own_st (B := s₁.setTop (mkF m 182 #[.val (.ref d), .val (.int x1), .val (.int (g kp)), .val (.int (4 : Int32)), .val (.int (144 : Int32)), .val (.int (191 : Int32))] [])) (fun t_ k_ => XS.goto X0.here hx rfl (pc0 := 139) (pc' := 182) rfl (hb hby own_b2_d139) (by decide) (by decide) k_) ?_
                        exact J3  3 144 191 (own_beg3 (by omega) (if_pos (by omega)) (if_neg (by omega)))
                      · have hd50 := own_neq32 hc50
                        rw [show (240 : Int32).toInt = 240 from rfl] at hd50
                        refine own_st (B := s₁.setTop (mkF m 142 #[.val (.ref d), .val (.int x1), .val (.int (g kp)), .unset, .val (.int (128 : Int32)), .val (.int (191 : Int32))] [])) (fun t_ k_ => XS.icmpYes X0.here hx rfl (pc0 := 129) (pc' := 142) rfl (hb hby own_b2_d129) rfl (feq hc50).2 (by decide) (by decide) k_) ?_
                        refine own_st (B := s₁.setTop (mkF m 143 #[.val (.ref d), .val (.int x1), .val (.int (g kp)), .unset, .val (.int (128 : Int32)), .val (.int (191 : Int32))] [(.int (g kp))])) (fun t_ k_ => XS.iloadN X0.here hx rfl (hb hby own_b2_d142) rfl k_) ?_
                        refine own_st (B := s₁.setTop (mkF m 146 #[.val (.ref d), .val (.int x1), .val (.int (g kp)), .unset, .val (.int (128 : Int32)), .val (.int (191 : Int32))] [(.int (241 : Int32)), (.int (g kp))])) (fun t_ k_ => XS.sipush X0.here hx rfl (hb hby own_b2_d143) k_) ?_
                        by_cases hc51 : (g kp) < (241 : Int32)
                        · have hd51 := own_lt32 hc51
                          rw [show (241 : Int32).toInt = 241 from rfl] at hd51
                          refine own_st (B := s₁.setTop (mkF m 161 #[.val (.ref d), .val (.int x1), .val (.int (g kp)), .unset, .val (.int (128 : Int32)), .val (.int (191 : Int32))] [])) (fun t_ k_ => XS.icmpYes X0.here hx rfl (pc0 := 146) (pc' := 161) rfl (hb hby own_b2_d146) rfl (tlt hc51).1 (by decide) (by decide) k_) ?_
                          refine own_st (B := s₁.setTop (mkF m 162 #[.val (.ref d), .val (.int x1), .val (.int (g kp)), .unset, .val (.int (128 : Int32)), .val (.int (191 : Int32))] [(.int (g kp))])) (fun t_ k_ => XS.iloadN X0.here hx rfl (hb hby own_b2_d161) rfl k_) ?_
                          refine own_st (B := s₁.setTop (mkF m 165 #[.val (.ref d), .val (.int x1), .val (.int (g kp)), .unset, .val (.int (128 : Int32)), .val (.int (191 : Int32))] [(.int (244 : Int32)), (.int (g kp))])) (fun t_ k_ => XS.sipush X0.here hx rfl (hb hby own_b2_d162) k_) ?_
                          by_cases hc52 : (g kp) = (244 : Int32)
                          · have hd52 := own_eq32 hc52
                            rw [show (244 : Int32).toInt = 244 from rfl] at hd52
                            refine own_st (B := s₁.setTop (mkF m 168 #[.val (.ref d), .val (.int x1), .val (.int (g kp)), .unset, .val (.int (128 : Int32)), .val (.int (191 : Int32))] [])) (fun t_ k_ => XS.icmpNo X0.here hx rfl (hb hby own_b2_d165) rfl (teq hc52).2 k_) ?_
                            refine own_st (B := s₁.setTop (mkF m 169 #[.val (.ref d), .val (.int x1), .val (.int (g kp)), .unset, .val (.int (128 : Int32)), .val (.int (191 : Int32))] [(.int (4 : Int32))])) (fun t_ k_ => XS.iconst X0.here hx rfl (hb hby own_b2_d168) k_) ?_
                            refine own_st (B := s₁.setTop (mkF m 170 #[.val (.ref d), .val (.int x1), .val (.int (g kp)), .val (.int (4 : Int32)), .val (.int (128 : Int32)), .val (.int (191 : Int32))] [])) (fun t_ k_ => XS.istoreN X0.here hx rfl (hb hby own_b2_d169) rfl (l' := #[.val (.ref d), .val (.int x1), .val (.int (g kp)), .val (.int (4 : Int32)), .val (.int (128 : Int32)), .val (.int (191 : Int32))]) rfl k_) ?_
                            refine own_st (B := s₁.setTop (mkF m 173 #[.val (.ref d), .val (.int x1), .val (.int (g kp)), .val (.int (4 : Int32)), .val (.int (128 : Int32)), .val (.int (191 : Int32))] [(.int (143 : Int32))])) (fun t_ k_ => XS.sipush X0.here hx rfl (hb hby own_b2_d170) k_) ?_
                            refine own_st (B := s₁.setTop (mkF m 175 #[.val (.ref d), .val (.int x1), .val (.int (g kp)), .val (.int (4 : Int32)), .val (.int (128 : Int32)), .val (.int (143 : Int32))] [])) (fun t_ k_ => XS.istore X0.here hx rfl (hb hby own_b2_d173) rfl (l' := #[.val (.ref d), .val (.int x1), .val (.int (g kp)), .val (.int (4 : Int32)), .val (.int (128 : Int32)), .val (.int (143 : Int32))]) rfl k_) ?_
                            refine own_st (B := s₁.setTop (mkF m 182 #[.val (.ref d), .val (.int x1), .val (.int (g kp)), .val (.int (4 : Int32)), .val (.int (128 : Int32)), .val (.int (143 : Int32))] [])) (fun t_ k_ => XS.goto X0.here hx rfl (pc0 := 175) (pc' := 182) rfl (hb hby own_b2_d175) (by decide) (by decide) k_) ?_
                            exact J3  3 128 143 (own_beg3 (by omega) (if_neg (by omega)) (if_pos (by omega)))
                          · have hd52 := own_neq32 hc52
                            rw [show (244 : Int32).toInt = 244 from rfl] at hd52
                            refine own_st (B := s₁.setTop (mkF m 178 #[.val (.ref d), .val (.int x1), .val (.int (g kp)), .unset, .val (.int (128 : Int32)), .val (.int (191 : Int32))] [])) (fun t_ k_ => XS.icmpYes X0.here hx rfl (pc0 := 165) (pc' := 178) rfl (hb hby own_b2_d165) rfl (feq hc52).2 (by decide) (by decide) k_) ?_
                            refine own_st (B := s₁.setTop (mkF m 179 #[.val (.ref d), .val (.int x1), .val (.int (g kp)), .unset, .val (.int (128 : Int32)), .val (.int (191 : Int32))] [(.int (-1 : Int32))])) (fun t_ k_ => XS.iconst X0.here hx rfl (hb hby own_b2_d178) k_) ?_
                            refine own_st (B := s₁.setTop (mkF m 180 #[.val (.ref d), .val (.int x1), .val (.int (g kp)), .unset, .val (.int (128 : Int32)), .val (.int (191 : Int32))] [(.int x1), (.int (-1 : Int32))])) (fun t_ k_ => XS.iloadN X0.here hx rfl (hb hby own_b2_d179) rfl k_) ?_
                            refine own_st (B := s₁.setTop (mkF m 181 #[.val (.ref d), .val (.int x1), .val (.int (g kp)), .unset, .val (.int (128 : Int32)), .val (.int (191 : Int32))] [(.int ((-1 : Int32) - x1))])) (fun t_ k_ => XS.isub X0.here hx rfl (hb hby own_b2_d180) rfl k_) ?_
                            refine own_retI X0 hx Bd.returns hlk (hb hby own_b2_d181) (by decide) (by decide) ?_
                            show Q2 Z d x1 kp g b h0 n0 _ s₁.heap _
                            rw [e0]
                            exact ⟨_, rfl, (own_mi hpi hp8 (-1 : Int32) (by decide)).trans (own_refC (by omega) (by omega) (own_begN (by omega) (by omega) (by omega))).symm, N0, rfl⟩
                        · have hd51 := own_nlt32 hc51
                          rw [show (241 : Int32).toInt = 241 from rfl] at hd51
                          refine own_st (B := s₁.setTop (mkF m 149 #[.val (.ref d), .val (.int x1), .val (.int (g kp)), .unset, .val (.int (128 : Int32)), .val (.int (191 : Int32))] [])) (fun t_ k_ => XS.icmpNo X0.here hx rfl (hb hby own_b2_d146) rfl (flt hc51).1 k_) ?_
                          refine own_st (B := s₁.setTop (mkF m 150 #[.val (.ref d), .val (.int x1), .val (.int (g kp)), .unset, .val (.int (128 : Int32)), .val (.int (191 : Int32))] [(.int (g kp))])) (fun t_ k_ => XS.iloadN X0.here hx rfl (hb hby own_b2_d149) rfl k_) ?_
                          refine own_st (B := s₁.setTop (mkF m 153 #[.val (.ref d), .val (.int x1), .val (.int (g kp)), .unset, .val (.int (128 : Int32)), .val (.int (191 : Int32))] [(.int (243 : Int32)), (.int (g kp))])) (fun t_ k_ => XS.sipush X0.here hx rfl (hb hby own_b2_d150) k_) ?_
                          by_cases hc53 : (243 : Int32) < (g kp)
                          · have hd53 := own_lt32 hc53
                            rw [show (243 : Int32).toInt = 243 from rfl] at hd53
                            refine own_st (B := s₁.setTop (mkF m 161 #[.val (.ref d), .val (.int x1), .val (.int (g kp)), .unset, .val (.int (128 : Int32)), .val (.int (191 : Int32))] [])) (fun t_ k_ => XS.icmpYes X0.here hx rfl (pc0 := 153) (pc' := 161) rfl (hb hby own_b2_d153) rfl (tlt hc53).2.2.1 (by decide) (by decide) k_) ?_
                            refine own_st (B := s₁.setTop (mkF m 162 #[.val (.ref d), .val (.int x1), .val (.int (g kp)), .unset, .val (.int (128 : Int32)), .val (.int (191 : Int32))] [(.int (g kp))])) (fun t_ k_ => XS.iloadN X0.here hx rfl (hb hby own_b2_d161) rfl k_) ?_
                            refine own_st (B := s₁.setTop (mkF m 165 #[.val (.ref d), .val (.int x1), .val (.int (g kp)), .unset, .val (.int (128 : Int32)), .val (.int (191 : Int32))] [(.int (244 : Int32)), (.int (g kp))])) (fun t_ k_ => XS.sipush X0.here hx rfl (hb hby own_b2_d162) k_) ?_
                            by_cases hc54 : (g kp) = (244 : Int32)
                            · have hd54 := own_eq32 hc54
                              rw [show (244 : Int32).toInt = 244 from rfl] at hd54
                              refine own_st (B := s₁.setTop (mkF m 168 #[.val (.ref d), .val (.int x1), .val (.int (g kp)), .unset, .val (.int (128 : Int32)), .val (.int (191 : Int32))] [])) (fun t_ k_ => XS.icmpNo X0.here hx rfl (hb hby own_b2_d165) rfl (teq hc54).2 k_) ?_
                              refine own_st (B := s₁.setTop (mkF m 169 #[.val (.ref d), .val (.int x1), .val (.int (g kp)), .unset, .val (.int (128 : Int32)), .val (.int (191 : Int32))] [(.int (4 : Int32))])) (fun t_ k_ => XS.iconst X0.here hx rfl (hb hby own_b2_d168) k_) ?_
                              refine own_st (B := s₁.setTop (mkF m 170 #[.val (.ref d), .val (.int x1), .val (.int (g kp)), .val (.int (4 : Int32)), .val (.int (128 : Int32)), .val (.int (191 : Int32))] [])) (fun t_ k_ => XS.istoreN X0.here hx rfl (hb hby own_b2_d169) rfl (l' := #[.val (.ref d), .val (.int x1), .val (.int (g kp)), .val (.int (4 : Int32)), .val (.int (128 : Int32)), .val (.int (191 : Int32))]) rfl k_) ?_
                              refine own_st (B := s₁.setTop (mkF m 173 #[.val (.ref d), .val (.int x1), .val (.int (g kp)), .val (.int (4 : Int32)), .val (.int (128 : Int32)), .val (.int (191 : Int32))] [(.int (143 : Int32))])) (fun t_ k_ => XS.sipush X0.here hx rfl (hb hby own_b2_d170) k_) ?_
                              refine own_st (B := s₁.setTop (mkF m 175 #[.val (.ref d), .val (.int x1), .val (.int (g kp)), .val (.int (4 : Int32)), .val (.int (128 : Int32)), .val (.int (143 : Int32))] [])) (fun t_ k_ => XS.istore X0.here hx rfl (hb hby own_b2_d173) rfl (l' := #[.val (.ref d), .val (.int x1), .val (.int (g kp)), .val (.int (4 : Int32)), .val (.int (128 : Int32)), .val (.int (143 : Int32))]) rfl k_) ?_
                              refine own_st (B := s₁.setTop (mkF m 182 #[.val (.ref d), .val (.int x1), .val (.int (g kp)), .val (.int (4 : Int32)), .val (.int (128 : Int32)), .val (.int (143 : Int32))] [])) (fun t_ k_ => XS.goto X0.here hx rfl (pc0 := 175) (pc' := 182) rfl (hb hby own_b2_d175) (by decide) (by decide) k_) ?_
                              exact J3  3 128 143 (own_beg3 (by omega) (if_neg (by omega)) (if_pos (by omega)))
                            · have hd54 := own_neq32 hc54
                              rw [show (244 : Int32).toInt = 244 from rfl] at hd54
                              refine own_st (B := s₁.setTop (mkF m 178 #[.val (.ref d), .val (.int x1), .val (.int (g kp)), .unset, .val (.int (128 : Int32)), .val (.int (191 : Int32))] [])) (fun t_ k_ => XS.icmpYes X0.here hx rfl (pc0 := 165) (pc' := 178) rfl (hb hby own_b2_d165) rfl (feq hc54).2 (by decide) (by decide) k_) ?_
                              refine own_st (B := s₁.setTop (mkF m 179 #[.val (.ref d), .val (.int x1), .val (.int (g kp)), .unset, .val (.int (128 : Int32)), .val (.int (191 : Int32))] [(.int (-1 : Int32))])) (fun t_ k_ => XS.iconst X0.here hx rfl (hb hby own_b2_d178) k_) ?_
                              refine own_st (B := s₁.setTop (mkF m 180 #[.val (.ref d), .val (.int x1), .val (.int (g kp)), .unset, .val (.int (128 : Int32)), .val (.int (191 : Int32))] [(.int x1), (.int (-1 : Int32))])) (fun t_ k_ => XS.iloadN X0.here hx rfl (hb hby own_b2_d179) rfl k_) ?_
                              refine own_st (B := s₁.setTop (mkF m 181 #[.val (.ref d), .val (.int x1), .val (.int (g kp)), .unset, .val (.int (128 : Int32)), .val (.int (191 : Int32))] [(.int ((-1 : Int32) - x1))])) (fun t_ k_ => XS.isub X0.here hx rfl (hb hby own_b2_d180) rfl k_) ?_
                              refine own_retI X0 hx Bd.returns hlk (hb hby own_b2_d181) (by decide) (by decide) ?_
                              show Q2 Z d x1 kp g b h0 n0 _ s₁.heap _
                              rw [e0]
                              exact ⟨_, rfl, (own_mi hpi hp8 (-1 : Int32) (by decide)).trans (own_refC (by omega) (by omega) (own_begN (by omega) (by omega) (by omega))).symm, N0, rfl⟩
                          · have hd53 := own_nlt32 hc53
                            rw [show (243 : Int32).toInt = 243 from rfl] at hd53
                            refine own_st (B := s₁.setTop (mkF m 156 #[.val (.ref d), .val (.int x1), .val (.int (g kp)), .unset, .val (.int (128 : Int32)), .val (.int (191 : Int32))] [])) (fun t_ k_ => XS.icmpNo X0.here hx rfl (hb hby own_b2_d153) rfl (flt hc53).2.2.1 k_) ?_
                            refine own_st (B := s₁.setTop (mkF m 157 #[.val (.ref d), .val (.int x1), .val (.int (g kp)), .unset, .val (.int (128 : Int32)), .val (.int (191 : Int32))] [(.int (4 : Int32))])) (fun t_ k_ => XS.iconst X0.here hx rfl (hb hby own_b2_d156) k_) ?_
                            refine own_st (B := s₁.setTop (mkF m 158 #[.val (.ref d), .val (.int x1), .val (.int (g kp)), .val (.int (4 : Int32)), .val (.int (128 : Int32)), .val (.int (191 : Int32))] [])) (fun t_ k_ => XS.istoreN X0.here hx rfl (hb hby own_b2_d157) rfl (l' := #[.val (.ref d), .val (.int x1), .val (.int (g kp)), .val (.int (4 : Int32)), .val (.int (128 : Int32)), .val (.int (191 : Int32))]) rfl k_) ?_
                            refine own_st (B := s₁.setTop (mkF m 182 #[.val (.ref d), .val (.int x1), .val (.int (g kp)), .val (.int (4 : Int32)), .val (.int (128 : Int32)), .val (.int (191 : Int32))] [])) (fun t_ k_ => XS.goto X0.here hx rfl (pc0 := 158) (pc' := 182) rfl (hb hby own_b2_d158) (by decide) (by decide) k_) ?_
                            exact J3  3 128 191 (own_beg3 (by omega) (if_neg (by omega)) (if_neg (by omega)))
              · have hd46 := own_nlt32 hc46
                rw [show (236 : Int32).toInt = 236 from rfl] at hd46
                refine own_st (B := s₁.setTop (mkF m 84 #[.val (.ref d), .val (.int x1), .val (.int (g kp)), .unset, .val (.int (128 : Int32)), .val (.int (191 : Int32))] [])) (fun t_ k_ => XS.icmpNo X0.here hx rfl (hb hby own_b2_d81) rfl (flt hc46).2.2.1 k_) ?_
                refine own_st (B := s₁.setTop (mkF m 85 #[.val (.ref d), .val (.int x1), .val (.int (g kp)), .unset, .val (.int (128 : Int32)), .val (.int (191 : Int32))] [(.int (3 : Int32))])) (fun t_ k_ => XS.iconst X0.here hx rfl (hb hby own_b2_d84) k_) ?_
                refine own_st (B := s₁.setTop (mkF m 86 #[.val (.ref d), .val (.int x1), .val (.int (g kp)), .val (.int (3 : Int32)), .val (.int (128 : Int32)), .val (.int (191 : Int32))] [])) (fun t_ k_ => XS.istoreN X0.here hx rfl (hb hby own_b2_d85) rfl (l' := #[.val (.ref d), .val (.int x1), .val (.int (g kp)), .val (.int (3 : Int32)), .val (.int (128 : Int32)), .val (.int (191 : Int32))]) rfl k_) ?_
                refine own_st (B := s₁.setTop (mkF m 182 #[.val (.ref d), .val (.int x1), .val (.int (g kp)), .val (.int (3 : Int32)), .val (.int (128 : Int32)), .val (.int (191 : Int32))] [])) (fun t_ k_ => XS.goto X0.here hx rfl (pc0 := 86) (pc' := 182) rfl (hb hby own_b2_d86) (by decide) (by decide) k_) ?_
                exact J3  2 128 191 (own_beg2 (by omega) (if_neg (by omega)) (if_neg (by omega)))
        · have hd35 := own_nlt32 hc35
          rw [show (223 : Int32).toInt = 223 from rfl] at hd35
          refine own_st (B := s₁.setTop (mkF m 48 #[.val (.ref d), .val (.int x1), .val (.int (g kp)), .unset, .val (.int (128 : Int32)), .val (.int (191 : Int32))] [])) (fun t_ k_ => XS.icmpNo X0.here hx rfl (hb hby own_b2_d45) rfl (flt hc35).2.2.1 k_) ?_
          refine own_st (B := s₁.setTop (mkF m 49 #[.val (.ref d), .val (.int x1), .val (.int (g kp)), .unset, .val (.int (128 : Int32)), .val (.int (191 : Int32))] [(.int (2 : Int32))])) (fun t_ k_ => XS.iconst X0.here hx rfl (hb hby own_b2_d48) k_) ?_
          refine own_st (B := s₁.setTop (mkF m 50 #[.val (.ref d), .val (.int x1), .val (.int (g kp)), .val (.int (2 : Int32)), .val (.int (128 : Int32)), .val (.int (191 : Int32))] [])) (fun t_ k_ => XS.istoreN X0.here hx rfl (hb hby own_b2_d49) rfl (l' := #[.val (.ref d), .val (.int x1), .val (.int (g kp)), .val (.int (2 : Int32)), .val (.int (128 : Int32)), .val (.int (191 : Int32))]) rfl k_) ?_
          refine own_st (B := s₁.setTop (mkF m 182 #[.val (.ref d), .val (.int x1), .val (.int (g kp)), .val (.int (2 : Int32)), .val (.int (128 : Int32)), .val (.int (191 : Int32))] [])) (fun t_ k_ => XS.goto X0.here hx rfl (pc0 := 50) (pc' := 182) rfl (hb hby own_b2_d50) (by decide) (by decide) k_) ?_
          exact J3  1 128 191 (own_beg1 (by omega))
  · have hd1 := own_nlt32 hc1
    rw [show (8 : Int32).toInt = 8 from rfl] at hd1
    refine own_st (B := s₁.setTop (mkF m 6 #[.val (.ref d), .val (.int x1), .unset, .unset, .unset, .unset] [])) (fun t_ k_ => XS.icmpNo X0.here hx rfl (hb hby own_b2_d3) rfl (flt hc1).1 k_) ?_
    refine own_st (B := s₁.setTop (mkF m 8 #[.val (.ref d), .val (.int x1), .unset, .unset, .unset, .unset] [(.int (8 : Int32))])) (fun t_ k_ => XS.bipush X0.here hx rfl (hb hby own_b2_d6) k_) ?_
    refine own_retI X0 hx Bd.returns hlk (hb hby own_b2_d8) (by decide) (by decide) ?_
    show Q2 Z d x1 kp g b h0 n0 _ s₁.heap _
    rw [e0]
    exact ⟨_, rfl, (own_refA (by omega)).symm, N0, rfl⟩
def own_s5 (f : Nat → Int32) (s : Int × Int × Int × Int × Int) : Prop := (f 0).toInt = s.1 ∧ (f 1).toInt = s.2.1 ∧ (f 2).toInt = s.2.2.1 ∧ (f 3).toInt = s.2.2.2.1 ∧ (f 4).toInt = s.2.2.2.2
theorem own_advX {b : Nat → Nat} {s : Int × Int × Int × Int × Int} (h : ¬ s.2.2.2.2 = 0) : own_adv b s = s := by unfold own_adv; rw [if_neg h]
theorem own_advN {b : Nat → Nat} {s : Int × Int × Int × Int × Int} {k : Nat} (hk : s.1 = k) (h : s.2.2.2.2 = 0) (h1 : own_ref b k < 0) : own_adv b s = (s.1, -1 - own_ref b k, s.1, s.2.2.2.1, 1) := by unfold own_adv; rw [if_pos h, hk, Int.toNat_natCast, if_pos h1]
theorem own_advC {b : Nat → Nat} {s : Int × Int × Int × Int × Int} {k : Nat} (hk : s.1 = k) (h : s.2.2.2.2 = 0) (h1 : ¬ own_ref b k < 0) (h2 : own_ref b k = 100) : own_adv b s = (s.1, s.2.1, s.2.2.1, 1, 1) := by unfold own_adv; rw [if_pos h, hk, Int.toNat_natCast, if_neg h1, if_pos h2]
theorem own_advG {b : Nat → Nat} {s : Int × Int × Int × Int × Int} {k : Nat} (hk : s.1 = k) (h : s.2.2.2.2 = 0) (h1 : ¬ own_ref b k < 0) (h2 : ¬ own_ref b k = 100) : own_adv b s = (own_ref b k, s.2.1, s.2.2.1, s.2.2.2.1, s.2.2.2.2) := by unfold own_adv; rw [if_pos h, hk, Int.toNat_natCast, if_neg h1, if_neg h2]
theorem own_neg1 {y : Int32} {r : Int} (h : y.toInt = r) (h1 : r < 0) : ((-1 : Int32) - y).toInt = -1 - r := by
  have q1 := c_isub (-1) y; have q2 := rng32 (-1 - y); have q3 := rng32 y; rw [show (-1 : Int32).toInt = -1 from by decide] at q1; omega
theorem own_pd1 : parseMethodDescriptor "([II)I" = some ⟨[(.array .int), .int], some .int⟩ := by decide +kernel
theorem own_b1_d0 : decode method_3_code 0 = .ok (.aload_n 1, 1) := by decide +kernel
theorem own_b1_d1 : decode method_3_code 1 = .ok (.iconst 4, 1) := by decide +kernel
theorem own_b1_d2 : decode method_3_code 2 = .ok (.iaload, 1) := by decide +kernel
theorem own_b1_d3 : decode method_3_code 3 = .ok (.ifCond .eq 4, 3) := by decide +kernel
theorem own_b1_d6 : decode method_3_code 6 = .ok (.return_, 1) := by decide +kernel
theorem own_b1_d7 : decode method_3_code 7 = .ok (.aload_n 1, 1) := by decide +kernel
theorem own_b1_d8 : decode method_3_code 8 = .ok (.iconst 0, 1) := by decide +kernel
theorem own_b1_d9 : decode method_3_code 9 = .ok (.iaload, 1) := by decide +kernel
theorem own_b1_d10 : decode method_3_code 10 = .ok (.istore_n 2, 1) := by decide +kernel
theorem own_b1_d11 : decode method_3_code 11 = .ok (.aload_n 0, 1) := by decide +kernel
theorem own_b1_d12 : decode method_3_code 12 = .ok (.iload_n 2, 1) := by decide +kernel
theorem own_b1_d13 : decode method_3_code 13 = .ok (.invokestatic 33, 3) := by decide +kernel
theorem own_b1_d16 : decode method_3_code 16 = .ok (.istore_n 3, 1) := by decide +kernel
theorem own_b1_d17 : decode method_3_code 17 = .ok (.iload_n 3, 1) := by decide +kernel
theorem own_b1_d18 : decode method_3_code 18 = .ok (.ifCond .ge 20, 3) := by decide +kernel
theorem own_b1_d21 : decode method_3_code 21 = .ok (.aload_n 1, 1) := by decide +kernel
theorem own_b1_d22 : decode method_3_code 22 = .ok (.iconst 1, 1) := by decide +kernel
theorem own_b1_d23 : decode method_3_code 23 = .ok (.iconst (-1), 1) := by decide +kernel
theorem own_b1_d24 : decode method_3_code 24 = .ok (.iload_n 3, 1) := by decide +kernel
theorem own_b1_d25 : decode method_3_code 25 = .ok (.isub, 1) := by decide +kernel
theorem own_b1_d26 : decode method_3_code 26 = .ok (.iastore, 1) := by decide +kernel
theorem own_b1_d27 : decode method_3_code 27 = .ok (.aload_n 1, 1) := by decide +kernel
theorem own_b1_d28 : decode method_3_code 28 = .ok (.iconst 2, 1) := by decide +kernel
theorem own_b1_d29 : decode method_3_code 29 = .ok (.iload_n 2, 1) := by decide +kernel
theorem own_b1_d30 : decode method_3_code 30 = .ok (.iastore, 1) := by decide +kernel
theorem own_b1_d31 : decode method_3_code 31 = .ok (.aload_n 1, 1) := by decide +kernel
theorem own_b1_d32 : decode method_3_code 32 = .ok (.iconst 4, 1) := by decide +kernel
theorem own_b1_d33 : decode method_3_code 33 = .ok (.iconst 1, 1) := by decide +kernel
theorem own_b1_d34 : decode method_3_code 34 = .ok (.iastore, 1) := by decide +kernel
theorem own_b1_d35 : decode method_3_code 35 = .ok (.goto 24, 3) := by decide +kernel
theorem own_b1_d38 : decode method_3_code 38 = .ok (.iload_n 3, 1) := by decide +kernel
theorem own_b1_d39 : decode method_3_code 39 = .ok (.bipush 100, 2) := by decide +kernel
theorem own_b1_d41 : decode method_3_code 41 = .ok (.if_icmp .ne 14, 3) := by decide +kernel
theorem own_b1_d44 : decode method_3_code 44 = .ok (.aload_n 1, 1) := by decide +kernel
theorem own_b1_d45 : decode method_3_code 45 = .ok (.iconst 3, 1) := by decide +kernel
theorem own_b1_d46 : decode method_3_code 46 = .ok (.iconst 1, 1) := by decide +kernel
theorem own_b1_d47 : decode method_3_code 47 = .ok (.iastore, 1) := by decide +kernel
theorem own_b1_d48 : decode method_3_code 48 = .ok (.aload_n 1, 1) := by decide +kernel
theorem own_b1_d49 : decode method_3_code 49 = .ok (.iconst 4, 1) := by decide +kernel
theorem own_b1_d50 : decode method_3_code 50 = .ok (.iconst 1, 1) := by decide +kernel
theorem own_b1_d51 : decode method_3_code 51 = .ok (.iastore, 1) := by decide +kernel
theorem own_b1_d52 : decode method_3_code 52 = .ok (.goto 7, 3) := by decide +kernel
theorem own_b1_d55 : decode method_3_code 55 = .ok (.aload_n 1, 1) := by decide +kernel
theorem own_b1_d56 : decode method_3_code 56 = .ok (.iconst 0, 1) := by decide +kernel
theorem own_b1_d57 : decode method_3_code 57 = .ok (.iload_n 3, 1) := by decide +kernel
theorem own_b1_d58 : decode method_3_code 58 = .ok (.iastore, 1) := by decide +kernel
theorem own_b1_d59 : decode method_3_code 59 = .ok (.return_, 1) := by decide +kernel
theorem own_ef_rm1 (m : MethodId) (x0 : Addr) (x1 : Addr) : entryFrame m #[(.ref x0), (.ref x1)] 4 = mkF m 0 #[.val (.ref x0), .val (.ref x1), .unset, .unset] [] := by first | (simp [entryFrame, mkF, argsToLocals, Value.category]; done) | rfl
def Q1 (Z : State) (d1 : Addr) (d2 : Addr) (g : Nat → Int32) (fs : Nat → Int32) (b : Nat → Nat) (s' : Int × Int × Int × Int × Int) (h0 : Heap) (n0 : Nat) (v : Option Value) (h : Heap) (L : List Loc) : Prop := v = none ∧ Fr n0 L ∧ Keep h0 h [d2] ∧ ∃ fs' : Nat → Int32, own_A Z h d2 .int 5 fs' ∧ own_s5 fs' (own_adv b s')
set_option maxRecDepth 65536 in
set_option maxHeartbeats 40000000 in
theorem rm1 (l : Launch) (Z : State) (a0 : Array Value) (hw : ∀ d ∈ tables_1, d.before a0 Z = true) (ws : List Jvm.Cond) (d1 : Addr) (d2 : Addr) (g : Nat → Int32) (fs : Nat → Int32) (b : Nat → Nat) (s' : Int × Int × Int × Int × Int) (h0 : Heap) (n0 : Nat) (Z0 : n0 ≤ h0.size) (A1 : own_A Z h0 d1 .int 8 g) (A2 : own_A Z h0 d2 .int 5 fs) (hne : d1 ≠ d2) (gd : n0 ≤ d2) (hg : ∀ j, j < 8 → (g j).toInt = (b j : Int)) (hs : own_s5 fs s') (hP : 0 ≤ s'.1 ∧ s'.1 ≤ 8) :
    MetFree l (⟨"com/example/mapwright/mapwright/Utf8CheckCheckPinLaw", "advance", "([I[I)V"⟩ : MethodName) (head1 (Jvm.Cond.code (⟨"com/example/mapwright/mapwright/Utf8CheckCheckPinLaw", "advance", "([I[I)V"⟩ : MethodName) method_3_code 4 none :: ws) ({ frames := 2, cells := 0, slots := 0, locals := 29 } : Room)) (fun aa_ U_ => aa_ = #[(.ref d1), (.ref d2)] ∧ Z.Warmed39 U_.vm ∧ U_.heap = h0) (fun _ _ _ _ _ => True) (fun _ U_ o_ U1_ => ∃ v_ L_, o_ = .returned v_ ∧ Q1 Z d1 d2 g fs b s' h0 n0 v_ U1_.heap L_ ∧ FrameEnd U_ o_ U1_ L_ ({ frames := 2, cells := 0, slots := 0, locals := 29 } : Room).cells ({ frames := 2, cells := 0, slots := 0, locals := 29 } : Room).slots) := by
  refine MetFree.of_bodySF (plainFor_of_name own_pn1) hisR ?_
  intro p e s m args below meth c s₁ Bd hml0 hP hK
  obtain ⟨rfl, hZ, hh⟩ := hP
  have hx := Bd.exec
  have hby := Bd.bytes
  have hlk := Bd.notSynchronized
  have hml : c.maxLocals = 4 := hml0
  have hown : s.vm.findClass "com/example/mapwright/mapwright/Utf8CheckCheckPinLaw" = some m.cls := findClass_of_methodNamed Bd.named
  have hnm := (name_of_methodNamed Bd.named Bd.method).1
  have X0 : Stand p l e ({ frames := 2, cells := 0, slots := 0, locals := 29 } : Room) s m #[(.ref d1), (.ref d2)] below meth c s₁ [] 0 0 := Stand.of_body Bd
  have e0 : s₁.heap = h0 := by rw [← hh, Bd.state]; rfl
  have N0 := Fr.nil n0
  show own_E p e below s (Q1 Z d1 d2 g fs b s' h0 n0) ({ frames := 2, cells := 0, slots := 0, locals := 29 } : Room).cells ({ frames := 2, cells := 0, slots := 0, locals := 29 } : Room).slots (s₁.setTop (entryFrame m #[(.ref d1), (.ref d2)] 4))
  refine own_st (B := s₁.setTop (mkF m 0 #[.val (.ref d1), .val (.ref d2), .unset, .unset] [])) (fun t_ k_ => castTop (own_ef_rm1 m d1 d2) k_) ?_
  have K0 : Keep h0 h0 [d2] := Keep.refl _ _
  obtain ⟨ea1, ea2, ea3, ea4, ea5⟩ := hs
  refine own_st (B := s₁.setTop (mkF m 1 #[.val (.ref d1), .val (.ref d2), .unset, .unset] [(.ref d2)])) (fun t_ k_ => XS.aloadN X0.here hx rfl (hb hby own_b1_d0) rfl rfl k_) ?_
  refine own_st (B := s₁.setTop (mkF m 2 #[.val (.ref d1), .val (.ref d2), .unset, .unset] [(.int (4 : Int32)), (.ref d2)])) (fun t_ k_ => XS.iconst X0.here hx rfl (hb hby own_b1_d1) k_) ?_
  refine own_st (B := s₁.setTop (mkF m 3 #[.val (.ref d1), .val (.ref d2), .unset, .unset] [(.int (fs 4))])) (fun t_ k_ => own_ldI X0 hx hZ e0 A2 (i := 4) (by decide) (by decide) (hb hby own_b1_d2) t_ k_) ?_
  by_cases hc1 : (fs 4) = (0 : Int32)
  · have hd1 := own_eq32 hc1
    rw [show (0 : Int32).toInt = 0 from rfl] at hd1
    refine own_st (B := s₁.setTop (mkF m 7 #[.val (.ref d1), .val (.ref d2), .unset, .unset] [])) (fun t_ k_ => XS.ifYes X0.here hx rfl (pc0 := 3) (pc' := 7) rfl (hb hby own_b1_d3) rfl ((if0 _ _).trans (teq hc1).1) (by decide) (by decide) k_) ?_
    have hD : s'.2.2.2.2 = 0 := by rw [← ea5]; exact hd1
    obtain ⟨kp, hkp⟩ : ∃ k : Nat, s'.1 = k := ⟨s'.1.toNat, by omega⟩
    have hp : own_ix (fs 0) kp := own_ixof (ea1.trans hkp)
    have hp8 : kp ≤ 8 := by omega
    refine own_st (B := s₁.setTop (mkF m 8 #[.val (.ref d1), .val (.ref d2), .unset, .unset] [(.ref d2)])) (fun t_ k_ => XS.aloadN X0.here hx rfl (hb hby own_b1_d7) rfl rfl k_) ?_
    refine own_st (B := s₁.setTop (mkF m 9 #[.val (.ref d1), .val (.ref d2), .unset, .unset] [(.int (0 : Int32)), (.ref d2)])) (fun t_ k_ => XS.iconst X0.here hx rfl (hb hby own_b1_d8) k_) ?_
    refine own_st (B := s₁.setTop (mkF m 10 #[.val (.ref d1), .val (.ref d2), .unset, .unset] [(.int (fs 0))])) (fun t_ k_ => own_ldI X0 hx hZ e0 A2 (i := 0) (by decide) (by decide) (hb hby own_b1_d9) t_ k_) ?_
    refine own_st (B := s₁.setTop (mkF m 11 #[.val (.ref d1), .val (.ref d2), .val (.int (fs 0)), .unset] [])) (fun t_ k_ => XS.istoreN X0.here hx rfl (hb hby own_b1_d10) rfl (l' := #[.val (.ref d1), .val (.ref d2), .val (.int (fs 0)), .unset]) rfl k_) ?_
    refine own_st (B := s₁.setTop (mkF m 12 #[.val (.ref d1), .val (.ref d2), .val (.int (fs 0)), .unset] [(.ref d1)])) (fun t_ k_ => XS.aloadN X0.here hx rfl (hb hby own_b1_d11) rfl rfl k_) ?_
    refine own_st (B := s₁.setTop (mkF m 13 #[.val (.ref d1), .val (.ref d2), .val (.int (fs 0)), .unset] [(.int (fs 0)), (.ref d1)])) (fun t_ k_ => XS.iloadN X0.here hx rfl (hb hby own_b1_d12) rfl k_) ?_
    obtain ⟨_, _, ⟨T2, Lq2, kq2, nq2⟩, -, X2, ⟨Lc2, hQ2, lq2, yq2, zq2⟩, st2⟩ := Jvm.LawKit.callS X0 hx (y := (⟨"com/example/mapwright/mapwright/Utf8CheckCheckPinLaw", "step", "([II)I"⟩ : MethodName)) hown (mvT hZ (hw _ (List.mem_of_getElem? (i := 8) rfl))) (mvT hZ (hw _ (List.mem_of_getElem? (i := 9) rfl))) (mvT hZ (hw _ (List.mem_of_getElem? (i := 6) rfl))) (mvT hZ (hw _ (List.mem_of_getElem? (i := 10) rfl))) (by decide) (backOf (W := 0) (rm2 l Z a0 hw [] d1 (fs 0) kp g b h0 n0 Z0 A1 hp hp8 hg) hZ (hw _ (List.mem_of_getElem? (i := 10) rfl)) (hw _ (List.mem_of_getElem? (i := 6) rfl)) (by decide) (by decide)) (g := (mkF m 13 #[.val (.ref d1), .val (.ref d2), .val (.int (fs 0)), .unset] [(.int (fs 0)), (.ref d1)])) rfl (by rw [hml]; rfl) (argsL := [(.ref d1), (.int (fs 0))]) (rest := []) (lenOf own_pd1 rfl) rfl (by show 2 * 0 + _ ≤ _; exact Nat.le_of_eq rfl) (hb hby own_b1_d13) (fun _ _ => ⟨rfl, e0, (by decide : 0 + 0 ≤ _), (by decide : 0 + 0 ≤ _)⟩)
    dsimp only [Pt.U, Pt.locs, Pt.cells, Pt.slots] at X2 lq2 yq2 zq2 st2 hQ2
    rw [lq2, yq2, zq2] at X2
    have X2 : Stand p l e _ s m _ below meth c T2 _ 0 0 := X2
    obtain ⟨yr, rfl, hyr, N2q, eh2⟩ := hQ2
    have N2 := Fr.app N0 N2q
    refine own_st (B := T2.setTop (mkF m 16 #[.val (.ref d1), .val (.ref d2), .val (.int (fs 0)), .unset] [(.int yr)])) st2 ?_
    refine own_st (B := T2.setTop (mkF m 17 #[.val (.ref d1), .val (.ref d2), .val (.int (fs 0)), .val (.int yr)] [])) (fun t_ k_ => XS.istoreN X2.here hx rfl (hb hby own_b1_d16) rfl (l' := #[.val (.ref d1), .val (.ref d2), .val (.int (fs 0)), .val (.int yr)]) rfl k_) ?_
    refine own_st (B := T2.setTop (mkF m 18 #[.val (.ref d1), .val (.ref d2), .val (.int (fs 0)), .val (.int yr)] [(.int yr)])) (fun t_ k_ => XS.iloadN X2.here hx rfl (hb hby own_b1_d17) rfl k_) ?_
    by_cases hc3 : yr < (0 : Int32)
    · have hd3 := own_lt32 hc3
      rw [show (0 : Int32).toInt = 0 from rfl] at hd3
      refine own_st (B := T2.setTop (mkF m 21 #[.val (.ref d1), .val (.ref d2), .val (.int (fs 0)), .val (.int yr)] [])) (fun t_ k_ => XS.ifNo X2.here hx rfl (hb hby own_b1_d18) rfl ((if0 _ _).trans (tlt hc3).2.1) k_) ?_
      refine own_st (B := T2.setTop (mkF m 22 #[.val (.ref d1), .val (.ref d2), .val (.int (fs 0)), .val (.int yr)] [(.ref d2)])) (fun t_ k_ => XS.aloadN X2.here hx rfl (hb hby own_b1_d21) rfl rfl k_) ?_
      refine own_st (B := T2.setTop (mkF m 23 #[.val (.ref d1), .val (.ref d2), .val (.int (fs 0)), .val (.int yr)] [(.int (1 : Int32)), (.ref d2)])) (fun t_ k_ => XS.iconst X2.here hx rfl (hb hby own_b1_d22) k_) ?_
      refine own_st (B := T2.setTop (mkF m 24 #[.val (.ref d1), .val (.ref d2), .val (.int (fs 0)), .val (.int yr)] [(.int (-1 : Int32)), (.int (1 : Int32)), (.ref d2)])) (fun t_ k_ => XS.iconst X2.here hx rfl (hb hby own_b1_d23) k_) ?_
      refine own_st (B := T2.setTop (mkF m 25 #[.val (.ref d1), .val (.ref d2), .val (.int (fs 0)), .val (.int yr)] [(.int yr), (.int (-1 : Int32)), (.int (1 : Int32)), (.ref d2)])) (fun t_ k_ => XS.iloadN X2.here hx rfl (hb hby own_b1_d24) rfl k_) ?_
      refine own_st (B := T2.setTop (mkF m 26 #[.val (.ref d1), .val (.ref d2), .val (.int (fs 0)), .val (.int yr)] [(.int ((-1 : Int32) - yr)), (.int (1 : Int32)), (.ref d2)])) (fun t_ k_ => XS.isub X2.here hx rfl (hb hby own_b1_d25) rfl k_) ?_
      obtain ⟨T4, h4, X4, e4, W4, a4, st4⟩ := own_stI X2 hx hZ eh2 A2 (i := 1) (j := (1 : Int32)) (by decide) (by decide) (pc := 26) (x := ((-1 : Int32) - yr)) (Ls := #[.val (.ref d1), .val (.ref d2), .val (.int (fs 0)), .val (.int yr)]) (rest := []) (hb hby own_b1_d26)
      have N4 := Fr.snoc X4 N2 gd
      have Z5 := Nat.le_trans Z0 (Keep.of_wr W4).1
      have K6 := K0.wr W4 (Or.inl (List.mem_of_getElem? (i := 0) rfl))
      refine own_st (B := T4.setTop (mkF m 27 #[.val (.ref d1), .val (.ref d2), .val (.int (fs 0)), .val (.int yr)] [])) st4 ?_
      refine own_st (B := T4.setTop (mkF m 28 #[.val (.ref d1), .val (.ref d2), .val (.int (fs 0)), .val (.int yr)] [(.ref d2)])) (fun t_ k_ => XS.aloadN X4.here hx rfl (hb hby own_b1_d27) rfl rfl k_) ?_
      refine own_st (B := T4.setTop (mkF m 29 #[.val (.ref d1), .val (.ref d2), .val (.int (fs 0)), .val (.int yr)] [(.int (2 : Int32)), (.ref d2)])) (fun t_ k_ => XS.iconst X4.here hx rfl (hb hby own_b1_d28) k_) ?_
      refine own_st (B := T4.setTop (mkF m 30 #[.val (.ref d1), .val (.ref d2), .val (.int (fs 0)), .val (.int yr)] [(.int (fs 0)), (.int (2 : Int32)), (.ref d2)])) (fun t_ k_ => XS.iloadN X4.here hx rfl (hb hby own_b1_d29) rfl k_) ?_
      obtain ⟨T7, h7, X7, e7, W7, a7, st7⟩ := own_stI X4 hx hZ e4 a4 (i := 2) (j := (2 : Int32)) (by decide) (by decide) (pc := 30) (x := (fs 0)) (Ls := #[.val (.ref d1), .val (.ref d2), .val (.int (fs 0)), .val (.int yr)]) (rest := []) (hb hby own_b1_d30)
      have N7 := Fr.snoc X7 N4 gd
      have Z8 := Nat.le_trans Z5 (Keep.of_wr W7).1
      have K9 := K6.wr W7 (Or.inl (List.mem_of_getElem? (i := 0) rfl))
      refine own_st (B := T7.setTop (mkF m 31 #[.val (.ref d1), .val (.ref d2), .val (.int (fs 0)), .val (.int yr)] [])) st7 ?_
      refine own_st (B := T7.setTop (mkF m 32 #[.val (.ref d1), .val (.ref d2), .val (.int (fs 0)), .val (.int yr)] [(.ref d2)])) (fun t_ k_ => XS.aloadN X7.here hx rfl (hb hby own_b1_d31) rfl rfl k_) ?_
      refine own_st (B := T7.setTop (mkF m 33 #[.val (.ref d1), .val (.ref d2), .val (.int (fs 0)), .val (.int yr)] [(.int (4 : Int32)), (.ref d2)])) (fun t_ k_ => XS.iconst X7.here hx rfl (hb hby own_b1_d32) k_) ?_
      refine own_st (B := T7.setTop (mkF m 34 #[.val (.ref d1), .val (.ref d2), .val (.int (fs 0)), .val (.int yr)] [(.int (1 : Int32)), (.int (4 : Int32)), (.ref d2)])) (fun t_ k_ => XS.iconst X7.here hx rfl (hb hby own_b1_d33) k_) ?_
      obtain ⟨T10, h10, X10, e10, W10, a10, st10⟩ := own_stI X7 hx hZ e7 a7 (i := 4) (j := (4 : Int32)) (by decide) (by decide) (pc := 34) (x := (1 : Int32)) (Ls := #[.val (.ref d1), .val (.ref d2), .val (.int (fs 0)), .val (.int yr)]) (rest := []) (hb hby own_b1_d34)
      have N10 := Fr.snoc X10 N7 gd
      have Z11 := Nat.le_trans Z8 (Keep.of_wr W10).1
      have K12 := K9.wr W10 (Or.inl (List.mem_of_getElem? (i := 0) rfl))
      refine own_st (B := T10.setTop (mkF m 35 #[.val (.ref d1), .val (.ref d2), .val (.int (fs 0)), .val (.int yr)] [])) st10 ?_
      refine own_st (B := T10.setTop (mkF m 59 #[.val (.ref d1), .val (.ref d2), .val (.int (fs 0)), .val (.int yr)] [])) (fun t_ k_ => XS.goto X10.here hx rfl (pc0 := 35) (pc' := 59) rfl (hb hby own_b1_d35) (by decide) (by decide) k_) ?_
      refine own_retV X10 hx Bd.returns hlk (hb hby own_b1_d59) (by decide) (by decide) ?_
      show Q1 Z d1 d2 g fs b s' h0 n0 _ T10.heap _
      rw [e10]
      unfold Q1
      rw [own_advN hkp hD (by rw [← hyr]; exact hd3)]
      exact ⟨rfl, N10, K12, _, a10, ea1, (own_neg1 hyr (by rw [← hyr]; exact hd3)), ea1, ea4, rfl⟩
    · have hd3 := own_nlt32 hc3
      rw [show (0 : Int32).toInt = 0 from rfl] at hd3
      refine own_st (B := T2.setTop (mkF m 38 #[.val (.ref d1), .val (.ref d2), .val (.int (fs 0)), .val (.int yr)] [])) (fun t_ k_ => XS.ifYes X2.here hx rfl (pc0 := 18) (pc' := 38) rfl (hb hby own_b1_d18) rfl ((if0 _ _).trans (flt hc3).2.1) (by decide) (by decide) k_) ?_
      refine own_st (B := T2.setTop (mkF m 39 #[.val (.ref d1), .val (.ref d2), .val (.int (fs 0)), .val (.int yr)] [(.int yr)])) (fun t_ k_ => XS.iloadN X2.here hx rfl (hb hby own_b1_d38) rfl k_) ?_
      refine own_st (B := T2.setTop (mkF m 41 #[.val (.ref d1), .val (.ref d2), .val (.int (fs 0)), .val (.int yr)] [(.int (100 : Int32)), (.int yr)])) (fun t_ k_ => XS.bipush X2.here hx rfl (hb hby own_b1_d39) k_) ?_
      by_cases hc13 : yr = (100 : Int32)
      · have hd13 := own_eq32 hc13
        rw [show (100 : Int32).toInt = 100 from rfl] at hd13
        refine own_st (B := T2.setTop (mkF m 44 #[.val (.ref d1), .val (.ref d2), .val (.int (fs 0)), .val (.int yr)] [])) (fun t_ k_ => XS.icmpNo X2.here hx rfl (hb hby own_b1_d41) rfl (teq hc13).2 k_) ?_
        refine own_st (B := T2.setTop (mkF m 45 #[.val (.ref d1), .val (.ref d2), .val (.int (fs 0)), .val (.int yr)] [(.ref d2)])) (fun t_ k_ => XS.aloadN X2.here hx rfl (hb hby own_b1_d44) rfl rfl k_) ?_
        refine own_st (B := T2.setTop (mkF m 46 #[.val (.ref d1), .val (.ref d2), .val (.int (fs 0)), .val (.int yr)] [(.int (3 : Int32)), (.ref d2)])) (fun t_ k_ => XS.iconst X2.here hx rfl (hb hby own_b1_d45) k_) ?_
        refine own_st (B := T2.setTop (mkF m 47 #[.val (.ref d1), .val (.ref d2), .val (.int (fs 0)), .val (.int yr)] [(.int (1 : Int32)), (.int (3 : Int32)), (.ref d2)])) (fun t_ k_ => XS.iconst X2.here hx rfl (hb hby own_b1_d46) k_) ?_
        obtain ⟨T14, h14, X14, e14, W14, a14, st14⟩ := own_stI X2 hx hZ eh2 A2 (i := 3) (j := (3 : Int32)) (by decide) (by decide) (pc := 47) (x := (1 : Int32)) (Ls := #[.val (.ref d1), .val (.ref d2), .val (.int (fs 0)), .val (.int yr)]) (rest := []) (hb hby own_b1_d47)
        have N14 := Fr.snoc X14 N2 gd
        have Z15 := Nat.le_trans Z0 (Keep.of_wr W14).1
        have K16 := K0.wr W14 (Or.inl (List.mem_of_getElem? (i := 0) rfl))
        refine own_st (B := T14.setTop (mkF m 48 #[.val (.ref d1), .val (.ref d2), .val (.int (fs 0)), .val (.int yr)] [])) st14 ?_
        refine own_st (B := T14.setTop (mkF m 49 #[.val (.ref d1), .val (.ref d2), .val (.int (fs 0)), .val (.int yr)] [(.ref d2)])) (fun t_ k_ => XS.aloadN X14.here hx rfl (hb hby own_b1_d48) rfl rfl k_) ?_
        refine own_st (B := T14.setTop (mkF m 50 #[.val (.ref d1), .val (.ref d2), .val (.int (fs 0)), .val (.int yr)] [(.int (4 : Int32)), (.ref d2)])) (fun t_ k_ => XS.iconst X14.here hx rfl (hb hby own_b1_d49) k_) ?_
        refine own_st (B := T14.setTop (mkF m 51 #[.val (.ref d1), .val (.ref d2), .val (.int (fs 0)), .val (.int yr)] [(.int (1 : Int32)), (.int (4 : Int32)), (.ref d2)])) (fun t_ k_ => XS.iconst X14.here hx rfl (hb hby own_b1_d50) k_) ?_
        obtain ⟨T17, h17, X17, e17, W17, a17, st17⟩ := own_stI X14 hx hZ e14 a14 (i := 4) (j := (4 : Int32)) (by decide) (by decide) (pc := 51) (x := (1 : Int32)) (Ls := #[.val (.ref d1), .val (.ref d2), .val (.int (fs 0)), .val (.int yr)]) (rest := []) (hb hby own_b1_d51)
        have N17 := Fr.snoc X17 N14 gd
        have Z18 := Nat.le_trans Z15 (Keep.of_wr W17).1
        have K19 := K16.wr W17 (Or.inl (List.mem_of_getElem? (i := 0) rfl))
        refine own_st (B := T17.setTop (mkF m 52 #[.val (.ref d1), .val (.ref d2), .val (.int (fs 0)), .val (.int yr)] [])) st17 ?_
        refine own_st (B := T17.setTop (mkF m 59 #[.val (.ref d1), .val (.ref d2), .val (.int (fs 0)), .val (.int yr)] [])) (fun t_ k_ => XS.goto X17.here hx rfl (pc0 := 52) (pc' := 59) rfl (hb hby own_b1_d52) (by decide) (by decide) k_) ?_
        refine own_retV X17 hx Bd.returns hlk (hb hby own_b1_d59) (by decide) (by decide) ?_
        show Q1 Z d1 d2 g fs b s' h0 n0 _ T17.heap _
        rw [e17]
        unfold Q1
        rw [own_advC hkp hD (by rw [← hyr]; exact hd3) (by rw [← hyr]; exact hd13)]
        exact ⟨rfl, N17, K19, _, a17, ea1, ea2, ea3, rfl, rfl⟩
      · have hd13 := own_neq32 hc13
        rw [show (100 : Int32).toInt = 100 from rfl] at hd13
        refine own_st (B := T2.setTop (mkF m 55 #[.val (.ref d1), .val (.ref d2), .val (.int (fs 0)), .val (.int yr)] [])) (fun t_ k_ => XS.icmpYes X2.here hx rfl (pc0 := 41) (pc' := 55) rfl (hb hby own_b1_d41) rfl (feq hc13).2 (by decide) (by decide) k_) ?_
        refine own_st (B := T2.setTop (mkF m 56 #[.val (.ref d1), .val (.ref d2), .val (.int (fs 0)), .val (.int yr)] [(.ref d2)])) (fun t_ k_ => XS.aloadN X2.here hx rfl (hb hby own_b1_d55) rfl rfl k_) ?_
        refine own_st (B := T2.setTop (mkF m 57 #[.val (.ref d1), .val (.ref d2), .val (.int (fs 0)), .val (.int yr)] [(.int (0 : Int32)), (.ref d2)])) (fun t_ k_ => XS.iconst X2.here hx rfl (hb hby own_b1_d56) k_) ?_
        refine own_st (B := T2.setTop (mkF m 58 #[.val (.ref d1), .val (.ref d2), .val (.int (fs 0)), .val (.int yr)] [(.int yr), (.int (0 : Int32)), (.ref d2)])) (fun t_ k_ => XS.iloadN X2.here hx rfl (hb hby own_b1_d57) rfl k_) ?_
        obtain ⟨T20, h20, X20, e20, W20, a20, st20⟩ := own_stI X2 hx hZ eh2 A2 (i := 0) (j := (0 : Int32)) (by decide) (by decide) (pc := 58) (x := yr) (Ls := #[.val (.ref d1), .val (.ref d2), .val (.int (fs 0)), .val (.int yr)]) (rest := []) (hb hby own_b1_d58)
        have N20 := Fr.snoc X20 N2 gd
        have Z21 := Nat.le_trans Z0 (Keep.of_wr W20).1
        have K22 := K0.wr W20 (Or.inl (List.mem_of_getElem? (i := 0) rfl))
        refine own_st (B := T20.setTop (mkF m 59 #[.val (.ref d1), .val (.ref d2), .val (.int (fs 0)), .val (.int yr)] [])) st20 ?_
        refine own_retV X20 hx Bd.returns hlk (hb hby own_b1_d59) (by decide) (by decide) ?_
        show Q1 Z d1 d2 g fs b s' h0 n0 _ T20.heap _
        rw [e20]
        unfold Q1
        rw [own_advG hkp hD (by rw [← hyr]; exact hd3) (by rw [← hyr]; exact hd13)]
        exact ⟨rfl, N20, K22, _, a20, hyr, ea2, ea3, ea4, ea5⟩
  · have hd1 := own_neq32 hc1
    rw [show (0 : Int32).toInt = 0 from rfl] at hd1
    refine own_st (B := s₁.setTop (mkF m 6 #[.val (.ref d1), .val (.ref d2), .unset, .unset] [])) (fun t_ k_ => XS.ifNo X0.here hx rfl (hb hby own_b1_d3) rfl ((if0 _ _).trans (feq hc1).1) k_) ?_
    refine own_retV X0 hx Bd.returns hlk (hb hby own_b1_d6) (by decide) (by decide) ?_
    show Q1 Z d1 d2 g fs b s' h0 n0 _ s₁.heap _
    rw [e0]
    unfold Q1
    rw [own_advX (by rw [← ea5]; exact hd1)]
    exact ⟨rfl, N0, K0, _, A2, ea1, ea2, ea3, ea4, ea5⟩
theorem own_lb (x : Int64) : 0 ≤ ((x &&& (255 : Int64)).toInt32).toInt ∧ ((x &&& (255 : Int64)).toInt32).toInt < 256 := by
  have h := c_maskL x 255 8 (by decide) (by decide); have h2 := c_l2i (x &&& 255); have h3 := rng32 (x &&& 255).toInt32
  rw [show ((2 ^ 8 : Nat) : Int) = 256 from rfl] at h; omega
theorem own_b8 {P : Nat → Prop} (h : ∀ j : Fin 8, P j) : ∀ j, j < 8 → P j := fun j hj => h ⟨j, hj⟩
theorem own_hgb {gc fb : Nat → Int32} (hgc : ∀ j, j < 8 → ∃ x : Int64, gc j = (x &&& (255 : Int64)).toInt32) (hfb : ∀ j, j < 8 → fb j = (gc j).toInt8.toInt32) : ∀ j, j < 8 → (gc j).toInt = (own_by fb j : Int) := by
  intro j hj
  obtain ⟨x, hx⟩ := hgc j hj
  have h1 := own_lb x; have h2 := c_i2b (gc j)
  rw [← hx] at h1
  unfold own_by; rw [hfb j hj]; omega
theorem own_r9 (x : Int32) : 0 ≤ ((x &&& (2147483647 : Int32)) % (9 : Int32)).toInt ∧ ((x &&& (2147483647 : Int32)) % (9 : Int32)).toInt < 9 := by
  have h1 := c_and x 2147483647 (by decide)
  have h2 := (c_irem (x &&& 2147483647) 9 9 rfl).1 h1.1
  omega
theorem own_trD {b : Nat → Nat} {s' : Nat × Nat × Nat} {i : Nat} : ∀ t, own_tr b (i + t) = some s' → ∃ s, own_tr b i = some s := by
  intro t h
  cases hi : own_tr b i with
  | some s => exact ⟨s, rfl⟩
  | none =>
    have : ∀ k, own_tr b (i + k) = none := by
      intro k; induction k with
      | zero => exact hi
      | succ k ih => rw [← Nat.add_assoc, own_tr, ih]
    rw [this] at h; cases h
theorem own_L1 {b : Nat → Nat} {q : Nat × Nat × Nat} {k : Nat} (h : own_tr b 8 = some q) (hk : k ≤ 8) : ∃ s, own_run b (k - 0) 0 (0, 128, 191) 0 = .inr s ∧ own_run b (8 - k) k s k = .inr q := by
  obtain ⟨s, hs⟩ := own_trD (i := k) (8 - k) (by rw [show k + (8 - k) = 8 by omega]; exact h)
  exact ⟨s, own_B1 _ _ _ _ rfl (by rw [show 0 + (k - 0) = k by omega]; exact hs), own_B1 _ _ _ _ hs (by rw [show k + (8 - k) = 8 by omega]; exact h)⟩
theorem own_L2 {b : Nat → Nat} {x S k : Nat} (hS : own_tr b S = some (0, 128, 191)) (hx : ∃ q, own_tr b x = some q ∧ own_stp q (b x) = none) (hz : ∀ y, S < y → y ≤ x → ∃ q, own_tr b y = some q ∧ q.1 ≠ 0) (hx8 : x < 8) (hk : k ≤ 8) :
    (x < k → own_run b (k - 0) 0 (0, 128, 191) 0 = .inl S) ∧ (¬ x < k → ∃ s, own_run b (k - 0) 0 (0, 128, 191) 0 = .inr s ∧ own_run b (8 - k) k s k = .inl (if k < S then S else k)) := by
  refine ⟨fun h => ?_, fun h => ?_⟩
  · rw [own_B2 hS hx hz _ _ _ _ rfl (Nat.zero_le _) (by omega)]
    by_cases h0 : 0 < S
    · rw [if_pos h0]
    · rw [if_neg h0, show S = 0 by omega]
  · have hx' := hx
    obtain ⟨q, hq, -⟩ := hx
    obtain ⟨s, hs⟩ := own_trD (i := k) (x - k) (by rw [show k + (x - k) = x by omega]; exact hq)
    exact ⟨s, own_B1 _ _ _ _ rfl (by rw [show 0 + (k - 0) = k by omega]; exact hs), own_B2 hS hx' hz _ _ _ _ hs (by omega) (by omega)⟩
theorem own_mx {x y : Int32} {S k : Nat} (h1 : x.toInt = S) (h2 : y.toInt = k) : (own_imax x y).toInt = ((if k < S then S else k : Nat) : Int) := by
  unfold own_imax
  by_cases h : x < y
  · rw [if_pos h, h2]; have := own_lt32 h; rw [if_neg (by omega)]
  · rw [if_neg h, h1]; have := own_nlt32 h
    by_cases h3 : k < S
    · rw [if_pos h3]
    · rw [if_neg h3, show S = k by omega]
theorem own_pd2 : parseMethodDescriptor "([I[I)V" = some ⟨[(.array .int), (.array .int)], none⟩ := by decide +kernel
theorem own_pd3 : parseMethodDescriptor "()V" = some ⟨[], none⟩ := by decide +kernel
theorem own_pd4 : parseMethodDescriptor "([BII)I" = some ⟨[(.array .byte), .int, .int], some .int⟩ := by decide +kernel
theorem own_pd5 : parseMethodDescriptor "()Z" = some ⟨[], some .boolean⟩ := by decide +kernel
theorem own_pd6 : parseMethodDescriptor "(II)I" = some ⟨[.int, .int], some .int⟩ := by decide +kernel
theorem own_ef_rm0 (m : MethodId) (x0 : Int64) (x1 : Int32) : entryFrame m #[(.long x0), (.int x1)] maxLocals = mkF m 0 #[.val (.long x0), .second, .val (.int x1), .unset, .unset, .unset, .unset, .unset, .unset, .unset, .unset, .unset, .unset] [] := by first | (simp [entryFrame, mkF, argsToLocals, Value.category, maxLocals]; done) | rfl
def Q0 (Z : State) (u0 : Int64) (u1 : Int32) (h0 : Heap) (n0 : Nat) (v : Option Value) (h : Heap) (L : List Loc) : Prop := v = some (.int 1) ∧ Fr n0 L
set_option maxRecDepth 65536 in
set_option maxHeartbeats 40000000 in
theorem rm0 (l : Launch) (Z : State) (a0 : Array Value) (hw : ∀ d ∈ tables_1, d.before a0 Z = true) (ws : List Jvm.Cond) (u0 : Int64) (u1 : Int32) (h0 : Heap) (n0 : Nat) (Z0 : n0 ≤ h0.size) :
    MetFree l x (head1 (Jvm.Cond.code x code maxLocals ret :: ws) room_1) (fun aa_ U_ => aa_ = #[(.long u0), (.int u1)] ∧ Z.Warmed39 U_.vm ∧ U_.heap = h0) (fun _ _ _ _ _ => True) (fun _ U_ o_ U1_ => ∃ v_ L_, o_ = .returned v_ ∧ Q0 Z u0 u1 h0 n0 v_ U1_.heap L_ ∧ FrameEnd U_ o_ U1_ L_ 4 24) := by
  refine MetFree.of_bodySF (plainFor_of_name own_pn1) hisR ?_
  intro p e s m args below meth c s₁ Bd hml0 hP hK
  obtain ⟨rfl, hZ, hh⟩ := hP
  have hx := Bd.exec
  have hby := Bd.bytes
  have hlk := Bd.notSynchronized
  have hml : c.maxLocals = 13 := hml0
  have hown : s.vm.findClass "com/example/mapwright/mapwright/Utf8CheckCheckPinLaw" = some m.cls := findClass_of_methodNamed Bd.named
  have hnm := (name_of_methodNamed Bd.named Bd.method).1
  have X0 : Stand p l e room_1 s m #[(.long u0), (.int u1)] below meth c s₁ [] 0 0 := Stand.of_body Bd
  have e0 : s₁.heap = h0 := by rw [← hh, Bd.state]; rfl
  have N0 := Fr.nil n0
  show own_E p e below s (Q0 Z u0 u1 h0 n0) 4 24 (s₁.setTop (entryFrame m #[(.long u0), (.int u1)] maxLocals))
  refine own_st (B := s₁.setTop (mkF m 0 #[.val (.long u0), .second, .val (.int u1), .unset, .unset, .unset, .unset, .unset, .unset, .unset, .unset, .unset, .unset] [])) (fun t_ k_ => castTop (own_ef_rm0 m u0 u1) k_) ?_
  refine own_st (B := s₁.setTop (mkF m 2 #[.val (.long u0), .second, .val (.int u1), .unset, .unset, .unset, .unset, .unset, .unset, .unset, .unset, .unset, .unset] [(.int (8 : Int32))])) (fun t_ k_ => XS.bipush X0.here hx rfl (hb hby at_0) k_) ?_
  obtain ⟨T1, h1, k1, X1, e1, E1, A1, G1, st1⟩ := newPE X0 hx hZ (hw _ (List.mem_of_getElem? (i := 0) rfl)) e0 (g := (mkF m 2 #[.val (.long u0), .second, .val (.int u1), .unset, .unset, .unset, .unset, .unset, .unset, .unset, .unset, .unset, .unset] [(.int (8 : Int32))])) rfl (hb hby at_2) rfl (by decide) (cap := 8) (by decide) (by decide) (by decide) (by decide) (ad := "[I") (by decide)
  obtain ⟨b1, g1⟩ : ∃ z, z = h0.size := ⟨_, rfl⟩
  rw [← g1] at A1 G1 st1
  have g2 : n0 ≤ b1 := Nat.le_trans Z0 (Nat.le_of_eq g1.symm)
  have Z3 := Nat.le_trans Z0 E1.1
  have X1 : Stand p l e _ s m _ below meth c T1 _ 1 8 := X1
  have a1 : own_A Z h1 b1 .int 8 (fun _ => 0) := own_A.new A1 (by decide) rfl
  refine own_st (B := T1.setTop (mkF m 4 #[.val (.long u0), .second, .val (.int u1), .unset, .unset, .unset, .unset, .unset, .unset, .unset, .unset, .unset, .unset] [(.ref b1)])) st1 ?_
  refine own_st (B := T1.setTop (mkF m 5 #[.val (.long u0), .second, .val (.int u1), .val (.ref b1), .unset, .unset, .unset, .unset, .unset, .unset, .unset, .unset, .unset] [])) (fun t_ k_ => XS.astoreN X1.here hx rfl (hb hby at_4) rfl rfl (l' := #[.val (.long u0), .second, .val (.int u1), .val (.ref b1), .unset, .unset, .unset, .unset, .unset, .unset, .unset, .unset, .unset]) rfl k_) ?_
  refine own_st (B := T1.setTop (mkF m 6 #[.val (.long u0), .second, .val (.int u1), .val (.ref b1), .unset, .unset, .unset, .unset, .unset, .unset, .unset, .unset, .unset] [(.ref b1)])) (fun t_ k_ => XS.aloadN X1.here hx rfl (hb hby at_5) rfl rfl k_) ?_
  refine own_st (B := T1.setTop (mkF m 7 #[.val (.long u0), .second, .val (.int u1), .val (.ref b1), .unset, .unset, .unset, .unset, .unset, .unset, .unset, .unset, .unset] [(.int (0 : Int32)), (.ref b1)])) (fun t_ k_ => XS.iconst X1.here hx rfl (hb hby at_6) k_) ?_
  refine own_st (B := T1.setTop (mkF m 8 #[.val (.long u0), .second, .val (.int u1), .val (.ref b1), .unset, .unset, .unset, .unset, .unset, .unset, .unset, .unset, .unset] [(.long u0), (.int (0 : Int32)), (.ref b1)])) (fun t_ k_ => XS.lloadN X1.here hx rfl (hb hby at_7) rfl k_) ?_
  refine own_st (B := T1.setTop (mkF m 11 #[.val (.long u0), .second, .val (.int u1), .val (.ref b1), .unset, .unset, .unset, .unset, .unset, .unset, .unset, .unset, .unset] [(.long (255 : Int64)), (.long u0), (.int (0 : Int32)), (.ref b1)])) (fun t_ k_ => X1.ldc2Long hx hown (mvT hZ (hw _ (List.mem_of_getElem? (i := 1) rfl))) (g := (mkF m 8 #[.val (.long u0), .second, .val (.int u1), .val (.ref b1), .unset, .unset, .unset, .unset, .unset, .unset, .unset, .unset, .unset] [(.long u0), (.int (0 : Int32)), (.ref b1)])) rfl (hb hby at_8) t_ k_) ?_
  refine own_st (B := T1.setTop (mkF m 12 #[.val (.long u0), .second, .val (.int u1), .val (.ref b1), .unset, .unset, .unset, .unset, .unset, .unset, .unset, .unset, .unset] [(.long (u0 &&& (255 : Int64))), (.int (0 : Int32)), (.ref b1)])) (fun t_ k_ => XS.land X1.here hx rfl (hb hby at_11) rfl k_) ?_
  refine own_st (B := T1.setTop (mkF m 13 #[.val (.long u0), .second, .val (.int u1), .val (.ref b1), .unset, .unset, .unset, .unset, .unset, .unset, .unset, .unset, .unset] [(.int ((u0 &&& (255 : Int64)).toInt32)), (.int (0 : Int32)), (.ref b1)])) (fun t_ k_ => XS.l2i X1.here hx rfl (hb hby at_12) rfl k_) ?_
  obtain ⟨T4, h4, X4, e4, W4, a4, st4⟩ := own_stI X1 hx hZ e1 a1 (i := 0) (j := (0 : Int32)) (by decide) (by decide) (pc := 13) (x := ((u0 &&& (255 : Int64)).toInt32)) (Ls := #[.val (.long u0), .second, .val (.int u1), .val (.ref b1), .unset, .unset, .unset, .unset, .unset, .unset, .unset, .unset, .unset]) (rest := []) (hb hby at_13)
  have N4 := Fr.snoc X4 N0 g2
  have Z5 := Nat.le_trans Z3 (Keep.of_wr W4).1
  refine own_st (B := T4.setTop (mkF m 14 #[.val (.long u0), .second, .val (.int u1), .val (.ref b1), .unset, .unset, .unset, .unset, .unset, .unset, .unset, .unset, .unset] [])) st4 ?_
  refine own_st (B := T4.setTop (mkF m 15 #[.val (.long u0), .second, .val (.int u1), .val (.ref b1), .unset, .unset, .unset, .unset, .unset, .unset, .unset, .unset, .unset] [(.ref b1)])) (fun t_ k_ => XS.aloadN X4.here hx rfl (hb hby at_14) rfl rfl k_) ?_
  refine own_st (B := T4.setTop (mkF m 16 #[.val (.long u0), .second, .val (.int u1), .val (.ref b1), .unset, .unset, .unset, .unset, .unset, .unset, .unset, .unset, .unset] [(.int (1 : Int32)), (.ref b1)])) (fun t_ k_ => XS.iconst X4.here hx rfl (hb hby at_15) k_) ?_
  refine own_st (B := T4.setTop (mkF m 17 #[.val (.long u0), .second, .val (.int u1), .val (.ref b1), .unset, .unset, .unset, .unset, .unset, .unset, .unset, .unset, .unset] [(.long u0), (.int (1 : Int32)), (.ref b1)])) (fun t_ k_ => XS.lloadN X4.here hx rfl (hb hby at_16) rfl k_) ?_
  refine own_st (B := T4.setTop (mkF m 19 #[.val (.long u0), .second, .val (.int u1), .val (.ref b1), .unset, .unset, .unset, .unset, .unset, .unset, .unset, .unset, .unset] [(.int (8 : Int32)), (.long u0), (.int (1 : Int32)), (.ref b1)])) (fun t_ k_ => XS.bipush X4.here hx rfl (hb hby at_17) k_) ?_
  refine own_st (B := T4.setTop (mkF m 20 #[.val (.long u0), .second, .val (.int u1), .val (.ref b1), .unset, .unset, .unset, .unset, .unset, .unset, .unset, .unset, .unset] [(.long ((u0.toUInt64 >>> ((8 : Int32) &&& 0x3f).toInt64.toUInt64).toInt64)), (.int (1 : Int32)), (.ref b1)])) (fun t_ k_ => XS.lushr X4.here hx rfl (hb hby at_19) rfl k_) ?_
  refine own_st (B := T4.setTop (mkF m 23 #[.val (.long u0), .second, .val (.int u1), .val (.ref b1), .unset, .unset, .unset, .unset, .unset, .unset, .unset, .unset, .unset] [(.long (255 : Int64)), (.long ((u0.toUInt64 >>> ((8 : Int32) &&& 0x3f).toInt64.toUInt64).toInt64)), (.int (1 : Int32)), (.ref b1)])) (fun t_ k_ => X4.ldc2Long hx hown (mvT hZ (hw _ (List.mem_of_getElem? (i := 1) rfl))) (g := (mkF m 20 #[.val (.long u0), .second, .val (.int u1), .val (.ref b1), .unset, .unset, .unset, .unset, .unset, .unset, .unset, .unset, .unset] [(.long ((u0.toUInt64 >>> ((8 : Int32) &&& 0x3f).toInt64.toUInt64).toInt64)), (.int (1 : Int32)), (.ref b1)])) rfl (hb hby at_20) t_ k_) ?_
  refine own_st (B := T4.setTop (mkF m 24 #[.val (.long u0), .second, .val (.int u1), .val (.ref b1), .unset, .unset, .unset, .unset, .unset, .unset, .unset, .unset, .unset] [(.long (((u0.toUInt64 >>> ((8 : Int32) &&& 0x3f).toInt64.toUInt64).toInt64) &&& (255 : Int64))), (.int (1 : Int32)), (.ref b1)])) (fun t_ k_ => XS.land X4.here hx rfl (hb hby at_23) rfl k_) ?_
  refine own_st (B := T4.setTop (mkF m 25 #[.val (.long u0), .second, .val (.int u1), .val (.ref b1), .unset, .unset, .unset, .unset, .unset, .unset, .unset, .unset, .unset] [(.int ((((u0.toUInt64 >>> ((8 : Int32) &&& 0x3f).toInt64.toUInt64).toInt64) &&& (255 : Int64)).toInt32)), (.int (1 : Int32)), (.ref b1)])) (fun t_ k_ => XS.l2i X4.here hx rfl (hb hby at_24) rfl k_) ?_
  obtain ⟨T6, h6, X6, e6, W6, a6, st6⟩ := own_stI X4 hx hZ e4 a4 (i := 1) (j := (1 : Int32)) (by decide) (by decide) (pc := 25) (x := ((((u0.toUInt64 >>> ((8 : Int32) &&& 0x3f).toInt64.toUInt64).toInt64) &&& (255 : Int64)).toInt32)) (Ls := #[.val (.long u0), .second, .val (.int u1), .val (.ref b1), .unset, .unset, .unset, .unset, .unset, .unset, .unset, .unset, .unset]) (rest := []) (hb hby at_25)
  have N6 := Fr.snoc X6 N4 g2
  have Z7 := Nat.le_trans Z5 (Keep.of_wr W6).1
  refine own_st (B := T6.setTop (mkF m 26 #[.val (.long u0), .second, .val (.int u1), .val (.ref b1), .unset, .unset, .unset, .unset, .unset, .unset, .unset, .unset, .unset] [])) st6 ?_
  refine own_st (B := T6.setTop (mkF m 27 #[.val (.long u0), .second, .val (.int u1), .val (.ref b1), .unset, .unset, .unset, .unset, .unset, .unset, .unset, .unset, .unset] [(.ref b1)])) (fun t_ k_ => XS.aloadN X6.here hx rfl (hb hby at_26) rfl rfl k_) ?_
  refine own_st (B := T6.setTop (mkF m 28 #[.val (.long u0), .second, .val (.int u1), .val (.ref b1), .unset, .unset, .unset, .unset, .unset, .unset, .unset, .unset, .unset] [(.int (2 : Int32)), (.ref b1)])) (fun t_ k_ => XS.iconst X6.here hx rfl (hb hby at_27) k_) ?_
  refine own_st (B := T6.setTop (mkF m 29 #[.val (.long u0), .second, .val (.int u1), .val (.ref b1), .unset, .unset, .unset, .unset, .unset, .unset, .unset, .unset, .unset] [(.long u0), (.int (2 : Int32)), (.ref b1)])) (fun t_ k_ => XS.lloadN X6.here hx rfl (hb hby at_28) rfl k_) ?_
  refine own_st (B := T6.setTop (mkF m 31 #[.val (.long u0), .second, .val (.int u1), .val (.ref b1), .unset, .unset, .unset, .unset, .unset, .unset, .unset, .unset, .unset] [(.int (16 : Int32)), (.long u0), (.int (2 : Int32)), (.ref b1)])) (fun t_ k_ => XS.bipush X6.here hx rfl (hb hby at_29) k_) ?_
  refine own_st (B := T6.setTop (mkF m 32 #[.val (.long u0), .second, .val (.int u1), .val (.ref b1), .unset, .unset, .unset, .unset, .unset, .unset, .unset, .unset, .unset] [(.long ((u0.toUInt64 >>> ((16 : Int32) &&& 0x3f).toInt64.toUInt64).toInt64)), (.int (2 : Int32)), (.ref b1)])) (fun t_ k_ => XS.lushr X6.here hx rfl (hb hby at_31) rfl k_) ?_
  refine own_st (B := T6.setTop (mkF m 35 #[.val (.long u0), .second, .val (.int u1), .val (.ref b1), .unset, .unset, .unset, .unset, .unset, .unset, .unset, .unset, .unset] [(.long (255 : Int64)), (.long ((u0.toUInt64 >>> ((16 : Int32) &&& 0x3f).toInt64.toUInt64).toInt64)), (.int (2 : Int32)), (.ref b1)])) (fun t_ k_ => X6.ldc2Long hx hown (mvT hZ (hw _ (List.mem_of_getElem? (i := 1) rfl))) (g := (mkF m 32 #[.val (.long u0), .second, .val (.int u1), .val (.ref b1), .unset, .unset, .unset, .unset, .unset, .unset, .unset, .unset, .unset] [(.long ((u0.toUInt64 >>> ((16 : Int32) &&& 0x3f).toInt64.toUInt64).toInt64)), (.int (2 : Int32)), (.ref b1)])) rfl (hb hby at_32) t_ k_) ?_
  refine own_st (B := T6.setTop (mkF m 36 #[.val (.long u0), .second, .val (.int u1), .val (.ref b1), .unset, .unset, .unset, .unset, .unset, .unset, .unset, .unset, .unset] [(.long (((u0.toUInt64 >>> ((16 : Int32) &&& 0x3f).toInt64.toUInt64).toInt64) &&& (255 : Int64))), (.int (2 : Int32)), (.ref b1)])) (fun t_ k_ => XS.land X6.here hx rfl (hb hby at_35) rfl k_) ?_
  refine own_st (B := T6.setTop (mkF m 37 #[.val (.long u0), .second, .val (.int u1), .val (.ref b1), .unset, .unset, .unset, .unset, .unset, .unset, .unset, .unset, .unset] [(.int ((((u0.toUInt64 >>> ((16 : Int32) &&& 0x3f).toInt64.toUInt64).toInt64) &&& (255 : Int64)).toInt32)), (.int (2 : Int32)), (.ref b1)])) (fun t_ k_ => XS.l2i X6.here hx rfl (hb hby at_36) rfl k_) ?_
  obtain ⟨T8, h8, X8, e8, W8, a8, st8⟩ := own_stI X6 hx hZ e6 a6 (i := 2) (j := (2 : Int32)) (by decide) (by decide) (pc := 37) (x := ((((u0.toUInt64 >>> ((16 : Int32) &&& 0x3f).toInt64.toUInt64).toInt64) &&& (255 : Int64)).toInt32)) (Ls := #[.val (.long u0), .second, .val (.int u1), .val (.ref b1), .unset, .unset, .unset, .unset, .unset, .unset, .unset, .unset, .unset]) (rest := []) (hb hby at_37)
  have N8 := Fr.snoc X8 N6 g2
  have Z9 := Nat.le_trans Z7 (Keep.of_wr W8).1
  refine own_st (B := T8.setTop (mkF m 38 #[.val (.long u0), .second, .val (.int u1), .val (.ref b1), .unset, .unset, .unset, .unset, .unset, .unset, .unset, .unset, .unset] [])) st8 ?_
  refine own_st (B := T8.setTop (mkF m 39 #[.val (.long u0), .second, .val (.int u1), .val (.ref b1), .unset, .unset, .unset, .unset, .unset, .unset, .unset, .unset, .unset] [(.ref b1)])) (fun t_ k_ => XS.aloadN X8.here hx rfl (hb hby at_38) rfl rfl k_) ?_
  refine own_st (B := T8.setTop (mkF m 40 #[.val (.long u0), .second, .val (.int u1), .val (.ref b1), .unset, .unset, .unset, .unset, .unset, .unset, .unset, .unset, .unset] [(.int (3 : Int32)), (.ref b1)])) (fun t_ k_ => XS.iconst X8.here hx rfl (hb hby at_39) k_) ?_
  refine own_st (B := T8.setTop (mkF m 41 #[.val (.long u0), .second, .val (.int u1), .val (.ref b1), .unset, .unset, .unset, .unset, .unset, .unset, .unset, .unset, .unset] [(.long u0), (.int (3 : Int32)), (.ref b1)])) (fun t_ k_ => XS.lloadN X8.here hx rfl (hb hby at_40) rfl k_) ?_
  refine own_st (B := T8.setTop (mkF m 43 #[.val (.long u0), .second, .val (.int u1), .val (.ref b1), .unset, .unset, .unset, .unset, .unset, .unset, .unset, .unset, .unset] [(.int (24 : Int32)), (.long u0), (.int (3 : Int32)), (.ref b1)])) (fun t_ k_ => XS.bipush X8.here hx rfl (hb hby at_41) k_) ?_
  refine own_st (B := T8.setTop (mkF m 44 #[.val (.long u0), .second, .val (.int u1), .val (.ref b1), .unset, .unset, .unset, .unset, .unset, .unset, .unset, .unset, .unset] [(.long ((u0.toUInt64 >>> ((24 : Int32) &&& 0x3f).toInt64.toUInt64).toInt64)), (.int (3 : Int32)), (.ref b1)])) (fun t_ k_ => XS.lushr X8.here hx rfl (hb hby at_43) rfl k_) ?_
  refine own_st (B := T8.setTop (mkF m 47 #[.val (.long u0), .second, .val (.int u1), .val (.ref b1), .unset, .unset, .unset, .unset, .unset, .unset, .unset, .unset, .unset] [(.long (255 : Int64)), (.long ((u0.toUInt64 >>> ((24 : Int32) &&& 0x3f).toInt64.toUInt64).toInt64)), (.int (3 : Int32)), (.ref b1)])) (fun t_ k_ => X8.ldc2Long hx hown (mvT hZ (hw _ (List.mem_of_getElem? (i := 1) rfl))) (g := (mkF m 44 #[.val (.long u0), .second, .val (.int u1), .val (.ref b1), .unset, .unset, .unset, .unset, .unset, .unset, .unset, .unset, .unset] [(.long ((u0.toUInt64 >>> ((24 : Int32) &&& 0x3f).toInt64.toUInt64).toInt64)), (.int (3 : Int32)), (.ref b1)])) rfl (hb hby at_44) t_ k_) ?_
  refine own_st (B := T8.setTop (mkF m 48 #[.val (.long u0), .second, .val (.int u1), .val (.ref b1), .unset, .unset, .unset, .unset, .unset, .unset, .unset, .unset, .unset] [(.long (((u0.toUInt64 >>> ((24 : Int32) &&& 0x3f).toInt64.toUInt64).toInt64) &&& (255 : Int64))), (.int (3 : Int32)), (.ref b1)])) (fun t_ k_ => XS.land X8.here hx rfl (hb hby at_47) rfl k_) ?_
  refine own_st (B := T8.setTop (mkF m 49 #[.val (.long u0), .second, .val (.int u1), .val (.ref b1), .unset, .unset, .unset, .unset, .unset, .unset, .unset, .unset, .unset] [(.int ((((u0.toUInt64 >>> ((24 : Int32) &&& 0x3f).toInt64.toUInt64).toInt64) &&& (255 : Int64)).toInt32)), (.int (3 : Int32)), (.ref b1)])) (fun t_ k_ => XS.l2i X8.here hx rfl (hb hby at_48) rfl k_) ?_
  obtain ⟨T10, h10, X10, e10, W10, a10, st10⟩ := own_stI X8 hx hZ e8 a8 (i := 3) (j := (3 : Int32)) (by decide) (by decide) (pc := 49) (x := ((((u0.toUInt64 >>> ((24 : Int32) &&& 0x3f).toInt64.toUInt64).toInt64) &&& (255 : Int64)).toInt32)) (Ls := #[.val (.long u0), .second, .val (.int u1), .val (.ref b1), .unset, .unset, .unset, .unset, .unset, .unset, .unset, .unset, .unset]) (rest := []) (hb hby at_49)
  have N10 := Fr.snoc X10 N8 g2
  have Z11 := Nat.le_trans Z9 (Keep.of_wr W10).1
  refine own_st (B := T10.setTop (mkF m 50 #[.val (.long u0), .second, .val (.int u1), .val (.ref b1), .unset, .unset, .unset, .unset, .unset, .unset, .unset, .unset, .unset] [])) st10 ?_
  refine own_st (B := T10.setTop (mkF m 51 #[.val (.long u0), .second, .val (.int u1), .val (.ref b1), .unset, .unset, .unset, .unset, .unset, .unset, .unset, .unset, .unset] [(.ref b1)])) (fun t_ k_ => XS.aloadN X10.here hx rfl (hb hby at_50) rfl rfl k_) ?_
  refine own_st (B := T10.setTop (mkF m 52 #[.val (.long u0), .second, .val (.int u1), .val (.ref b1), .unset, .unset, .unset, .unset, .unset, .unset, .unset, .unset, .unset] [(.int (4 : Int32)), (.ref b1)])) (fun t_ k_ => XS.iconst X10.here hx rfl (hb hby at_51) k_) ?_
  refine own_st (B := T10.setTop (mkF m 53 #[.val (.long u0), .second, .val (.int u1), .val (.ref b1), .unset, .unset, .unset, .unset, .unset, .unset, .unset, .unset, .unset] [(.long u0), (.int (4 : Int32)), (.ref b1)])) (fun t_ k_ => XS.lloadN X10.here hx rfl (hb hby at_52) rfl k_) ?_
  refine own_st (B := T10.setTop (mkF m 55 #[.val (.long u0), .second, .val (.int u1), .val (.ref b1), .unset, .unset, .unset, .unset, .unset, .unset, .unset, .unset, .unset] [(.int (32 : Int32)), (.long u0), (.int (4 : Int32)), (.ref b1)])) (fun t_ k_ => XS.bipush X10.here hx rfl (hb hby at_53) k_) ?_
  refine own_st (B := T10.setTop (mkF m 56 #[.val (.long u0), .second, .val (.int u1), .val (.ref b1), .unset, .unset, .unset, .unset, .unset, .unset, .unset, .unset, .unset] [(.long ((u0.toUInt64 >>> ((32 : Int32) &&& 0x3f).toInt64.toUInt64).toInt64)), (.int (4 : Int32)), (.ref b1)])) (fun t_ k_ => XS.lushr X10.here hx rfl (hb hby at_55) rfl k_) ?_
  refine own_st (B := T10.setTop (mkF m 59 #[.val (.long u0), .second, .val (.int u1), .val (.ref b1), .unset, .unset, .unset, .unset, .unset, .unset, .unset, .unset, .unset] [(.long (255 : Int64)), (.long ((u0.toUInt64 >>> ((32 : Int32) &&& 0x3f).toInt64.toUInt64).toInt64)), (.int (4 : Int32)), (.ref b1)])) (fun t_ k_ => X10.ldc2Long hx hown (mvT hZ (hw _ (List.mem_of_getElem? (i := 1) rfl))) (g := (mkF m 56 #[.val (.long u0), .second, .val (.int u1), .val (.ref b1), .unset, .unset, .unset, .unset, .unset, .unset, .unset, .unset, .unset] [(.long ((u0.toUInt64 >>> ((32 : Int32) &&& 0x3f).toInt64.toUInt64).toInt64)), (.int (4 : Int32)), (.ref b1)])) rfl (hb hby at_56) t_ k_) ?_
  refine own_st (B := T10.setTop (mkF m 60 #[.val (.long u0), .second, .val (.int u1), .val (.ref b1), .unset, .unset, .unset, .unset, .unset, .unset, .unset, .unset, .unset] [(.long (((u0.toUInt64 >>> ((32 : Int32) &&& 0x3f).toInt64.toUInt64).toInt64) &&& (255 : Int64))), (.int (4 : Int32)), (.ref b1)])) (fun t_ k_ => XS.land X10.here hx rfl (hb hby at_59) rfl k_) ?_
  refine own_st (B := T10.setTop (mkF m 61 #[.val (.long u0), .second, .val (.int u1), .val (.ref b1), .unset, .unset, .unset, .unset, .unset, .unset, .unset, .unset, .unset] [(.int ((((u0.toUInt64 >>> ((32 : Int32) &&& 0x3f).toInt64.toUInt64).toInt64) &&& (255 : Int64)).toInt32)), (.int (4 : Int32)), (.ref b1)])) (fun t_ k_ => XS.l2i X10.here hx rfl (hb hby at_60) rfl k_) ?_
  obtain ⟨T12, h12, X12, e12, W12, a12, st12⟩ := own_stI X10 hx hZ e10 a10 (i := 4) (j := (4 : Int32)) (by decide) (by decide) (pc := 61) (x := ((((u0.toUInt64 >>> ((32 : Int32) &&& 0x3f).toInt64.toUInt64).toInt64) &&& (255 : Int64)).toInt32)) (Ls := #[.val (.long u0), .second, .val (.int u1), .val (.ref b1), .unset, .unset, .unset, .unset, .unset, .unset, .unset, .unset, .unset]) (rest := []) (hb hby at_61)
  have N12 := Fr.snoc X12 N10 g2
  have Z13 := Nat.le_trans Z11 (Keep.of_wr W12).1
  refine own_st (B := T12.setTop (mkF m 62 #[.val (.long u0), .second, .val (.int u1), .val (.ref b1), .unset, .unset, .unset, .unset, .unset, .unset, .unset, .unset, .unset] [])) st12 ?_
  refine own_st (B := T12.setTop (mkF m 63 #[.val (.long u0), .second, .val (.int u1), .val (.ref b1), .unset, .unset, .unset, .unset, .unset, .unset, .unset, .unset, .unset] [(.ref b1)])) (fun t_ k_ => XS.aloadN X12.here hx rfl (hb hby at_62) rfl rfl k_) ?_
  refine own_st (B := T12.setTop (mkF m 64 #[.val (.long u0), .second, .val (.int u1), .val (.ref b1), .unset, .unset, .unset, .unset, .unset, .unset, .unset, .unset, .unset] [(.int (5 : Int32)), (.ref b1)])) (fun t_ k_ => XS.iconst X12.here hx rfl (hb hby at_63) k_) ?_
  refine own_st (B := T12.setTop (mkF m 65 #[.val (.long u0), .second, .val (.int u1), .val (.ref b1), .unset, .unset, .unset, .unset, .unset, .unset, .unset, .unset, .unset] [(.long u0), (.int (5 : Int32)), (.ref b1)])) (fun t_ k_ => XS.lloadN X12.here hx rfl (hb hby at_64) rfl k_) ?_
  refine own_st (B := T12.setTop (mkF m 67 #[.val (.long u0), .second, .val (.int u1), .val (.ref b1), .unset, .unset, .unset, .unset, .unset, .unset, .unset, .unset, .unset] [(.int (40 : Int32)), (.long u0), (.int (5 : Int32)), (.ref b1)])) (fun t_ k_ => XS.bipush X12.here hx rfl (hb hby at_65) k_) ?_
  refine own_st (B := T12.setTop (mkF m 68 #[.val (.long u0), .second, .val (.int u1), .val (.ref b1), .unset, .unset, .unset, .unset, .unset, .unset, .unset, .unset, .unset] [(.long ((u0.toUInt64 >>> ((40 : Int32) &&& 0x3f).toInt64.toUInt64).toInt64)), (.int (5 : Int32)), (.ref b1)])) (fun t_ k_ => XS.lushr X12.here hx rfl (hb hby at_67) rfl k_) ?_
  refine own_st (B := T12.setTop (mkF m 71 #[.val (.long u0), .second, .val (.int u1), .val (.ref b1), .unset, .unset, .unset, .unset, .unset, .unset, .unset, .unset, .unset] [(.long (255 : Int64)), (.long ((u0.toUInt64 >>> ((40 : Int32) &&& 0x3f).toInt64.toUInt64).toInt64)), (.int (5 : Int32)), (.ref b1)])) (fun t_ k_ => X12.ldc2Long hx hown (mvT hZ (hw _ (List.mem_of_getElem? (i := 1) rfl))) (g := (mkF m 68 #[.val (.long u0), .second, .val (.int u1), .val (.ref b1), .unset, .unset, .unset, .unset, .unset, .unset, .unset, .unset, .unset] [(.long ((u0.toUInt64 >>> ((40 : Int32) &&& 0x3f).toInt64.toUInt64).toInt64)), (.int (5 : Int32)), (.ref b1)])) rfl (hb hby at_68) t_ k_) ?_
  refine own_st (B := T12.setTop (mkF m 72 #[.val (.long u0), .second, .val (.int u1), .val (.ref b1), .unset, .unset, .unset, .unset, .unset, .unset, .unset, .unset, .unset] [(.long (((u0.toUInt64 >>> ((40 : Int32) &&& 0x3f).toInt64.toUInt64).toInt64) &&& (255 : Int64))), (.int (5 : Int32)), (.ref b1)])) (fun t_ k_ => XS.land X12.here hx rfl (hb hby at_71) rfl k_) ?_
  refine own_st (B := T12.setTop (mkF m 73 #[.val (.long u0), .second, .val (.int u1), .val (.ref b1), .unset, .unset, .unset, .unset, .unset, .unset, .unset, .unset, .unset] [(.int ((((u0.toUInt64 >>> ((40 : Int32) &&& 0x3f).toInt64.toUInt64).toInt64) &&& (255 : Int64)).toInt32)), (.int (5 : Int32)), (.ref b1)])) (fun t_ k_ => XS.l2i X12.here hx rfl (hb hby at_72) rfl k_) ?_
  obtain ⟨T14, h14, X14, e14, W14, a14, st14⟩ := own_stI X12 hx hZ e12 a12 (i := 5) (j := (5 : Int32)) (by decide) (by decide) (pc := 73) (x := ((((u0.toUInt64 >>> ((40 : Int32) &&& 0x3f).toInt64.toUInt64).toInt64) &&& (255 : Int64)).toInt32)) (Ls := #[.val (.long u0), .second, .val (.int u1), .val (.ref b1), .unset, .unset, .unset, .unset, .unset, .unset, .unset, .unset, .unset]) (rest := []) (hb hby at_73)
  have N14 := Fr.snoc X14 N12 g2
  have Z15 := Nat.le_trans Z13 (Keep.of_wr W14).1
  refine own_st (B := T14.setTop (mkF m 74 #[.val (.long u0), .second, .val (.int u1), .val (.ref b1), .unset, .unset, .unset, .unset, .unset, .unset, .unset, .unset, .unset] [])) st14 ?_
  refine own_st (B := T14.setTop (mkF m 75 #[.val (.long u0), .second, .val (.int u1), .val (.ref b1), .unset, .unset, .unset, .unset, .unset, .unset, .unset, .unset, .unset] [(.ref b1)])) (fun t_ k_ => XS.aloadN X14.here hx rfl (hb hby at_74) rfl rfl k_) ?_
  refine own_st (B := T14.setTop (mkF m 77 #[.val (.long u0), .second, .val (.int u1), .val (.ref b1), .unset, .unset, .unset, .unset, .unset, .unset, .unset, .unset, .unset] [(.int (6 : Int32)), (.ref b1)])) (fun t_ k_ => XS.bipush X14.here hx rfl (hb hby at_75) k_) ?_
  refine own_st (B := T14.setTop (mkF m 78 #[.val (.long u0), .second, .val (.int u1), .val (.ref b1), .unset, .unset, .unset, .unset, .unset, .unset, .unset, .unset, .unset] [(.long u0), (.int (6 : Int32)), (.ref b1)])) (fun t_ k_ => XS.lloadN X14.here hx rfl (hb hby at_77) rfl k_) ?_
  refine own_st (B := T14.setTop (mkF m 80 #[.val (.long u0), .second, .val (.int u1), .val (.ref b1), .unset, .unset, .unset, .unset, .unset, .unset, .unset, .unset, .unset] [(.int (48 : Int32)), (.long u0), (.int (6 : Int32)), (.ref b1)])) (fun t_ k_ => XS.bipush X14.here hx rfl (hb hby at_78) k_) ?_
  refine own_st (B := T14.setTop (mkF m 81 #[.val (.long u0), .second, .val (.int u1), .val (.ref b1), .unset, .unset, .unset, .unset, .unset, .unset, .unset, .unset, .unset] [(.long ((u0.toUInt64 >>> ((48 : Int32) &&& 0x3f).toInt64.toUInt64).toInt64)), (.int (6 : Int32)), (.ref b1)])) (fun t_ k_ => XS.lushr X14.here hx rfl (hb hby at_80) rfl k_) ?_
  refine own_st (B := T14.setTop (mkF m 84 #[.val (.long u0), .second, .val (.int u1), .val (.ref b1), .unset, .unset, .unset, .unset, .unset, .unset, .unset, .unset, .unset] [(.long (255 : Int64)), (.long ((u0.toUInt64 >>> ((48 : Int32) &&& 0x3f).toInt64.toUInt64).toInt64)), (.int (6 : Int32)), (.ref b1)])) (fun t_ k_ => X14.ldc2Long hx hown (mvT hZ (hw _ (List.mem_of_getElem? (i := 1) rfl))) (g := (mkF m 81 #[.val (.long u0), .second, .val (.int u1), .val (.ref b1), .unset, .unset, .unset, .unset, .unset, .unset, .unset, .unset, .unset] [(.long ((u0.toUInt64 >>> ((48 : Int32) &&& 0x3f).toInt64.toUInt64).toInt64)), (.int (6 : Int32)), (.ref b1)])) rfl (hb hby at_81) t_ k_) ?_
  refine own_st (B := T14.setTop (mkF m 85 #[.val (.long u0), .second, .val (.int u1), .val (.ref b1), .unset, .unset, .unset, .unset, .unset, .unset, .unset, .unset, .unset] [(.long (((u0.toUInt64 >>> ((48 : Int32) &&& 0x3f).toInt64.toUInt64).toInt64) &&& (255 : Int64))), (.int (6 : Int32)), (.ref b1)])) (fun t_ k_ => XS.land X14.here hx rfl (hb hby at_84) rfl k_) ?_
  refine own_st (B := T14.setTop (mkF m 86 #[.val (.long u0), .second, .val (.int u1), .val (.ref b1), .unset, .unset, .unset, .unset, .unset, .unset, .unset, .unset, .unset] [(.int ((((u0.toUInt64 >>> ((48 : Int32) &&& 0x3f).toInt64.toUInt64).toInt64) &&& (255 : Int64)).toInt32)), (.int (6 : Int32)), (.ref b1)])) (fun t_ k_ => XS.l2i X14.here hx rfl (hb hby at_85) rfl k_) ?_
  obtain ⟨T16, h16, X16, e16, W16, a16, st16⟩ := own_stI X14 hx hZ e14 a14 (i := 6) (j := (6 : Int32)) (by decide) (by decide) (pc := 86) (x := ((((u0.toUInt64 >>> ((48 : Int32) &&& 0x3f).toInt64.toUInt64).toInt64) &&& (255 : Int64)).toInt32)) (Ls := #[.val (.long u0), .second, .val (.int u1), .val (.ref b1), .unset, .unset, .unset, .unset, .unset, .unset, .unset, .unset, .unset]) (rest := []) (hb hby at_86)
  have N16 := Fr.snoc X16 N14 g2
  have Z17 := Nat.le_trans Z15 (Keep.of_wr W16).1
  refine own_st (B := T16.setTop (mkF m 87 #[.val (.long u0), .second, .val (.int u1), .val (.ref b1), .unset, .unset, .unset, .unset, .unset, .unset, .unset, .unset, .unset] [])) st16 ?_
  refine own_st (B := T16.setTop (mkF m 88 #[.val (.long u0), .second, .val (.int u1), .val (.ref b1), .unset, .unset, .unset, .unset, .unset, .unset, .unset, .unset, .unset] [(.ref b1)])) (fun t_ k_ => XS.aloadN X16.here hx rfl (hb hby at_87) rfl rfl k_) ?_
  refine own_st (B := T16.setTop (mkF m 90 #[.val (.long u0), .second, .val (.int u1), .val (.ref b1), .unset, .unset, .unset, .unset, .unset, .unset, .unset, .unset, .unset] [(.int (7 : Int32)), (.ref b1)])) (fun t_ k_ => XS.bipush X16.here hx rfl (hb hby at_88) k_) ?_
  refine own_st (B := T16.setTop (mkF m 91 #[.val (.long u0), .second, .val (.int u1), .val (.ref b1), .unset, .unset, .unset, .unset, .unset, .unset, .unset, .unset, .unset] [(.long u0), (.int (7 : Int32)), (.ref b1)])) (fun t_ k_ => XS.lloadN X16.here hx rfl (hb hby at_90) rfl k_) ?_
  refine own_st (B := T16.setTop (mkF m 93 #[.val (.long u0), .second, .val (.int u1), .val (.ref b1), .unset, .unset, .unset, .unset, .unset, .unset, .unset, .unset, .unset] [(.int (56 : Int32)), (.long u0), (.int (7 : Int32)), (.ref b1)])) (fun t_ k_ => XS.bipush X16.here hx rfl (hb hby at_91) k_) ?_
  refine own_st (B := T16.setTop (mkF m 94 #[.val (.long u0), .second, .val (.int u1), .val (.ref b1), .unset, .unset, .unset, .unset, .unset, .unset, .unset, .unset, .unset] [(.long ((u0.toUInt64 >>> ((56 : Int32) &&& 0x3f).toInt64.toUInt64).toInt64)), (.int (7 : Int32)), (.ref b1)])) (fun t_ k_ => XS.lushr X16.here hx rfl (hb hby at_93) rfl k_) ?_
  refine own_st (B := T16.setTop (mkF m 97 #[.val (.long u0), .second, .val (.int u1), .val (.ref b1), .unset, .unset, .unset, .unset, .unset, .unset, .unset, .unset, .unset] [(.long (255 : Int64)), (.long ((u0.toUInt64 >>> ((56 : Int32) &&& 0x3f).toInt64.toUInt64).toInt64)), (.int (7 : Int32)), (.ref b1)])) (fun t_ k_ => X16.ldc2Long hx hown (mvT hZ (hw _ (List.mem_of_getElem? (i := 1) rfl))) (g := (mkF m 94 #[.val (.long u0), .second, .val (.int u1), .val (.ref b1), .unset, .unset, .unset, .unset, .unset, .unset, .unset, .unset, .unset] [(.long ((u0.toUInt64 >>> ((56 : Int32) &&& 0x3f).toInt64.toUInt64).toInt64)), (.int (7 : Int32)), (.ref b1)])) rfl (hb hby at_94) t_ k_) ?_
  refine own_st (B := T16.setTop (mkF m 98 #[.val (.long u0), .second, .val (.int u1), .val (.ref b1), .unset, .unset, .unset, .unset, .unset, .unset, .unset, .unset, .unset] [(.long (((u0.toUInt64 >>> ((56 : Int32) &&& 0x3f).toInt64.toUInt64).toInt64) &&& (255 : Int64))), (.int (7 : Int32)), (.ref b1)])) (fun t_ k_ => XS.land X16.here hx rfl (hb hby at_97) rfl k_) ?_
  refine own_st (B := T16.setTop (mkF m 99 #[.val (.long u0), .second, .val (.int u1), .val (.ref b1), .unset, .unset, .unset, .unset, .unset, .unset, .unset, .unset, .unset] [(.int ((((u0.toUInt64 >>> ((56 : Int32) &&& 0x3f).toInt64.toUInt64).toInt64) &&& (255 : Int64)).toInt32)), (.int (7 : Int32)), (.ref b1)])) (fun t_ k_ => XS.l2i X16.here hx rfl (hb hby at_98) rfl k_) ?_
  obtain ⟨T18, h18, X18, e18, W18, a18, st18⟩ := own_stI X16 hx hZ e16 a16 (i := 7) (j := (7 : Int32)) (by decide) (by decide) (pc := 99) (x := ((((u0.toUInt64 >>> ((56 : Int32) &&& 0x3f).toInt64.toUInt64).toInt64) &&& (255 : Int64)).toInt32)) (Ls := #[.val (.long u0), .second, .val (.int u1), .val (.ref b1), .unset, .unset, .unset, .unset, .unset, .unset, .unset, .unset, .unset]) (rest := []) (hb hby at_99)
  have N18 := Fr.snoc X18 N16 g2
  have Z19 := Nat.le_trans Z17 (Keep.of_wr W18).1
  refine own_st (B := T18.setTop (mkF m 100 #[.val (.long u0), .second, .val (.int u1), .val (.ref b1), .unset, .unset, .unset, .unset, .unset, .unset, .unset, .unset, .unset] [])) st18 ?_
  obtain ⟨gc, agc, hgc⟩ : ∃ gc, own_A Z h18 b1 .int 8 gc ∧ ∀ j, j < 8 → ∃ x : Int64, gc j = (x &&& (255 : Int64)).toInt32 := ⟨_, a18, own_b8 (fun j => by
      match j with
      | ⟨0, _⟩ => exact ⟨_, rfl⟩
      | ⟨1, _⟩ => exact ⟨_, rfl⟩
      | ⟨2, _⟩ => exact ⟨_, rfl⟩
      | ⟨3, _⟩ => exact ⟨_, rfl⟩
      | ⟨4, _⟩ => exact ⟨_, rfl⟩
      | ⟨5, _⟩ => exact ⟨_, rfl⟩
      | ⟨6, _⟩ => exact ⟨_, rfl⟩
      | ⟨7, _⟩ => exact ⟨_, rfl⟩
      | ⟨n' + 8, hn'⟩ => omega)⟩
  refine own_st (B := T18.setTop (mkF m 102 #[.val (.long u0), .second, .val (.int u1), .val (.ref b1), .unset, .unset, .unset, .unset, .unset, .unset, .unset, .unset, .unset] [(.int (8 : Int32))])) (fun t_ k_ => XS.bipush X18.here hx rfl (hb hby at_100) k_) ?_
  obtain ⟨T20, h20, k20, X20, e20, E20, A20, G20, st20⟩ := newPE X18 hx hZ (hw _ (List.mem_of_getElem? (i := 2) rfl)) e18 (g := (mkF m 102 #[.val (.long u0), .second, .val (.int u1), .val (.ref b1), .unset, .unset, .unset, .unset, .unset, .unset, .unset, .unset, .unset] [(.int (8 : Int32))])) rfl (hb hby at_102) rfl (by decide) (cap := 8) (by decide) (by decide) (by decide) (by decide) (ad := "[B") (by decide)
  obtain ⟨b20, g20⟩ : ∃ z, z = h18.size := ⟨_, rfl⟩
  rw [← g20] at A20 G20 st20
  have ne21 : b1 ≠ b20 := Nat.ne_of_lt (Nat.lt_of_lt_of_le agc.lt (Nat.le_of_eq g20.symm))
  have g22 : n0 ≤ b20 := Nat.le_trans Z19 (Nat.le_of_eq g20.symm)
  have Z23 := Nat.le_trans Z19 E20.1
  have X20 : Stand p l e _ s m _ below meth c T20 _ 2 16 := X20
  have a20 : own_A Z h20 b20 .byte 8 (fun _ => 0) := own_A.new A20 (by decide) rfl
  refine own_st (B := T20.setTop (mkF m 104 #[.val (.long u0), .second, .val (.int u1), .val (.ref b1), .unset, .unset, .unset, .unset, .unset, .unset, .unset, .unset, .unset] [(.ref b20)])) st20 ?_
  refine own_st (B := T20.setTop (mkF m 106 #[.val (.long u0), .second, .val (.int u1), .val (.ref b1), .val (.ref b20), .unset, .unset, .unset, .unset, .unset, .unset, .unset, .unset] [])) (fun t_ k_ => XS.astore X20.here hx rfl (hb hby at_104) rfl rfl (l' := #[.val (.long u0), .second, .val (.int u1), .val (.ref b1), .val (.ref b20), .unset, .unset, .unset, .unset, .unset, .unset, .unset, .unset]) rfl k_) ?_
  refine own_st (B := T20.setTop (mkF m 108 #[.val (.long u0), .second, .val (.int u1), .val (.ref b1), .val (.ref b20), .unset, .unset, .unset, .unset, .unset, .unset, .unset, .unset] [(.ref b20)])) (fun t_ k_ => XS.aload X20.here hx rfl (hb hby at_106) rfl rfl k_) ?_
  refine own_st (B := T20.setTop (mkF m 109 #[.val (.long u0), .second, .val (.int u1), .val (.ref b1), .val (.ref b20), .unset, .unset, .unset, .unset, .unset, .unset, .unset, .unset] [(.int (0 : Int32)), (.ref b20)])) (fun t_ k_ => XS.iconst X20.here hx rfl (hb hby at_108) k_) ?_
  refine own_st (B := T20.setTop (mkF m 110 #[.val (.long u0), .second, .val (.int u1), .val (.ref b1), .val (.ref b20), .unset, .unset, .unset, .unset, .unset, .unset, .unset, .unset] [(.ref b1), (.int (0 : Int32)), (.ref b20)])) (fun t_ k_ => XS.aloadN X20.here hx rfl (hb hby at_109) rfl rfl k_) ?_
  refine own_st (B := T20.setTop (mkF m 111 #[.val (.long u0), .second, .val (.int u1), .val (.ref b1), .val (.ref b20), .unset, .unset, .unset, .unset, .unset, .unset, .unset, .unset] [(.int (0 : Int32)), (.ref b1), (.int (0 : Int32)), (.ref b20)])) (fun t_ k_ => XS.iconst X20.here hx rfl (hb hby at_110) k_) ?_
  have u24 := agc.ext E20
  refine own_st (B := T20.setTop (mkF m 112 #[.val (.long u0), .second, .val (.int u1), .val (.ref b1), .val (.ref b20), .unset, .unset, .unset, .unset, .unset, .unset, .unset, .unset] [(.int (gc 0)), (.int (0 : Int32)), (.ref b20)])) (fun t_ k_ => own_ldI X20 hx hZ e20 u24 (i := 0) (by decide) (by decide) (hb hby at_111) t_ k_) ?_
  refine own_st (B := T20.setTop (mkF m 113 #[.val (.long u0), .second, .val (.int u1), .val (.ref b1), .val (.ref b20), .unset, .unset, .unset, .unset, .unset, .unset, .unset, .unset] [(.int ((gc 0).toInt8.toInt32)), (.int (0 : Int32)), (.ref b20)])) (fun t_ k_ => XS.i2b X20.here hx rfl (hb hby at_112) rfl k_) ?_
  obtain ⟨T25, h25, X25, e25, W25, a25, st25⟩ := own_stB X20 hx hZ e20 a20 (i := 0) (j := (0 : Int32)) (by decide) (by decide) (pc := 113) (x := ((gc 0).toInt8.toInt32)) (Ls := #[.val (.long u0), .second, .val (.int u1), .val (.ref b1), .val (.ref b20), .unset, .unset, .unset, .unset, .unset, .unset, .unset, .unset]) (rest := []) (hb hby at_113)
  have N25 := Fr.snoc X25 N18 g22
  have Z26 := Nat.le_trans Z23 (Keep.of_wr W25).1
  refine own_st (B := T25.setTop (mkF m 114 #[.val (.long u0), .second, .val (.int u1), .val (.ref b1), .val (.ref b20), .unset, .unset, .unset, .unset, .unset, .unset, .unset, .unset] [])) st25 ?_
  refine own_st (B := T25.setTop (mkF m 116 #[.val (.long u0), .second, .val (.int u1), .val (.ref b1), .val (.ref b20), .unset, .unset, .unset, .unset, .unset, .unset, .unset, .unset] [(.ref b20)])) (fun t_ k_ => XS.aload X25.here hx rfl (hb hby at_114) rfl rfl k_) ?_
  refine own_st (B := T25.setTop (mkF m 117 #[.val (.long u0), .second, .val (.int u1), .val (.ref b1), .val (.ref b20), .unset, .unset, .unset, .unset, .unset, .unset, .unset, .unset] [(.int (1 : Int32)), (.ref b20)])) (fun t_ k_ => XS.iconst X25.here hx rfl (hb hby at_116) k_) ?_
  refine own_st (B := T25.setTop (mkF m 118 #[.val (.long u0), .second, .val (.int u1), .val (.ref b1), .val (.ref b20), .unset, .unset, .unset, .unset, .unset, .unset, .unset, .unset] [(.ref b1), (.int (1 : Int32)), (.ref b20)])) (fun t_ k_ => XS.aloadN X25.here hx rfl (hb hby at_117) rfl rfl k_) ?_
  refine own_st (B := T25.setTop (mkF m 119 #[.val (.long u0), .second, .val (.int u1), .val (.ref b1), .val (.ref b20), .unset, .unset, .unset, .unset, .unset, .unset, .unset, .unset] [(.int (1 : Int32)), (.ref b1), (.int (1 : Int32)), (.ref b20)])) (fun t_ k_ => XS.iconst X25.here hx rfl (hb hby at_118) k_) ?_
  have u27 := u24.other W25 ne21
  refine own_st (B := T25.setTop (mkF m 120 #[.val (.long u0), .second, .val (.int u1), .val (.ref b1), .val (.ref b20), .unset, .unset, .unset, .unset, .unset, .unset, .unset, .unset] [(.int (gc 1)), (.int (1 : Int32)), (.ref b20)])) (fun t_ k_ => own_ldI X25 hx hZ e25 u27 (i := 1) (by decide) (by decide) (hb hby at_119) t_ k_) ?_
  refine own_st (B := T25.setTop (mkF m 121 #[.val (.long u0), .second, .val (.int u1), .val (.ref b1), .val (.ref b20), .unset, .unset, .unset, .unset, .unset, .unset, .unset, .unset] [(.int ((gc 1).toInt8.toInt32)), (.int (1 : Int32)), (.ref b20)])) (fun t_ k_ => XS.i2b X25.here hx rfl (hb hby at_120) rfl k_) ?_
  obtain ⟨T28, h28, X28, e28, W28, a28, st28⟩ := own_stB X25 hx hZ e25 a25 (i := 1) (j := (1 : Int32)) (by decide) (by decide) (pc := 121) (x := ((gc 1).toInt8.toInt32)) (Ls := #[.val (.long u0), .second, .val (.int u1), .val (.ref b1), .val (.ref b20), .unset, .unset, .unset, .unset, .unset, .unset, .unset, .unset]) (rest := []) (hb hby at_121)
  have N28 := Fr.snoc X28 N25 g22
  have Z29 := Nat.le_trans Z26 (Keep.of_wr W28).1
  refine own_st (B := T28.setTop (mkF m 122 #[.val (.long u0), .second, .val (.int u1), .val (.ref b1), .val (.ref b20), .unset, .unset, .unset, .unset, .unset, .unset, .unset, .unset] [])) st28 ?_
  refine own_st (B := T28.setTop (mkF m 124 #[.val (.long u0), .second, .val (.int u1), .val (.ref b1), .val (.ref b20), .unset, .unset, .unset, .unset, .unset, .unset, .unset, .unset] [(.ref b20)])) (fun t_ k_ => XS.aload X28.here hx rfl (hb hby at_122) rfl rfl k_) ?_
  refine own_st (B := T28.setTop (mkF m 125 #[.val (.long u0), .second, .val (.int u1), .val (.ref b1), .val (.ref b20), .unset, .unset, .unset, .unset, .unset, .unset, .unset, .unset] [(.int (2 : Int32)), (.ref b20)])) (fun t_ k_ => XS.iconst X28.here hx rfl (hb hby at_124) k_) ?_
  refine own_st (B := T28.setTop (mkF m 126 #[.val (.long u0), .second, .val (.int u1), .val (.ref b1), .val (.ref b20), .unset, .unset, .unset, .unset, .unset, .unset, .unset, .unset] [(.ref b1), (.int (2 : Int32)), (.ref b20)])) (fun t_ k_ => XS.aloadN X28.here hx rfl (hb hby at_125) rfl rfl k_) ?_
  refine own_st (B := T28.setTop (mkF m 127 #[.val (.long u0), .second, .val (.int u1), .val (.ref b1), .val (.ref b20), .unset, .unset, .unset, .unset, .unset, .unset, .unset, .unset] [(.int (2 : Int32)), (.ref b1), (.int (2 : Int32)), (.ref b20)])) (fun t_ k_ => XS.iconst X28.here hx rfl (hb hby at_126) k_) ?_
  have u30 := u27.other W28 ne21
  refine own_st (B := T28.setTop (mkF m 128 #[.val (.long u0), .second, .val (.int u1), .val (.ref b1), .val (.ref b20), .unset, .unset, .unset, .unset, .unset, .unset, .unset, .unset] [(.int (gc 2)), (.int (2 : Int32)), (.ref b20)])) (fun t_ k_ => own_ldI X28 hx hZ e28 u30 (i := 2) (by decide) (by decide) (hb hby at_127) t_ k_) ?_
  refine own_st (B := T28.setTop (mkF m 129 #[.val (.long u0), .second, .val (.int u1), .val (.ref b1), .val (.ref b20), .unset, .unset, .unset, .unset, .unset, .unset, .unset, .unset] [(.int ((gc 2).toInt8.toInt32)), (.int (2 : Int32)), (.ref b20)])) (fun t_ k_ => XS.i2b X28.here hx rfl (hb hby at_128) rfl k_) ?_
  obtain ⟨T31, h31, X31, e31, W31, a31, st31⟩ := own_stB X28 hx hZ e28 a28 (i := 2) (j := (2 : Int32)) (by decide) (by decide) (pc := 129) (x := ((gc 2).toInt8.toInt32)) (Ls := #[.val (.long u0), .second, .val (.int u1), .val (.ref b1), .val (.ref b20), .unset, .unset, .unset, .unset, .unset, .unset, .unset, .unset]) (rest := []) (hb hby at_129)
  have N31 := Fr.snoc X31 N28 g22
  have Z32 := Nat.le_trans Z29 (Keep.of_wr W31).1
  refine own_st (B := T31.setTop (mkF m 130 #[.val (.long u0), .second, .val (.int u1), .val (.ref b1), .val (.ref b20), .unset, .unset, .unset, .unset, .unset, .unset, .unset, .unset] [])) st31 ?_
  refine own_st (B := T31.setTop (mkF m 132 #[.val (.long u0), .second, .val (.int u1), .val (.ref b1), .val (.ref b20), .unset, .unset, .unset, .unset, .unset, .unset, .unset, .unset] [(.ref b20)])) (fun t_ k_ => XS.aload X31.here hx rfl (hb hby at_130) rfl rfl k_) ?_
  refine own_st (B := T31.setTop (mkF m 133 #[.val (.long u0), .second, .val (.int u1), .val (.ref b1), .val (.ref b20), .unset, .unset, .unset, .unset, .unset, .unset, .unset, .unset] [(.int (3 : Int32)), (.ref b20)])) (fun t_ k_ => XS.iconst X31.here hx rfl (hb hby at_132) k_) ?_
  refine own_st (B := T31.setTop (mkF m 134 #[.val (.long u0), .second, .val (.int u1), .val (.ref b1), .val (.ref b20), .unset, .unset, .unset, .unset, .unset, .unset, .unset, .unset] [(.ref b1), (.int (3 : Int32)), (.ref b20)])) (fun t_ k_ => XS.aloadN X31.here hx rfl (hb hby at_133) rfl rfl k_) ?_
  refine own_st (B := T31.setTop (mkF m 135 #[.val (.long u0), .second, .val (.int u1), .val (.ref b1), .val (.ref b20), .unset, .unset, .unset, .unset, .unset, .unset, .unset, .unset] [(.int (3 : Int32)), (.ref b1), (.int (3 : Int32)), (.ref b20)])) (fun t_ k_ => XS.iconst X31.here hx rfl (hb hby at_134) k_) ?_
  have u33 := u30.other W31 ne21
  refine own_st (B := T31.setTop (mkF m 136 #[.val (.long u0), .second, .val (.int u1), .val (.ref b1), .val (.ref b20), .unset, .unset, .unset, .unset, .unset, .unset, .unset, .unset] [(.int (gc 3)), (.int (3 : Int32)), (.ref b20)])) (fun t_ k_ => own_ldI X31 hx hZ e31 u33 (i := 3) (by decide) (by decide) (hb hby at_135) t_ k_) ?_
  refine own_st (B := T31.setTop (mkF m 137 #[.val (.long u0), .second, .val (.int u1), .val (.ref b1), .val (.ref b20), .unset, .unset, .unset, .unset, .unset, .unset, .unset, .unset] [(.int ((gc 3).toInt8.toInt32)), (.int (3 : Int32)), (.ref b20)])) (fun t_ k_ => XS.i2b X31.here hx rfl (hb hby at_136) rfl k_) ?_
  obtain ⟨T34, h34, X34, e34, W34, a34, st34⟩ := own_stB X31 hx hZ e31 a31 (i := 3) (j := (3 : Int32)) (by decide) (by decide) (pc := 137) (x := ((gc 3).toInt8.toInt32)) (Ls := #[.val (.long u0), .second, .val (.int u1), .val (.ref b1), .val (.ref b20), .unset, .unset, .unset, .unset, .unset, .unset, .unset, .unset]) (rest := []) (hb hby at_137)
  have N34 := Fr.snoc X34 N31 g22
  have Z35 := Nat.le_trans Z32 (Keep.of_wr W34).1
  refine own_st (B := T34.setTop (mkF m 138 #[.val (.long u0), .second, .val (.int u1), .val (.ref b1), .val (.ref b20), .unset, .unset, .unset, .unset, .unset, .unset, .unset, .unset] [])) st34 ?_
  refine own_st (B := T34.setTop (mkF m 140 #[.val (.long u0), .second, .val (.int u1), .val (.ref b1), .val (.ref b20), .unset, .unset, .unset, .unset, .unset, .unset, .unset, .unset] [(.ref b20)])) (fun t_ k_ => XS.aload X34.here hx rfl (hb hby at_138) rfl rfl k_) ?_
  refine own_st (B := T34.setTop (mkF m 141 #[.val (.long u0), .second, .val (.int u1), .val (.ref b1), .val (.ref b20), .unset, .unset, .unset, .unset, .unset, .unset, .unset, .unset] [(.int (4 : Int32)), (.ref b20)])) (fun t_ k_ => XS.iconst X34.here hx rfl (hb hby at_140) k_) ?_
  refine own_st (B := T34.setTop (mkF m 142 #[.val (.long u0), .second, .val (.int u1), .val (.ref b1), .val (.ref b20), .unset, .unset, .unset, .unset, .unset, .unset, .unset, .unset] [(.ref b1), (.int (4 : Int32)), (.ref b20)])) (fun t_ k_ => XS.aloadN X34.here hx rfl (hb hby at_141) rfl rfl k_) ?_
  refine own_st (B := T34.setTop (mkF m 143 #[.val (.long u0), .second, .val (.int u1), .val (.ref b1), .val (.ref b20), .unset, .unset, .unset, .unset, .unset, .unset, .unset, .unset] [(.int (4 : Int32)), (.ref b1), (.int (4 : Int32)), (.ref b20)])) (fun t_ k_ => XS.iconst X34.here hx rfl (hb hby at_142) k_) ?_
  have u36 := u33.other W34 ne21
  refine own_st (B := T34.setTop (mkF m 144 #[.val (.long u0), .second, .val (.int u1), .val (.ref b1), .val (.ref b20), .unset, .unset, .unset, .unset, .unset, .unset, .unset, .unset] [(.int (gc 4)), (.int (4 : Int32)), (.ref b20)])) (fun t_ k_ => own_ldI X34 hx hZ e34 u36 (i := 4) (by decide) (by decide) (hb hby at_143) t_ k_) ?_
  refine own_st (B := T34.setTop (mkF m 145 #[.val (.long u0), .second, .val (.int u1), .val (.ref b1), .val (.ref b20), .unset, .unset, .unset, .unset, .unset, .unset, .unset, .unset] [(.int ((gc 4).toInt8.toInt32)), (.int (4 : Int32)), (.ref b20)])) (fun t_ k_ => XS.i2b X34.here hx rfl (hb hby at_144) rfl k_) ?_
  obtain ⟨T37, h37, X37, e37, W37, a37, st37⟩ := own_stB X34 hx hZ e34 a34 (i := 4) (j := (4 : Int32)) (by decide) (by decide) (pc := 145) (x := ((gc 4).toInt8.toInt32)) (Ls := #[.val (.long u0), .second, .val (.int u1), .val (.ref b1), .val (.ref b20), .unset, .unset, .unset, .unset, .unset, .unset, .unset, .unset]) (rest := []) (hb hby at_145)
  have N37 := Fr.snoc X37 N34 g22
  have Z38 := Nat.le_trans Z35 (Keep.of_wr W37).1
  refine own_st (B := T37.setTop (mkF m 146 #[.val (.long u0), .second, .val (.int u1), .val (.ref b1), .val (.ref b20), .unset, .unset, .unset, .unset, .unset, .unset, .unset, .unset] [])) st37 ?_
  refine own_st (B := T37.setTop (mkF m 148 #[.val (.long u0), .second, .val (.int u1), .val (.ref b1), .val (.ref b20), .unset, .unset, .unset, .unset, .unset, .unset, .unset, .unset] [(.ref b20)])) (fun t_ k_ => XS.aload X37.here hx rfl (hb hby at_146) rfl rfl k_) ?_
  refine own_st (B := T37.setTop (mkF m 149 #[.val (.long u0), .second, .val (.int u1), .val (.ref b1), .val (.ref b20), .unset, .unset, .unset, .unset, .unset, .unset, .unset, .unset] [(.int (5 : Int32)), (.ref b20)])) (fun t_ k_ => XS.iconst X37.here hx rfl (hb hby at_148) k_) ?_
  refine own_st (B := T37.setTop (mkF m 150 #[.val (.long u0), .second, .val (.int u1), .val (.ref b1), .val (.ref b20), .unset, .unset, .unset, .unset, .unset, .unset, .unset, .unset] [(.ref b1), (.int (5 : Int32)), (.ref b20)])) (fun t_ k_ => XS.aloadN X37.here hx rfl (hb hby at_149) rfl rfl k_) ?_
  refine own_st (B := T37.setTop (mkF m 151 #[.val (.long u0), .second, .val (.int u1), .val (.ref b1), .val (.ref b20), .unset, .unset, .unset, .unset, .unset, .unset, .unset, .unset] [(.int (5 : Int32)), (.ref b1), (.int (5 : Int32)), (.ref b20)])) (fun t_ k_ => XS.iconst X37.here hx rfl (hb hby at_150) k_) ?_
  have u39 := u36.other W37 ne21
  refine own_st (B := T37.setTop (mkF m 152 #[.val (.long u0), .second, .val (.int u1), .val (.ref b1), .val (.ref b20), .unset, .unset, .unset, .unset, .unset, .unset, .unset, .unset] [(.int (gc 5)), (.int (5 : Int32)), (.ref b20)])) (fun t_ k_ => own_ldI X37 hx hZ e37 u39 (i := 5) (by decide) (by decide) (hb hby at_151) t_ k_) ?_
  refine own_st (B := T37.setTop (mkF m 153 #[.val (.long u0), .second, .val (.int u1), .val (.ref b1), .val (.ref b20), .unset, .unset, .unset, .unset, .unset, .unset, .unset, .unset] [(.int ((gc 5).toInt8.toInt32)), (.int (5 : Int32)), (.ref b20)])) (fun t_ k_ => XS.i2b X37.here hx rfl (hb hby at_152) rfl k_) ?_
  obtain ⟨T40, h40, X40, e40, W40, a40, st40⟩ := own_stB X37 hx hZ e37 a37 (i := 5) (j := (5 : Int32)) (by decide) (by decide) (pc := 153) (x := ((gc 5).toInt8.toInt32)) (Ls := #[.val (.long u0), .second, .val (.int u1), .val (.ref b1), .val (.ref b20), .unset, .unset, .unset, .unset, .unset, .unset, .unset, .unset]) (rest := []) (hb hby at_153)
  have N40 := Fr.snoc X40 N37 g22
  have Z41 := Nat.le_trans Z38 (Keep.of_wr W40).1
  refine own_st (B := T40.setTop (mkF m 154 #[.val (.long u0), .second, .val (.int u1), .val (.ref b1), .val (.ref b20), .unset, .unset, .unset, .unset, .unset, .unset, .unset, .unset] [])) st40 ?_
  refine own_st (B := T40.setTop (mkF m 156 #[.val (.long u0), .second, .val (.int u1), .val (.ref b1), .val (.ref b20), .unset, .unset, .unset, .unset, .unset, .unset, .unset, .unset] [(.ref b20)])) (fun t_ k_ => XS.aload X40.here hx rfl (hb hby at_154) rfl rfl k_) ?_
  refine own_st (B := T40.setTop (mkF m 158 #[.val (.long u0), .second, .val (.int u1), .val (.ref b1), .val (.ref b20), .unset, .unset, .unset, .unset, .unset, .unset, .unset, .unset] [(.int (6 : Int32)), (.ref b20)])) (fun t_ k_ => XS.bipush X40.here hx rfl (hb hby at_156) k_) ?_
  refine own_st (B := T40.setTop (mkF m 159 #[.val (.long u0), .second, .val (.int u1), .val (.ref b1), .val (.ref b20), .unset, .unset, .unset, .unset, .unset, .unset, .unset, .unset] [(.ref b1), (.int (6 : Int32)), (.ref b20)])) (fun t_ k_ => XS.aloadN X40.here hx rfl (hb hby at_158) rfl rfl k_) ?_
  refine own_st (B := T40.setTop (mkF m 161 #[.val (.long u0), .second, .val (.int u1), .val (.ref b1), .val (.ref b20), .unset, .unset, .unset, .unset, .unset, .unset, .unset, .unset] [(.int (6 : Int32)), (.ref b1), (.int (6 : Int32)), (.ref b20)])) (fun t_ k_ => XS.bipush X40.here hx rfl (hb hby at_159) k_) ?_
  have u42 := u39.other W40 ne21
  refine own_st (B := T40.setTop (mkF m 162 #[.val (.long u0), .second, .val (.int u1), .val (.ref b1), .val (.ref b20), .unset, .unset, .unset, .unset, .unset, .unset, .unset, .unset] [(.int (gc 6)), (.int (6 : Int32)), (.ref b20)])) (fun t_ k_ => own_ldI X40 hx hZ e40 u42 (i := 6) (by decide) (by decide) (hb hby at_161) t_ k_) ?_
  refine own_st (B := T40.setTop (mkF m 163 #[.val (.long u0), .second, .val (.int u1), .val (.ref b1), .val (.ref b20), .unset, .unset, .unset, .unset, .unset, .unset, .unset, .unset] [(.int ((gc 6).toInt8.toInt32)), (.int (6 : Int32)), (.ref b20)])) (fun t_ k_ => XS.i2b X40.here hx rfl (hb hby at_162) rfl k_) ?_
  obtain ⟨T43, h43, X43, e43, W43, a43, st43⟩ := own_stB X40 hx hZ e40 a40 (i := 6) (j := (6 : Int32)) (by decide) (by decide) (pc := 163) (x := ((gc 6).toInt8.toInt32)) (Ls := #[.val (.long u0), .second, .val (.int u1), .val (.ref b1), .val (.ref b20), .unset, .unset, .unset, .unset, .unset, .unset, .unset, .unset]) (rest := []) (hb hby at_163)
  have N43 := Fr.snoc X43 N40 g22
  have Z44 := Nat.le_trans Z41 (Keep.of_wr W43).1
  refine own_st (B := T43.setTop (mkF m 164 #[.val (.long u0), .second, .val (.int u1), .val (.ref b1), .val (.ref b20), .unset, .unset, .unset, .unset, .unset, .unset, .unset, .unset] [])) st43 ?_
  refine own_st (B := T43.setTop (mkF m 166 #[.val (.long u0), .second, .val (.int u1), .val (.ref b1), .val (.ref b20), .unset, .unset, .unset, .unset, .unset, .unset, .unset, .unset] [(.ref b20)])) (fun t_ k_ => XS.aload X43.here hx rfl (hb hby at_164) rfl rfl k_) ?_
  refine own_st (B := T43.setTop (mkF m 168 #[.val (.long u0), .second, .val (.int u1), .val (.ref b1), .val (.ref b20), .unset, .unset, .unset, .unset, .unset, .unset, .unset, .unset] [(.int (7 : Int32)), (.ref b20)])) (fun t_ k_ => XS.bipush X43.here hx rfl (hb hby at_166) k_) ?_
  refine own_st (B := T43.setTop (mkF m 169 #[.val (.long u0), .second, .val (.int u1), .val (.ref b1), .val (.ref b20), .unset, .unset, .unset, .unset, .unset, .unset, .unset, .unset] [(.ref b1), (.int (7 : Int32)), (.ref b20)])) (fun t_ k_ => XS.aloadN X43.here hx rfl (hb hby at_168) rfl rfl k_) ?_
  refine own_st (B := T43.setTop (mkF m 171 #[.val (.long u0), .second, .val (.int u1), .val (.ref b1), .val (.ref b20), .unset, .unset, .unset, .unset, .unset, .unset, .unset, .unset] [(.int (7 : Int32)), (.ref b1), (.int (7 : Int32)), (.ref b20)])) (fun t_ k_ => XS.bipush X43.here hx rfl (hb hby at_169) k_) ?_
  have u45 := u42.other W43 ne21
  refine own_st (B := T43.setTop (mkF m 172 #[.val (.long u0), .second, .val (.int u1), .val (.ref b1), .val (.ref b20), .unset, .unset, .unset, .unset, .unset, .unset, .unset, .unset] [(.int (gc 7)), (.int (7 : Int32)), (.ref b20)])) (fun t_ k_ => own_ldI X43 hx hZ e43 u45 (i := 7) (by decide) (by decide) (hb hby at_171) t_ k_) ?_
  refine own_st (B := T43.setTop (mkF m 173 #[.val (.long u0), .second, .val (.int u1), .val (.ref b1), .val (.ref b20), .unset, .unset, .unset, .unset, .unset, .unset, .unset, .unset] [(.int ((gc 7).toInt8.toInt32)), (.int (7 : Int32)), (.ref b20)])) (fun t_ k_ => XS.i2b X43.here hx rfl (hb hby at_172) rfl k_) ?_
  obtain ⟨T46, h46, X46, e46, W46, a46, st46⟩ := own_stB X43 hx hZ e43 a43 (i := 7) (j := (7 : Int32)) (by decide) (by decide) (pc := 173) (x := ((gc 7).toInt8.toInt32)) (Ls := #[.val (.long u0), .second, .val (.int u1), .val (.ref b1), .val (.ref b20), .unset, .unset, .unset, .unset, .unset, .unset, .unset, .unset]) (rest := []) (hb hby at_173)
  have N46 := Fr.snoc X46 N43 g22
  have Z47 := Nat.le_trans Z44 (Keep.of_wr W46).1
  refine own_st (B := T46.setTop (mkF m 174 #[.val (.long u0), .second, .val (.int u1), .val (.ref b1), .val (.ref b20), .unset, .unset, .unset, .unset, .unset, .unset, .unset, .unset] [])) st46 ?_
  obtain ⟨fb, afb, hfb⟩ : ∃ fb, own_A Z h46 b20 .byte 8 fb ∧ ∀ j, j < 8 → fb j = (gc j).toInt8.toInt32 := ⟨_, a46, own_b8 (fun j => by
      match j with
      | ⟨0, _⟩ => exact own_nbb (gc 0)
      | ⟨1, _⟩ => exact own_nbb (gc 1)
      | ⟨2, _⟩ => exact own_nbb (gc 2)
      | ⟨3, _⟩ => exact own_nbb (gc 3)
      | ⟨4, _⟩ => exact own_nbb (gc 4)
      | ⟨5, _⟩ => exact own_nbb (gc 5)
      | ⟨6, _⟩ => exact own_nbb (gc 6)
      | ⟨7, _⟩ => exact own_nbb (gc 7)
      | ⟨n' + 8, hn'⟩ => omega)⟩
  have hgb := own_hgb hgc hfb
  refine own_st (B := T46.setTop (mkF m 175 #[.val (.long u0), .second, .val (.int u1), .val (.ref b1), .val (.ref b20), .unset, .unset, .unset, .unset, .unset, .unset, .unset, .unset] [(.int u1)])) (fun t_ k_ => XS.iloadN X46.here hx rfl (hb hby at_174) rfl k_) ?_
  refine own_st (B := T46.setTop (mkF m 177 #[.val (.long u0), .second, .val (.int u1), .val (.ref b1), .val (.ref b20), .unset, .unset, .unset, .unset, .unset, .unset, .unset, .unset] [(.int (2147483647 : Int32)), (.int u1)])) (fun t_ k_ => X46.ldcInt hx hown (mvT hZ (hw _ (List.mem_of_getElem? (i := 3) rfl))) (g := (mkF m 175 #[.val (.long u0), .second, .val (.int u1), .val (.ref b1), .val (.ref b20), .unset, .unset, .unset, .unset, .unset, .unset, .unset, .unset] [(.int u1)])) rfl (hb hby at_175) t_ k_) ?_
  refine own_st (B := T46.setTop (mkF m 178 #[.val (.long u0), .second, .val (.int u1), .val (.ref b1), .val (.ref b20), .unset, .unset, .unset, .unset, .unset, .unset, .unset, .unset] [(.int (u1 &&& (2147483647 : Int32)))])) (fun t_ k_ => XS.iand X46.here hx rfl (hb hby at_177) rfl k_) ?_
  refine own_st (B := T46.setTop (mkF m 180 #[.val (.long u0), .second, .val (.int u1), .val (.ref b1), .val (.ref b20), .unset, .unset, .unset, .unset, .unset, .unset, .unset, .unset] [(.int (9 : Int32)), (.int (u1 &&& (2147483647 : Int32)))])) (fun t_ k_ => XS.bipush X46.here hx rfl (hb hby at_178) k_) ?_
  refine own_st (B := T46.setTop (mkF m 181 #[.val (.long u0), .second, .val (.int u1), .val (.ref b1), .val (.ref b20), .unset, .unset, .unset, .unset, .unset, .unset, .unset, .unset] [(.int ((u1 &&& (2147483647 : Int32)) % (9 : Int32)))])) (fun t_ k_ => iremM X46 hx rfl (hb hby at_180) rfl (by decide) k_) ?_
  refine own_st (B := T46.setTop (mkF m 183 #[.val (.long u0), .second, .val (.int u1), .val (.ref b1), .val (.ref b20), .val (.int ((u1 &&& (2147483647 : Int32)) % (9 : Int32))), .unset, .unset, .unset, .unset, .unset, .unset, .unset] [])) (fun t_ k_ => XS.istore X46.here hx rfl (hb hby at_181) rfl (l' := #[.val (.long u0), .second, .val (.int u1), .val (.ref b1), .val (.ref b20), .val (.int ((u1 &&& (2147483647 : Int32)) % (9 : Int32))), .unset, .unset, .unset, .unset, .unset, .unset, .unset]) rfl k_) ?_
  have h9 := own_r9 u1
  obtain ⟨y5, h_y5⟩ : ∃ z_, z_ = ((u1 &&& (2147483647 : Int32)) % (9 : Int32)) := ⟨_, rfl⟩
  rw [← h_y5] at h9 ⊢
  clear h_y5
  obtain ⟨kk, hkk⟩ : ∃ k : Nat, own_ix y5 k := ⟨y5.toInt.toNat, own_ixof (by omega)⟩
  have hkki := own_ixI hkk
  have hkk8 : kk ≤ 8 := by omega
  refine own_st (B := T46.setTop (mkF m 184 #[.val (.long u0), .second, .val (.int u1), .val (.ref b1), .val (.ref b20), .val (.int y5), .unset, .unset, .unset, .unset, .unset, .unset, .unset] [(.int (5 : Int32))])) (fun t_ k_ => XS.iconst X46.here hx rfl (hb hby at_183) k_) ?_
  obtain ⟨T48, h48, k48, X48, e48, E48, A48, G48, st48⟩ := newPE X46 hx hZ (hw _ (List.mem_of_getElem? (i := 0) rfl)) e46 (g := (mkF m 184 #[.val (.long u0), .second, .val (.int u1), .val (.ref b1), .val (.ref b20), .val (.int y5), .unset, .unset, .unset, .unset, .unset, .unset, .unset] [(.int (5 : Int32))])) rfl (hb hby at_184) rfl (by decide) (cap := 5) (by decide) (by decide) (by decide) (by decide) (ad := "[I") (by decide)
  obtain ⟨b48, g48⟩ : ∃ z, z = h46.size := ⟨_, rfl⟩
  rw [← g48] at A48 G48 st48
  have u49 := u45.other W46 ne21
  have ne50 : b1 ≠ b48 := Nat.ne_of_lt (Nat.lt_of_lt_of_le u49.lt (Nat.le_of_eq g48.symm))
  have ne51 : b20 ≠ b48 := Nat.ne_of_lt (Nat.lt_of_lt_of_le afb.lt (Nat.le_of_eq g48.symm))
  have g52 : n0 ≤ b48 := Nat.le_trans Z47 (Nat.le_of_eq g48.symm)
  have Z53 := Nat.le_trans Z47 E48.1
  have X48 : Stand p l e _ s m _ below meth c T48 _ 3 21 := X48
  have a48 : own_A Z h48 b48 .int 5 (fun _ => 0) := own_A.new A48 (by decide) rfl
  refine own_st (B := T48.setTop (mkF m 186 #[.val (.long u0), .second, .val (.int u1), .val (.ref b1), .val (.ref b20), .val (.int y5), .unset, .unset, .unset, .unset, .unset, .unset, .unset] [(.ref b48)])) st48 ?_
  refine own_st (B := T48.setTop (mkF m 188 #[.val (.long u0), .second, .val (.int u1), .val (.ref b1), .val (.ref b20), .val (.int y5), .val (.ref b48), .unset, .unset, .unset, .unset, .unset, .unset] [])) (fun t_ k_ => XS.astore X48.here hx rfl (hb hby at_186) rfl rfl (l' := #[.val (.long u0), .second, .val (.int u1), .val (.ref b1), .val (.ref b20), .val (.int y5), .val (.ref b48), .unset, .unset, .unset, .unset, .unset, .unset]) rfl k_) ?_
  refine own_st (B := T48.setTop (mkF m 190 #[.val (.long u0), .second, .val (.int u1), .val (.ref b1), .val (.ref b20), .val (.int y5), .val (.ref b48), .unset, .unset, .unset, .unset, .unset, .unset] [(.ref b48)])) (fun t_ k_ => XS.aload X48.here hx rfl (hb hby at_188) rfl rfl k_) ?_
  refine own_st (B := T48.setTop (mkF m 191 #[.val (.long u0), .second, .val (.int u1), .val (.ref b1), .val (.ref b20), .val (.int y5), .val (.ref b48), .unset, .unset, .unset, .unset, .unset, .unset] [(.int (0 : Int32)), (.ref b48)])) (fun t_ k_ => XS.iconst X48.here hx rfl (hb hby at_190) k_) ?_
  refine own_st (B := T48.setTop (mkF m 192 #[.val (.long u0), .second, .val (.int u1), .val (.ref b1), .val (.ref b20), .val (.int y5), .val (.ref b48), .unset, .unset, .unset, .unset, .unset, .unset] [(.int (0 : Int32)), (.int (0 : Int32)), (.ref b48)])) (fun t_ k_ => XS.iconst X48.here hx rfl (hb hby at_191) k_) ?_
  obtain ⟨T54, h54, X54, e54, W54, a54, st54⟩ := own_stI X48 hx hZ e48 a48 (i := 0) (j := (0 : Int32)) (by decide) (by decide) (pc := 192) (x := (0 : Int32)) (Ls := #[.val (.long u0), .second, .val (.int u1), .val (.ref b1), .val (.ref b20), .val (.int y5), .val (.ref b48), .unset, .unset, .unset, .unset, .unset, .unset]) (rest := []) (hb hby at_192)
  have N54 := Fr.snoc X54 N46 g52
  have Z55 := Nat.le_trans Z53 (Keep.of_wr W54).1
  refine own_st (B := T54.setTop (mkF m 193 #[.val (.long u0), .second, .val (.int u1), .val (.ref b1), .val (.ref b20), .val (.int y5), .val (.ref b48), .unset, .unset, .unset, .unset, .unset, .unset] [])) st54 ?_
  refine own_st (B := T54.setTop (mkF m 195 #[.val (.long u0), .second, .val (.int u1), .val (.ref b1), .val (.ref b20), .val (.int y5), .val (.ref b48), .unset, .unset, .unset, .unset, .unset, .unset] [(.ref b48)])) (fun t_ k_ => XS.aload X54.here hx rfl (hb hby at_193) rfl rfl k_) ?_
  refine own_st (B := T54.setTop (mkF m 196 #[.val (.long u0), .second, .val (.int u1), .val (.ref b1), .val (.ref b20), .val (.int y5), .val (.ref b48), .unset, .unset, .unset, .unset, .unset, .unset] [(.int (1 : Int32)), (.ref b48)])) (fun t_ k_ => XS.iconst X54.here hx rfl (hb hby at_195) k_) ?_
  refine own_st (B := T54.setTop (mkF m 198 #[.val (.long u0), .second, .val (.int u1), .val (.ref b1), .val (.ref b20), .val (.int y5), .val (.ref b48), .unset, .unset, .unset, .unset, .unset, .unset] [(.int (8 : Int32)), (.int (1 : Int32)), (.ref b48)])) (fun t_ k_ => XS.bipush X54.here hx rfl (hb hby at_196) k_) ?_
  obtain ⟨T56, h56, X56, e56, W56, a56, st56⟩ := own_stI X54 hx hZ e54 a54 (i := 1) (j := (1 : Int32)) (by decide) (by decide) (pc := 198) (x := (8 : Int32)) (Ls := #[.val (.long u0), .second, .val (.int u1), .val (.ref b1), .val (.ref b20), .val (.int y5), .val (.ref b48), .unset, .unset, .unset, .unset, .unset, .unset]) (rest := []) (hb hby at_198)
  have N56 := Fr.snoc X56 N54 g52
  have Z57 := Nat.le_trans Z55 (Keep.of_wr W56).1
  refine own_st (B := T56.setTop (mkF m 199 #[.val (.long u0), .second, .val (.int u1), .val (.ref b1), .val (.ref b20), .val (.int y5), .val (.ref b48), .unset, .unset, .unset, .unset, .unset, .unset] [])) st56 ?_
  refine own_st (B := T56.setTop (mkF m 201 #[.val (.long u0), .second, .val (.int u1), .val (.ref b1), .val (.ref b20), .val (.int y5), .val (.ref b48), .unset, .unset, .unset, .unset, .unset, .unset] [(.ref b48)])) (fun t_ k_ => XS.aload X56.here hx rfl (hb hby at_199) rfl rfl k_) ?_
  refine own_st (B := T56.setTop (mkF m 202 #[.val (.long u0), .second, .val (.int u1), .val (.ref b1), .val (.ref b20), .val (.int y5), .val (.ref b48), .unset, .unset, .unset, .unset, .unset, .unset] [(.int (2 : Int32)), (.ref b48)])) (fun t_ k_ => XS.iconst X56.here hx rfl (hb hby at_201) k_) ?_
  refine own_st (B := T56.setTop (mkF m 204 #[.val (.long u0), .second, .val (.int u1), .val (.ref b1), .val (.ref b20), .val (.int y5), .val (.ref b48), .unset, .unset, .unset, .unset, .unset, .unset] [(.int (8 : Int32)), (.int (2 : Int32)), (.ref b48)])) (fun t_ k_ => XS.bipush X56.here hx rfl (hb hby at_202) k_) ?_
  obtain ⟨T58, h58, X58, e58, W58, a58, st58⟩ := own_stI X56 hx hZ e56 a56 (i := 2) (j := (2 : Int32)) (by decide) (by decide) (pc := 204) (x := (8 : Int32)) (Ls := #[.val (.long u0), .second, .val (.int u1), .val (.ref b1), .val (.ref b20), .val (.int y5), .val (.ref b48), .unset, .unset, .unset, .unset, .unset, .unset]) (rest := []) (hb hby at_204)
  have N58 := Fr.snoc X58 N56 g52
  have Z59 := Nat.le_trans Z57 (Keep.of_wr W58).1
  refine own_st (B := T58.setTop (mkF m 205 #[.val (.long u0), .second, .val (.int u1), .val (.ref b1), .val (.ref b20), .val (.int y5), .val (.ref b48), .unset, .unset, .unset, .unset, .unset, .unset] [])) st58 ?_
  refine own_st (B := T58.setTop (mkF m 207 #[.val (.long u0), .second, .val (.int u1), .val (.ref b1), .val (.ref b20), .val (.int y5), .val (.ref b48), .unset, .unset, .unset, .unset, .unset, .unset] [(.ref b48)])) (fun t_ k_ => XS.aload X58.here hx rfl (hb hby at_205) rfl rfl k_) ?_
  refine own_st (B := T58.setTop (mkF m 208 #[.val (.long u0), .second, .val (.int u1), .val (.ref b1), .val (.ref b20), .val (.int y5), .val (.ref b48), .unset, .unset, .unset, .unset, .unset, .unset] [(.int (3 : Int32)), (.ref b48)])) (fun t_ k_ => XS.iconst X58.here hx rfl (hb hby at_207) k_) ?_
  refine own_st (B := T58.setTop (mkF m 209 #[.val (.long u0), .second, .val (.int u1), .val (.ref b1), .val (.ref b20), .val (.int y5), .val (.ref b48), .unset, .unset, .unset, .unset, .unset, .unset] [(.int (0 : Int32)), (.int (3 : Int32)), (.ref b48)])) (fun t_ k_ => XS.iconst X58.here hx rfl (hb hby at_208) k_) ?_
  obtain ⟨T60, h60, X60, e60, W60, a60, st60⟩ := own_stI X58 hx hZ e58 a58 (i := 3) (j := (3 : Int32)) (by decide) (by decide) (pc := 209) (x := (0 : Int32)) (Ls := #[.val (.long u0), .second, .val (.int u1), .val (.ref b1), .val (.ref b20), .val (.int y5), .val (.ref b48), .unset, .unset, .unset, .unset, .unset, .unset]) (rest := []) (hb hby at_209)
  have N60 := Fr.snoc X60 N58 g52
  have Z61 := Nat.le_trans Z59 (Keep.of_wr W60).1
  refine own_st (B := T60.setTop (mkF m 210 #[.val (.long u0), .second, .val (.int u1), .val (.ref b1), .val (.ref b20), .val (.int y5), .val (.ref b48), .unset, .unset, .unset, .unset, .unset, .unset] [])) st60 ?_
  refine own_st (B := T60.setTop (mkF m 212 #[.val (.long u0), .second, .val (.int u1), .val (.ref b1), .val (.ref b20), .val (.int y5), .val (.ref b48), .unset, .unset, .unset, .unset, .unset, .unset] [(.ref b48)])) (fun t_ k_ => XS.aload X60.here hx rfl (hb hby at_210) rfl rfl k_) ?_
  refine own_st (B := T60.setTop (mkF m 213 #[.val (.long u0), .second, .val (.int u1), .val (.ref b1), .val (.ref b20), .val (.int y5), .val (.ref b48), .unset, .unset, .unset, .unset, .unset, .unset] [(.int (4 : Int32)), (.ref b48)])) (fun t_ k_ => XS.iconst X60.here hx rfl (hb hby at_212) k_) ?_
  refine own_st (B := T60.setTop (mkF m 214 #[.val (.long u0), .second, .val (.int u1), .val (.ref b1), .val (.ref b20), .val (.int y5), .val (.ref b48), .unset, .unset, .unset, .unset, .unset, .unset] [(.int (0 : Int32)), (.int (4 : Int32)), (.ref b48)])) (fun t_ k_ => XS.iconst X60.here hx rfl (hb hby at_213) k_) ?_
  obtain ⟨T62, h62, X62, e62, W62, a62, st62⟩ := own_stI X60 hx hZ e60 a60 (i := 4) (j := (4 : Int32)) (by decide) (by decide) (pc := 214) (x := (0 : Int32)) (Ls := #[.val (.long u0), .second, .val (.int u1), .val (.ref b1), .val (.ref b20), .val (.int y5), .val (.ref b48), .unset, .unset, .unset, .unset, .unset, .unset]) (rest := []) (hb hby at_214)
  have N62 := Fr.snoc X62 N60 g52
  have Z63 := Nat.le_trans Z61 (Keep.of_wr W62).1
  refine own_st (B := T62.setTop (mkF m 215 #[.val (.long u0), .second, .val (.int u1), .val (.ref b1), .val (.ref b20), .val (.int y5), .val (.ref b48), .unset, .unset, .unset, .unset, .unset, .unset] [])) st62 ?_
  obtain ⟨fs0, afs0, hs0⟩ : ∃ fs, own_A Z h62 b48 .int 5 fs ∧ own_s5 fs ((0 : Int), (8 : Int), (8 : Int), (0 : Int), (0 : Int)) := ⟨_, a62, rfl, rfl, rfl, rfl, rfl⟩
  have hi0 : own_inv (own_by fb) 0 ((0 : Int), (8 : Int), (8 : Int), (0 : Int), (0 : Int)) := Or.inl ⟨rfl, rfl, rfl, rfl, 0, rfl, by decide, Or.inl (Nat.le_refl _), rfl⟩
  obtain ⟨s0, es0⟩ : ∃ z_, z_ = ((0 : Int), (8 : Int), (8 : Int), (0 : Int), (0 : Int)) := ⟨_, rfl⟩
  rw [← es0] at hs0 hi0
  clear es0
  refine own_st (B := T62.setTop (mkF m 216 #[.val (.long u0), .second, .val (.int u1), .val (.ref b1), .val (.ref b20), .val (.int y5), .val (.ref b48), .unset, .unset, .unset, .unset, .unset, .unset] [(.ref b1)])) (fun t_ k_ => XS.aloadN X62.here hx rfl (hb hby at_215) rfl rfl k_) ?_
  refine own_st (B := T62.setTop (mkF m 218 #[.val (.long u0), .second, .val (.int u1), .val (.ref b1), .val (.ref b20), .val (.int y5), .val (.ref b48), .unset, .unset, .unset, .unset, .unset, .unset] [(.ref b48), (.ref b1)])) (fun t_ k_ => XS.aload X62.here hx rfl (hb hby at_216) rfl rfl k_) ?_
  have u65 := u49.ext E48
  have u66 := u65.other W54 ne50
  have u67 := u66.other W56 ne50
  have u68 := u67.other W58 ne50
  have u69 := u68.other W60 ne50
  have u70 := u69.other W62 ne50
  obtain ⟨_, _, ⟨T64, Lq64, kq64, nq64⟩, -, X64, ⟨Lc64, hQ64, lq64, yq64, zq64⟩, st64⟩ := Jvm.LawKit.callS X62 hx (y := (⟨"com/example/mapwright/mapwright/Utf8CheckCheckPinLaw", "advance", "([I[I)V"⟩ : MethodName)) hown (mvT hZ (hw _ (List.mem_of_getElem? (i := 4) rfl))) (mvT hZ (hw _ (List.mem_of_getElem? (i := 5) rfl))) (mvT hZ (hw _ (List.mem_of_getElem? (i := 6) rfl))) (mvT hZ (hw _ (List.mem_of_getElem? (i := 7) rfl))) (by decide) (backOf (W := 0) (rm1 l Z a0 hw [] b1 b48 gc fs0 (own_by fb) s0 h62 n0 Z63 u70 afs0 ne50 g52 hgb hs0 (own_invP hi0)) hZ (hw _ (List.mem_of_getElem? (i := 7) rfl)) (hw _ (List.mem_of_getElem? (i := 6) rfl)) (by decide) (by decide)) (g := (mkF m 218 #[.val (.long u0), .second, .val (.int u1), .val (.ref b1), .val (.ref b20), .val (.int y5), .val (.ref b48), .unset, .unset, .unset, .unset, .unset, .unset] [(.ref b48), (.ref b1)])) rfl (by rw [hml]; rfl) (argsL := [(.ref b1), (.ref b48)]) (rest := []) (lenOf own_pd2 rfl) rfl (by show 2 * 0 + _ ≤ _; exact Nat.le_of_eq rfl) (hb hby at_218) (fun _ _ => ⟨rfl, e62, (by decide : 3 + 0 ≤ _), (by decide : 21 + 0 ≤ _)⟩)
  dsimp only [Pt.U, Pt.locs, Pt.cells, Pt.slots] at X64 lq64 yq64 zq64 st64 hQ64
  rw [lq64, yq64, zq64] at X64
  have X64 : Stand p l e _ s m _ below meth c T64 _ 3 21 := X64
  obtain ⟨rfl, N64q, K64, fs1, Af64, hs1⟩ := hQ64
  have N64 := Fr.app N62 N64q
  have Z71 := Nat.le_trans Z63 K64.1
  have hi1 := own_advI hi0
  obtain ⟨s1, es1⟩ : ∃ z_, z_ = own_adv (own_by fb) s0 := ⟨_, rfl⟩
  rw [← es1] at hs1 hi1
  clear es1
  refine own_st (B := T64.setTop (mkF m 221 #[.val (.long u0), .second, .val (.int u1), .val (.ref b1), .val (.ref b20), .val (.int y5), .val (.ref b48), .unset, .unset, .unset, .unset, .unset, .unset] [])) st64 ?_
  refine own_st (B := T64.setTop (mkF m 222 #[.val (.long u0), .second, .val (.int u1), .val (.ref b1), .val (.ref b20), .val (.int y5), .val (.ref b48), .unset, .unset, .unset, .unset, .unset, .unset] [(.ref b1)])) (fun t_ k_ => XS.aloadN X64.here hx rfl (hb hby at_221) rfl rfl k_) ?_
  refine own_st (B := T64.setTop (mkF m 224 #[.val (.long u0), .second, .val (.int u1), .val (.ref b1), .val (.ref b20), .val (.int y5), .val (.ref b48), .unset, .unset, .unset, .unset, .unset, .unset] [(.ref b48), (.ref b1)])) (fun t_ k_ => XS.aload X64.here hx rfl (hb hby at_222) rfl rfl k_) ?_
  have u73 := u70.keep K64 (ninS ne50 nin0)
  obtain ⟨_, _, ⟨T72, Lq72, kq72, nq72⟩, -, X72, ⟨Lc72, hQ72, lq72, yq72, zq72⟩, st72⟩ := Jvm.LawKit.callS X64 hx (y := (⟨"com/example/mapwright/mapwright/Utf8CheckCheckPinLaw", "advance", "([I[I)V"⟩ : MethodName)) hown (mvT hZ (hw _ (List.mem_of_getElem? (i := 4) rfl))) (mvT hZ (hw _ (List.mem_of_getElem? (i := 5) rfl))) (mvT hZ (hw _ (List.mem_of_getElem? (i := 6) rfl))) (mvT hZ (hw _ (List.mem_of_getElem? (i := 7) rfl))) (by decide) (backOf (W := 0) (rm1 l Z a0 hw [] b1 b48 gc fs1 (own_by fb) s1 T64.heap n0 Z71 u73 Af64 ne50 g52 hgb hs1 (own_invP hi1)) hZ (hw _ (List.mem_of_getElem? (i := 7) rfl)) (hw _ (List.mem_of_getElem? (i := 6) rfl)) (by decide) (by decide)) (g := (mkF m 224 #[.val (.long u0), .second, .val (.int u1), .val (.ref b1), .val (.ref b20), .val (.int y5), .val (.ref b48), .unset, .unset, .unset, .unset, .unset, .unset] [(.ref b48), (.ref b1)])) rfl (by rw [hml]; rfl) (argsL := [(.ref b1), (.ref b48)]) (rest := []) (lenOf own_pd2 rfl) rfl (by show 2 * 0 + _ ≤ _; exact Nat.le_of_eq rfl) (hb hby at_224) (fun _ _ => ⟨rfl, rfl, (by decide : 3 + 0 ≤ _), (by decide : 21 + 0 ≤ _)⟩)
  dsimp only [Pt.U, Pt.locs, Pt.cells, Pt.slots] at X72 lq72 yq72 zq72 st72 hQ72
  rw [lq72, yq72, zq72] at X72
  have X72 : Stand p l e _ s m _ below meth c T72 _ 3 21 := X72
  obtain ⟨rfl, N72q, K72, fs2, Af72, hs2⟩ := hQ72
  have N72 := Fr.app N64 N72q
  have Z74 := Nat.le_trans Z71 K72.1
  have hi2 := own_advI hi1
  obtain ⟨s2, es2⟩ : ∃ z_, z_ = own_adv (own_by fb) s1 := ⟨_, rfl⟩
  rw [← es2] at hs2 hi2
  clear es2
  refine own_st (B := T72.setTop (mkF m 227 #[.val (.long u0), .second, .val (.int u1), .val (.ref b1), .val (.ref b20), .val (.int y5), .val (.ref b48), .unset, .unset, .unset, .unset, .unset, .unset] [])) st72 ?_
  refine own_st (B := T72.setTop (mkF m 228 #[.val (.long u0), .second, .val (.int u1), .val (.ref b1), .val (.ref b20), .val (.int y5), .val (.ref b48), .unset, .unset, .unset, .unset, .unset, .unset] [(.ref b1)])) (fun t_ k_ => XS.aloadN X72.here hx rfl (hb hby at_227) rfl rfl k_) ?_
  refine own_st (B := T72.setTop (mkF m 230 #[.val (.long u0), .second, .val (.int u1), .val (.ref b1), .val (.ref b20), .val (.int y5), .val (.ref b48), .unset, .unset, .unset, .unset, .unset, .unset] [(.ref b48), (.ref b1)])) (fun t_ k_ => XS.aload X72.here hx rfl (hb hby at_228) rfl rfl k_) ?_
  have u76 := u73.keep K72 (ninS ne50 nin0)
  obtain ⟨_, _, ⟨T75, Lq75, kq75, nq75⟩, -, X75, ⟨Lc75, hQ75, lq75, yq75, zq75⟩, st75⟩ := Jvm.LawKit.callS X72 hx (y := (⟨"com/example/mapwright/mapwright/Utf8CheckCheckPinLaw", "advance", "([I[I)V"⟩ : MethodName)) hown (mvT hZ (hw _ (List.mem_of_getElem? (i := 4) rfl))) (mvT hZ (hw _ (List.mem_of_getElem? (i := 5) rfl))) (mvT hZ (hw _ (List.mem_of_getElem? (i := 6) rfl))) (mvT hZ (hw _ (List.mem_of_getElem? (i := 7) rfl))) (by decide) (backOf (W := 0) (rm1 l Z a0 hw [] b1 b48 gc fs2 (own_by fb) s2 T72.heap n0 Z74 u76 Af72 ne50 g52 hgb hs2 (own_invP hi2)) hZ (hw _ (List.mem_of_getElem? (i := 7) rfl)) (hw _ (List.mem_of_getElem? (i := 6) rfl)) (by decide) (by decide)) (g := (mkF m 230 #[.val (.long u0), .second, .val (.int u1), .val (.ref b1), .val (.ref b20), .val (.int y5), .val (.ref b48), .unset, .unset, .unset, .unset, .unset, .unset] [(.ref b48), (.ref b1)])) rfl (by rw [hml]; rfl) (argsL := [(.ref b1), (.ref b48)]) (rest := []) (lenOf own_pd2 rfl) rfl (by show 2 * 0 + _ ≤ _; exact Nat.le_of_eq rfl) (hb hby at_230) (fun _ _ => ⟨rfl, rfl, (by decide : 3 + 0 ≤ _), (by decide : 21 + 0 ≤ _)⟩)
  dsimp only [Pt.U, Pt.locs, Pt.cells, Pt.slots] at X75 lq75 yq75 zq75 st75 hQ75
  rw [lq75, yq75, zq75] at X75
  have X75 : Stand p l e _ s m _ below meth c T75 _ 3 21 := X75
  obtain ⟨rfl, N75q, K75, fs3, Af75, hs3⟩ := hQ75
  have N75 := Fr.app N72 N75q
  have Z77 := Nat.le_trans Z74 K75.1
  have hi3 := own_advI hi2
  obtain ⟨s3, es3⟩ : ∃ z_, z_ = own_adv (own_by fb) s2 := ⟨_, rfl⟩
  rw [← es3] at hs3 hi3
  clear es3
  refine own_st (B := T75.setTop (mkF m 233 #[.val (.long u0), .second, .val (.int u1), .val (.ref b1), .val (.ref b20), .val (.int y5), .val (.ref b48), .unset, .unset, .unset, .unset, .unset, .unset] [])) st75 ?_
  refine own_st (B := T75.setTop (mkF m 234 #[.val (.long u0), .second, .val (.int u1), .val (.ref b1), .val (.ref b20), .val (.int y5), .val (.ref b48), .unset, .unset, .unset, .unset, .unset, .unset] [(.ref b1)])) (fun t_ k_ => XS.aloadN X75.here hx rfl (hb hby at_233) rfl rfl k_) ?_
  refine own_st (B := T75.setTop (mkF m 236 #[.val (.long u0), .second, .val (.int u1), .val (.ref b1), .val (.ref b20), .val (.int y5), .val (.ref b48), .unset, .unset, .unset, .unset, .unset, .unset] [(.ref b48), (.ref b1)])) (fun t_ k_ => XS.aload X75.here hx rfl (hb hby at_234) rfl rfl k_) ?_
  have u79 := u76.keep K75 (ninS ne50 nin0)
  obtain ⟨_, _, ⟨T78, Lq78, kq78, nq78⟩, -, X78, ⟨Lc78, hQ78, lq78, yq78, zq78⟩, st78⟩ := Jvm.LawKit.callS X75 hx (y := (⟨"com/example/mapwright/mapwright/Utf8CheckCheckPinLaw", "advance", "([I[I)V"⟩ : MethodName)) hown (mvT hZ (hw _ (List.mem_of_getElem? (i := 4) rfl))) (mvT hZ (hw _ (List.mem_of_getElem? (i := 5) rfl))) (mvT hZ (hw _ (List.mem_of_getElem? (i := 6) rfl))) (mvT hZ (hw _ (List.mem_of_getElem? (i := 7) rfl))) (by decide) (backOf (W := 0) (rm1 l Z a0 hw [] b1 b48 gc fs3 (own_by fb) s3 T75.heap n0 Z77 u79 Af75 ne50 g52 hgb hs3 (own_invP hi3)) hZ (hw _ (List.mem_of_getElem? (i := 7) rfl)) (hw _ (List.mem_of_getElem? (i := 6) rfl)) (by decide) (by decide)) (g := (mkF m 236 #[.val (.long u0), .second, .val (.int u1), .val (.ref b1), .val (.ref b20), .val (.int y5), .val (.ref b48), .unset, .unset, .unset, .unset, .unset, .unset] [(.ref b48), (.ref b1)])) rfl (by rw [hml]; rfl) (argsL := [(.ref b1), (.ref b48)]) (rest := []) (lenOf own_pd2 rfl) rfl (by show 2 * 0 + _ ≤ _; exact Nat.le_of_eq rfl) (hb hby at_236) (fun _ _ => ⟨rfl, rfl, (by decide : 3 + 0 ≤ _), (by decide : 21 + 0 ≤ _)⟩)
  dsimp only [Pt.U, Pt.locs, Pt.cells, Pt.slots] at X78 lq78 yq78 zq78 st78 hQ78
  rw [lq78, yq78, zq78] at X78
  have X78 : Stand p l e _ s m _ below meth c T78 _ 3 21 := X78
  obtain ⟨rfl, N78q, K78, fs4, Af78, hs4⟩ := hQ78
  have N78 := Fr.app N75 N78q
  have Z80 := Nat.le_trans Z77 K78.1
  have hi4 := own_advI hi3
  obtain ⟨s4, es4⟩ : ∃ z_, z_ = own_adv (own_by fb) s3 := ⟨_, rfl⟩
  rw [← es4] at hs4 hi4
  clear es4
  refine own_st (B := T78.setTop (mkF m 239 #[.val (.long u0), .second, .val (.int u1), .val (.ref b1), .val (.ref b20), .val (.int y5), .val (.ref b48), .unset, .unset, .unset, .unset, .unset, .unset] [])) st78 ?_
  refine own_st (B := T78.setTop (mkF m 240 #[.val (.long u0), .second, .val (.int u1), .val (.ref b1), .val (.ref b20), .val (.int y5), .val (.ref b48), .unset, .unset, .unset, .unset, .unset, .unset] [(.ref b1)])) (fun t_ k_ => XS.aloadN X78.here hx rfl (hb hby at_239) rfl rfl k_) ?_
  refine own_st (B := T78.setTop (mkF m 242 #[.val (.long u0), .second, .val (.int u1), .val (.ref b1), .val (.ref b20), .val (.int y5), .val (.ref b48), .unset, .unset, .unset, .unset, .unset, .unset] [(.ref b48), (.ref b1)])) (fun t_ k_ => XS.aload X78.here hx rfl (hb hby at_240) rfl rfl k_) ?_
  have u82 := u79.keep K78 (ninS ne50 nin0)
  obtain ⟨_, _, ⟨T81, Lq81, kq81, nq81⟩, -, X81, ⟨Lc81, hQ81, lq81, yq81, zq81⟩, st81⟩ := Jvm.LawKit.callS X78 hx (y := (⟨"com/example/mapwright/mapwright/Utf8CheckCheckPinLaw", "advance", "([I[I)V"⟩ : MethodName)) hown (mvT hZ (hw _ (List.mem_of_getElem? (i := 4) rfl))) (mvT hZ (hw _ (List.mem_of_getElem? (i := 5) rfl))) (mvT hZ (hw _ (List.mem_of_getElem? (i := 6) rfl))) (mvT hZ (hw _ (List.mem_of_getElem? (i := 7) rfl))) (by decide) (backOf (W := 0) (rm1 l Z a0 hw [] b1 b48 gc fs4 (own_by fb) s4 T78.heap n0 Z80 u82 Af78 ne50 g52 hgb hs4 (own_invP hi4)) hZ (hw _ (List.mem_of_getElem? (i := 7) rfl)) (hw _ (List.mem_of_getElem? (i := 6) rfl)) (by decide) (by decide)) (g := (mkF m 242 #[.val (.long u0), .second, .val (.int u1), .val (.ref b1), .val (.ref b20), .val (.int y5), .val (.ref b48), .unset, .unset, .unset, .unset, .unset, .unset] [(.ref b48), (.ref b1)])) rfl (by rw [hml]; rfl) (argsL := [(.ref b1), (.ref b48)]) (rest := []) (lenOf own_pd2 rfl) rfl (by show 2 * 0 + _ ≤ _; exact Nat.le_of_eq rfl) (hb hby at_242) (fun _ _ => ⟨rfl, rfl, (by decide : 3 + 0 ≤ _), (by decide : 21 + 0 ≤ _)⟩)
  dsimp only [Pt.U, Pt.locs, Pt.cells, Pt.slots] at X81 lq81 yq81 zq81 st81 hQ81
  rw [lq81, yq81, zq81] at X81
  have X81 : Stand p l e _ s m _ below meth c T81 _ 3 21 := X81
  obtain ⟨rfl, N81q, K81, fs5, Af81, hs5⟩ := hQ81
  have N81 := Fr.app N78 N81q
  have Z83 := Nat.le_trans Z80 K81.1
  have hi5 := own_advI hi4
  obtain ⟨s5, es5⟩ : ∃ z_, z_ = own_adv (own_by fb) s4 := ⟨_, rfl⟩
  rw [← es5] at hs5 hi5
  clear es5
  refine own_st (B := T81.setTop (mkF m 245 #[.val (.long u0), .second, .val (.int u1), .val (.ref b1), .val (.ref b20), .val (.int y5), .val (.ref b48), .unset, .unset, .unset, .unset, .unset, .unset] [])) st81 ?_
  refine own_st (B := T81.setTop (mkF m 246 #[.val (.long u0), .second, .val (.int u1), .val (.ref b1), .val (.ref b20), .val (.int y5), .val (.ref b48), .unset, .unset, .unset, .unset, .unset, .unset] [(.ref b1)])) (fun t_ k_ => XS.aloadN X81.here hx rfl (hb hby at_245) rfl rfl k_) ?_
  refine own_st (B := T81.setTop (mkF m 248 #[.val (.long u0), .second, .val (.int u1), .val (.ref b1), .val (.ref b20), .val (.int y5), .val (.ref b48), .unset, .unset, .unset, .unset, .unset, .unset] [(.ref b48), (.ref b1)])) (fun t_ k_ => XS.aload X81.here hx rfl (hb hby at_246) rfl rfl k_) ?_
  have u85 := u82.keep K81 (ninS ne50 nin0)
  obtain ⟨_, _, ⟨T84, Lq84, kq84, nq84⟩, -, X84, ⟨Lc84, hQ84, lq84, yq84, zq84⟩, st84⟩ := Jvm.LawKit.callS X81 hx (y := (⟨"com/example/mapwright/mapwright/Utf8CheckCheckPinLaw", "advance", "([I[I)V"⟩ : MethodName)) hown (mvT hZ (hw _ (List.mem_of_getElem? (i := 4) rfl))) (mvT hZ (hw _ (List.mem_of_getElem? (i := 5) rfl))) (mvT hZ (hw _ (List.mem_of_getElem? (i := 6) rfl))) (mvT hZ (hw _ (List.mem_of_getElem? (i := 7) rfl))) (by decide) (backOf (W := 0) (rm1 l Z a0 hw [] b1 b48 gc fs5 (own_by fb) s5 T81.heap n0 Z83 u85 Af81 ne50 g52 hgb hs5 (own_invP hi5)) hZ (hw _ (List.mem_of_getElem? (i := 7) rfl)) (hw _ (List.mem_of_getElem? (i := 6) rfl)) (by decide) (by decide)) (g := (mkF m 248 #[.val (.long u0), .second, .val (.int u1), .val (.ref b1), .val (.ref b20), .val (.int y5), .val (.ref b48), .unset, .unset, .unset, .unset, .unset, .unset] [(.ref b48), (.ref b1)])) rfl (by rw [hml]; rfl) (argsL := [(.ref b1), (.ref b48)]) (rest := []) (lenOf own_pd2 rfl) rfl (by show 2 * 0 + _ ≤ _; exact Nat.le_of_eq rfl) (hb hby at_248) (fun _ _ => ⟨rfl, rfl, (by decide : 3 + 0 ≤ _), (by decide : 21 + 0 ≤ _)⟩)
  dsimp only [Pt.U, Pt.locs, Pt.cells, Pt.slots] at X84 lq84 yq84 zq84 st84 hQ84
  rw [lq84, yq84, zq84] at X84
  have X84 : Stand p l e _ s m _ below meth c T84 _ 3 21 := X84
  obtain ⟨rfl, N84q, K84, fs6, Af84, hs6⟩ := hQ84
  have N84 := Fr.app N81 N84q
  have Z86 := Nat.le_trans Z83 K84.1
  have hi6 := own_advI hi5
  obtain ⟨s6, es6⟩ : ∃ z_, z_ = own_adv (own_by fb) s5 := ⟨_, rfl⟩
  rw [← es6] at hs6 hi6
  clear es6
  refine own_st (B := T84.setTop (mkF m 251 #[.val (.long u0), .second, .val (.int u1), .val (.ref b1), .val (.ref b20), .val (.int y5), .val (.ref b48), .unset, .unset, .unset, .unset, .unset, .unset] [])) st84 ?_
  refine own_st (B := T84.setTop (mkF m 252 #[.val (.long u0), .second, .val (.int u1), .val (.ref b1), .val (.ref b20), .val (.int y5), .val (.ref b48), .unset, .unset, .unset, .unset, .unset, .unset] [(.ref b1)])) (fun t_ k_ => XS.aloadN X84.here hx rfl (hb hby at_251) rfl rfl k_) ?_
  refine own_st (B := T84.setTop (mkF m 254 #[.val (.long u0), .second, .val (.int u1), .val (.ref b1), .val (.ref b20), .val (.int y5), .val (.ref b48), .unset, .unset, .unset, .unset, .unset, .unset] [(.ref b48), (.ref b1)])) (fun t_ k_ => XS.aload X84.here hx rfl (hb hby at_252) rfl rfl k_) ?_
  have u88 := u85.keep K84 (ninS ne50 nin0)
  obtain ⟨_, _, ⟨T87, Lq87, kq87, nq87⟩, -, X87, ⟨Lc87, hQ87, lq87, yq87, zq87⟩, st87⟩ := Jvm.LawKit.callS X84 hx (y := (⟨"com/example/mapwright/mapwright/Utf8CheckCheckPinLaw", "advance", "([I[I)V"⟩ : MethodName)) hown (mvT hZ (hw _ (List.mem_of_getElem? (i := 4) rfl))) (mvT hZ (hw _ (List.mem_of_getElem? (i := 5) rfl))) (mvT hZ (hw _ (List.mem_of_getElem? (i := 6) rfl))) (mvT hZ (hw _ (List.mem_of_getElem? (i := 7) rfl))) (by decide) (backOf (W := 0) (rm1 l Z a0 hw [] b1 b48 gc fs6 (own_by fb) s6 T84.heap n0 Z86 u88 Af84 ne50 g52 hgb hs6 (own_invP hi6)) hZ (hw _ (List.mem_of_getElem? (i := 7) rfl)) (hw _ (List.mem_of_getElem? (i := 6) rfl)) (by decide) (by decide)) (g := (mkF m 254 #[.val (.long u0), .second, .val (.int u1), .val (.ref b1), .val (.ref b20), .val (.int y5), .val (.ref b48), .unset, .unset, .unset, .unset, .unset, .unset] [(.ref b48), (.ref b1)])) rfl (by rw [hml]; rfl) (argsL := [(.ref b1), (.ref b48)]) (rest := []) (lenOf own_pd2 rfl) rfl (by show 2 * 0 + _ ≤ _; exact Nat.le_of_eq rfl) (hb hby at_254) (fun _ _ => ⟨rfl, rfl, (by decide : 3 + 0 ≤ _), (by decide : 21 + 0 ≤ _)⟩)
  dsimp only [Pt.U, Pt.locs, Pt.cells, Pt.slots] at X87 lq87 yq87 zq87 st87 hQ87
  rw [lq87, yq87, zq87] at X87
  have X87 : Stand p l e _ s m _ below meth c T87 _ 3 21 := X87
  obtain ⟨rfl, N87q, K87, fs7, Af87, hs7⟩ := hQ87
  have N87 := Fr.app N84 N87q
  have Z89 := Nat.le_trans Z86 K87.1
  have hi7 := own_advI hi6
  obtain ⟨s7, es7⟩ : ∃ z_, z_ = own_adv (own_by fb) s6 := ⟨_, rfl⟩
  rw [← es7] at hs7 hi7
  clear es7
  refine own_st (B := T87.setTop (mkF m 257 #[.val (.long u0), .second, .val (.int u1), .val (.ref b1), .val (.ref b20), .val (.int y5), .val (.ref b48), .unset, .unset, .unset, .unset, .unset, .unset] [])) st87 ?_
  refine own_st (B := T87.setTop (mkF m 258 #[.val (.long u0), .second, .val (.int u1), .val (.ref b1), .val (.ref b20), .val (.int y5), .val (.ref b48), .unset, .unset, .unset, .unset, .unset, .unset] [(.ref b1)])) (fun t_ k_ => XS.aloadN X87.here hx rfl (hb hby at_257) rfl rfl k_) ?_
  refine own_st (B := T87.setTop (mkF m 260 #[.val (.long u0), .second, .val (.int u1), .val (.ref b1), .val (.ref b20), .val (.int y5), .val (.ref b48), .unset, .unset, .unset, .unset, .unset, .unset] [(.ref b48), (.ref b1)])) (fun t_ k_ => XS.aload X87.here hx rfl (hb hby at_258) rfl rfl k_) ?_
  have u91 := u88.keep K87 (ninS ne50 nin0)
  obtain ⟨_, _, ⟨T90, Lq90, kq90, nq90⟩, -, X90, ⟨Lc90, hQ90, lq90, yq90, zq90⟩, st90⟩ := Jvm.LawKit.callS X87 hx (y := (⟨"com/example/mapwright/mapwright/Utf8CheckCheckPinLaw", "advance", "([I[I)V"⟩ : MethodName)) hown (mvT hZ (hw _ (List.mem_of_getElem? (i := 4) rfl))) (mvT hZ (hw _ (List.mem_of_getElem? (i := 5) rfl))) (mvT hZ (hw _ (List.mem_of_getElem? (i := 6) rfl))) (mvT hZ (hw _ (List.mem_of_getElem? (i := 7) rfl))) (by decide) (backOf (W := 0) (rm1 l Z a0 hw [] b1 b48 gc fs7 (own_by fb) s7 T87.heap n0 Z89 u91 Af87 ne50 g52 hgb hs7 (own_invP hi7)) hZ (hw _ (List.mem_of_getElem? (i := 7) rfl)) (hw _ (List.mem_of_getElem? (i := 6) rfl)) (by decide) (by decide)) (g := (mkF m 260 #[.val (.long u0), .second, .val (.int u1), .val (.ref b1), .val (.ref b20), .val (.int y5), .val (.ref b48), .unset, .unset, .unset, .unset, .unset, .unset] [(.ref b48), (.ref b1)])) rfl (by rw [hml]; rfl) (argsL := [(.ref b1), (.ref b48)]) (rest := []) (lenOf own_pd2 rfl) rfl (by show 2 * 0 + _ ≤ _; exact Nat.le_of_eq rfl) (hb hby at_260) (fun _ _ => ⟨rfl, rfl, (by decide : 3 + 0 ≤ _), (by decide : 21 + 0 ≤ _)⟩)
  dsimp only [Pt.U, Pt.locs, Pt.cells, Pt.slots] at X90 lq90 yq90 zq90 st90 hQ90
  rw [lq90, yq90, zq90] at X90
  have X90 : Stand p l e _ s m _ below meth c T90 _ 3 21 := X90
  obtain ⟨rfl, N90q, K90, fs8, Af90, hs8⟩ := hQ90
  have N90 := Fr.app N87 N90q
  have Z92 := Nat.le_trans Z89 K90.1
  have hi8 := own_advI hi7
  obtain ⟨s8, es8⟩ : ∃ z_, z_ = own_adv (own_by fb) s7 := ⟨_, rfl⟩
  rw [← es8] at hs8 hi8
  clear es8
  refine own_st (B := T90.setTop (mkF m 263 #[.val (.long u0), .second, .val (.int u1), .val (.ref b1), .val (.ref b20), .val (.int y5), .val (.ref b48), .unset, .unset, .unset, .unset, .unset, .unset] [])) st90 ?_
  obtain ⟨e1, e2, e3, e4, e5⟩ := hs8
  rcases hi8 with hi8 | hi8 | hi8
  · obtain ⟨q1, q2, q3, q4, p8, q5, q6, q7, q8⟩ := hi8
    have hp8 : p8 = 8 := by omega
    rw [hp8] at q8
    have hB : (fs8 1).toInt = 8 := e2.trans q2
    obtain ⟨s1, r1, r2⟩ := own_L1 q8 hkk8
    have hI : (fs8 3).toInt = 0 := e4.trans q4
    refine own_st (B := T90.setTop (mkF m 265 #[.val (.long u0), .second, .val (.int u1), .val (.ref b1), .val (.ref b20), .val (.int y5), .val (.ref b48), .unset, .unset, .unset, .unset, .unset, .unset] [(.ref b48)])) (fun t_ k_ => XS.aload X90.here hx rfl (hb hby at_263) rfl rfl k_) ?_
    refine own_st (B := T90.setTop (mkF m 266 #[.val (.long u0), .second, .val (.int u1), .val (.ref b1), .val (.ref b20), .val (.int y5), .val (.ref b48), .unset, .unset, .unset, .unset, .unset, .unset] [(.int (1 : Int32)), (.ref b48)])) (fun t_ k_ => XS.iconst X90.here hx rfl (hb hby at_265) k_) ?_
    refine own_st (B := T90.setTop (mkF m 267 #[.val (.long u0), .second, .val (.int u1), .val (.ref b1), .val (.ref b20), .val (.int y5), .val (.ref b48), .unset, .unset, .unset, .unset, .unset, .unset] [(.int (fs8 1))])) (fun t_ k_ => own_ldI X90 hx hZ rfl Af90 (i := 1) (by decide) (by decide) (hb hby at_266) t_ k_) ?_
    refine own_st (B := T90.setTop (mkF m 269 #[.val (.long u0), .second, .val (.int u1), .val (.ref b1), .val (.ref b20), .val (.int y5), .val (.ref b48), .val (.int (fs8 1)), .unset, .unset, .unset, .unset, .unset] [])) (fun t_ k_ => XS.istore X90.here hx rfl (hb hby at_267) rfl (l' := #[.val (.long u0), .second, .val (.int u1), .val (.ref b1), .val (.ref b20), .val (.int y5), .val (.ref b48), .val (.int (fs8 1)), .unset, .unset, .unset, .unset, .unset]) rfl k_) ?_
    refine own_st (B := T90.setTop (mkF m 271 #[.val (.long u0), .second, .val (.int u1), .val (.ref b1), .val (.ref b20), .val (.int y5), .val (.ref b48), .val (.int (fs8 1)), .unset, .unset, .unset, .unset, .unset] [(.ref b48)])) (fun t_ k_ => XS.aload X90.here hx rfl (hb hby at_269) rfl rfl k_) ?_
    refine own_st (B := T90.setTop (mkF m 272 #[.val (.long u0), .second, .val (.int u1), .val (.ref b1), .val (.ref b20), .val (.int y5), .val (.ref b48), .val (.int (fs8 1)), .unset, .unset, .unset, .unset, .unset] [(.int (2 : Int32)), (.ref b48)])) (fun t_ k_ => XS.iconst X90.here hx rfl (hb hby at_271) k_) ?_
    refine own_st (B := T90.setTop (mkF m 273 #[.val (.long u0), .second, .val (.int u1), .val (.ref b1), .val (.ref b20), .val (.int y5), .val (.ref b48), .val (.int (fs8 1)), .unset, .unset, .unset, .unset, .unset] [(.int (fs8 2))])) (fun t_ k_ => own_ldI X90 hx hZ rfl Af90 (i := 2) (by decide) (by decide) (hb hby at_272) t_ k_) ?_
    refine own_st (B := T90.setTop (mkF m 275 #[.val (.long u0), .second, .val (.int u1), .val (.ref b1), .val (.ref b20), .val (.int y5), .val (.ref b48), .val (.int (fs8 1)), .val (.int (fs8 2)), .unset, .unset, .unset, .unset] [])) (fun t_ k_ => XS.istore X90.here hx rfl (hb hby at_273) rfl (l' := #[.val (.long u0), .second, .val (.int u1), .val (.ref b1), .val (.ref b20), .val (.int y5), .val (.ref b48), .val (.int (fs8 1)), .val (.int (fs8 2)), .unset, .unset, .unset, .unset]) rfl k_) ?_
    refine own_st (B := T90.setTop (mkF m 277 #[.val (.long u0), .second, .val (.int u1), .val (.ref b1), .val (.ref b20), .val (.int y5), .val (.ref b48), .val (.int (fs8 1)), .val (.int (fs8 2)), .unset, .unset, .unset, .unset] [(.ref b48)])) (fun t_ k_ => XS.aload X90.here hx rfl (hb hby at_275) rfl rfl k_) ?_
    refine own_st (B := T90.setTop (mkF m 278 #[.val (.long u0), .second, .val (.int u1), .val (.ref b1), .val (.ref b20), .val (.int y5), .val (.ref b48), .val (.int (fs8 1)), .val (.int (fs8 2)), .unset, .unset, .unset, .unset] [(.int (3 : Int32)), (.ref b48)])) (fun t_ k_ => XS.iconst X90.here hx rfl (hb hby at_277) k_) ?_
    refine own_st (B := T90.setTop (mkF m 279 #[.val (.long u0), .second, .val (.int u1), .val (.ref b1), .val (.ref b20), .val (.int y5), .val (.ref b48), .val (.int (fs8 1)), .val (.int (fs8 2)), .unset, .unset, .unset, .unset] [(.int (fs8 3))])) (fun t_ k_ => own_ldI X90 hx hZ rfl Af90 (i := 3) (by decide) (by decide) (hb hby at_278) t_ k_) ?_
    have hc93 : (fs8 3) = (0 : Int32) := Int32.toInt_inj.mp hI
    have hd93 := own_eq32 hc93
    rw [show (0 : Int32).toInt = 0 from rfl] at hd93
    refine own_st (B := T90.setTop (mkF m 286 #[.val (.long u0), .second, .val (.int u1), .val (.ref b1), .val (.ref b20), .val (.int y5), .val (.ref b48), .val (.int (fs8 1)), .val (.int (fs8 2)), .unset, .unset, .unset, .unset] [])) (fun t_ k_ => XS.ifYes X90.here hx rfl (pc0 := 279) (pc' := 286) rfl (hb hby at_279) rfl ((if0 _ _).trans (teq hc93).1) (by decide) (by decide) k_) ?_
    refine own_st (B := T90.setTop (mkF m 287 #[.val (.long u0), .second, .val (.int u1), .val (.ref b1), .val (.ref b20), .val (.int y5), .val (.ref b48), .val (.int (fs8 1)), .val (.int (fs8 2)), .unset, .unset, .unset, .unset] [(.int (0 : Int32))])) (fun t_ k_ => XS.iconst X90.here hx rfl (hb hby at_286) k_) ?_
    refine own_st (B := T90.setTop (mkF m 289 #[.val (.long u0), .second, .val (.int u1), .val (.ref b1), .val (.ref b20), .val (.int y5), .val (.ref b48), .val (.int (fs8 1)), .val (.int (fs8 2)), .val (.int (0 : Int32)), .unset, .unset, .unset] [])) (fun t_ k_ => XS.istore X90.here hx rfl (hb hby at_287) rfl (l' := #[.val (.long u0), .second, .val (.int u1), .val (.ref b1), .val (.ref b20), .val (.int y5), .val (.ref b48), .val (.int (fs8 1)), .val (.int (fs8 2)), .val (.int (0 : Int32)), .unset, .unset, .unset]) rfl k_) ?_
    obtain ⟨T94, h94, X94, e94, E94, A94, D94, -, st94⟩ := newO X90 hx hZ hown (hw _ (List.mem_of_getElem? (i := 11) rfl)) (hw _ (List.mem_of_getElem? (i := 12) rfl)) (hw _ (List.mem_of_getElem? (i := 13) rfl)) rfl (g := (mkF m 289 #[.val (.long u0), .second, .val (.int u1), .val (.ref b1), .val (.ref b20), .val (.int y5), .val (.ref b48), .val (.int (fs8 1)), .val (.int (fs8 2)), .val (.int (0 : Int32)), .unset, .unset, .unset] [])) rfl (hb hby at_289) (by decide) (by decide)
    obtain ⟨b94, g94⟩ : ∃ z, z = T90.heap.size := ⟨_, rfl⟩
    rw [← g94] at A94 D94 st94
    have u95 := u91.keep K90 (ninS ne50 nin0)
    have ne96 : b1 ≠ b94 := Nat.ne_of_lt (Nat.lt_of_lt_of_le u95.lt (Nat.le_of_eq g94.symm))
    have u97 := afb.ext E48
    have u98 := u97.other W54 ne51
    have u99 := u98.other W56 ne51
    have u100 := u99.other W58 ne51
    have u101 := u100.other W60 ne51
    have u102 := u101.other W62 ne51
    have u103 := u102.keep K64 (ninS ne51 nin0)
    have u104 := u103.keep K72 (ninS ne51 nin0)
    have u105 := u104.keep K75 (ninS ne51 nin0)
    have u106 := u105.keep K78 (ninS ne51 nin0)
    have u107 := u106.keep K81 (ninS ne51 nin0)
    have u108 := u107.keep K84 (ninS ne51 nin0)
    have u109 := u108.keep K87 (ninS ne51 nin0)
    have u110 := u109.keep K90 (ninS ne51 nin0)
    have ne111 : b20 ≠ b94 := Nat.ne_of_lt (Nat.lt_of_lt_of_le u110.lt (Nat.le_of_eq g94.symm))
    have u112 := G48.wr W54
    have u113 := u112.wr W56
    have u114 := u113.wr W58
    have u115 := u114.wr W60
    have u116 := u115.wr W62
    have u117 := u116.keep K64
    have u118 := u117.keep K72
    have u119 := u118.keep K75
    have u120 := u119.keep K78
    have u121 := u120.keep K81
    have u122 := u121.keep K84
    have u123 := u122.keep K87
    have u124 := u123.keep K90
    have ne125 : b48 ≠ b94 := Nat.ne_of_lt (Nat.lt_of_lt_of_le u124.lt (Nat.le_of_eq g94.symm))
    have g126 : n0 ≤ b94 := Nat.le_trans Z92 (Nat.le_of_eq g94.symm)
    have Z127 := Nat.le_trans Z92 E94.1
    have X94 : Stand p l e _ s m _ below meth c T94 _ 4 24 := X94
    have F94_least : Fld Z h94 b94 "com/example/mapwright/mapwright/Utf8Check" "least" "I" (.int (0 : Int32)) := D94 (Or.inl (hw _ (List.mem_of_getElem? (i := 21) rfl))) (ty := .int) (by decide)
    have F94_greatest : Fld Z h94 b94 "com/example/mapwright/mapwright/Utf8Check" "greatest" "I" (.int (0 : Int32)) := D94 (Or.inl (hw _ (List.mem_of_getElem? (i := 23) rfl))) (ty := .int) (by decide)
    have F94_needed : Fld Z h94 b94 "com/example/mapwright/mapwright/Utf8Check" "needed" "I" (.int (0 : Int32)) := D94 (Or.inl (hw _ (List.mem_of_getElem? (i := 30) rfl))) (ty := .int) (by decide)
    refine own_st (B := T94.setTop (mkF m 292 #[.val (.long u0), .second, .val (.int u1), .val (.ref b1), .val (.ref b20), .val (.int y5), .val (.ref b48), .val (.int (fs8 1)), .val (.int (fs8 2)), .val (.int (0 : Int32)), .unset, .unset, .unset] [(.ref b94)])) st94 ?_
    refine own_st (B := T94.setTop (mkF m 293 #[.val (.long u0), .second, .val (.int u1), .val (.ref b1), .val (.ref b20), .val (.int y5), .val (.ref b48), .val (.int (fs8 1)), .val (.int (fs8 2)), .val (.int (0 : Int32)), .unset, .unset, .unset] [(.ref b94), (.ref b94)])) (fun t_ k_ => XS.dup X94.here hx rfl (hb hby at_292) rfl rfl k_) ?_
    obtain ⟨_, _, ⟨T128, Lq128, kq128, nq128⟩, -, X128, ⟨Lc128, hQ128, lq128, yq128, zq128⟩, st128⟩ := X94.specialBack hx (y := (⟨"com/example/mapwright/mapwright/Utf8Check", "<init>", "()V"⟩ : MethodName)) rfl hown (mvT hZ (hw _ (List.mem_of_getElem? (i := 14) rfl))) (mvT hZ (hw _ (List.mem_of_getElem? (i := 15) rfl))) (mvT hZ (hw _ (List.mem_of_getElem? (i := 16) rfl))) (by decide) (backOf (W := 1) (rm3 l Z a0 hw [] b94 h94 n0 Z127 A94 F94_needed F94_least F94_greatest g126) hZ (hw _ (List.mem_of_getElem? (i := 16) rfl)) (hw _ (List.mem_of_getElem? (i := 13) rfl)) (by decide) (by decide)) (g := (mkF m 293 #[.val (.long u0), .second, .val (.int u1), .val (.ref b1), .val (.ref b20), .val (.int y5), .val (.ref b48), .val (.int (fs8 1)), .val (.int (fs8 2)), .val (.int (0 : Int32)), .unset, .unset, .unset] [(.ref b94), (.ref b94)])) rfl (by rw [hml]; rfl) (Steps.refl _) (a := b94) (argsL := []) (rest := [(.ref b94)]) (lenOf own_pd3 rfl) rfl (by show 2 * 0 + _ ≤ _; exact Nat.le_of_eq rfl) (hb hby at_293) (fun _ _ => ⟨rfl, e94, (by decide : 4 + 0 ≤ _), (by decide : 24 + 0 ≤ _)⟩)
    dsimp only [Pt.U, Pt.locs, Pt.cells, Pt.slots] at X128 lq128 yq128 zq128 st128 hQ128
    rw [lq128, yq128, zq128] at X128
    have X128 : Stand p l e _ s m _ below meth c T128 _ 4 24 := X128
    obtain ⟨rfl, N128q, K128, Fc128_0, Fc128_1, Fc128_2⟩ := hQ128
    have N128 := Fr.app N90 N128q
    have Z129 := Nat.le_trans Z127 K128.1
    refine own_st (B := T128.setTop (mkF m 296 #[.val (.long u0), .second, .val (.int u1), .val (.ref b1), .val (.ref b20), .val (.int y5), .val (.ref b48), .val (.int (fs8 1)), .val (.int (fs8 2)), .val (.int (0 : Int32)), .unset, .unset, .unset] [(.ref b94)])) (fun t_ k_ => st128.trans k_) ?_
    refine own_st (B := T128.setTop (mkF m 298 #[.val (.long u0), .second, .val (.int u1), .val (.ref b1), .val (.ref b20), .val (.int y5), .val (.ref b48), .val (.int (fs8 1)), .val (.int (fs8 2)), .val (.int (0 : Int32)), .val (.ref b94), .unset, .unset] [])) (fun t_ k_ => XS.astore X128.here hx rfl (hb hby at_296) rfl rfl (l' := #[.val (.long u0), .second, .val (.int u1), .val (.ref b1), .val (.ref b20), .val (.int y5), .val (.ref b48), .val (.int (fs8 1)), .val (.int (fs8 2)), .val (.int (0 : Int32)), .val (.ref b94), .unset, .unset]) rfl k_) ?_
    refine own_st (B := T128.setTop (mkF m 300 #[.val (.long u0), .second, .val (.int u1), .val (.ref b1), .val (.ref b20), .val (.int y5), .val (.ref b48), .val (.int (fs8 1)), .val (.int (fs8 2)), .val (.int (0 : Int32)), .val (.ref b94), .unset, .unset] [(.ref b94)])) (fun t_ k_ => XS.aload X128.here hx rfl (hb hby at_298) rfl rfl k_) ?_
    refine own_st (B := T128.setTop (mkF m 302 #[.val (.long u0), .second, .val (.int u1), .val (.ref b1), .val (.ref b20), .val (.int y5), .val (.ref b48), .val (.int (fs8 1)), .val (.int (fs8 2)), .val (.int (0 : Int32)), .val (.ref b94), .unset, .unset] [(.ref b20), (.ref b94)])) (fun t_ k_ => XS.aload X128.here hx rfl (hb hby at_300) rfl rfl k_) ?_
    refine own_st (B := T128.setTop (mkF m 303 #[.val (.long u0), .second, .val (.int u1), .val (.ref b1), .val (.ref b20), .val (.int y5), .val (.ref b48), .val (.int (fs8 1)), .val (.int (fs8 2)), .val (.int (0 : Int32)), .val (.ref b94), .unset, .unset] [(.int (0 : Int32)), (.ref b20), (.ref b94)])) (fun t_ k_ => XS.iconst X128.here hx rfl (hb hby at_302) k_) ?_
    refine own_st (B := T128.setTop (mkF m 305 #[.val (.long u0), .second, .val (.int u1), .val (.ref b1), .val (.ref b20), .val (.int y5), .val (.ref b48), .val (.int (fs8 1)), .val (.int (fs8 2)), .val (.int (0 : Int32)), .val (.ref b94), .unset, .unset] [(.int y5), (.int (0 : Int32)), (.ref b20), (.ref b94)])) (fun t_ k_ => XS.iload X128.here hx rfl (hb hby at_303) rfl k_) ?_
    have u131 := A94.keep K128
    have u132 := u110.ext E94
    have u133 := u132.keep K128 (ninS ne111 nin0)
    obtain ⟨cq130, kr130, q130a, q130b, q130c⟩ := isOf hZ rfl u131
    obtain ⟨_, _, ⟨T130, Lq130, kq130, nq130⟩, -, X130, ⟨Lc130, hQ130, lq130, yq130, zq130⟩, st130⟩ := X128.virtualBack hx (y := (⟨"com/example/mapwright/mapwright/Utf8Check", "check", "([BII)I"⟩ : MethodName)) (z := (⟨"com/example/mapwright/mapwright/Utf8Check", "check", "([BII)I"⟩ : MethodName)) hown (mvT hZ (hw _ (List.mem_of_getElem? (i := 24) rfl))) (mvT hZ (hw _ (List.mem_of_getElem? (i := 25) rfl))) (notFace_of_selects (args := #[]) (mvT hZ (hw _ (List.mem_of_getElem? (i := 27) rfl)))) (mvT hZ (hw _ (List.mem_of_getElem? (i := 27) rfl))) (mvT hZ (hw _ (List.mem_of_getElem? (i := 26) rfl))) (by decide) (backOf (W := 0) (rm5 l Z a0 hw [] b94 b20 (0 : Int32) y5 0 kk 8 fb 0 128 191 T128.heap n0 Z129 u131 Fc128_0 Fc128_1 Fc128_2 u133 g126 (Ne.symm ne111) (by decide) hkk (Nat.zero_le _) (by omega) (by decide) ⟨by decide, by decide, by decide, by decide, fun _ => ⟨rfl, rfl⟩⟩) hZ (hw _ (List.mem_of_getElem? (i := 28) rfl)) (hw _ (List.mem_of_getElem? (i := 13) rfl)) (by decide) (by decide)) q130a q130c (g := (mkF m 305 #[.val (.long u0), .second, .val (.int u1), .val (.ref b1), .val (.ref b20), .val (.int y5), .val (.ref b48), .val (.int (fs8 1)), .val (.int (fs8 2)), .val (.int (0 : Int32)), .val (.ref b94), .unset, .unset] [(.int y5), (.int (0 : Int32)), (.ref b20), (.ref b94)])) rfl (by rw [hml]; rfl) (Steps.refl _) (argsL := [(.ref b20), (.int (0 : Int32)), (.int y5)]) (rest := []) (lenOf own_pd4 rfl) rfl (by show 2 * 0 + _ ≤ _; exact Nat.le_of_eq rfl) (hb hby at_305) (fun _ _ => ⟨rfl, rfl, (by decide : 4 + 0 ≤ _), (by decide : 24 + 0 ≤ _)⟩)
    dsimp only [Pt.U, Pt.locs, Pt.cells, Pt.slots] at X130 lq130 yq130 zq130 st130 hQ130
    rw [lq130, yq130, zq130] at X130
    have X130 : Stand p l e _ s m _ below meth c T130 _ 4 24 := X130
    rcases hQ130 with hQ130 | hQ130
    · obtain ⟨sq130, y130, hr130, rfl, hy130, N130q, K130⟩ := hQ130
      have N130 := Fr.app N128 N130q
      have Z134 := Nat.le_trans Z129 K130.1
      refine own_st (B := T130.setTop (mkF m 308 #[.val (.long u0), .second, .val (.int u1), .val (.ref b1), .val (.ref b20), .val (.int y5), .val (.ref b48), .val (.int (fs8 1)), .val (.int (fs8 2)), .val (.int (0 : Int32)), .val (.ref b94), .unset, .unset] [(.int y130)])) (fun t_ k_ => st130.trans k_) ?_
      rw [hr130] at r1; cases r1
    · obtain ⟨r1_130, r2_130, r3_130, hr130, hok130, rfl, N130q, K130, Fn130, Fl130, Fg130⟩ := hQ130
      have N130 := Fr.app N128 N130q
      have Z135 := Nat.le_trans Z129 K130.1
      have hok1_130 : r1_130 ≤ 3 := hok130.1
      refine own_st (B := T130.setTop (mkF m 308 #[.val (.long u0), .second, .val (.int u1), .val (.ref b1), .val (.ref b20), .val (.int y5), .val (.ref b48), .val (.int (fs8 1)), .val (.int (fs8 2)), .val (.int (0 : Int32)), .val (.ref b94), .unset, .unset] [(.int y5)])) (fun t_ k_ => st130.trans k_) ?_
      rw [hr130] at r1; cases r1
      refine own_st (B := T130.setTop (mkF m 310 #[.val (.long u0), .second, .val (.int u1), .val (.ref b1), .val (.ref b20), .val (.int y5), .val (.ref b48), .val (.int (fs8 1)), .val (.int (fs8 2)), .val (.int (0 : Int32)), .val (.ref b94), .val (.int y5), .unset] [])) (fun t_ k_ => XS.istore X130.here hx rfl (hb hby at_308) rfl (l' := #[.val (.long u0), .second, .val (.int u1), .val (.ref b1), .val (.ref b20), .val (.int y5), .val (.ref b48), .val (.int (fs8 1)), .val (.int (fs8 2)), .val (.int (0 : Int32)), .val (.ref b94), .val (.int y5), .unset]) rfl k_) ?_
      refine own_st (B := T130.setTop (mkF m 312 #[.val (.long u0), .second, .val (.int u1), .val (.ref b1), .val (.ref b20), .val (.int y5), .val (.ref b48), .val (.int (fs8 1)), .val (.int (fs8 2)), .val (.int (0 : Int32)), .val (.ref b94), .val (.int y5), .unset] [(.int (fs8 1))])) (fun t_ k_ => XS.iload X130.here hx rfl (hb hby at_310) rfl k_) ?_
      refine own_st (B := T130.setTop (mkF m 314 #[.val (.long u0), .second, .val (.int u1), .val (.ref b1), .val (.ref b20), .val (.int y5), .val (.ref b48), .val (.int (fs8 1)), .val (.int (fs8 2)), .val (.int (0 : Int32)), .val (.ref b94), .val (.int y5), .unset] [(.int y5), (.int (fs8 1))])) (fun t_ k_ => XS.iload X130.here hx rfl (hb hby at_312) rfl k_) ?_
      have hc136 : ¬ ((fs8 1) < y5) := fun q0 => by have q' := own_lt32 q0; omega
      have hd136 := own_nlt32 hc136
      refine own_st (B := T130.setTop (mkF m 330 #[.val (.long u0), .second, .val (.int u1), .val (.ref b1), .val (.ref b20), .val (.int y5), .val (.ref b48), .val (.int (fs8 1)), .val (.int (fs8 2)), .val (.int (0 : Int32)), .val (.ref b94), .val (.int y5), .unset] [])) (fun t_ k_ => XS.icmpYes X130.here hx rfl (pc0 := 314) (pc' := 330) rfl (hb hby at_314) rfl (flt hc136).2.1 (by decide) (by decide) k_) ?_
      refine own_st (B := T130.setTop (mkF m 332 #[.val (.long u0), .second, .val (.int u1), .val (.ref b1), .val (.ref b20), .val (.int y5), .val (.ref b48), .val (.int (fs8 1)), .val (.int (fs8 2)), .val (.int (0 : Int32)), .val (.ref b94), .val (.int y5), .unset] [(.int y5)])) (fun t_ k_ => XS.iload X130.here hx rfl (hb hby at_330) rfl k_) ?_
      refine own_st (B := T130.setTop (mkF m 334 #[.val (.long u0), .second, .val (.int u1), .val (.ref b1), .val (.ref b20), .val (.int y5), .val (.ref b48), .val (.int (fs8 1)), .val (.int (fs8 2)), .val (.int (0 : Int32)), .val (.ref b94), .val (.int y5), .unset] [(.int y5), (.int y5)])) (fun t_ k_ => XS.iload X130.here hx rfl (hb hby at_332) rfl k_) ?_
      have hc137 : y5 = y5 := rfl
      have hd137 := own_eq32 hc137
      refine own_st (B := T130.setTop (mkF m 339 #[.val (.long u0), .second, .val (.int u1), .val (.ref b1), .val (.ref b20), .val (.int y5), .val (.ref b48), .val (.int (fs8 1)), .val (.int (fs8 2)), .val (.int (0 : Int32)), .val (.ref b94), .val (.int y5), .unset] [])) (fun t_ k_ => XS.icmpYes X130.here hx rfl (pc0 := 334) (pc' := 339) rfl (hb hby at_334) rfl (teq hc137).1 (by decide) (by decide) k_) ?_
      refine own_st (B := T130.setTop (mkF m 341 #[.val (.long u0), .second, .val (.int u1), .val (.ref b1), .val (.ref b20), .val (.int y5), .val (.ref b48), .val (.int (fs8 1)), .val (.int (fs8 2)), .val (.int (0 : Int32)), .val (.ref b94), .val (.int y5), .unset] [(.ref b94)])) (fun t_ k_ => XS.aload X130.here hx rfl (hb hby at_339) rfl rfl k_) ?_
      refine own_st (B := T130.setTop (mkF m 343 #[.val (.long u0), .second, .val (.int u1), .val (.ref b1), .val (.ref b20), .val (.int y5), .val (.ref b48), .val (.int (fs8 1)), .val (.int (fs8 2)), .val (.int (0 : Int32)), .val (.ref b94), .val (.int y5), .unset] [(.ref b20), (.ref b94)])) (fun t_ k_ => XS.aload X130.here hx rfl (hb hby at_341) rfl rfl k_) ?_
      refine own_st (B := T130.setTop (mkF m 345 #[.val (.long u0), .second, .val (.int u1), .val (.ref b1), .val (.ref b20), .val (.int y5), .val (.ref b48), .val (.int (fs8 1)), .val (.int (fs8 2)), .val (.int (0 : Int32)), .val (.ref b94), .val (.int y5), .unset] [(.int y5), (.ref b20), (.ref b94)])) (fun t_ k_ => XS.iload X130.here hx rfl (hb hby at_343) rfl k_) ?_
      refine own_st (B := T130.setTop (mkF m 347 #[.val (.long u0), .second, .val (.int u1), .val (.ref b1), .val (.ref b20), .val (.int y5), .val (.ref b48), .val (.int (fs8 1)), .val (.int (fs8 2)), .val (.int (0 : Int32)), .val (.ref b94), .val (.int y5), .unset] [(.int (8 : Int32)), (.int y5), (.ref b20), (.ref b94)])) (fun t_ k_ => XS.bipush X130.here hx rfl (hb hby at_345) k_) ?_
      have u139 := u131.keep K130
      have u140 := u133.keep K130 (ninS ne111 nin0)
      obtain ⟨cq138, kr138, q138a, q138b, q138c⟩ := isOf hZ rfl u139
      obtain ⟨_, _, ⟨T138, Lq138, kq138, nq138⟩, -, X138, ⟨Lc138, hQ138, lq138, yq138, zq138⟩, st138⟩ := X130.virtualBack hx (y := (⟨"com/example/mapwright/mapwright/Utf8Check", "check", "([BII)I"⟩ : MethodName)) (z := (⟨"com/example/mapwright/mapwright/Utf8Check", "check", "([BII)I"⟩ : MethodName)) hown (mvT hZ (hw _ (List.mem_of_getElem? (i := 24) rfl))) (mvT hZ (hw _ (List.mem_of_getElem? (i := 25) rfl))) (notFace_of_selects (args := #[]) (mvT hZ (hw _ (List.mem_of_getElem? (i := 27) rfl)))) (mvT hZ (hw _ (List.mem_of_getElem? (i := 27) rfl))) (mvT hZ (hw _ (List.mem_of_getElem? (i := 26) rfl))) (by decide) (backOf (W := 0) (rm5 l Z a0 hw [] b94 b20 y5 (8 : Int32) kk 8 8 fb r1_130 r2_130 r3_130 T130.heap n0 Z135 u139 Fn130 Fl130 Fg130 u140 g126 (Ne.symm ne111) hkk (by decide) hkk8 (by omega) (by decide) hok130) hZ (hw _ (List.mem_of_getElem? (i := 28) rfl)) (hw _ (List.mem_of_getElem? (i := 13) rfl)) (by decide) (by decide)) q138a q138c (g := (mkF m 347 #[.val (.long u0), .second, .val (.int u1), .val (.ref b1), .val (.ref b20), .val (.int y5), .val (.ref b48), .val (.int (fs8 1)), .val (.int (fs8 2)), .val (.int (0 : Int32)), .val (.ref b94), .val (.int y5), .unset] [(.int (8 : Int32)), (.int y5), (.ref b20), (.ref b94)])) rfl (by rw [hml]; rfl) (Steps.refl _) (argsL := [(.ref b20), (.int y5), (.int (8 : Int32))]) (rest := []) (lenOf own_pd4 rfl) rfl (by show 2 * 0 + _ ≤ _; exact Nat.le_of_eq rfl) (hb hby at_347) (fun _ _ => ⟨rfl, rfl, (by decide : 4 + 0 ≤ _), (by decide : 24 + 0 ≤ _)⟩)
      dsimp only [Pt.U, Pt.locs, Pt.cells, Pt.slots] at X138 lq138 yq138 zq138 st138 hQ138
      rw [lq138, yq138, zq138] at X138
      have X138 : Stand p l e _ s m _ below meth c T138 _ 4 24 := X138
      rcases hQ138 with hQ138 | hQ138
      · obtain ⟨sq138, y138, hr138, rfl, hy138, N138q, K138⟩ := hQ138
        have N138 := Fr.app N130 N138q
        have Z141 := Nat.le_trans Z135 K138.1
        refine own_st (B := T138.setTop (mkF m 350 #[.val (.long u0), .second, .val (.int u1), .val (.ref b1), .val (.ref b20), .val (.int y5), .val (.ref b48), .val (.int (fs8 1)), .val (.int (fs8 2)), .val (.int (0 : Int32)), .val (.ref b94), .val (.int y5), .unset] [(.int y138)])) (fun t_ k_ => st138.trans k_) ?_
        rw [hr138] at r2
        cases r2
      · obtain ⟨r1_138, r2_138, r3_138, hr138, hok138, rfl, N138q, K138, Fn138, Fl138, Fg138⟩ := hQ138
        have N138 := Fr.app N130 N138q
        have Z142 := Nat.le_trans Z135 K138.1
        have hok1_138 : r1_138 ≤ 3 := hok138.1
        refine own_st (B := T138.setTop (mkF m 350 #[.val (.long u0), .second, .val (.int u1), .val (.ref b1), .val (.ref b20), .val (.int y5), .val (.ref b48), .val (.int (fs8 1)), .val (.int (fs8 2)), .val (.int (0 : Int32)), .val (.ref b94), .val (.int y5), .unset] [(.int (8 : Int32))])) (fun t_ k_ => st138.trans k_) ?_
        rw [hr138] at r2
        have hz : r1_138 = 0 := congrArg Prod.fst (Sum.inr.inj r2)
        refine own_st (B := T138.setTop (mkF m 352 #[.val (.long u0), .second, .val (.int u1), .val (.ref b1), .val (.ref b20), .val (.int y5), .val (.ref b48), .val (.int (fs8 1)), .val (.int (fs8 2)), .val (.int (0 : Int32)), .val (.ref b94), .val (.int y5), .val (.int (8 : Int32))] [])) (fun t_ k_ => XS.istore X138.here hx rfl (hb hby at_350) rfl (l' := #[.val (.long u0), .second, .val (.int u1), .val (.ref b1), .val (.ref b20), .val (.int y5), .val (.ref b48), .val (.int (fs8 1)), .val (.int (fs8 2)), .val (.int (0 : Int32)), .val (.ref b94), .val (.int y5), .val (.int (8 : Int32))]) rfl k_) ?_
        refine own_st (B := T138.setTop (mkF m 354 #[.val (.long u0), .second, .val (.int u1), .val (.ref b1), .val (.ref b20), .val (.int y5), .val (.ref b48), .val (.int (fs8 1)), .val (.int (fs8 2)), .val (.int (0 : Int32)), .val (.ref b94), .val (.int y5), .val (.int (8 : Int32))] [(.int (fs8 1))])) (fun t_ k_ => XS.iload X138.here hx rfl (hb hby at_352) rfl k_) ?_
        refine own_st (B := T138.setTop (mkF m 356 #[.val (.long u0), .second, .val (.int u1), .val (.ref b1), .val (.ref b20), .val (.int y5), .val (.ref b48), .val (.int (fs8 1)), .val (.int (fs8 2)), .val (.int (0 : Int32)), .val (.ref b94), .val (.int y5), .val (.int (8 : Int32))] [(.int (8 : Int32)), (.int (fs8 1))])) (fun t_ k_ => XS.bipush X138.here hx rfl (hb hby at_354) k_) ?_
        have hc143 : ¬ ((fs8 1) < (8 : Int32)) := fun q0 => by have q' := own_lt32 q0; rw [show (8 : Int32).toInt = 8 from rfl] at q'; omega
        have hd143 := own_nlt32 hc143
        rw [show (8 : Int32).toInt = 8 from rfl] at hd143
        refine own_st (B := T138.setTop (mkF m 377 #[.val (.long u0), .second, .val (.int u1), .val (.ref b1), .val (.ref b20), .val (.int y5), .val (.ref b48), .val (.int (fs8 1)), .val (.int (fs8 2)), .val (.int (0 : Int32)), .val (.ref b94), .val (.int y5), .val (.int (8 : Int32))] [])) (fun t_ k_ => XS.icmpYes X138.here hx rfl (pc0 := 356) (pc' := 377) rfl (hb hby at_356) rfl (flt hc143).2.1 (by decide) (by decide) k_) ?_
        refine own_st (B := T138.setTop (mkF m 379 #[.val (.long u0), .second, .val (.int u1), .val (.ref b1), .val (.ref b20), .val (.int y5), .val (.ref b48), .val (.int (fs8 1)), .val (.int (fs8 2)), .val (.int (0 : Int32)), .val (.ref b94), .val (.int y5), .val (.int (8 : Int32))] [(.int (8 : Int32))])) (fun t_ k_ => XS.iload X138.here hx rfl (hb hby at_377) rfl k_) ?_
        refine own_st (B := T138.setTop (mkF m 381 #[.val (.long u0), .second, .val (.int u1), .val (.ref b1), .val (.ref b20), .val (.int y5), .val (.ref b48), .val (.int (fs8 1)), .val (.int (fs8 2)), .val (.int (0 : Int32)), .val (.ref b94), .val (.int y5), .val (.int (8 : Int32))] [(.int (8 : Int32)), (.int (8 : Int32))])) (fun t_ k_ => XS.bipush X138.here hx rfl (hb hby at_379) k_) ?_
        refine own_st (B := T138.setTop (mkF m 384 #[.val (.long u0), .second, .val (.int u1), .val (.ref b1), .val (.ref b20), .val (.int y5), .val (.ref b48), .val (.int (fs8 1)), .val (.int (fs8 2)), .val (.int (0 : Int32)), .val (.ref b94), .val (.int y5), .val (.int (8 : Int32))] [])) (fun t_ k_ => XS.icmpNo X138.here hx rfl (hb hby at_381) rfl (teq (by decide : (8 : Int32) = (8 : Int32))).2 k_) ?_
        refine own_st (B := T138.setTop (mkF m 386 #[.val (.long u0), .second, .val (.int u1), .val (.ref b1), .val (.ref b20), .val (.int y5), .val (.ref b48), .val (.int (fs8 1)), .val (.int (fs8 2)), .val (.int (0 : Int32)), .val (.ref b94), .val (.int y5), .val (.int (8 : Int32))] [(.ref b94)])) (fun t_ k_ => XS.aload X138.here hx rfl (hb hby at_384) rfl rfl k_) ?_
        have u145 := u139.keep K138
        obtain ⟨cq144, kr144, q144a, q144b, q144c⟩ := isOf hZ rfl u145
        obtain ⟨_, _, ⟨T144, Lq144, kq144, nq144⟩, -, X144, ⟨Lc144, hQ144, lq144, yq144, zq144⟩, st144⟩ := X138.virtualBack hx (y := (⟨"com/example/mapwright/mapwright/Utf8Check", "complete", "()Z"⟩ : MethodName)) (z := (⟨"com/example/mapwright/mapwright/Utf8Check", "complete", "()Z"⟩ : MethodName)) hown (mvT hZ (hw _ (List.mem_of_getElem? (i := 31) rfl))) (mvT hZ (hw _ (List.mem_of_getElem? (i := 32) rfl))) (notFace_of_selects (args := #[]) (mvT hZ (hw _ (List.mem_of_getElem? (i := 34) rfl)))) (mvT hZ (hw _ (List.mem_of_getElem? (i := 34) rfl))) (mvT hZ (hw _ (List.mem_of_getElem? (i := 33) rfl))) (by decide) (backOf (W := 0) (rm6 l Z a0 hw [] b94 r1_138 T138.heap n0 Z142 Fn138 (by omega)) hZ (hw _ (List.mem_of_getElem? (i := 35) rfl)) (hw _ (List.mem_of_getElem? (i := 13) rfl)) (by decide) (by decide)) q144a q144c (g := (mkF m 386 #[.val (.long u0), .second, .val (.int u1), .val (.ref b1), .val (.ref b20), .val (.int y5), .val (.ref b48), .val (.int (fs8 1)), .val (.int (fs8 2)), .val (.int (0 : Int32)), .val (.ref b94), .val (.int y5), .val (.int (8 : Int32))] [(.ref b94)])) rfl (by rw [hml]; rfl) (Steps.refl _) (argsL := []) (rest := []) (lenOf own_pd5 rfl) rfl (by show 2 * 0 + _ ≤ _; exact Nat.le_of_eq rfl) (hb hby at_386) (fun _ _ => ⟨rfl, rfl, (by decide : 4 + 0 ≤ _), (by decide : 24 + 0 ≤ _)⟩)
        dsimp only [Pt.U, Pt.locs, Pt.cells, Pt.slots] at X144 lq144 yq144 zq144 st144 hQ144
        rw [lq144, yq144, zq144] at X144
        have X144 : Stand p l e _ s m _ below meth c T144 _ 4 24 := X144
        obtain ⟨rfl, N144q, eh144⟩ := hQ144
        have N144 := Fr.app N138 N144q
        refine own_st (B := T144.setTop (mkF m 389 #[.val (.long u0), .second, .val (.int u1), .val (.ref b1), .val (.ref b20), .val (.int y5), .val (.ref b48), .val (.int (fs8 1)), .val (.int (fs8 2)), .val (.int (0 : Int32)), .val (.ref b94), .val (.int y5), .val (.int (8 : Int32))] [(.int (own_b (decide (r1_138 = 0))))])) (fun t_ k_ => st144.trans k_) ?_
        refine own_st (B := T144.setTop (mkF m 391 #[.val (.long u0), .second, .val (.int u1), .val (.ref b1), .val (.ref b20), .val (.int y5), .val (.ref b48), .val (.int (fs8 1)), .val (.int (fs8 2)), .val (.int (0 : Int32)), .val (.ref b94), .val (.int y5), .val (.int (8 : Int32))] [(.int (0 : Int32)), (.int (own_b (decide (r1_138 = 0))))])) (fun t_ k_ => XS.iload X144.here hx rfl (hb hby at_389) rfl k_) ?_
        refine own_st (B := T144.setTop (mkF m 394 #[.val (.long u0), .second, .val (.int u1), .val (.ref b1), .val (.ref b20), .val (.int y5), .val (.ref b48), .val (.int (fs8 1)), .val (.int (fs8 2)), .val (.int (0 : Int32)), .val (.ref b94), .val (.int y5), .val (.int (8 : Int32))] [(.int (own_b (decide (r1_138 = 0))))])) (fun t_ k_ => XS.ifNo X144.here hx rfl (hb hby at_391) rfl ((if0 _ _).trans (teq (by decide : (0 : Int32) = (0 : Int32))).2) k_) ?_
        refine own_st (B := T144.setTop (mkF m 395 #[.val (.long u0), .second, .val (.int u1), .val (.ref b1), .val (.ref b20), .val (.int y5), .val (.ref b48), .val (.int (fs8 1)), .val (.int (fs8 2)), .val (.int (0 : Int32)), .val (.ref b94), .val (.int y5), .val (.int (8 : Int32))] [(.int (1 : Int32)), (.int (own_b (decide (r1_138 = 0))))])) (fun t_ k_ => XS.iconst X144.here hx rfl (hb hby at_394) k_) ?_
        refine own_st (B := T144.setTop (mkF m 399 #[.val (.long u0), .second, .val (.int u1), .val (.ref b1), .val (.ref b20), .val (.int y5), .val (.ref b48), .val (.int (fs8 1)), .val (.int (fs8 2)), .val (.int (0 : Int32)), .val (.ref b94), .val (.int y5), .val (.int (8 : Int32))] [(.int (1 : Int32)), (.int (own_b (decide (r1_138 = 0))))])) (fun t_ k_ => XS.goto X144.here hx rfl (pc0 := 395) (pc' := 399) rfl (hb hby at_395) (by decide) (by decide) k_) ?_
        have hc146 : (own_b (decide (r1_138 = 0))) = (1 : Int32) := own_b1 hz
        refine own_st (B := T144.setTop (mkF m 402 #[.val (.long u0), .second, .val (.int u1), .val (.ref b1), .val (.ref b20), .val (.int y5), .val (.ref b48), .val (.int (fs8 1)), .val (.int (fs8 2)), .val (.int (0 : Int32)), .val (.ref b94), .val (.int y5), .val (.int (8 : Int32))] [])) (fun t_ k_ => XS.icmpNo X144.here hx rfl (hb hby at_399) rfl (teq hc146).2 k_) ?_
        refine own_st (B := T144.setTop (mkF m 403 #[.val (.long u0), .second, .val (.int u1), .val (.ref b1), .val (.ref b20), .val (.int y5), .val (.ref b48), .val (.int (fs8 1)), .val (.int (fs8 2)), .val (.int (0 : Int32)), .val (.ref b94), .val (.int y5), .val (.int (8 : Int32))] [(.int (1 : Int32))])) (fun t_ k_ => XS.iconst X144.here hx rfl (hb hby at_402) k_) ?_
        refine own_st (B := T144.setTop (mkF m 407 #[.val (.long u0), .second, .val (.int u1), .val (.ref b1), .val (.ref b20), .val (.int y5), .val (.ref b48), .val (.int (fs8 1)), .val (.int (fs8 2)), .val (.int (0 : Int32)), .val (.ref b94), .val (.int y5), .val (.int (8 : Int32))] [(.int (1 : Int32))])) (fun t_ k_ => XS.goto X144.here hx rfl (pc0 := 403) (pc' := 407) rfl (hb hby at_403) (by decide) (by decide) k_) ?_
        refine own_retN X144 hx (t := .boolean) Bd.returns (by simp) hlk (hb hby at_407) (z' := (1 : Int32)) (by first | rfl | exact own_nb _) (by decide) (by decide) ?_
        show Q0 Z u0 u1 h0 n0 _ T144.heap _
        rw [eh144]
        exact ⟨rfl, N144⟩
  · obtain ⟨q1, q4, -, -, bi, bS, q2, q3, q5, q6, q7, q8, q9⟩ := hi8
    have hB : (fs8 1).toInt = bi := e2.trans q2
    have hS : (fs8 2).toInt = bS := e3.trans q3
    have hL := own_L2 q7 q8 q9 q6 hkk8
    have hI : (fs8 3).toInt = 0 := e4.trans q4
    refine own_st (B := T90.setTop (mkF m 265 #[.val (.long u0), .second, .val (.int u1), .val (.ref b1), .val (.ref b20), .val (.int y5), .val (.ref b48), .unset, .unset, .unset, .unset, .unset, .unset] [(.ref b48)])) (fun t_ k_ => XS.aload X90.here hx rfl (hb hby at_263) rfl rfl k_) ?_
    refine own_st (B := T90.setTop (mkF m 266 #[.val (.long u0), .second, .val (.int u1), .val (.ref b1), .val (.ref b20), .val (.int y5), .val (.ref b48), .unset, .unset, .unset, .unset, .unset, .unset] [(.int (1 : Int32)), (.ref b48)])) (fun t_ k_ => XS.iconst X90.here hx rfl (hb hby at_265) k_) ?_
    refine own_st (B := T90.setTop (mkF m 267 #[.val (.long u0), .second, .val (.int u1), .val (.ref b1), .val (.ref b20), .val (.int y5), .val (.ref b48), .unset, .unset, .unset, .unset, .unset, .unset] [(.int (fs8 1))])) (fun t_ k_ => own_ldI X90 hx hZ rfl Af90 (i := 1) (by decide) (by decide) (hb hby at_266) t_ k_) ?_
    refine own_st (B := T90.setTop (mkF m 269 #[.val (.long u0), .second, .val (.int u1), .val (.ref b1), .val (.ref b20), .val (.int y5), .val (.ref b48), .val (.int (fs8 1)), .unset, .unset, .unset, .unset, .unset] [])) (fun t_ k_ => XS.istore X90.here hx rfl (hb hby at_267) rfl (l' := #[.val (.long u0), .second, .val (.int u1), .val (.ref b1), .val (.ref b20), .val (.int y5), .val (.ref b48), .val (.int (fs8 1)), .unset, .unset, .unset, .unset, .unset]) rfl k_) ?_
    refine own_st (B := T90.setTop (mkF m 271 #[.val (.long u0), .second, .val (.int u1), .val (.ref b1), .val (.ref b20), .val (.int y5), .val (.ref b48), .val (.int (fs8 1)), .unset, .unset, .unset, .unset, .unset] [(.ref b48)])) (fun t_ k_ => XS.aload X90.here hx rfl (hb hby at_269) rfl rfl k_) ?_
    refine own_st (B := T90.setTop (mkF m 272 #[.val (.long u0), .second, .val (.int u1), .val (.ref b1), .val (.ref b20), .val (.int y5), .val (.ref b48), .val (.int (fs8 1)), .unset, .unset, .unset, .unset, .unset] [(.int (2 : Int32)), (.ref b48)])) (fun t_ k_ => XS.iconst X90.here hx rfl (hb hby at_271) k_) ?_
    refine own_st (B := T90.setTop (mkF m 273 #[.val (.long u0), .second, .val (.int u1), .val (.ref b1), .val (.ref b20), .val (.int y5), .val (.ref b48), .val (.int (fs8 1)), .unset, .unset, .unset, .unset, .unset] [(.int (fs8 2))])) (fun t_ k_ => own_ldI X90 hx hZ rfl Af90 (i := 2) (by decide) (by decide) (hb hby at_272) t_ k_) ?_
    refine own_st (B := T90.setTop (mkF m 275 #[.val (.long u0), .second, .val (.int u1), .val (.ref b1), .val (.ref b20), .val (.int y5), .val (.ref b48), .val (.int (fs8 1)), .val (.int (fs8 2)), .unset, .unset, .unset, .unset] [])) (fun t_ k_ => XS.istore X90.here hx rfl (hb hby at_273) rfl (l' := #[.val (.long u0), .second, .val (.int u1), .val (.ref b1), .val (.ref b20), .val (.int y5), .val (.ref b48), .val (.int (fs8 1)), .val (.int (fs8 2)), .unset, .unset, .unset, .unset]) rfl k_) ?_
    refine own_st (B := T90.setTop (mkF m 277 #[.val (.long u0), .second, .val (.int u1), .val (.ref b1), .val (.ref b20), .val (.int y5), .val (.ref b48), .val (.int (fs8 1)), .val (.int (fs8 2)), .unset, .unset, .unset, .unset] [(.ref b48)])) (fun t_ k_ => XS.aload X90.here hx rfl (hb hby at_275) rfl rfl k_) ?_
    refine own_st (B := T90.setTop (mkF m 278 #[.val (.long u0), .second, .val (.int u1), .val (.ref b1), .val (.ref b20), .val (.int y5), .val (.ref b48), .val (.int (fs8 1)), .val (.int (fs8 2)), .unset, .unset, .unset, .unset] [(.int (3 : Int32)), (.ref b48)])) (fun t_ k_ => XS.iconst X90.here hx rfl (hb hby at_277) k_) ?_
    refine own_st (B := T90.setTop (mkF m 279 #[.val (.long u0), .second, .val (.int u1), .val (.ref b1), .val (.ref b20), .val (.int y5), .val (.ref b48), .val (.int (fs8 1)), .val (.int (fs8 2)), .unset, .unset, .unset, .unset] [(.int (fs8 3))])) (fun t_ k_ => own_ldI X90 hx hZ rfl Af90 (i := 3) (by decide) (by decide) (hb hby at_278) t_ k_) ?_
    have hc147 : (fs8 3) = (0 : Int32) := Int32.toInt_inj.mp hI
    have hd147 := own_eq32 hc147
    rw [show (0 : Int32).toInt = 0 from rfl] at hd147
    refine own_st (B := T90.setTop (mkF m 286 #[.val (.long u0), .second, .val (.int u1), .val (.ref b1), .val (.ref b20), .val (.int y5), .val (.ref b48), .val (.int (fs8 1)), .val (.int (fs8 2)), .unset, .unset, .unset, .unset] [])) (fun t_ k_ => XS.ifYes X90.here hx rfl (pc0 := 279) (pc' := 286) rfl (hb hby at_279) rfl ((if0 _ _).trans (teq hc147).1) (by decide) (by decide) k_) ?_
    refine own_st (B := T90.setTop (mkF m 287 #[.val (.long u0), .second, .val (.int u1), .val (.ref b1), .val (.ref b20), .val (.int y5), .val (.ref b48), .val (.int (fs8 1)), .val (.int (fs8 2)), .unset, .unset, .unset, .unset] [(.int (0 : Int32))])) (fun t_ k_ => XS.iconst X90.here hx rfl (hb hby at_286) k_) ?_
    refine own_st (B := T90.setTop (mkF m 289 #[.val (.long u0), .second, .val (.int u1), .val (.ref b1), .val (.ref b20), .val (.int y5), .val (.ref b48), .val (.int (fs8 1)), .val (.int (fs8 2)), .val (.int (0 : Int32)), .unset, .unset, .unset] [])) (fun t_ k_ => XS.istore X90.here hx rfl (hb hby at_287) rfl (l' := #[.val (.long u0), .second, .val (.int u1), .val (.ref b1), .val (.ref b20), .val (.int y5), .val (.ref b48), .val (.int (fs8 1)), .val (.int (fs8 2)), .val (.int (0 : Int32)), .unset, .unset, .unset]) rfl k_) ?_
    obtain ⟨T148, h148, X148, e148, E148, A148, D148, -, st148⟩ := newO X90 hx hZ hown (hw _ (List.mem_of_getElem? (i := 11) rfl)) (hw _ (List.mem_of_getElem? (i := 12) rfl)) (hw _ (List.mem_of_getElem? (i := 13) rfl)) rfl (g := (mkF m 289 #[.val (.long u0), .second, .val (.int u1), .val (.ref b1), .val (.ref b20), .val (.int y5), .val (.ref b48), .val (.int (fs8 1)), .val (.int (fs8 2)), .val (.int (0 : Int32)), .unset, .unset, .unset] [])) rfl (hb hby at_289) (by decide) (by decide)
    obtain ⟨b148, g148⟩ : ∃ z, z = T90.heap.size := ⟨_, rfl⟩
    rw [← g148] at A148 D148 st148
    have u149 := u91.keep K90 (ninS ne50 nin0)
    have ne150 : b1 ≠ b148 := Nat.ne_of_lt (Nat.lt_of_lt_of_le u149.lt (Nat.le_of_eq g148.symm))
    have u151 := afb.ext E48
    have u152 := u151.other W54 ne51
    have u153 := u152.other W56 ne51
    have u154 := u153.other W58 ne51
    have u155 := u154.other W60 ne51
    have u156 := u155.other W62 ne51
    have u157 := u156.keep K64 (ninS ne51 nin0)
    have u158 := u157.keep K72 (ninS ne51 nin0)
    have u159 := u158.keep K75 (ninS ne51 nin0)
    have u160 := u159.keep K78 (ninS ne51 nin0)
    have u161 := u160.keep K81 (ninS ne51 nin0)
    have u162 := u161.keep K84 (ninS ne51 nin0)
    have u163 := u162.keep K87 (ninS ne51 nin0)
    have u164 := u163.keep K90 (ninS ne51 nin0)
    have ne165 : b20 ≠ b148 := Nat.ne_of_lt (Nat.lt_of_lt_of_le u164.lt (Nat.le_of_eq g148.symm))
    have u166 := G48.wr W54
    have u167 := u166.wr W56
    have u168 := u167.wr W58
    have u169 := u168.wr W60
    have u170 := u169.wr W62
    have u171 := u170.keep K64
    have u172 := u171.keep K72
    have u173 := u172.keep K75
    have u174 := u173.keep K78
    have u175 := u174.keep K81
    have u176 := u175.keep K84
    have u177 := u176.keep K87
    have u178 := u177.keep K90
    have ne179 : b48 ≠ b148 := Nat.ne_of_lt (Nat.lt_of_lt_of_le u178.lt (Nat.le_of_eq g148.symm))
    have g180 : n0 ≤ b148 := Nat.le_trans Z92 (Nat.le_of_eq g148.symm)
    have Z181 := Nat.le_trans Z92 E148.1
    have X148 : Stand p l e _ s m _ below meth c T148 _ 4 24 := X148
    have F148_least : Fld Z h148 b148 "com/example/mapwright/mapwright/Utf8Check" "least" "I" (.int (0 : Int32)) := D148 (Or.inl (hw _ (List.mem_of_getElem? (i := 21) rfl))) (ty := .int) (by decide)
    have F148_greatest : Fld Z h148 b148 "com/example/mapwright/mapwright/Utf8Check" "greatest" "I" (.int (0 : Int32)) := D148 (Or.inl (hw _ (List.mem_of_getElem? (i := 23) rfl))) (ty := .int) (by decide)
    have F148_needed : Fld Z h148 b148 "com/example/mapwright/mapwright/Utf8Check" "needed" "I" (.int (0 : Int32)) := D148 (Or.inl (hw _ (List.mem_of_getElem? (i := 30) rfl))) (ty := .int) (by decide)
    refine own_st (B := T148.setTop (mkF m 292 #[.val (.long u0), .second, .val (.int u1), .val (.ref b1), .val (.ref b20), .val (.int y5), .val (.ref b48), .val (.int (fs8 1)), .val (.int (fs8 2)), .val (.int (0 : Int32)), .unset, .unset, .unset] [(.ref b148)])) st148 ?_
    refine own_st (B := T148.setTop (mkF m 293 #[.val (.long u0), .second, .val (.int u1), .val (.ref b1), .val (.ref b20), .val (.int y5), .val (.ref b48), .val (.int (fs8 1)), .val (.int (fs8 2)), .val (.int (0 : Int32)), .unset, .unset, .unset] [(.ref b148), (.ref b148)])) (fun t_ k_ => XS.dup X148.here hx rfl (hb hby at_292) rfl rfl k_) ?_
    obtain ⟨_, _, ⟨T182, Lq182, kq182, nq182⟩, -, X182, ⟨Lc182, hQ182, lq182, yq182, zq182⟩, st182⟩ := X148.specialBack hx (y := (⟨"com/example/mapwright/mapwright/Utf8Check", "<init>", "()V"⟩ : MethodName)) rfl hown (mvT hZ (hw _ (List.mem_of_getElem? (i := 14) rfl))) (mvT hZ (hw _ (List.mem_of_getElem? (i := 15) rfl))) (mvT hZ (hw _ (List.mem_of_getElem? (i := 16) rfl))) (by decide) (backOf (W := 1) (rm3 l Z a0 hw [] b148 h148 n0 Z181 A148 F148_needed F148_least F148_greatest g180) hZ (hw _ (List.mem_of_getElem? (i := 16) rfl)) (hw _ (List.mem_of_getElem? (i := 13) rfl)) (by decide) (by decide)) (g := (mkF m 293 #[.val (.long u0), .second, .val (.int u1), .val (.ref b1), .val (.ref b20), .val (.int y5), .val (.ref b48), .val (.int (fs8 1)), .val (.int (fs8 2)), .val (.int (0 : Int32)), .unset, .unset, .unset] [(.ref b148), (.ref b148)])) rfl (by rw [hml]; rfl) (Steps.refl _) (a := b148) (argsL := []) (rest := [(.ref b148)]) (lenOf own_pd3 rfl) rfl (by show 2 * 0 + _ ≤ _; exact Nat.le_of_eq rfl) (hb hby at_293) (fun _ _ => ⟨rfl, e148, (by decide : 4 + 0 ≤ _), (by decide : 24 + 0 ≤ _)⟩)
    dsimp only [Pt.U, Pt.locs, Pt.cells, Pt.slots] at X182 lq182 yq182 zq182 st182 hQ182
    rw [lq182, yq182, zq182] at X182
    have X182 : Stand p l e _ s m _ below meth c T182 _ 4 24 := X182
    obtain ⟨rfl, N182q, K182, Fc182_0, Fc182_1, Fc182_2⟩ := hQ182
    have N182 := Fr.app N90 N182q
    have Z183 := Nat.le_trans Z181 K182.1
    refine own_st (B := T182.setTop (mkF m 296 #[.val (.long u0), .second, .val (.int u1), .val (.ref b1), .val (.ref b20), .val (.int y5), .val (.ref b48), .val (.int (fs8 1)), .val (.int (fs8 2)), .val (.int (0 : Int32)), .unset, .unset, .unset] [(.ref b148)])) (fun t_ k_ => st182.trans k_) ?_
    refine own_st (B := T182.setTop (mkF m 298 #[.val (.long u0), .second, .val (.int u1), .val (.ref b1), .val (.ref b20), .val (.int y5), .val (.ref b48), .val (.int (fs8 1)), .val (.int (fs8 2)), .val (.int (0 : Int32)), .val (.ref b148), .unset, .unset] [])) (fun t_ k_ => XS.astore X182.here hx rfl (hb hby at_296) rfl rfl (l' := #[.val (.long u0), .second, .val (.int u1), .val (.ref b1), .val (.ref b20), .val (.int y5), .val (.ref b48), .val (.int (fs8 1)), .val (.int (fs8 2)), .val (.int (0 : Int32)), .val (.ref b148), .unset, .unset]) rfl k_) ?_
    refine own_st (B := T182.setTop (mkF m 300 #[.val (.long u0), .second, .val (.int u1), .val (.ref b1), .val (.ref b20), .val (.int y5), .val (.ref b48), .val (.int (fs8 1)), .val (.int (fs8 2)), .val (.int (0 : Int32)), .val (.ref b148), .unset, .unset] [(.ref b148)])) (fun t_ k_ => XS.aload X182.here hx rfl (hb hby at_298) rfl rfl k_) ?_
    refine own_st (B := T182.setTop (mkF m 302 #[.val (.long u0), .second, .val (.int u1), .val (.ref b1), .val (.ref b20), .val (.int y5), .val (.ref b48), .val (.int (fs8 1)), .val (.int (fs8 2)), .val (.int (0 : Int32)), .val (.ref b148), .unset, .unset] [(.ref b20), (.ref b148)])) (fun t_ k_ => XS.aload X182.here hx rfl (hb hby at_300) rfl rfl k_) ?_
    refine own_st (B := T182.setTop (mkF m 303 #[.val (.long u0), .second, .val (.int u1), .val (.ref b1), .val (.ref b20), .val (.int y5), .val (.ref b48), .val (.int (fs8 1)), .val (.int (fs8 2)), .val (.int (0 : Int32)), .val (.ref b148), .unset, .unset] [(.int (0 : Int32)), (.ref b20), (.ref b148)])) (fun t_ k_ => XS.iconst X182.here hx rfl (hb hby at_302) k_) ?_
    refine own_st (B := T182.setTop (mkF m 305 #[.val (.long u0), .second, .val (.int u1), .val (.ref b1), .val (.ref b20), .val (.int y5), .val (.ref b48), .val (.int (fs8 1)), .val (.int (fs8 2)), .val (.int (0 : Int32)), .val (.ref b148), .unset, .unset] [(.int y5), (.int (0 : Int32)), (.ref b20), (.ref b148)])) (fun t_ k_ => XS.iload X182.here hx rfl (hb hby at_303) rfl k_) ?_
    have u185 := A148.keep K182
    have u186 := u164.ext E148
    have u187 := u186.keep K182 (ninS ne165 nin0)
    obtain ⟨cq184, kr184, q184a, q184b, q184c⟩ := isOf hZ rfl u185
    obtain ⟨_, _, ⟨T184, Lq184, kq184, nq184⟩, -, X184, ⟨Lc184, hQ184, lq184, yq184, zq184⟩, st184⟩ := X182.virtualBack hx (y := (⟨"com/example/mapwright/mapwright/Utf8Check", "check", "([BII)I"⟩ : MethodName)) (z := (⟨"com/example/mapwright/mapwright/Utf8Check", "check", "([BII)I"⟩ : MethodName)) hown (mvT hZ (hw _ (List.mem_of_getElem? (i := 24) rfl))) (mvT hZ (hw _ (List.mem_of_getElem? (i := 25) rfl))) (notFace_of_selects (args := #[]) (mvT hZ (hw _ (List.mem_of_getElem? (i := 27) rfl)))) (mvT hZ (hw _ (List.mem_of_getElem? (i := 27) rfl))) (mvT hZ (hw _ (List.mem_of_getElem? (i := 26) rfl))) (by decide) (backOf (W := 0) (rm5 l Z a0 hw [] b148 b20 (0 : Int32) y5 0 kk 8 fb 0 128 191 T182.heap n0 Z183 u185 Fc182_0 Fc182_1 Fc182_2 u187 g180 (Ne.symm ne165) (by decide) hkk (Nat.zero_le _) (by omega) (by decide) ⟨by decide, by decide, by decide, by decide, fun _ => ⟨rfl, rfl⟩⟩) hZ (hw _ (List.mem_of_getElem? (i := 28) rfl)) (hw _ (List.mem_of_getElem? (i := 13) rfl)) (by decide) (by decide)) q184a q184c (g := (mkF m 305 #[.val (.long u0), .second, .val (.int u1), .val (.ref b1), .val (.ref b20), .val (.int y5), .val (.ref b48), .val (.int (fs8 1)), .val (.int (fs8 2)), .val (.int (0 : Int32)), .val (.ref b148), .unset, .unset] [(.int y5), (.int (0 : Int32)), (.ref b20), (.ref b148)])) rfl (by rw [hml]; rfl) (Steps.refl _) (argsL := [(.ref b20), (.int (0 : Int32)), (.int y5)]) (rest := []) (lenOf own_pd4 rfl) rfl (by show 2 * 0 + _ ≤ _; exact Nat.le_of_eq rfl) (hb hby at_305) (fun _ _ => ⟨rfl, rfl, (by decide : 4 + 0 ≤ _), (by decide : 24 + 0 ≤ _)⟩)
    dsimp only [Pt.U, Pt.locs, Pt.cells, Pt.slots] at X184 lq184 yq184 zq184 st184 hQ184
    rw [lq184, yq184, zq184] at X184
    have X184 : Stand p l e _ s m _ below meth c T184 _ 4 24 := X184
    rcases hQ184 with hQ184 | hQ184
    · obtain ⟨sq184, y184, hr184, rfl, hy184, N184q, K184⟩ := hQ184
      have N184 := Fr.app N182 N184q
      have Z188 := Nat.le_trans Z183 K184.1
      refine own_st (B := T184.setTop (mkF m 308 #[.val (.long u0), .second, .val (.int u1), .val (.ref b1), .val (.ref b20), .val (.int y5), .val (.ref b48), .val (.int (fs8 1)), .val (.int (fs8 2)), .val (.int (0 : Int32)), .val (.ref b148), .unset, .unset] [(.int y184)])) (fun t_ k_ => st184.trans k_) ?_
      refine own_st (B := T184.setTop (mkF m 310 #[.val (.long u0), .second, .val (.int u1), .val (.ref b1), .val (.ref b20), .val (.int y5), .val (.ref b48), .val (.int (fs8 1)), .val (.int (fs8 2)), .val (.int (0 : Int32)), .val (.ref b148), .val (.int y184), .unset] [])) (fun t_ k_ => XS.istore X184.here hx rfl (hb hby at_308) rfl (l' := #[.val (.long u0), .second, .val (.int u1), .val (.ref b1), .val (.ref b20), .val (.int y5), .val (.ref b48), .val (.int (fs8 1)), .val (.int (fs8 2)), .val (.int (0 : Int32)), .val (.ref b148), .val (.int y184), .unset]) rfl k_) ?_
      refine own_st (B := T184.setTop (mkF m 312 #[.val (.long u0), .second, .val (.int u1), .val (.ref b1), .val (.ref b20), .val (.int y5), .val (.ref b48), .val (.int (fs8 1)), .val (.int (fs8 2)), .val (.int (0 : Int32)), .val (.ref b148), .val (.int y184), .unset] [(.int (fs8 1))])) (fun t_ k_ => XS.iload X184.here hx rfl (hb hby at_310) rfl k_) ?_
      refine own_st (B := T184.setTop (mkF m 314 #[.val (.long u0), .second, .val (.int u1), .val (.ref b1), .val (.ref b20), .val (.int y5), .val (.ref b48), .val (.int (fs8 1)), .val (.int (fs8 2)), .val (.int (0 : Int32)), .val (.ref b148), .val (.int y184), .unset] [(.int y5), (.int (fs8 1))])) (fun t_ k_ => XS.iload X184.here hx rfl (hb hby at_312) rfl k_) ?_
      by_cases hc189 : (fs8 1) < y5
      · have hd189 := own_lt32 hc189
        refine own_st (B := T184.setTop (mkF m 317 #[.val (.long u0), .second, .val (.int u1), .val (.ref b1), .val (.ref b20), .val (.int y5), .val (.ref b48), .val (.int (fs8 1)), .val (.int (fs8 2)), .val (.int (0 : Int32)), .val (.ref b148), .val (.int y184), .unset] [])) (fun t_ k_ => XS.icmpNo X184.here hx rfl (hb hby at_314) rfl (tlt hc189).2.1 k_) ?_
        have hL1 := hL.1 (by omega)
        rw [hr184] at hL1; cases hL1
        refine own_st (B := T184.setTop (mkF m 319 #[.val (.long u0), .second, .val (.int u1), .val (.ref b1), .val (.ref b20), .val (.int y5), .val (.ref b48), .val (.int (fs8 1)), .val (.int (fs8 2)), .val (.int (0 : Int32)), .val (.ref b148), .val (.int y184), .unset] [(.int y184)])) (fun t_ k_ => XS.iload X184.here hx rfl (hb hby at_317) rfl k_) ?_
        refine own_st (B := T184.setTop (mkF m 321 #[.val (.long u0), .second, .val (.int u1), .val (.ref b1), .val (.ref b20), .val (.int y5), .val (.ref b48), .val (.int (fs8 1)), .val (.int (fs8 2)), .val (.int (0 : Int32)), .val (.ref b148), .val (.int y184), .unset] [(.int (fs8 2)), (.int y184)])) (fun t_ k_ => XS.iload X184.here hx rfl (hb hby at_319) rfl k_) ?_
        have hc190 : y184 = (fs8 2) := Int32.toInt_inj.mp ((own_ixI hy184).trans hS.symm)
        have hd190 := own_eq32 hc190
        refine own_st (B := T184.setTop (mkF m 324 #[.val (.long u0), .second, .val (.int u1), .val (.ref b1), .val (.ref b20), .val (.int y5), .val (.ref b48), .val (.int (fs8 1)), .val (.int (fs8 2)), .val (.int (0 : Int32)), .val (.ref b148), .val (.int y184), .unset] [])) (fun t_ k_ => XS.icmpNo X184.here hx rfl (hb hby at_321) rfl (teq hc190).2 k_) ?_
        refine own_st (B := T184.setTop (mkF m 325 #[.val (.long u0), .second, .val (.int u1), .val (.ref b1), .val (.ref b20), .val (.int y5), .val (.ref b48), .val (.int (fs8 1)), .val (.int (fs8 2)), .val (.int (0 : Int32)), .val (.ref b148), .val (.int y184), .unset] [(.int (1 : Int32))])) (fun t_ k_ => XS.iconst X184.here hx rfl (hb hby at_324) k_) ?_
        refine own_st (B := T184.setTop (mkF m 329 #[.val (.long u0), .second, .val (.int u1), .val (.ref b1), .val (.ref b20), .val (.int y5), .val (.ref b48), .val (.int (fs8 1)), .val (.int (fs8 2)), .val (.int (0 : Int32)), .val (.ref b148), .val (.int y184), .unset] [(.int (1 : Int32))])) (fun t_ k_ => XS.goto X184.here hx rfl (pc0 := 325) (pc' := 329) rfl (hb hby at_325) (by decide) (by decide) k_) ?_
        refine own_retN X184 hx (t := .boolean) Bd.returns (by simp) hlk (hb hby at_329) (z' := (1 : Int32)) (by first | rfl | exact own_nb _) (by decide) (by decide) ?_
        show Q0 Z u0 u1 h0 n0 _ T184.heap _
        exact ⟨rfl, N184⟩
      · have hd189 := own_nlt32 hc189
        refine own_st (B := T184.setTop (mkF m 330 #[.val (.long u0), .second, .val (.int u1), .val (.ref b1), .val (.ref b20), .val (.int y5), .val (.ref b48), .val (.int (fs8 1)), .val (.int (fs8 2)), .val (.int (0 : Int32)), .val (.ref b148), .val (.int y184), .unset] [])) (fun t_ k_ => XS.icmpYes X184.here hx rfl (pc0 := 314) (pc' := 330) rfl (hb hby at_314) rfl (flt hc189).2.1 (by decide) (by decide) k_) ?_
        obtain ⟨s1, r1, r2⟩ := hL.2 (by omega)
        rw [hr184] at r1; cases r1
    · obtain ⟨r1_184, r2_184, r3_184, hr184, hok184, rfl, N184q, K184, Fn184, Fl184, Fg184⟩ := hQ184
      have N184 := Fr.app N182 N184q
      have Z191 := Nat.le_trans Z183 K184.1
      have hok1_184 : r1_184 ≤ 3 := hok184.1
      refine own_st (B := T184.setTop (mkF m 308 #[.val (.long u0), .second, .val (.int u1), .val (.ref b1), .val (.ref b20), .val (.int y5), .val (.ref b48), .val (.int (fs8 1)), .val (.int (fs8 2)), .val (.int (0 : Int32)), .val (.ref b148), .unset, .unset] [(.int y5)])) (fun t_ k_ => st184.trans k_) ?_
      refine own_st (B := T184.setTop (mkF m 310 #[.val (.long u0), .second, .val (.int u1), .val (.ref b1), .val (.ref b20), .val (.int y5), .val (.ref b48), .val (.int (fs8 1)), .val (.int (fs8 2)), .val (.int (0 : Int32)), .val (.ref b148), .val (.int y5), .unset] [])) (fun t_ k_ => XS.istore X184.here hx rfl (hb hby at_308) rfl (l' := #[.val (.long u0), .second, .val (.int u1), .val (.ref b1), .val (.ref b20), .val (.int y5), .val (.ref b48), .val (.int (fs8 1)), .val (.int (fs8 2)), .val (.int (0 : Int32)), .val (.ref b148), .val (.int y5), .unset]) rfl k_) ?_
      refine own_st (B := T184.setTop (mkF m 312 #[.val (.long u0), .second, .val (.int u1), .val (.ref b1), .val (.ref b20), .val (.int y5), .val (.ref b48), .val (.int (fs8 1)), .val (.int (fs8 2)), .val (.int (0 : Int32)), .val (.ref b148), .val (.int y5), .unset] [(.int (fs8 1))])) (fun t_ k_ => XS.iload X184.here hx rfl (hb hby at_310) rfl k_) ?_
      refine own_st (B := T184.setTop (mkF m 314 #[.val (.long u0), .second, .val (.int u1), .val (.ref b1), .val (.ref b20), .val (.int y5), .val (.ref b48), .val (.int (fs8 1)), .val (.int (fs8 2)), .val (.int (0 : Int32)), .val (.ref b148), .val (.int y5), .unset] [(.int y5), (.int (fs8 1))])) (fun t_ k_ => XS.iload X184.here hx rfl (hb hby at_312) rfl k_) ?_
      by_cases hc192 : (fs8 1) < y5
      · have hd192 := own_lt32 hc192
        refine own_st (B := T184.setTop (mkF m 317 #[.val (.long u0), .second, .val (.int u1), .val (.ref b1), .val (.ref b20), .val (.int y5), .val (.ref b48), .val (.int (fs8 1)), .val (.int (fs8 2)), .val (.int (0 : Int32)), .val (.ref b148), .val (.int y5), .unset] [])) (fun t_ k_ => XS.icmpNo X184.here hx rfl (hb hby at_314) rfl (tlt hc192).2.1 k_) ?_
        have hL1 := hL.1 (by omega)
        rw [hr184] at hL1; cases hL1
      · have hd192 := own_nlt32 hc192
        refine own_st (B := T184.setTop (mkF m 330 #[.val (.long u0), .second, .val (.int u1), .val (.ref b1), .val (.ref b20), .val (.int y5), .val (.ref b48), .val (.int (fs8 1)), .val (.int (fs8 2)), .val (.int (0 : Int32)), .val (.ref b148), .val (.int y5), .unset] [])) (fun t_ k_ => XS.icmpYes X184.here hx rfl (pc0 := 314) (pc' := 330) rfl (hb hby at_314) rfl (flt hc192).2.1 (by decide) (by decide) k_) ?_
        obtain ⟨s1, r1, r2⟩ := hL.2 (by omega)
        rw [hr184] at r1; cases r1
        refine own_st (B := T184.setTop (mkF m 332 #[.val (.long u0), .second, .val (.int u1), .val (.ref b1), .val (.ref b20), .val (.int y5), .val (.ref b48), .val (.int (fs8 1)), .val (.int (fs8 2)), .val (.int (0 : Int32)), .val (.ref b148), .val (.int y5), .unset] [(.int y5)])) (fun t_ k_ => XS.iload X184.here hx rfl (hb hby at_330) rfl k_) ?_
        refine own_st (B := T184.setTop (mkF m 334 #[.val (.long u0), .second, .val (.int u1), .val (.ref b1), .val (.ref b20), .val (.int y5), .val (.ref b48), .val (.int (fs8 1)), .val (.int (fs8 2)), .val (.int (0 : Int32)), .val (.ref b148), .val (.int y5), .unset] [(.int y5), (.int y5)])) (fun t_ k_ => XS.iload X184.here hx rfl (hb hby at_332) rfl k_) ?_
        have hc193 : y5 = y5 := rfl
        have hd193 := own_eq32 hc193
        refine own_st (B := T184.setTop (mkF m 339 #[.val (.long u0), .second, .val (.int u1), .val (.ref b1), .val (.ref b20), .val (.int y5), .val (.ref b48), .val (.int (fs8 1)), .val (.int (fs8 2)), .val (.int (0 : Int32)), .val (.ref b148), .val (.int y5), .unset] [])) (fun t_ k_ => XS.icmpYes X184.here hx rfl (pc0 := 334) (pc' := 339) rfl (hb hby at_334) rfl (teq hc193).1 (by decide) (by decide) k_) ?_
        refine own_st (B := T184.setTop (mkF m 341 #[.val (.long u0), .second, .val (.int u1), .val (.ref b1), .val (.ref b20), .val (.int y5), .val (.ref b48), .val (.int (fs8 1)), .val (.int (fs8 2)), .val (.int (0 : Int32)), .val (.ref b148), .val (.int y5), .unset] [(.ref b148)])) (fun t_ k_ => XS.aload X184.here hx rfl (hb hby at_339) rfl rfl k_) ?_
        refine own_st (B := T184.setTop (mkF m 343 #[.val (.long u0), .second, .val (.int u1), .val (.ref b1), .val (.ref b20), .val (.int y5), .val (.ref b48), .val (.int (fs8 1)), .val (.int (fs8 2)), .val (.int (0 : Int32)), .val (.ref b148), .val (.int y5), .unset] [(.ref b20), (.ref b148)])) (fun t_ k_ => XS.aload X184.here hx rfl (hb hby at_341) rfl rfl k_) ?_
        refine own_st (B := T184.setTop (mkF m 345 #[.val (.long u0), .second, .val (.int u1), .val (.ref b1), .val (.ref b20), .val (.int y5), .val (.ref b48), .val (.int (fs8 1)), .val (.int (fs8 2)), .val (.int (0 : Int32)), .val (.ref b148), .val (.int y5), .unset] [(.int y5), (.ref b20), (.ref b148)])) (fun t_ k_ => XS.iload X184.here hx rfl (hb hby at_343) rfl k_) ?_
        refine own_st (B := T184.setTop (mkF m 347 #[.val (.long u0), .second, .val (.int u1), .val (.ref b1), .val (.ref b20), .val (.int y5), .val (.ref b48), .val (.int (fs8 1)), .val (.int (fs8 2)), .val (.int (0 : Int32)), .val (.ref b148), .val (.int y5), .unset] [(.int (8 : Int32)), (.int y5), (.ref b20), (.ref b148)])) (fun t_ k_ => XS.bipush X184.here hx rfl (hb hby at_345) k_) ?_
        have u195 := u185.keep K184
        have u196 := u187.keep K184 (ninS ne165 nin0)
        obtain ⟨cq194, kr194, q194a, q194b, q194c⟩ := isOf hZ rfl u195
        obtain ⟨_, _, ⟨T194, Lq194, kq194, nq194⟩, -, X194, ⟨Lc194, hQ194, lq194, yq194, zq194⟩, st194⟩ := X184.virtualBack hx (y := (⟨"com/example/mapwright/mapwright/Utf8Check", "check", "([BII)I"⟩ : MethodName)) (z := (⟨"com/example/mapwright/mapwright/Utf8Check", "check", "([BII)I"⟩ : MethodName)) hown (mvT hZ (hw _ (List.mem_of_getElem? (i := 24) rfl))) (mvT hZ (hw _ (List.mem_of_getElem? (i := 25) rfl))) (notFace_of_selects (args := #[]) (mvT hZ (hw _ (List.mem_of_getElem? (i := 27) rfl)))) (mvT hZ (hw _ (List.mem_of_getElem? (i := 27) rfl))) (mvT hZ (hw _ (List.mem_of_getElem? (i := 26) rfl))) (by decide) (backOf (W := 0) (rm5 l Z a0 hw [] b148 b20 y5 (8 : Int32) kk 8 8 fb r1_184 r2_184 r3_184 T184.heap n0 Z191 u195 Fn184 Fl184 Fg184 u196 g180 (Ne.symm ne165) hkk (by decide) hkk8 (by omega) (by decide) hok184) hZ (hw _ (List.mem_of_getElem? (i := 28) rfl)) (hw _ (List.mem_of_getElem? (i := 13) rfl)) (by decide) (by decide)) q194a q194c (g := (mkF m 347 #[.val (.long u0), .second, .val (.int u1), .val (.ref b1), .val (.ref b20), .val (.int y5), .val (.ref b48), .val (.int (fs8 1)), .val (.int (fs8 2)), .val (.int (0 : Int32)), .val (.ref b148), .val (.int y5), .unset] [(.int (8 : Int32)), (.int y5), (.ref b20), (.ref b148)])) rfl (by rw [hml]; rfl) (Steps.refl _) (argsL := [(.ref b20), (.int y5), (.int (8 : Int32))]) (rest := []) (lenOf own_pd4 rfl) rfl (by show 2 * 0 + _ ≤ _; exact Nat.le_of_eq rfl) (hb hby at_347) (fun _ _ => ⟨rfl, rfl, (by decide : 4 + 0 ≤ _), (by decide : 24 + 0 ≤ _)⟩)
        dsimp only [Pt.U, Pt.locs, Pt.cells, Pt.slots] at X194 lq194 yq194 zq194 st194 hQ194
        rw [lq194, yq194, zq194] at X194
        have X194 : Stand p l e _ s m _ below meth c T194 _ 4 24 := X194
        rcases hQ194 with hQ194 | hQ194
        · obtain ⟨sq194, y194, hr194, rfl, hy194, N194q, K194⟩ := hQ194
          have N194 := Fr.app N184 N194q
          have Z197 := Nat.le_trans Z191 K194.1
          refine own_st (B := T194.setTop (mkF m 350 #[.val (.long u0), .second, .val (.int u1), .val (.ref b1), .val (.ref b20), .val (.int y5), .val (.ref b48), .val (.int (fs8 1)), .val (.int (fs8 2)), .val (.int (0 : Int32)), .val (.ref b148), .val (.int y5), .unset] [(.int y194)])) (fun t_ k_ => st194.trans k_) ?_
          rw [hr194] at r2
          cases r2
          refine own_st (B := T194.setTop (mkF m 352 #[.val (.long u0), .second, .val (.int u1), .val (.ref b1), .val (.ref b20), .val (.int y5), .val (.ref b48), .val (.int (fs8 1)), .val (.int (fs8 2)), .val (.int (0 : Int32)), .val (.ref b148), .val (.int y5), .val (.int y194)] [])) (fun t_ k_ => XS.istore X194.here hx rfl (hb hby at_350) rfl (l' := #[.val (.long u0), .second, .val (.int u1), .val (.ref b1), .val (.ref b20), .val (.int y5), .val (.ref b48), .val (.int (fs8 1)), .val (.int (fs8 2)), .val (.int (0 : Int32)), .val (.ref b148), .val (.int y5), .val (.int y194)]) rfl k_) ?_
          refine own_st (B := T194.setTop (mkF m 354 #[.val (.long u0), .second, .val (.int u1), .val (.ref b1), .val (.ref b20), .val (.int y5), .val (.ref b48), .val (.int (fs8 1)), .val (.int (fs8 2)), .val (.int (0 : Int32)), .val (.ref b148), .val (.int y5), .val (.int y194)] [(.int (fs8 1))])) (fun t_ k_ => XS.iload X194.here hx rfl (hb hby at_352) rfl k_) ?_
          refine own_st (B := T194.setTop (mkF m 356 #[.val (.long u0), .second, .val (.int u1), .val (.ref b1), .val (.ref b20), .val (.int y5), .val (.ref b48), .val (.int (fs8 1)), .val (.int (fs8 2)), .val (.int (0 : Int32)), .val (.ref b148), .val (.int y5), .val (.int y194)] [(.int (8 : Int32)), (.int (fs8 1))])) (fun t_ k_ => XS.bipush X194.here hx rfl (hb hby at_354) k_) ?_
          have hc198 : (fs8 1) < (8 : Int32) := Int32.lt_iff_toInt_lt.mpr (by rw [hB, show (8 : Int32).toInt = 8 from rfl]; omega)
          have hd198 := own_lt32 hc198
          rw [show (8 : Int32).toInt = 8 from rfl] at hd198
          refine own_st (B := T194.setTop (mkF m 359 #[.val (.long u0), .second, .val (.int u1), .val (.ref b1), .val (.ref b20), .val (.int y5), .val (.ref b48), .val (.int (fs8 1)), .val (.int (fs8 2)), .val (.int (0 : Int32)), .val (.ref b148), .val (.int y5), .val (.int y194)] [])) (fun t_ k_ => XS.icmpNo X194.here hx rfl (hb hby at_356) rfl (tlt hc198).2.1 k_) ?_
          refine own_st (B := T194.setTop (mkF m 361 #[.val (.long u0), .second, .val (.int u1), .val (.ref b1), .val (.ref b20), .val (.int y5), .val (.ref b48), .val (.int (fs8 1)), .val (.int (fs8 2)), .val (.int (0 : Int32)), .val (.ref b148), .val (.int y5), .val (.int y194)] [(.int y194)])) (fun t_ k_ => XS.iload X194.here hx rfl (hb hby at_359) rfl k_) ?_
          refine own_st (B := T194.setTop (mkF m 363 #[.val (.long u0), .second, .val (.int u1), .val (.ref b1), .val (.ref b20), .val (.int y5), .val (.ref b48), .val (.int (fs8 1)), .val (.int (fs8 2)), .val (.int (0 : Int32)), .val (.ref b148), .val (.int y5), .val (.int y194)] [(.int (fs8 2)), (.int y194)])) (fun t_ k_ => XS.iload X194.here hx rfl (hb hby at_361) rfl k_) ?_
          refine own_st (B := T194.setTop (mkF m 365 #[.val (.long u0), .second, .val (.int u1), .val (.ref b1), .val (.ref b20), .val (.int y5), .val (.ref b48), .val (.int (fs8 1)), .val (.int (fs8 2)), .val (.int (0 : Int32)), .val (.ref b148), .val (.int y5), .val (.int y194)] [(.int y5), (.int (fs8 2)), (.int y194)])) (fun t_ k_ => XS.iload X194.here hx rfl (hb hby at_363) rfl k_) ?_
          obtain ⟨_, _, ⟨T199, Lq199, kq199, nq199⟩, -, X199, ⟨Lc199, hQ199, lq199, yq199, zq199⟩, st199⟩ := Jvm.LawKit.callS X194 hx (y := (⟨"java/lang/Math", "max", "(II)I"⟩ : MethodName)) hown (mvT hZ (hw _ (List.mem_of_getElem? (i := 40) rfl))) (mvT hZ (hw _ (List.mem_of_getElem? (i := 41) rfl))) (mvT hZ (hw _ (List.mem_of_getElem? (i := 42) rfl))) (mvT hZ (hw _ (List.mem_of_getElem? (i := 43) rfl))) (by decide) (backOf (W := 1) (rm8 l Z a0 hw [] (fs8 2) y5 T194.heap n0 Z197 ) hZ (hw _ (List.mem_of_getElem? (i := 43) rfl)) (hw _ (List.mem_of_getElem? (i := 42) rfl)) (by decide) (by decide)) (g := (mkF m 365 #[.val (.long u0), .second, .val (.int u1), .val (.ref b1), .val (.ref b20), .val (.int y5), .val (.ref b48), .val (.int (fs8 1)), .val (.int (fs8 2)), .val (.int (0 : Int32)), .val (.ref b148), .val (.int y5), .val (.int y194)] [(.int y5), (.int (fs8 2)), (.int y194)])) rfl (by rw [hml]; rfl) (argsL := [(.int (fs8 2)), (.int y5)]) (rest := [(.int y194)]) (lenOf own_pd6 rfl) rfl (by show 2 * 0 + _ ≤ _; exact Nat.le_of_eq rfl) (hb hby at_365) (fun _ _ => ⟨rfl, rfl, (by decide : 4 + 0 ≤ _), (by decide : 24 + 0 ≤ _)⟩)
          dsimp only [Pt.U, Pt.locs, Pt.cells, Pt.slots] at X199 lq199 yq199 zq199 st199 hQ199
          rw [lq199, yq199, zq199] at X199
          have X199 : Stand p l e _ s m _ below meth c T199 _ 4 24 := X199
          obtain ⟨rfl, N199q, eh199⟩ := hQ199
          have N199 := Fr.app N194 N199q
          refine own_st (B := T199.setTop (mkF m 368 #[.val (.long u0), .second, .val (.int u1), .val (.ref b1), .val (.ref b20), .val (.int y5), .val (.ref b48), .val (.int (fs8 1)), .val (.int (fs8 2)), .val (.int (0 : Int32)), .val (.ref b148), .val (.int y5), .val (.int y194)] [(.int (own_imax (fs8 2) y5)), (.int y194)])) st199 ?_
          have hc200 : y194 = (own_imax (fs8 2) y5) := Int32.toInt_inj.mp ((own_ixI hy194).trans (own_mx hS hkki).symm)
          have hd200 := own_eq32 hc200
          refine own_st (B := T199.setTop (mkF m 371 #[.val (.long u0), .second, .val (.int u1), .val (.ref b1), .val (.ref b20), .val (.int y5), .val (.ref b48), .val (.int (fs8 1)), .val (.int (fs8 2)), .val (.int (0 : Int32)), .val (.ref b148), .val (.int y5), .val (.int y194)] [])) (fun t_ k_ => XS.icmpNo X199.here hx rfl (hb hby at_368) rfl (teq hc200).2 k_) ?_
          refine own_st (B := T199.setTop (mkF m 372 #[.val (.long u0), .second, .val (.int u1), .val (.ref b1), .val (.ref b20), .val (.int y5), .val (.ref b48), .val (.int (fs8 1)), .val (.int (fs8 2)), .val (.int (0 : Int32)), .val (.ref b148), .val (.int y5), .val (.int y194)] [(.int (1 : Int32))])) (fun t_ k_ => XS.iconst X199.here hx rfl (hb hby at_371) k_) ?_
          refine own_st (B := T199.setTop (mkF m 376 #[.val (.long u0), .second, .val (.int u1), .val (.ref b1), .val (.ref b20), .val (.int y5), .val (.ref b48), .val (.int (fs8 1)), .val (.int (fs8 2)), .val (.int (0 : Int32)), .val (.ref b148), .val (.int y5), .val (.int y194)] [(.int (1 : Int32))])) (fun t_ k_ => XS.goto X199.here hx rfl (pc0 := 372) (pc' := 376) rfl (hb hby at_372) (by decide) (by decide) k_) ?_
          refine own_retN X199 hx (t := .boolean) Bd.returns (by simp) hlk (hb hby at_376) (z' := (1 : Int32)) (by first | rfl | exact own_nb _) (by decide) (by decide) ?_
          show Q0 Z u0 u1 h0 n0 _ T199.heap _
          rw [eh199]
          exact ⟨rfl, N199⟩
        · obtain ⟨r1_194, r2_194, r3_194, hr194, hok194, rfl, N194q, K194, Fn194, Fl194, Fg194⟩ := hQ194
          have N194 := Fr.app N184 N194q
          have Z201 := Nat.le_trans Z191 K194.1
          have hok1_194 : r1_194 ≤ 3 := hok194.1
          refine own_st (B := T194.setTop (mkF m 350 #[.val (.long u0), .second, .val (.int u1), .val (.ref b1), .val (.ref b20), .val (.int y5), .val (.ref b48), .val (.int (fs8 1)), .val (.int (fs8 2)), .val (.int (0 : Int32)), .val (.ref b148), .val (.int y5), .unset] [(.int (8 : Int32))])) (fun t_ k_ => st194.trans k_) ?_
          rw [hr194] at r2
          cases r2
  · obtain ⟨q1, q4, -, -, q2, q5, q8⟩ := hi8
    have hB : (fs8 1).toInt = 8 := e2.trans q2
    obtain ⟨s1, r1, r2⟩ := own_L1 q8.1 hkk8
    have hI : (fs8 3).toInt = 1 := e4.trans q4
    refine own_st (B := T90.setTop (mkF m 265 #[.val (.long u0), .second, .val (.int u1), .val (.ref b1), .val (.ref b20), .val (.int y5), .val (.ref b48), .unset, .unset, .unset, .unset, .unset, .unset] [(.ref b48)])) (fun t_ k_ => XS.aload X90.here hx rfl (hb hby at_263) rfl rfl k_) ?_
    refine own_st (B := T90.setTop (mkF m 266 #[.val (.long u0), .second, .val (.int u1), .val (.ref b1), .val (.ref b20), .val (.int y5), .val (.ref b48), .unset, .unset, .unset, .unset, .unset, .unset] [(.int (1 : Int32)), (.ref b48)])) (fun t_ k_ => XS.iconst X90.here hx rfl (hb hby at_265) k_) ?_
    refine own_st (B := T90.setTop (mkF m 267 #[.val (.long u0), .second, .val (.int u1), .val (.ref b1), .val (.ref b20), .val (.int y5), .val (.ref b48), .unset, .unset, .unset, .unset, .unset, .unset] [(.int (fs8 1))])) (fun t_ k_ => own_ldI X90 hx hZ rfl Af90 (i := 1) (by decide) (by decide) (hb hby at_266) t_ k_) ?_
    refine own_st (B := T90.setTop (mkF m 269 #[.val (.long u0), .second, .val (.int u1), .val (.ref b1), .val (.ref b20), .val (.int y5), .val (.ref b48), .val (.int (fs8 1)), .unset, .unset, .unset, .unset, .unset] [])) (fun t_ k_ => XS.istore X90.here hx rfl (hb hby at_267) rfl (l' := #[.val (.long u0), .second, .val (.int u1), .val (.ref b1), .val (.ref b20), .val (.int y5), .val (.ref b48), .val (.int (fs8 1)), .unset, .unset, .unset, .unset, .unset]) rfl k_) ?_
    refine own_st (B := T90.setTop (mkF m 271 #[.val (.long u0), .second, .val (.int u1), .val (.ref b1), .val (.ref b20), .val (.int y5), .val (.ref b48), .val (.int (fs8 1)), .unset, .unset, .unset, .unset, .unset] [(.ref b48)])) (fun t_ k_ => XS.aload X90.here hx rfl (hb hby at_269) rfl rfl k_) ?_
    refine own_st (B := T90.setTop (mkF m 272 #[.val (.long u0), .second, .val (.int u1), .val (.ref b1), .val (.ref b20), .val (.int y5), .val (.ref b48), .val (.int (fs8 1)), .unset, .unset, .unset, .unset, .unset] [(.int (2 : Int32)), (.ref b48)])) (fun t_ k_ => XS.iconst X90.here hx rfl (hb hby at_271) k_) ?_
    refine own_st (B := T90.setTop (mkF m 273 #[.val (.long u0), .second, .val (.int u1), .val (.ref b1), .val (.ref b20), .val (.int y5), .val (.ref b48), .val (.int (fs8 1)), .unset, .unset, .unset, .unset, .unset] [(.int (fs8 2))])) (fun t_ k_ => own_ldI X90 hx hZ rfl Af90 (i := 2) (by decide) (by decide) (hb hby at_272) t_ k_) ?_
    refine own_st (B := T90.setTop (mkF m 275 #[.val (.long u0), .second, .val (.int u1), .val (.ref b1), .val (.ref b20), .val (.int y5), .val (.ref b48), .val (.int (fs8 1)), .val (.int (fs8 2)), .unset, .unset, .unset, .unset] [])) (fun t_ k_ => XS.istore X90.here hx rfl (hb hby at_273) rfl (l' := #[.val (.long u0), .second, .val (.int u1), .val (.ref b1), .val (.ref b20), .val (.int y5), .val (.ref b48), .val (.int (fs8 1)), .val (.int (fs8 2)), .unset, .unset, .unset, .unset]) rfl k_) ?_
    refine own_st (B := T90.setTop (mkF m 277 #[.val (.long u0), .second, .val (.int u1), .val (.ref b1), .val (.ref b20), .val (.int y5), .val (.ref b48), .val (.int (fs8 1)), .val (.int (fs8 2)), .unset, .unset, .unset, .unset] [(.ref b48)])) (fun t_ k_ => XS.aload X90.here hx rfl (hb hby at_275) rfl rfl k_) ?_
    refine own_st (B := T90.setTop (mkF m 278 #[.val (.long u0), .second, .val (.int u1), .val (.ref b1), .val (.ref b20), .val (.int y5), .val (.ref b48), .val (.int (fs8 1)), .val (.int (fs8 2)), .unset, .unset, .unset, .unset] [(.int (3 : Int32)), (.ref b48)])) (fun t_ k_ => XS.iconst X90.here hx rfl (hb hby at_277) k_) ?_
    refine own_st (B := T90.setTop (mkF m 279 #[.val (.long u0), .second, .val (.int u1), .val (.ref b1), .val (.ref b20), .val (.int y5), .val (.ref b48), .val (.int (fs8 1)), .val (.int (fs8 2)), .unset, .unset, .unset, .unset] [(.int (fs8 3))])) (fun t_ k_ => own_ldI X90 hx hZ rfl Af90 (i := 3) (by decide) (by decide) (hb hby at_278) t_ k_) ?_
    have hc202 : ¬ ((fs8 3) = (0 : Int32)) := fun q0 => by have q' := own_eq32 q0; rw [hI, show (0 : Int32).toInt = 0 from rfl] at q'; omega
    have hd202 := own_neq32 hc202
    rw [show (0 : Int32).toInt = 0 from rfl] at hd202
    refine own_st (B := T90.setTop (mkF m 282 #[.val (.long u0), .second, .val (.int u1), .val (.ref b1), .val (.ref b20), .val (.int y5), .val (.ref b48), .val (.int (fs8 1)), .val (.int (fs8 2)), .unset, .unset, .unset, .unset] [])) (fun t_ k_ => XS.ifNo X90.here hx rfl (hb hby at_279) rfl ((if0 _ _).trans (feq hc202).1) k_) ?_
    refine own_st (B := T90.setTop (mkF m 283 #[.val (.long u0), .second, .val (.int u1), .val (.ref b1), .val (.ref b20), .val (.int y5), .val (.ref b48), .val (.int (fs8 1)), .val (.int (fs8 2)), .unset, .unset, .unset, .unset] [(.int (1 : Int32))])) (fun t_ k_ => XS.iconst X90.here hx rfl (hb hby at_282) k_) ?_
    refine own_st (B := T90.setTop (mkF m 287 #[.val (.long u0), .second, .val (.int u1), .val (.ref b1), .val (.ref b20), .val (.int y5), .val (.ref b48), .val (.int (fs8 1)), .val (.int (fs8 2)), .unset, .unset, .unset, .unset] [(.int (1 : Int32))])) (fun t_ k_ => XS.goto X90.here hx rfl (pc0 := 283) (pc' := 287) rfl (hb hby at_283) (by decide) (by decide) k_) ?_
    refine own_st (B := T90.setTop (mkF m 289 #[.val (.long u0), .second, .val (.int u1), .val (.ref b1), .val (.ref b20), .val (.int y5), .val (.ref b48), .val (.int (fs8 1)), .val (.int (fs8 2)), .val (.int (1 : Int32)), .unset, .unset, .unset] [])) (fun t_ k_ => XS.istore X90.here hx rfl (hb hby at_287) rfl (l' := #[.val (.long u0), .second, .val (.int u1), .val (.ref b1), .val (.ref b20), .val (.int y5), .val (.ref b48), .val (.int (fs8 1)), .val (.int (fs8 2)), .val (.int (1 : Int32)), .unset, .unset, .unset]) rfl k_) ?_
    obtain ⟨T203, h203, X203, e203, E203, A203, D203, -, st203⟩ := newO X90 hx hZ hown (hw _ (List.mem_of_getElem? (i := 11) rfl)) (hw _ (List.mem_of_getElem? (i := 12) rfl)) (hw _ (List.mem_of_getElem? (i := 13) rfl)) rfl (g := (mkF m 289 #[.val (.long u0), .second, .val (.int u1), .val (.ref b1), .val (.ref b20), .val (.int y5), .val (.ref b48), .val (.int (fs8 1)), .val (.int (fs8 2)), .val (.int (1 : Int32)), .unset, .unset, .unset] [])) rfl (hb hby at_289) (by decide) (by decide)
    obtain ⟨b203, g203⟩ : ∃ z, z = T90.heap.size := ⟨_, rfl⟩
    rw [← g203] at A203 D203 st203
    have u204 := u91.keep K90 (ninS ne50 nin0)
    have ne205 : b1 ≠ b203 := Nat.ne_of_lt (Nat.lt_of_lt_of_le u204.lt (Nat.le_of_eq g203.symm))
    have u206 := afb.ext E48
    have u207 := u206.other W54 ne51
    have u208 := u207.other W56 ne51
    have u209 := u208.other W58 ne51
    have u210 := u209.other W60 ne51
    have u211 := u210.other W62 ne51
    have u212 := u211.keep K64 (ninS ne51 nin0)
    have u213 := u212.keep K72 (ninS ne51 nin0)
    have u214 := u213.keep K75 (ninS ne51 nin0)
    have u215 := u214.keep K78 (ninS ne51 nin0)
    have u216 := u215.keep K81 (ninS ne51 nin0)
    have u217 := u216.keep K84 (ninS ne51 nin0)
    have u218 := u217.keep K87 (ninS ne51 nin0)
    have u219 := u218.keep K90 (ninS ne51 nin0)
    have ne220 : b20 ≠ b203 := Nat.ne_of_lt (Nat.lt_of_lt_of_le u219.lt (Nat.le_of_eq g203.symm))
    have u221 := G48.wr W54
    have u222 := u221.wr W56
    have u223 := u222.wr W58
    have u224 := u223.wr W60
    have u225 := u224.wr W62
    have u226 := u225.keep K64
    have u227 := u226.keep K72
    have u228 := u227.keep K75
    have u229 := u228.keep K78
    have u230 := u229.keep K81
    have u231 := u230.keep K84
    have u232 := u231.keep K87
    have u233 := u232.keep K90
    have ne234 : b48 ≠ b203 := Nat.ne_of_lt (Nat.lt_of_lt_of_le u233.lt (Nat.le_of_eq g203.symm))
    have g235 : n0 ≤ b203 := Nat.le_trans Z92 (Nat.le_of_eq g203.symm)
    have Z236 := Nat.le_trans Z92 E203.1
    have X203 : Stand p l e _ s m _ below meth c T203 _ 4 24 := X203
    have F203_least : Fld Z h203 b203 "com/example/mapwright/mapwright/Utf8Check" "least" "I" (.int (0 : Int32)) := D203 (Or.inl (hw _ (List.mem_of_getElem? (i := 21) rfl))) (ty := .int) (by decide)
    have F203_greatest : Fld Z h203 b203 "com/example/mapwright/mapwright/Utf8Check" "greatest" "I" (.int (0 : Int32)) := D203 (Or.inl (hw _ (List.mem_of_getElem? (i := 23) rfl))) (ty := .int) (by decide)
    have F203_needed : Fld Z h203 b203 "com/example/mapwright/mapwright/Utf8Check" "needed" "I" (.int (0 : Int32)) := D203 (Or.inl (hw _ (List.mem_of_getElem? (i := 30) rfl))) (ty := .int) (by decide)
    refine own_st (B := T203.setTop (mkF m 292 #[.val (.long u0), .second, .val (.int u1), .val (.ref b1), .val (.ref b20), .val (.int y5), .val (.ref b48), .val (.int (fs8 1)), .val (.int (fs8 2)), .val (.int (1 : Int32)), .unset, .unset, .unset] [(.ref b203)])) st203 ?_
    refine own_st (B := T203.setTop (mkF m 293 #[.val (.long u0), .second, .val (.int u1), .val (.ref b1), .val (.ref b20), .val (.int y5), .val (.ref b48), .val (.int (fs8 1)), .val (.int (fs8 2)), .val (.int (1 : Int32)), .unset, .unset, .unset] [(.ref b203), (.ref b203)])) (fun t_ k_ => XS.dup X203.here hx rfl (hb hby at_292) rfl rfl k_) ?_
    obtain ⟨_, _, ⟨T237, Lq237, kq237, nq237⟩, -, X237, ⟨Lc237, hQ237, lq237, yq237, zq237⟩, st237⟩ := X203.specialBack hx (y := (⟨"com/example/mapwright/mapwright/Utf8Check", "<init>", "()V"⟩ : MethodName)) rfl hown (mvT hZ (hw _ (List.mem_of_getElem? (i := 14) rfl))) (mvT hZ (hw _ (List.mem_of_getElem? (i := 15) rfl))) (mvT hZ (hw _ (List.mem_of_getElem? (i := 16) rfl))) (by decide) (backOf (W := 1) (rm3 l Z a0 hw [] b203 h203 n0 Z236 A203 F203_needed F203_least F203_greatest g235) hZ (hw _ (List.mem_of_getElem? (i := 16) rfl)) (hw _ (List.mem_of_getElem? (i := 13) rfl)) (by decide) (by decide)) (g := (mkF m 293 #[.val (.long u0), .second, .val (.int u1), .val (.ref b1), .val (.ref b20), .val (.int y5), .val (.ref b48), .val (.int (fs8 1)), .val (.int (fs8 2)), .val (.int (1 : Int32)), .unset, .unset, .unset] [(.ref b203), (.ref b203)])) rfl (by rw [hml]; rfl) (Steps.refl _) (a := b203) (argsL := []) (rest := [(.ref b203)]) (lenOf own_pd3 rfl) rfl (by show 2 * 0 + _ ≤ _; exact Nat.le_of_eq rfl) (hb hby at_293) (fun _ _ => ⟨rfl, e203, (by decide : 4 + 0 ≤ _), (by decide : 24 + 0 ≤ _)⟩)
    dsimp only [Pt.U, Pt.locs, Pt.cells, Pt.slots] at X237 lq237 yq237 zq237 st237 hQ237
    rw [lq237, yq237, zq237] at X237
    have X237 : Stand p l e _ s m _ below meth c T237 _ 4 24 := X237
    obtain ⟨rfl, N237q, K237, Fc237_0, Fc237_1, Fc237_2⟩ := hQ237
    have N237 := Fr.app N90 N237q
    have Z238 := Nat.le_trans Z236 K237.1
    refine own_st (B := T237.setTop (mkF m 296 #[.val (.long u0), .second, .val (.int u1), .val (.ref b1), .val (.ref b20), .val (.int y5), .val (.ref b48), .val (.int (fs8 1)), .val (.int (fs8 2)), .val (.int (1 : Int32)), .unset, .unset, .unset] [(.ref b203)])) (fun t_ k_ => st237.trans k_) ?_
    refine own_st (B := T237.setTop (mkF m 298 #[.val (.long u0), .second, .val (.int u1), .val (.ref b1), .val (.ref b20), .val (.int y5), .val (.ref b48), .val (.int (fs8 1)), .val (.int (fs8 2)), .val (.int (1 : Int32)), .val (.ref b203), .unset, .unset] [])) (fun t_ k_ => XS.astore X237.here hx rfl (hb hby at_296) rfl rfl (l' := #[.val (.long u0), .second, .val (.int u1), .val (.ref b1), .val (.ref b20), .val (.int y5), .val (.ref b48), .val (.int (fs8 1)), .val (.int (fs8 2)), .val (.int (1 : Int32)), .val (.ref b203), .unset, .unset]) rfl k_) ?_
    refine own_st (B := T237.setTop (mkF m 300 #[.val (.long u0), .second, .val (.int u1), .val (.ref b1), .val (.ref b20), .val (.int y5), .val (.ref b48), .val (.int (fs8 1)), .val (.int (fs8 2)), .val (.int (1 : Int32)), .val (.ref b203), .unset, .unset] [(.ref b203)])) (fun t_ k_ => XS.aload X237.here hx rfl (hb hby at_298) rfl rfl k_) ?_
    refine own_st (B := T237.setTop (mkF m 302 #[.val (.long u0), .second, .val (.int u1), .val (.ref b1), .val (.ref b20), .val (.int y5), .val (.ref b48), .val (.int (fs8 1)), .val (.int (fs8 2)), .val (.int (1 : Int32)), .val (.ref b203), .unset, .unset] [(.ref b20), (.ref b203)])) (fun t_ k_ => XS.aload X237.here hx rfl (hb hby at_300) rfl rfl k_) ?_
    refine own_st (B := T237.setTop (mkF m 303 #[.val (.long u0), .second, .val (.int u1), .val (.ref b1), .val (.ref b20), .val (.int y5), .val (.ref b48), .val (.int (fs8 1)), .val (.int (fs8 2)), .val (.int (1 : Int32)), .val (.ref b203), .unset, .unset] [(.int (0 : Int32)), (.ref b20), (.ref b203)])) (fun t_ k_ => XS.iconst X237.here hx rfl (hb hby at_302) k_) ?_
    refine own_st (B := T237.setTop (mkF m 305 #[.val (.long u0), .second, .val (.int u1), .val (.ref b1), .val (.ref b20), .val (.int y5), .val (.ref b48), .val (.int (fs8 1)), .val (.int (fs8 2)), .val (.int (1 : Int32)), .val (.ref b203), .unset, .unset] [(.int y5), (.int (0 : Int32)), (.ref b20), (.ref b203)])) (fun t_ k_ => XS.iload X237.here hx rfl (hb hby at_303) rfl k_) ?_
    have u240 := A203.keep K237
    have u241 := u219.ext E203
    have u242 := u241.keep K237 (ninS ne220 nin0)
    obtain ⟨cq239, kr239, q239a, q239b, q239c⟩ := isOf hZ rfl u240
    obtain ⟨_, _, ⟨T239, Lq239, kq239, nq239⟩, -, X239, ⟨Lc239, hQ239, lq239, yq239, zq239⟩, st239⟩ := X237.virtualBack hx (y := (⟨"com/example/mapwright/mapwright/Utf8Check", "check", "([BII)I"⟩ : MethodName)) (z := (⟨"com/example/mapwright/mapwright/Utf8Check", "check", "([BII)I"⟩ : MethodName)) hown (mvT hZ (hw _ (List.mem_of_getElem? (i := 24) rfl))) (mvT hZ (hw _ (List.mem_of_getElem? (i := 25) rfl))) (notFace_of_selects (args := #[]) (mvT hZ (hw _ (List.mem_of_getElem? (i := 27) rfl)))) (mvT hZ (hw _ (List.mem_of_getElem? (i := 27) rfl))) (mvT hZ (hw _ (List.mem_of_getElem? (i := 26) rfl))) (by decide) (backOf (W := 0) (rm5 l Z a0 hw [] b203 b20 (0 : Int32) y5 0 kk 8 fb 0 128 191 T237.heap n0 Z238 u240 Fc237_0 Fc237_1 Fc237_2 u242 g235 (Ne.symm ne220) (by decide) hkk (Nat.zero_le _) (by omega) (by decide) ⟨by decide, by decide, by decide, by decide, fun _ => ⟨rfl, rfl⟩⟩) hZ (hw _ (List.mem_of_getElem? (i := 28) rfl)) (hw _ (List.mem_of_getElem? (i := 13) rfl)) (by decide) (by decide)) q239a q239c (g := (mkF m 305 #[.val (.long u0), .second, .val (.int u1), .val (.ref b1), .val (.ref b20), .val (.int y5), .val (.ref b48), .val (.int (fs8 1)), .val (.int (fs8 2)), .val (.int (1 : Int32)), .val (.ref b203), .unset, .unset] [(.int y5), (.int (0 : Int32)), (.ref b20), (.ref b203)])) rfl (by rw [hml]; rfl) (Steps.refl _) (argsL := [(.ref b20), (.int (0 : Int32)), (.int y5)]) (rest := []) (lenOf own_pd4 rfl) rfl (by show 2 * 0 + _ ≤ _; exact Nat.le_of_eq rfl) (hb hby at_305) (fun _ _ => ⟨rfl, rfl, (by decide : 4 + 0 ≤ _), (by decide : 24 + 0 ≤ _)⟩)
    dsimp only [Pt.U, Pt.locs, Pt.cells, Pt.slots] at X239 lq239 yq239 zq239 st239 hQ239
    rw [lq239, yq239, zq239] at X239
    have X239 : Stand p l e _ s m _ below meth c T239 _ 4 24 := X239
    rcases hQ239 with hQ239 | hQ239
    · obtain ⟨sq239, y239, hr239, rfl, hy239, N239q, K239⟩ := hQ239
      have N239 := Fr.app N237 N239q
      have Z243 := Nat.le_trans Z238 K239.1
      refine own_st (B := T239.setTop (mkF m 308 #[.val (.long u0), .second, .val (.int u1), .val (.ref b1), .val (.ref b20), .val (.int y5), .val (.ref b48), .val (.int (fs8 1)), .val (.int (fs8 2)), .val (.int (1 : Int32)), .val (.ref b203), .unset, .unset] [(.int y239)])) (fun t_ k_ => st239.trans k_) ?_
      rw [hr239] at r1; cases r1
    · obtain ⟨r1_239, r2_239, r3_239, hr239, hok239, rfl, N239q, K239, Fn239, Fl239, Fg239⟩ := hQ239
      have N239 := Fr.app N237 N239q
      have Z244 := Nat.le_trans Z238 K239.1
      have hok1_239 : r1_239 ≤ 3 := hok239.1
      refine own_st (B := T239.setTop (mkF m 308 #[.val (.long u0), .second, .val (.int u1), .val (.ref b1), .val (.ref b20), .val (.int y5), .val (.ref b48), .val (.int (fs8 1)), .val (.int (fs8 2)), .val (.int (1 : Int32)), .val (.ref b203), .unset, .unset] [(.int y5)])) (fun t_ k_ => st239.trans k_) ?_
      rw [hr239] at r1; cases r1
      refine own_st (B := T239.setTop (mkF m 310 #[.val (.long u0), .second, .val (.int u1), .val (.ref b1), .val (.ref b20), .val (.int y5), .val (.ref b48), .val (.int (fs8 1)), .val (.int (fs8 2)), .val (.int (1 : Int32)), .val (.ref b203), .val (.int y5), .unset] [])) (fun t_ k_ => XS.istore X239.here hx rfl (hb hby at_308) rfl (l' := #[.val (.long u0), .second, .val (.int u1), .val (.ref b1), .val (.ref b20), .val (.int y5), .val (.ref b48), .val (.int (fs8 1)), .val (.int (fs8 2)), .val (.int (1 : Int32)), .val (.ref b203), .val (.int y5), .unset]) rfl k_) ?_
      refine own_st (B := T239.setTop (mkF m 312 #[.val (.long u0), .second, .val (.int u1), .val (.ref b1), .val (.ref b20), .val (.int y5), .val (.ref b48), .val (.int (fs8 1)), .val (.int (fs8 2)), .val (.int (1 : Int32)), .val (.ref b203), .val (.int y5), .unset] [(.int (fs8 1))])) (fun t_ k_ => XS.iload X239.here hx rfl (hb hby at_310) rfl k_) ?_
      refine own_st (B := T239.setTop (mkF m 314 #[.val (.long u0), .second, .val (.int u1), .val (.ref b1), .val (.ref b20), .val (.int y5), .val (.ref b48), .val (.int (fs8 1)), .val (.int (fs8 2)), .val (.int (1 : Int32)), .val (.ref b203), .val (.int y5), .unset] [(.int y5), (.int (fs8 1))])) (fun t_ k_ => XS.iload X239.here hx rfl (hb hby at_312) rfl k_) ?_
      have hc245 : ¬ ((fs8 1) < y5) := fun q0 => by have q' := own_lt32 q0; omega
      have hd245 := own_nlt32 hc245
      refine own_st (B := T239.setTop (mkF m 330 #[.val (.long u0), .second, .val (.int u1), .val (.ref b1), .val (.ref b20), .val (.int y5), .val (.ref b48), .val (.int (fs8 1)), .val (.int (fs8 2)), .val (.int (1 : Int32)), .val (.ref b203), .val (.int y5), .unset] [])) (fun t_ k_ => XS.icmpYes X239.here hx rfl (pc0 := 314) (pc' := 330) rfl (hb hby at_314) rfl (flt hc245).2.1 (by decide) (by decide) k_) ?_
      refine own_st (B := T239.setTop (mkF m 332 #[.val (.long u0), .second, .val (.int u1), .val (.ref b1), .val (.ref b20), .val (.int y5), .val (.ref b48), .val (.int (fs8 1)), .val (.int (fs8 2)), .val (.int (1 : Int32)), .val (.ref b203), .val (.int y5), .unset] [(.int y5)])) (fun t_ k_ => XS.iload X239.here hx rfl (hb hby at_330) rfl k_) ?_
      refine own_st (B := T239.setTop (mkF m 334 #[.val (.long u0), .second, .val (.int u1), .val (.ref b1), .val (.ref b20), .val (.int y5), .val (.ref b48), .val (.int (fs8 1)), .val (.int (fs8 2)), .val (.int (1 : Int32)), .val (.ref b203), .val (.int y5), .unset] [(.int y5), (.int y5)])) (fun t_ k_ => XS.iload X239.here hx rfl (hb hby at_332) rfl k_) ?_
      have hc246 : y5 = y5 := rfl
      have hd246 := own_eq32 hc246
      refine own_st (B := T239.setTop (mkF m 339 #[.val (.long u0), .second, .val (.int u1), .val (.ref b1), .val (.ref b20), .val (.int y5), .val (.ref b48), .val (.int (fs8 1)), .val (.int (fs8 2)), .val (.int (1 : Int32)), .val (.ref b203), .val (.int y5), .unset] [])) (fun t_ k_ => XS.icmpYes X239.here hx rfl (pc0 := 334) (pc' := 339) rfl (hb hby at_334) rfl (teq hc246).1 (by decide) (by decide) k_) ?_
      refine own_st (B := T239.setTop (mkF m 341 #[.val (.long u0), .second, .val (.int u1), .val (.ref b1), .val (.ref b20), .val (.int y5), .val (.ref b48), .val (.int (fs8 1)), .val (.int (fs8 2)), .val (.int (1 : Int32)), .val (.ref b203), .val (.int y5), .unset] [(.ref b203)])) (fun t_ k_ => XS.aload X239.here hx rfl (hb hby at_339) rfl rfl k_) ?_
      refine own_st (B := T239.setTop (mkF m 343 #[.val (.long u0), .second, .val (.int u1), .val (.ref b1), .val (.ref b20), .val (.int y5), .val (.ref b48), .val (.int (fs8 1)), .val (.int (fs8 2)), .val (.int (1 : Int32)), .val (.ref b203), .val (.int y5), .unset] [(.ref b20), (.ref b203)])) (fun t_ k_ => XS.aload X239.here hx rfl (hb hby at_341) rfl rfl k_) ?_
      refine own_st (B := T239.setTop (mkF m 345 #[.val (.long u0), .second, .val (.int u1), .val (.ref b1), .val (.ref b20), .val (.int y5), .val (.ref b48), .val (.int (fs8 1)), .val (.int (fs8 2)), .val (.int (1 : Int32)), .val (.ref b203), .val (.int y5), .unset] [(.int y5), (.ref b20), (.ref b203)])) (fun t_ k_ => XS.iload X239.here hx rfl (hb hby at_343) rfl k_) ?_
      refine own_st (B := T239.setTop (mkF m 347 #[.val (.long u0), .second, .val (.int u1), .val (.ref b1), .val (.ref b20), .val (.int y5), .val (.ref b48), .val (.int (fs8 1)), .val (.int (fs8 2)), .val (.int (1 : Int32)), .val (.ref b203), .val (.int y5), .unset] [(.int (8 : Int32)), (.int y5), (.ref b20), (.ref b203)])) (fun t_ k_ => XS.bipush X239.here hx rfl (hb hby at_345) k_) ?_
      have u248 := u240.keep K239
      have u249 := u242.keep K239 (ninS ne220 nin0)
      obtain ⟨cq247, kr247, q247a, q247b, q247c⟩ := isOf hZ rfl u248
      obtain ⟨_, _, ⟨T247, Lq247, kq247, nq247⟩, -, X247, ⟨Lc247, hQ247, lq247, yq247, zq247⟩, st247⟩ := X239.virtualBack hx (y := (⟨"com/example/mapwright/mapwright/Utf8Check", "check", "([BII)I"⟩ : MethodName)) (z := (⟨"com/example/mapwright/mapwright/Utf8Check", "check", "([BII)I"⟩ : MethodName)) hown (mvT hZ (hw _ (List.mem_of_getElem? (i := 24) rfl))) (mvT hZ (hw _ (List.mem_of_getElem? (i := 25) rfl))) (notFace_of_selects (args := #[]) (mvT hZ (hw _ (List.mem_of_getElem? (i := 27) rfl)))) (mvT hZ (hw _ (List.mem_of_getElem? (i := 27) rfl))) (mvT hZ (hw _ (List.mem_of_getElem? (i := 26) rfl))) (by decide) (backOf (W := 0) (rm5 l Z a0 hw [] b203 b20 y5 (8 : Int32) kk 8 8 fb r1_239 r2_239 r3_239 T239.heap n0 Z244 u248 Fn239 Fl239 Fg239 u249 g235 (Ne.symm ne220) hkk (by decide) hkk8 (by omega) (by decide) hok239) hZ (hw _ (List.mem_of_getElem? (i := 28) rfl)) (hw _ (List.mem_of_getElem? (i := 13) rfl)) (by decide) (by decide)) q247a q247c (g := (mkF m 347 #[.val (.long u0), .second, .val (.int u1), .val (.ref b1), .val (.ref b20), .val (.int y5), .val (.ref b48), .val (.int (fs8 1)), .val (.int (fs8 2)), .val (.int (1 : Int32)), .val (.ref b203), .val (.int y5), .unset] [(.int (8 : Int32)), (.int y5), (.ref b20), (.ref b203)])) rfl (by rw [hml]; rfl) (Steps.refl _) (argsL := [(.ref b20), (.int y5), (.int (8 : Int32))]) (rest := []) (lenOf own_pd4 rfl) rfl (by show 2 * 0 + _ ≤ _; exact Nat.le_of_eq rfl) (hb hby at_347) (fun _ _ => ⟨rfl, rfl, (by decide : 4 + 0 ≤ _), (by decide : 24 + 0 ≤ _)⟩)
      dsimp only [Pt.U, Pt.locs, Pt.cells, Pt.slots] at X247 lq247 yq247 zq247 st247 hQ247
      rw [lq247, yq247, zq247] at X247
      have X247 : Stand p l e _ s m _ below meth c T247 _ 4 24 := X247
      rcases hQ247 with hQ247 | hQ247
      · obtain ⟨sq247, y247, hr247, rfl, hy247, N247q, K247⟩ := hQ247
        have N247 := Fr.app N239 N247q
        have Z250 := Nat.le_trans Z244 K247.1
        refine own_st (B := T247.setTop (mkF m 350 #[.val (.long u0), .second, .val (.int u1), .val (.ref b1), .val (.ref b20), .val (.int y5), .val (.ref b48), .val (.int (fs8 1)), .val (.int (fs8 2)), .val (.int (1 : Int32)), .val (.ref b203), .val (.int y5), .unset] [(.int y247)])) (fun t_ k_ => st247.trans k_) ?_
        rw [hr247] at r2
        cases r2
      · obtain ⟨r1_247, r2_247, r3_247, hr247, hok247, rfl, N247q, K247, Fn247, Fl247, Fg247⟩ := hQ247
        have N247 := Fr.app N239 N247q
        have Z251 := Nat.le_trans Z244 K247.1
        have hok1_247 : r1_247 ≤ 3 := hok247.1
        refine own_st (B := T247.setTop (mkF m 350 #[.val (.long u0), .second, .val (.int u1), .val (.ref b1), .val (.ref b20), .val (.int y5), .val (.ref b48), .val (.int (fs8 1)), .val (.int (fs8 2)), .val (.int (1 : Int32)), .val (.ref b203), .val (.int y5), .unset] [(.int (8 : Int32))])) (fun t_ k_ => st247.trans k_) ?_
        rw [hr247] at r2
        have hz : ¬ r1_247 = 0 := by rw [show r1_247 = q5.1 from congrArg Prod.fst (Sum.inr.inj r2)]; exact q8.2
        refine own_st (B := T247.setTop (mkF m 352 #[.val (.long u0), .second, .val (.int u1), .val (.ref b1), .val (.ref b20), .val (.int y5), .val (.ref b48), .val (.int (fs8 1)), .val (.int (fs8 2)), .val (.int (1 : Int32)), .val (.ref b203), .val (.int y5), .val (.int (8 : Int32))] [])) (fun t_ k_ => XS.istore X247.here hx rfl (hb hby at_350) rfl (l' := #[.val (.long u0), .second, .val (.int u1), .val (.ref b1), .val (.ref b20), .val (.int y5), .val (.ref b48), .val (.int (fs8 1)), .val (.int (fs8 2)), .val (.int (1 : Int32)), .val (.ref b203), .val (.int y5), .val (.int (8 : Int32))]) rfl k_) ?_
        refine own_st (B := T247.setTop (mkF m 354 #[.val (.long u0), .second, .val (.int u1), .val (.ref b1), .val (.ref b20), .val (.int y5), .val (.ref b48), .val (.int (fs8 1)), .val (.int (fs8 2)), .val (.int (1 : Int32)), .val (.ref b203), .val (.int y5), .val (.int (8 : Int32))] [(.int (fs8 1))])) (fun t_ k_ => XS.iload X247.here hx rfl (hb hby at_352) rfl k_) ?_
        refine own_st (B := T247.setTop (mkF m 356 #[.val (.long u0), .second, .val (.int u1), .val (.ref b1), .val (.ref b20), .val (.int y5), .val (.ref b48), .val (.int (fs8 1)), .val (.int (fs8 2)), .val (.int (1 : Int32)), .val (.ref b203), .val (.int y5), .val (.int (8 : Int32))] [(.int (8 : Int32)), (.int (fs8 1))])) (fun t_ k_ => XS.bipush X247.here hx rfl (hb hby at_354) k_) ?_
        have hc252 : ¬ ((fs8 1) < (8 : Int32)) := fun q0 => by have q' := own_lt32 q0; rw [show (8 : Int32).toInt = 8 from rfl] at q'; omega
        have hd252 := own_nlt32 hc252
        rw [show (8 : Int32).toInt = 8 from rfl] at hd252
        refine own_st (B := T247.setTop (mkF m 377 #[.val (.long u0), .second, .val (.int u1), .val (.ref b1), .val (.ref b20), .val (.int y5), .val (.ref b48), .val (.int (fs8 1)), .val (.int (fs8 2)), .val (.int (1 : Int32)), .val (.ref b203), .val (.int y5), .val (.int (8 : Int32))] [])) (fun t_ k_ => XS.icmpYes X247.here hx rfl (pc0 := 356) (pc' := 377) rfl (hb hby at_356) rfl (flt hc252).2.1 (by decide) (by decide) k_) ?_
        refine own_st (B := T247.setTop (mkF m 379 #[.val (.long u0), .second, .val (.int u1), .val (.ref b1), .val (.ref b20), .val (.int y5), .val (.ref b48), .val (.int (fs8 1)), .val (.int (fs8 2)), .val (.int (1 : Int32)), .val (.ref b203), .val (.int y5), .val (.int (8 : Int32))] [(.int (8 : Int32))])) (fun t_ k_ => XS.iload X247.here hx rfl (hb hby at_377) rfl k_) ?_
        refine own_st (B := T247.setTop (mkF m 381 #[.val (.long u0), .second, .val (.int u1), .val (.ref b1), .val (.ref b20), .val (.int y5), .val (.ref b48), .val (.int (fs8 1)), .val (.int (fs8 2)), .val (.int (1 : Int32)), .val (.ref b203), .val (.int y5), .val (.int (8 : Int32))] [(.int (8 : Int32)), (.int (8 : Int32))])) (fun t_ k_ => XS.bipush X247.here hx rfl (hb hby at_379) k_) ?_
        refine own_st (B := T247.setTop (mkF m 384 #[.val (.long u0), .second, .val (.int u1), .val (.ref b1), .val (.ref b20), .val (.int y5), .val (.ref b48), .val (.int (fs8 1)), .val (.int (fs8 2)), .val (.int (1 : Int32)), .val (.ref b203), .val (.int y5), .val (.int (8 : Int32))] [])) (fun t_ k_ => XS.icmpNo X247.here hx rfl (hb hby at_381) rfl (teq (by decide : (8 : Int32) = (8 : Int32))).2 k_) ?_
        refine own_st (B := T247.setTop (mkF m 386 #[.val (.long u0), .second, .val (.int u1), .val (.ref b1), .val (.ref b20), .val (.int y5), .val (.ref b48), .val (.int (fs8 1)), .val (.int (fs8 2)), .val (.int (1 : Int32)), .val (.ref b203), .val (.int y5), .val (.int (8 : Int32))] [(.ref b203)])) (fun t_ k_ => XS.aload X247.here hx rfl (hb hby at_384) rfl rfl k_) ?_
        have u254 := u248.keep K247
        obtain ⟨cq253, kr253, q253a, q253b, q253c⟩ := isOf hZ rfl u254
        obtain ⟨_, _, ⟨T253, Lq253, kq253, nq253⟩, -, X253, ⟨Lc253, hQ253, lq253, yq253, zq253⟩, st253⟩ := X247.virtualBack hx (y := (⟨"com/example/mapwright/mapwright/Utf8Check", "complete", "()Z"⟩ : MethodName)) (z := (⟨"com/example/mapwright/mapwright/Utf8Check", "complete", "()Z"⟩ : MethodName)) hown (mvT hZ (hw _ (List.mem_of_getElem? (i := 31) rfl))) (mvT hZ (hw _ (List.mem_of_getElem? (i := 32) rfl))) (notFace_of_selects (args := #[]) (mvT hZ (hw _ (List.mem_of_getElem? (i := 34) rfl)))) (mvT hZ (hw _ (List.mem_of_getElem? (i := 34) rfl))) (mvT hZ (hw _ (List.mem_of_getElem? (i := 33) rfl))) (by decide) (backOf (W := 0) (rm6 l Z a0 hw [] b203 r1_247 T247.heap n0 Z251 Fn247 (by omega)) hZ (hw _ (List.mem_of_getElem? (i := 35) rfl)) (hw _ (List.mem_of_getElem? (i := 13) rfl)) (by decide) (by decide)) q253a q253c (g := (mkF m 386 #[.val (.long u0), .second, .val (.int u1), .val (.ref b1), .val (.ref b20), .val (.int y5), .val (.ref b48), .val (.int (fs8 1)), .val (.int (fs8 2)), .val (.int (1 : Int32)), .val (.ref b203), .val (.int y5), .val (.int (8 : Int32))] [(.ref b203)])) rfl (by rw [hml]; rfl) (Steps.refl _) (argsL := []) (rest := []) (lenOf own_pd5 rfl) rfl (by show 2 * 0 + _ ≤ _; exact Nat.le_of_eq rfl) (hb hby at_386) (fun _ _ => ⟨rfl, rfl, (by decide : 4 + 0 ≤ _), (by decide : 24 + 0 ≤ _)⟩)
        dsimp only [Pt.U, Pt.locs, Pt.cells, Pt.slots] at X253 lq253 yq253 zq253 st253 hQ253
        rw [lq253, yq253, zq253] at X253
        have X253 : Stand p l e _ s m _ below meth c T253 _ 4 24 := X253
        obtain ⟨rfl, N253q, eh253⟩ := hQ253
        have N253 := Fr.app N247 N253q
        refine own_st (B := T253.setTop (mkF m 389 #[.val (.long u0), .second, .val (.int u1), .val (.ref b1), .val (.ref b20), .val (.int y5), .val (.ref b48), .val (.int (fs8 1)), .val (.int (fs8 2)), .val (.int (1 : Int32)), .val (.ref b203), .val (.int y5), .val (.int (8 : Int32))] [(.int (own_b (decide (r1_247 = 0))))])) (fun t_ k_ => st253.trans k_) ?_
        refine own_st (B := T253.setTop (mkF m 391 #[.val (.long u0), .second, .val (.int u1), .val (.ref b1), .val (.ref b20), .val (.int y5), .val (.ref b48), .val (.int (fs8 1)), .val (.int (fs8 2)), .val (.int (1 : Int32)), .val (.ref b203), .val (.int y5), .val (.int (8 : Int32))] [(.int (1 : Int32)), (.int (own_b (decide (r1_247 = 0))))])) (fun t_ k_ => XS.iload X253.here hx rfl (hb hby at_389) rfl k_) ?_
        refine own_st (B := T253.setTop (mkF m 398 #[.val (.long u0), .second, .val (.int u1), .val (.ref b1), .val (.ref b20), .val (.int y5), .val (.ref b48), .val (.int (fs8 1)), .val (.int (fs8 2)), .val (.int (1 : Int32)), .val (.ref b203), .val (.int y5), .val (.int (8 : Int32))] [(.int (own_b (decide (r1_247 = 0))))])) (fun t_ k_ => XS.ifYes X253.here hx rfl (pc0 := 391) (pc' := 398) rfl (hb hby at_391) rfl ((if0 _ _).trans (feq (by decide : ¬ ((1 : Int32) = (0 : Int32)))).2) (by decide) (by decide) k_) ?_
        refine own_st (B := T253.setTop (mkF m 399 #[.val (.long u0), .second, .val (.int u1), .val (.ref b1), .val (.ref b20), .val (.int y5), .val (.ref b48), .val (.int (fs8 1)), .val (.int (fs8 2)), .val (.int (1 : Int32)), .val (.ref b203), .val (.int y5), .val (.int (8 : Int32))] [(.int (0 : Int32)), (.int (own_b (decide (r1_247 = 0))))])) (fun t_ k_ => XS.iconst X253.here hx rfl (hb hby at_398) k_) ?_
        have hc255 : (own_b (decide (r1_247 = 0))) = (0 : Int32) := own_bz hz
        refine own_st (B := T253.setTop (mkF m 402 #[.val (.long u0), .second, .val (.int u1), .val (.ref b1), .val (.ref b20), .val (.int y5), .val (.ref b48), .val (.int (fs8 1)), .val (.int (fs8 2)), .val (.int (1 : Int32)), .val (.ref b203), .val (.int y5), .val (.int (8 : Int32))] [])) (fun t_ k_ => XS.icmpNo X253.here hx rfl (hb hby at_399) rfl (teq hc255).2 k_) ?_
        refine own_st (B := T253.setTop (mkF m 403 #[.val (.long u0), .second, .val (.int u1), .val (.ref b1), .val (.ref b20), .val (.int y5), .val (.ref b48), .val (.int (fs8 1)), .val (.int (fs8 2)), .val (.int (1 : Int32)), .val (.ref b203), .val (.int y5), .val (.int (8 : Int32))] [(.int (1 : Int32))])) (fun t_ k_ => XS.iconst X253.here hx rfl (hb hby at_402) k_) ?_
        refine own_st (B := T253.setTop (mkF m 407 #[.val (.long u0), .second, .val (.int u1), .val (.ref b1), .val (.ref b20), .val (.int y5), .val (.ref b48), .val (.int (fs8 1)), .val (.int (fs8 2)), .val (.int (1 : Int32)), .val (.ref b203), .val (.int y5), .val (.int (8 : Int32))] [(.int (1 : Int32))])) (fun t_ k_ => XS.goto X253.here hx rfl (pc0 := 403) (pc' := 407) rfl (hb hby at_403) (by decide) (by decide) k_) ?_
        refine own_retN X253 hx (t := .boolean) Bd.returns (by simp) hlk (hb hby at_407) (z' := (1 : Int32)) (by first | rfl | exact own_nb _) (by decide) (by decide) ?_
        show Q0 Z u0 u1 h0 n0 _ T253.heap _
        rw [eh253]
        exact ⟨rfl, N253⟩
set_option maxRecDepth 65536 in
set_option maxHeartbeats 40000000 in
theorem comes_1 {Post : Tables → Env → Array Value → State → Outcome → State → Prop} (hpost : ∀ tb e args s v u, (limb_1_1.after args s (.returned v) u = true ∧ limb_1_2.after args s (.returned v) u = true ∧ True) → FrameEnd s (.returned v) u (Jvm.fieldLocs frame_1_writes args s ++ Jvm.arrayLocs frame_1_arrays args s ++ Jvm.staticLocs frame_1_statics s) 16 128 → Post tb e args s (.returned v) u) :
    ArmFor flags0 classFile x code maxLocals ret World_1 tables_1 room_1 Calls_1 rest_1 Pre_1 Post := by
  intro l hfl _ _ p e ha hc hk s m args below hf hA hF happ hP
  obtain ⟨hcalls, hrest, hpre⟩ := hP
  obtain ⟨-, -, -, hnamed, -, -, -, hat⟩ := (Spec.applies_iff hf).mp happ
  obtain ⟨hg, hn⟩ := and_e (Cond.before_iff.mp (show (Jvm.Cond.and given_1 narrow_1).before args s = true from hpre))
  obtain ⟨gg1, gg2⟩ := and_e hg
  obtain ⟨gg3, gg4⟩ := and_e gg2
  obtain ⟨w0, w1, rfl⟩ : ∃ w0 w1 : Value, args = #[w0, w1] := by
    have hs : args.size = 2 := by simpa [Cond.value, given_1] using gg1
    obtain ⟨L⟩ := args
    match L, hs with
    | [w0, w1], _ => exact ⟨w0, w1, rfl⟩
  have hw := fun d (hd : d ∈ tables_1) => atoms_spec (ws := Jvm.Cond.code x code maxLocals ret :: tables_1) hat d (List.mem_cons_of_mem _ hd)
  have hfit : Fit s := fun {y c} hc i hi => by
    obtain ⟨ha, rfl⟩ := Array.getElem?_eq_some_iff.mp hc
    have q := List.all_eq_true.mp ((Array.all_eq_true_iff_forall_mem.mp hF) _ (Array.getElem_mem ha)) i (List.mem_range.mpr hi)
    simpa [Array.getElem?_eq_getElem hi] using q
  obtain ⟨i0, ei0⟩ := isL_v gg3
  obtain rfl : w0 = (.long i0) := Option.some.inj ei0
  obtain ⟨i1, ei1⟩ := is_v gg4
  obtain rfl : w1 = (.int i1) := Option.some.inj ei1
  obtain ⟨n, o, h1, h2, h3, _, L, rfl, ⟨rfl, N⟩, hq⟩ := rm0 l s _ hw tables_1 i0 i1 s.heap s.heap.size (Nat.le_refl _)  p e ha hc hk s m _ below hf ((Spec.applies_iff_loose hf).mp happ).1 ⟨rfl, State.Warmed39.refl s, rfl⟩ trivial
  refine ⟨n, _, h1, h2, h3, hpost _ _ _ _ _ _ ⟨Cond.after_iff.mpr rfl, Cond.after_iff.mpr (eq_i res_at (Term.int_eval (1)) rfl), trivial⟩ ⟨hq.1, hq.2.1, (hq.2.2.sift fun y hy => Or.inr (N y hy)).mono (by decide) (by decide)⟩⟩
theorem main_1_1 : Claimed_1_1 := comes_1 fun _ _ _ _ _ _ h hF => ⟨h.1, hF⟩
theorem main_1_2 : Claimed_1_2 := comes_1 fun _ _ _ _ _ _ h hF => ⟨h.2.1, hF⟩
end Jvm.Pilot.@@N@@
namespace Jvm.Pilot.@@N@@
open Jvm Jvm.ClassFile Sem Op Lib Jvm.Free Jvm.Stand Jvm.Pilot.@@N@@.Jvm.D
/-! MADE BY PROGRAM (witnessworld.py) out of the Statement's table words and the real class files: 11 classes; the members and pool entries that the words name. The judged class is class 1, her method 1. -/
namespace start1
open Jvm.ClassFile
def u (s : String) : CpInfo := .utf8 (stringToUtf16 s)
/-- a pool by its gaps: so many unusable entries, then the entry; so many at the end -/
def gap : Nat → List CpInfo → List CpInfo
  | 0, r => r
  | n + 1, r => .unusable :: gap n r
def poolList (es : List (Nat × CpInfo)) (last : Nat) : List CpInfo := es.foldr (fun e r => gap e.1 (e.2 :: r)) (gap last [])
def pool (es : List (Nat × CpInfo)) (last : Nat) : Array CpInfo := ⟨poolList es last⟩
def fileOf (pool : Array CpInfo) (this : Nat) (attrs : Array Attribute := #[]) (ms : Array MethodInfo := #[]) (fl : Nat := 33) (sup : Nat := 0) (ifs : Array Nat := #[]) (fds : Array FieldInfo := #[]) : ClassFile where
  minorVersion := 0
  majorVersion := 65
  constantPool := pool
  accessFlags := fl
  thisClass := this
  superClass := sup
  interfaces := ifs
  fields := fds
  methods := ms
  attributes := attrs
def plain (name : String) (sup : Option ClassId) : Class where
  name := name
  kind := .ordinary
  loader := none
  accessFlags := 33
  super := sup
  interfaces := #[]
  cf := none
  fields := #[]
  methods := #[]
  instanceTypes := #[]
  staticTypes := #[]
  resolved := #[]
  callSites := []
  init := .initialized
  statics := none
  mirror := none

def pool0 : Array CpInfo := pool [(5, u "<init>"), (0, u "()V"), (1, .class_ 10), (1, u "java/lang/Object")] 113

def k0c0 : Code := { maxStack := 0, maxLocals := 1, code := object_method_1_code, exceptionTable := #[], attributes := #[] }
def k0m0 : Method := { name := "<init>", desc := "()V", sig := { parameters := [], returnType := none }, accessFlags := 1, code := some k0c0 }
/-- java/lang/Object -/
def k0 : Class := { plain "java/lang/Object" none with
  accessFlags := 33
  interfaces := #[]
  cf := some (fileOf pool0 8 #[] #[{ accessFlags := 1, nameIndex := 5, descriptorIndex := 6, attributes := #[] }] 33 0 #[] #[])
  fields := #[]
  methods := #[k0m0]
  instanceTypes := #[]
  staticTypes := #[]
  resolved := Array.replicate 124 none
  statics := none }

def pool1 : Array CpInfo := pool [(2, .class_ 4), (0, .nameAndType 5 6), (0, u "java/lang/Object"), (0, u "<init>"), (0, u "()V"), (0, .long 255), (1, .integer 2147483647), (0, .methodref 11 12), (0, .class_ 13), (0, .nameAndType 14 15), (0, u "com/example/mapwright/mapwright/Utf8CheckCheckPinLaw"), (0, u "advance"), (0, u "([I[I)V"), (0, .class_ 17), (0, u "com/example/mapwright/mapwright/Utf8Check"), (0, .methodref 16 3), (0, .methodref 16 20), (0, .nameAndType 21 22), (0, u "check"), (0, u "([BII)I"), (0, .methodref 24 25), (0, .class_ 26), (0, .nameAndType 27 28), (0, u "java/lang/Math"), (0, u "max"), (0, u "(II)I"), (0, .methodref 16 30), (0, .nameAndType 31 32), (0, u "complete"), (0, u "()Z"), (0, .methodref 11 34), (0, .nameAndType 35 36), (0, u "step"), (0, u "([II)I"), (0, .methodref 11 38), (0, .nameAndType 39 40), (0, u "cont"), (0, u "(I)Z"), (2, u "law"), (0, u "(JI)Z")] 7

def k1m0 : Method := { name := "<init>", desc := "()V", sig := { parameters := [], returnType := none }, accessFlags := 1, code := none }
def k1c1 : Code := { maxStack := 6, maxLocals := 13, code := code, exceptionTable := #[], attributes := #[] }
def k1m1 : Method := { name := "law", desc := "(JI)Z", sig := { parameters := [.long, .int], returnType := some .boolean }, accessFlags := 9, code := some k1c1 }
def k1c2 : Code := { maxStack := 4, maxLocals := 4, code := method_3_code, exceptionTable := #[], attributes := #[] }
def k1m2 : Method := { name := "advance", desc := "([I[I)V", sig := { parameters := [(.array .int), (.array .int)], returnType := none }, accessFlags := 10, code := some k1c2 }
def k1c3 : Code := { maxStack := 2, maxLocals := 1, code := method_4_code, exceptionTable := #[], attributes := #[] }
def k1m3 : Method := { name := "cont", desc := "(I)Z", sig := { parameters := [.int], returnType := some .boolean }, accessFlags := 10, code := some k1c3 }
def k1c4 : Code := { maxStack := 3, maxLocals := 6, code := method_5_code, exceptionTable := #[], attributes := #[] }
def k1m4 : Method := { name := "step", desc := "([II)I", sig := { parameters := [(.array .int), .int], returnType := some .int }, accessFlags := 10, code := some k1c4 }
/-- com/example/mapwright/mapwright/Utf8CheckCheckPinLaw -/
def k1 : Class := { plain "com/example/mapwright/mapwright/Utf8CheckCheckPinLaw" (some 0) with
  accessFlags := 49
  interfaces := #[]
  cf := some (fileOf pool1 11 #[] #[{ accessFlags := 1, nameIndex := 5, descriptorIndex := 6, attributes := #[] }, { accessFlags := 9, nameIndex := 43, descriptorIndex := 44, attributes := #[] }, { accessFlags := 10, nameIndex := 14, descriptorIndex := 15, attributes := #[] }, { accessFlags := 10, nameIndex := 39, descriptorIndex := 40, attributes := #[] }, { accessFlags := 10, nameIndex := 35, descriptorIndex := 36, attributes := #[] }] 49 2 #[] #[])
  fields := #[]
  methods := #[k1m0, k1m1, k1m2, k1m3, k1m4]
  instanceTypes := #[]
  staticTypes := #[]
  resolved := Array.replicate 52 none
  statics := none }

def pool2 : Array CpInfo := pool [(1, .class_ 2), (0, u "com/example/mapwright/mapwright/CheckingInputStream$Check"), (0, .class_ 4), (0, u "java/lang/Object"), (11, .class_ 17), (0, u "com/example/mapwright/mapwright/CheckingInputStream")] 2

/-- com/example/mapwright/mapwright/CheckingInputStream$Check -/
def k2 : Class := { plain "com/example/mapwright/mapwright/CheckingInputStream$Check" (some 0) with
  accessFlags := 1536
  interfaces := #[]
  cf := some (fileOf pool2 1 #[.nestHost 16] #[] 1536 3 #[] #[])
  fields := #[]
  methods := #[]
  instanceTypes := #[]
  staticTypes := #[]
  resolved := Array.replicate 20 none
  statics := none }

def pool3 : Array CpInfo := pool [(1, .methodref 2 3), (0, .class_ 4), (0, .nameAndType 5 6), (0, u "java/lang/Object"), (0, u "<init>"), (0, u "()V"), (0, .class_ 8), (0, u "com/example/mapwright/mapwright/Utf8Check"), (0, .fieldref 7 10), (0, .nameAndType 11 12), (0, u "least"), (0, u "I"), (0, .fieldref 7 14), (0, .nameAndType 15 12), (0, u "greatest"), (0, .fieldref 7 17), (0, .nameAndType 18 12), (0, u "needed"), (0, .methodref 7 20), (0, .nameAndType 21 22), (0, u "begin"), (0, u "(I)Z"), (2, .class_ 26), (0, u "com/example/mapwright/mapwright/CheckingInputStream$Check"), (0, u "CONTINUATION_LEAST"), (2, u "CONTINUATION_GREATEST"), (3, u "check"), (0, u "([BII)I"), (1, u "complete"), (0, u "()Z")] 8

def k3c0 : Code := { maxStack := 2, maxLocals := 1, code := prog_31_method_1_code, exceptionTable := #[], attributes := #[] }
def k3m0 : Method := { name := "<init>", desc := "()V", sig := { parameters := [], returnType := none }, accessFlags := 0, code := some k3c0 }
def k3c1 : Code := { maxStack := 3, maxLocals := 7, code := prog_31_method_2_code, exceptionTable := #[], attributes := #[] }
def k3m1 : Method := { name := "check", desc := "([BII)I", sig := { parameters := [(.array .byte), .int, .int], returnType := some .int }, accessFlags := 1, code := some k3c1 }
def k3c2 : Code := { maxStack := 1, maxLocals := 1, code := prog_31_method_3_code, exceptionTable := #[], attributes := #[] }
def k3m2 : Method := { name := "complete", desc := "()Z", sig := { parameters := [], returnType := some .boolean }, accessFlags := 1, code := some k3c2 }
def k3c3 : Code := { maxStack := 3, maxLocals := 2, code := prog_31_method_5_code, exceptionTable := #[], attributes := #[] }
def k3m3 : Method := { name := "begin", desc := "(I)Z", sig := { parameters := [.int], returnType := some .boolean }, accessFlags := 2, code := some k3c3 }
/-- com/example/mapwright/mapwright/Utf8Check -/
def k3 : Class := { plain "com/example/mapwright/mapwright/Utf8Check" (some 0) with
  accessFlags := 48
  interfaces := #[2]
  cf := some (fileOf pool3 7 #[] #[{ accessFlags := 0, nameIndex := 5, descriptorIndex := 6, attributes := #[] }, { accessFlags := 1, nameIndex := 34, descriptorIndex := 35, attributes := #[] }, { accessFlags := 1, nameIndex := 37, descriptorIndex := 38, attributes := #[] }, { accessFlags := 2, nameIndex := 21, descriptorIndex := 22, attributes := #[] }] 48 2 #[25] #[{ accessFlags := 26, nameIndex := 27, descriptorIndex := 12, attributes := #[] }, { accessFlags := 26, nameIndex := 30, descriptorIndex := 12, attributes := #[] }, { accessFlags := 2, nameIndex := 18, descriptorIndex := 12, attributes := #[] }, { accessFlags := 2, nameIndex := 11, descriptorIndex := 12, attributes := #[] }, { accessFlags := 2, nameIndex := 15, descriptorIndex := 12, attributes := #[] }])
  fields := #[{ name := "CONTINUATION_LEAST", type := .int, accessFlags := 26, slot := 0, constantValue := 0 }, { name := "CONTINUATION_GREATEST", type := .int, accessFlags := 26, slot := 1, constantValue := 0 }, { name := "needed", type := .int, accessFlags := 2, slot := 0, constantValue := 0 }, { name := "least", type := .int, accessFlags := 2, slot := 1, constantValue := 0 }, { name := "greatest", type := .int, accessFlags := 2, slot := 2, constantValue := 0 }]
  methods := #[k3m0, k3m1, k3m2, k3m3]
  instanceTypes := #[.int, .int, .int]
  staticTypes := #[.int, .int]
  resolved := Array.replicate 47 none
  statics := none }

def pool4 : Array CpInfo := pool [(1, .class_ 2), (0, u "java/lang/Math"), (1, .class_ 6), (1, u "java/lang/Object"), (0, u "<init>"), (0, u "()V"), (89, .class_ 100), (1, u "java/lang/Math$RandomNumberGeneratorHolder"), (71, u "negativeZeroFloatBits"), (0, u "J"), (2, u "negativeZeroDoubleBits"), (21, u "max"), (46, u "$assertionsDisabled"), (0, u "Z"), (88, u "(II)I"), (2, u "twoToTheDoubleScaleDown"), (0, u "D"), (4, u "twoToTheDoubleScaleUp"), (9, u "E"), (3, u "PI"), (2, u "TAU"), (2, u "DEGREES_TO_RADIANS"), (0, u "RADIANS_TO_DEGREES")] 94

def k4m0 : Method := { name := "<init>", desc := "()V", sig := { parameters := [], returnType := none }, accessFlags := 2, code := none }
def k4c1 : Code := { maxStack := 2, maxLocals := 2, code := jdk_29_method_65_code, exceptionTable := #[], attributes := #[] }
def k4m1 : Method := { name := "max", desc := "(II)I", sig := { parameters := [.int, .int], returnType := some .int }, accessFlags := 9, code := some k4c1 }
/-- java/lang/Math -/
def k4 : Class := { plain "java/lang/Math" (some 0) with
  accessFlags := 49
  interfaces := #[]
  cf := some (fileOf pool4 1 #[.nestMembers #[98]] #[{ accessFlags := 2, nameIndex := 7, descriptorIndex := 8, attributes := #[] }, { accessFlags := 9, nameIndex := 198, descriptorIndex := 335, attributes := #[] }] 49 4 #[] #[{ accessFlags := 25, nameIndex := 354, descriptorIndex := 339, attributes := #[] }, { accessFlags := 25, nameIndex := 358, descriptorIndex := 339, attributes := #[] }, { accessFlags := 25, nameIndex := 361, descriptorIndex := 339, attributes := #[] }, { accessFlags := 26, nameIndex := 364, descriptorIndex := 339, attributes := #[] }, { accessFlags := 26, nameIndex := 365, descriptorIndex := 339, attributes := #[] }, { accessFlags := 26, nameIndex := 172, descriptorIndex := 173, attributes := #[] }, { accessFlags := 26, nameIndex := 176, descriptorIndex := 173, attributes := #[] }, { accessFlags := 8, nameIndex := 344, descriptorIndex := 339, attributes := #[] }, { accessFlags := 8, nameIndex := 338, descriptorIndex := 339, attributes := #[] }, { accessFlags := 4120, nameIndex := 245, descriptorIndex := 246, attributes := #[] }])
  fields := #[{ name := "E", type := .double, accessFlags := 25, slot := 0, constantValue := 0 }, { name := "PI", type := .double, accessFlags := 25, slot := 1, constantValue := 0 }, { name := "TAU", type := .double, accessFlags := 25, slot := 2, constantValue := 0 }, { name := "DEGREES_TO_RADIANS", type := .double, accessFlags := 26, slot := 3, constantValue := 0 }, { name := "RADIANS_TO_DEGREES", type := .double, accessFlags := 26, slot := 4, constantValue := 0 }, { name := "negativeZeroFloatBits", type := .long, accessFlags := 26, slot := 5, constantValue := 0 }, { name := "negativeZeroDoubleBits", type := .long, accessFlags := 26, slot := 6, constantValue := 0 }, { name := "twoToTheDoubleScaleUp", type := .double, accessFlags := 8, slot := 7, constantValue := 0 }, { name := "twoToTheDoubleScaleDown", type := .double, accessFlags := 8, slot := 8, constantValue := 0 }, { name := "$assertionsDisabled", type := .boolean, accessFlags := 4120, slot := 9, constantValue := 0 }]
  methods := #[k4m0, k4m1]
  instanceTypes := #[]
  staticTypes := #[.double, .double, .double, .double, .double, .long, .long, .double, .double, .boolean]
  resolved := Array.replicate 460 none
  statics := none }

def pool5 : Array CpInfo := pool [(1, u "java/lang/Cloneable"), (0, .class_ 1), (0, u "java/lang/Object"), (0, .class_ 3)] 3

/-- java/lang/Cloneable -/
def k5 : Class := { plain "java/lang/Cloneable" (some 0) with
  accessFlags := 1537
  interfaces := #[]
  cf := some (fileOf pool5 2 #[] #[] 1537 4 #[] #[])
  fields := #[]
  methods := #[]
  instanceTypes := #[]
  staticTypes := #[]
  resolved := Array.replicate 8 none
  statics := none }

def pool6 : Array CpInfo := pool [(1, u "java/io/Serializable"), (0, .class_ 1), (0, u "java/lang/Object"), (0, .class_ 3)] 3

/-- java/io/Serializable -/
def k6 : Class := { plain "java/io/Serializable" (some 0) with
  accessFlags := 1537
  interfaces := #[]
  cf := some (fileOf pool6 2 #[] #[] 1537 4 #[] #[])
  fields := #[]
  methods := #[]
  instanceTypes := #[]
  staticTypes := #[]
  resolved := Array.replicate 8 none
  statics := none }

/-- the primitive byte -/
def k7 : Class := { plain "byte" none with kind := .primitive 'B', accessFlags := 0x411 }
/-- [B -/
def k8 : Class := { plain "[B" (some 0) with kind := .array 7 .byte, interfaces := #[5, 6], accessFlags := 1041 }

/-- the primitive int -/
def k9 : Class := { plain "int" none with kind := .primitive 'I', accessFlags := 0x411 }
/-- [I -/
def k10 : Class := { plain "[I" (some 0) with kind := .array 9 .int, interfaces := #[5, 6], accessFlags := 1041 }

def heap : Heap := #[]
def classes : Array Class := #[k0, k1, k2, k3, k4, k5, k6, k7, k8, k9, k10]
def interned : List (Array UInt16 × Addr) := []
def slotsUsed : Nat := 0
def theMethod : MethodId := ⟨1, 1⟩
def args0 : Array Value := #[.long 5, .int 6]
def aboutOver (below : List Frame) : State where
  vm := { classes := classes, interned := interned.toArray }
  heap := heap
  slotsUsed := slotsUsed
  threads := #[{ frames := .invoking theMethod args0 :: below }]
def below0 : List Frame := [.native { method := ⟨0, 0⟩, args := #[] }]
def about1 : State := aboutOver below0
def p0 : Program := .bare "" "" ""
def e0 : Env := launch0.env 0 0 0
theorem w_frames : about1.frames = Frame.invoking theMethod args0 :: below0 := rfl
set_option maxRecDepth 65536 in
theorem w_args : argsFit about1.vm theMethod args0 = true := by decide +kernel
set_option maxRecDepth 65536 in
theorem w_heap : heapFits about1 = true := by decide +kernel
set_option maxRecDepth 65536 in
theorem w_runnable : about1.curStatus? = some .runnable := by decide +kernel
set_option maxRecDepth 65536 in
theorem w_alone : about1.alone = true := by decide +kernel
set_option maxRecDepth 65536 in
theorem w_named : about1.methodNamed? x = some theMethod := by decide +kernel
set_option maxRecDepth 65536 in
theorem w_hears : about1.hears theMethod below0 = true := by decide +kernel
set_option maxRecDepth 65536 in
theorem w_ripe : about1.ripe theMethod args0 below0 = true := by decide +kernel
theorem w_running : about1.status = .running := rfl
set_option maxRecDepth 65536 in
theorem w_room : about1.hasRoom e0.platform room_1 = true :=
  launch0.hasRoom_least _ room_1 (by decide +kernel) (by decide +kernel) (by decide +kernel) (by decide +kernel) (by decide +kernel) (by decide +kernel)
theorem allAtoms_all (ts : List Jvm.Cond) (a : Array Jvm.Value) (st : Jvm.State) : (allAtoms ts).before a st = ts.all (fun c => c.before a st) := by
  induction ts with
  | nil => rfl
  | cons c t ih =>
    show (Jvm.Cond.and c (allAtoms t)).before a st = _
    rw [Jvm.Cond.before_and, ih, List.all_cons]
def words1 : List Jvm.Cond := Jvm.Cond.code x code maxLocals ret :: tables_1
/-- a 'code' word, met by the world's own term for the bytes: nothing is compared byte by byte -/
theorem code_word {y : MethodName} {bytes : ByteArray} {mx : Nat} {rt : Option FieldType} {a : Array Value} {s : State} {m : MethodId} {meth : Method} {c : Code} (h1 : s.methodNamed? y = some m) (h2 : s.vm.method? m = some meth) (h3 : meth.code = some c) (h4 : c.code = bytes)
    (h5 : (c.maxLocals == mx && c.exceptionTable.isEmpty && decide (c.maxStack ≤ mostOperands) && decide (meth.sig.returnType = rt) && !meth.locks && decide (parseMethodDescriptor y.desc = some meth.sig)) = true) : (Jvm.Cond.code y bytes mx rt).before a s = true := by
  simp only [Bool.and_eq_true, beq_iff_eq, Bool.not_eq_true', decide_eq_true_eq] at h5
  obtain ⟨⟨⟨⟨⟨g1, g2⟩, g3⟩, g4⟩, g5⟩, g6⟩ := h5
  simp [Cond.before, Cond.holds, Cond.value, h1, h2, h3, h4, g1, g2, g3, g4, g5, g6]
def isCode : Jvm.Cond → Bool
  | .code _ _ _ _ => true
  | _ => false
theorem all_split {L : List Jvm.Cond} {P : Jvm.Cond → Bool} (h1 : L.all (fun c => isCode c || P c) = true) (h2 : ∀ c ∈ L.filter isCode, P c = true) : L.all P = true := by
  refine List.all_eq_true.mpr fun c hc => ?_
  have h := List.all_eq_true.mp h1 c hc
  rcases Bool.eq_false_or_eq_true (isCode c) with hi | hi
  · exact h2 c (List.mem_filter.mpr ⟨hc, hi⟩)
  · simpa [hi] using h
set_option maxRecDepth 65536 in
theorem w_c0 : (Jvm.Cond.code x code maxLocals ret).before args0 about1 = true := code_word (m := ⟨1, 1⟩) (meth := k1m1) (c := k1c1) (by decide +kernel) rfl rfl rfl (by decide +kernel)
set_option maxRecDepth 65536 in
theorem w_c1 : (Jvm.Cond.code ({ cls := "com/example/mapwright/mapwright/Utf8CheckCheckPinLaw", name := "advance", desc := "([I[I)V" } : Jvm.MethodName) method_3_code (4 : Nat) (Option.none : Option Jvm.ClassFile.FieldType)).before args0 about1 = true := code_word (m := ⟨1, 2⟩) (meth := k1m2) (c := k1c2) (by decide +kernel) rfl rfl rfl (by decide +kernel)
set_option maxRecDepth 65536 in
theorem w_c2 : (Jvm.Cond.code ({ cls := "com/example/mapwright/mapwright/Utf8CheckCheckPinLaw", name := "step", desc := "([II)I" } : Jvm.MethodName) method_5_code (6 : Nat) (Option.some Jvm.ClassFile.FieldType.int)).before args0 about1 = true := code_word (m := ⟨1, 4⟩) (meth := k1m4) (c := k1c4) (by decide +kernel) rfl rfl rfl (by decide +kernel)
set_option maxRecDepth 65536 in
theorem w_c3 : (Jvm.Cond.code ({ cls := "com/example/mapwright/mapwright/Utf8Check", name := "<init>", desc := "()V" } : Jvm.MethodName) prog_31_method_1_code (1 : Nat) (Option.none : Option Jvm.ClassFile.FieldType)).before args0 about1 = true := code_word (m := ⟨3, 0⟩) (meth := k3m0) (c := k3c0) (by decide +kernel) rfl rfl rfl (by decide +kernel)
set_option maxRecDepth 65536 in
theorem w_c4 : (Jvm.Cond.code ({ cls := "java/lang/Object", name := "<init>", desc := "()V" } : Jvm.MethodName) object_method_1_code (1 : Nat) (Option.none : Option Jvm.ClassFile.FieldType)).before args0 about1 = true := code_word (m := ⟨0, 0⟩) (meth := k0m0) (c := k0c0) (by decide +kernel) rfl rfl rfl (by decide +kernel)
set_option maxRecDepth 65536 in
theorem w_c5 : (Jvm.Cond.code ({ cls := "com/example/mapwright/mapwright/Utf8Check", name := "check", desc := "([BII)I" } : Jvm.MethodName) prog_31_method_2_code (7 : Nat) (Option.some Jvm.ClassFile.FieldType.int)).before args0 about1 = true := code_word (m := ⟨3, 1⟩) (meth := k3m1) (c := k3c1) (by decide +kernel) rfl rfl rfl (by decide +kernel)
set_option maxRecDepth 65536 in
theorem w_c6 : (Jvm.Cond.code ({ cls := "com/example/mapwright/mapwright/Utf8Check", name := "complete", desc := "()Z" } : Jvm.MethodName) prog_31_method_3_code (1 : Nat) (Option.some Jvm.ClassFile.FieldType.boolean)).before args0 about1 = true := code_word (m := ⟨3, 2⟩) (meth := k3m2) (c := k3c2) (by decide +kernel) rfl rfl rfl (by decide +kernel)
set_option maxRecDepth 65536 in
theorem w_c7 : (Jvm.Cond.code ({ cls := "com/example/mapwright/mapwright/Utf8Check", name := "begin", desc := "(I)Z" } : Jvm.MethodName) prog_31_method_5_code (2 : Nat) (Option.some Jvm.ClassFile.FieldType.boolean)).before args0 about1 = true := code_word (m := ⟨3, 3⟩) (meth := k3m3) (c := k3c3) (by decide +kernel) rfl rfl rfl (by decide +kernel)
set_option maxRecDepth 65536 in
theorem w_c8 : (Jvm.Cond.code ({ cls := "java/lang/Math", name := "max", desc := "(II)I" } : Jvm.MethodName) jdk_29_method_65_code (2 : Nat) (Option.some Jvm.ClassFile.FieldType.int)).before args0 about1 = true := code_word (m := ⟨4, 1⟩) (meth := k4m1) (c := k4c1) (by decide +kernel) rfl rfl rfl (by decide +kernel)
set_option maxRecDepth 65536 in
theorem w_c9 : (Jvm.Cond.code ({ cls := "com/example/mapwright/mapwright/Utf8CheckCheckPinLaw", name := "cont", desc := "(I)Z" } : Jvm.MethodName) method_4_code (1 : Nat) (Option.some Jvm.ClassFile.FieldType.boolean)).before args0 about1 = true := code_word (m := ⟨1, 3⟩) (meth := k1m3) (c := k1c3) (by decide +kernel) rfl rfl rfl (by decide +kernel)
def codes1 : List Jvm.Cond := [Jvm.Cond.code x code maxLocals ret, Jvm.Cond.code ({ cls := "com/example/mapwright/mapwright/Utf8CheckCheckPinLaw", name := "advance", desc := "([I[I)V" } : Jvm.MethodName) method_3_code (4 : Nat) (Option.none : Option Jvm.ClassFile.FieldType), Jvm.Cond.code ({ cls := "com/example/mapwright/mapwright/Utf8CheckCheckPinLaw", name := "step", desc := "([II)I" } : Jvm.MethodName) method_5_code (6 : Nat) (Option.some Jvm.ClassFile.FieldType.int), Jvm.Cond.code ({ cls := "com/example/mapwright/mapwright/Utf8Check", name := "<init>", desc := "()V" } : Jvm.MethodName) prog_31_method_1_code (1 : Nat) (Option.none : Option Jvm.ClassFile.FieldType), Jvm.Cond.code ({ cls := "java/lang/Object", name := "<init>", desc := "()V" } : Jvm.MethodName) object_method_1_code (1 : Nat) (Option.none : Option Jvm.ClassFile.FieldType), Jvm.Cond.code ({ cls := "com/example/mapwright/mapwright/Utf8Check", name := "check", desc := "([BII)I" } : Jvm.MethodName) prog_31_method_2_code (7 : Nat) (Option.some Jvm.ClassFile.FieldType.int), Jvm.Cond.code ({ cls := "com/example/mapwright/mapwright/Utf8Check", name := "complete", desc := "()Z" } : Jvm.MethodName) prog_31_method_3_code (1 : Nat) (Option.some Jvm.ClassFile.FieldType.boolean), Jvm.Cond.code ({ cls := "com/example/mapwright/mapwright/Utf8Check", name := "begin", desc := "(I)Z" } : Jvm.MethodName) prog_31_method_5_code (2 : Nat) (Option.some Jvm.ClassFile.FieldType.boolean), Jvm.Cond.code ({ cls := "java/lang/Math", name := "max", desc := "(II)I" } : Jvm.MethodName) jdk_29_method_65_code (2 : Nat) (Option.some Jvm.ClassFile.FieldType.int), Jvm.Cond.code ({ cls := "com/example/mapwright/mapwright/Utf8CheckCheckPinLaw", name := "cont", desc := "(I)Z" } : Jvm.MethodName) method_4_code (1 : Nat) (Option.some Jvm.ClassFile.FieldType.boolean)]
set_option maxRecDepth 65536 in
theorem codes_eq : words1.filter isCode = codes1 := rfl
theorem w_codes : ∀ c ∈ words1.filter isCode, c.before args0 about1 = true := by
  rw [codes_eq]
  intro c hc
  simp only [codes1, List.mem_cons, List.not_mem_nil, or_false] at hc
  rcases hc with rfl | rfl | rfl | rfl | rfl | rfl | rfl | rfl | rfl | rfl
  · exact w_c0
  · exact w_c1
  · exact w_c2
  · exact w_c3
  · exact w_c4
  · exact w_c5
  · exact w_c6
  · exact w_c7
  · exact w_c8
  · exact w_c9
set_option maxRecDepth 65536 in
theorem w_t1 : (words1.take 24).all (fun c => isCode c || c.before args0 about1) = true := by decide +kernel
set_option maxRecDepth 65536 in
theorem w_t2 : (words1.drop 24).all (fun c => isCode c || c.before args0 about1) = true := by decide +kernel
theorem w_tables : (allAtoms (Jvm.Cond.code x code maxLocals ret :: tables_1)).before args0 about1 = true := by
  rw [allAtoms_all]
  show words1.all (fun c => c.before args0 about1) = true
  refine all_split ?_ w_codes
  rw [← List.take_append_drop 24 words1, List.all_append, w_t1, w_t2]
  rfl
set_option maxRecDepth 65536 in
theorem w_case : (Jvm.Cond.and given_1 narrow_1).before args0 about1 = true := by decide +kernel
theorem w_applies : (headSpec (Jvm.Cond.code x code maxLocals ret :: tables_1) room_1).applies x e0.platform about1 = true :=
  (Spec.applies_iff w_frames).mpr ⟨w_running, w_runnable, w_alone, w_named, w_hears, w_ripe, w_room, w_tables⟩
theorem atStart : AtStart classFile x code maxLocals ret World_1 tables_1 room_1 Calls_1 rest_1 Pre_1 launch0 p0 e0 about1 theMethod args0 below0 :=
  ⟨lists_1, trivial, launch0.admits_env _ _ _, launch0.least_env, fairChoices_fair.cas, fairChoices_fair.clock, w_frames, w_args, w_heap, w_applies, trivial, trivial, w_case⟩
end start1
theorem witness_1 : WitnessClaimed_1 := ⟨start1.p0, start1.e0, start1.about1, start1.theMethod, start1.args0, start1.below0, start1.atStart⟩
end Jvm.Pilot.@@N@@
