import JvmDerived
import JvmDerived.Pilot.@@N@@Statement
import JvmDerived.Pilot.@@N@@Code
set_option linter.unusedVariables false
set_option linter.unusedSimpArgs false

namespace Jvm.Pilot.@@N@@
open Jvm Jvm.ClassFile Sem Op Lib Jvm.Free Jvm.Stand Jvm.LawKit Jvm.RoadKit Bundle Jvm.Pilot.@@N@@.Jvm.D
section Own
variable {p : Program} {l : Launch} {e : Env} {R : Room} {s : State} {m : MethodId} {args : Array Value} {below : List Frame} {meth : Method} {c : Code} {T : State} {locs : List Loc} {cells slots : Nat} {Z : State} {h h' : Heap}
/-- the run from A comes to the method's end as Q says, with at most kc new cells and ks new slots -/
def own_E (p : Program) (e : Env) (below : List Frame) (s : State) (Q : Option Value → Heap → List Loc → Prop) (kc ks : Nat) (A : State) : Prop :=
  ∃ s₂ o, Steps p.tables e below A s₂ ∧ s₂.status = .running ∧ Ended s₂ below o ∧ ∃ v L, o = .returned v ∧ Q v s₂.heap L ∧ FrameEnd s o s₂ L kc ks
variable {Q : Option Value → Heap → List Loc → Prop} {kc ks : Nat} {A B : State}
theorem own_st (k : ∀ t, Steps p.tables e below B t → Steps p.tables e below A t) (h : own_E p e below s Q kc ks B) : own_E p e below s Q kc ks A := by
  obtain ⟨t, o, h1, h2⟩ := h
  exact ⟨t, o, k t h1, h2⟩
theorem own_end (X : Stand p l e R s m args below meth c T locs cells slots) {v : Option Value} (hv : meth.sig.returnType = none → v = none) (hlk : meth.locks = false)
    (hk : ∀ fs, (∀ (f : JFrame) (acts : List Action), f.method = m → f.locked = none → f.entered = [] → (doReturn e (T.setTop f) acts v).1 = T.setFrames fs) → Steps p.tables e below A (T.setFrames fs)) (hc : cells ≤ kc) (hs : slots ≤ ks) (hQ : Q v T.heap locs) : own_E p e below s Q kc ks A := by
  obtain ⟨fs, hr, hrun, hended, hW, hsame⟩ := X.leave (v := v) hv hlk
  exact ⟨_, _, hk fs hr, hrun, hended, _, _, rfl, hQ, ⟨_, rfl⟩, hW, hsame.mono hc hs⟩
theorem own_retN (X : Stand p l e R s m args below meth c T locs cells slots) (hx : p.tables.exec = Jvm.exec) {pc : Nat} {Ls : Array Slot} {z z' : Int32} {t : FieldType} {rest : List Value} (hret : meth.sig.returnType = some t) (ht : t = .boolean ∨ t = .byte ∨ t = .char ∨ t = .short) (hlk : meth.locks = false)
    (hd : decode c.code pc = .ok (.ireturn, 1)) (hz : nar t z = z') (hc : cells ≤ kc) (hs : slots ≤ ks) (hQ : Q (some (.int z')) T.heap locs) : own_E p e below s Q kc ks (T.setTop (mkF m pc Ls (.int z :: rest))) := by
  subst hz
  exact own_end X (fun q => by rw [hret] at q; cases q) hlk (fun fs hr => retN X hx hret ht hd hr) hc hs hQ
theorem own_retI (X : Stand p l e R s m args below meth c T locs cells slots) (hx : p.tables.exec = Jvm.exec) {pc : Nat} {Ls : Array Slot} {z : Int32} {rest : List Value} (hret : meth.sig.returnType = some .int) (hlk : meth.locks = false)
    (hd : decode c.code pc = .ok (.ireturn, 1)) (hc : cells ≤ kc) (hs : slots ≤ ks) (hQ : Q (some (.int z)) T.heap locs) : own_E p e below s Q kc ks (T.setTop (mkF m pc Ls (.int z :: rest))) := by
  refine own_end X (fun q => by rw [hret] at q; cases q) hlk (fun fs hr => ?_) hc hs hQ
  have hm' : T.vm.method? m = some meth := X.method'
  have hn : narrow .int (.int z) = .int z := rfl
  show Steps p.tables e below (T.setTop { method := m, pc := pc, locals := Ls, stack := _ :: rest, locked := none }) _
  jvm_step X.here [X.here.top, hx, hd, hm', hret, hn]
  first | (intro acts; rw [hr _ acts rfl rfl rfl]) | rw [hr _ _ rfl rfl rfl]
  exact Steps.refl _
theorem own_retJ (X : Stand p l e R s m args below meth c T locs cells slots) (hx : p.tables.exec = Jvm.exec) {pc : Nat} {Ls : Array Slot} {z : Int64} (hret : meth.sig.returnType = some .long) (hlk : meth.locks = false)
    (hd : decode c.code pc = .ok (.lreturn, 1)) (hc : cells ≤ kc) (hs : slots ≤ ks) (hQ : Q (some (.long z)) T.heap locs) : own_E p e below s Q kc ks (T.setTop (mkF m pc Ls [.long z])) :=
  own_end X (fun q => by rw [hret] at q; cases q) hlk (fun fs hr => X.lreturnOut hx hret hd hr) hc hs hQ
theorem own_retR (X : Stand p l e R s m args below meth c T locs cells slots) (hx : p.tables.exec = Jvm.exec) {pc : Nat} {Ls : Array Slot} {w : Value} {t : FieldType} (hw : w.isRef = true) (hret : meth.sig.returnType = some t) (ht : t.isReference = true) (hlk : meth.locks = false)
    (hd : decode c.code pc = .ok (.areturn, 1)) (hc : cells ≤ kc) (hs : slots ≤ ks) (hQ : Q (some w) T.heap locs) : own_E p e below s Q kc ks (T.setTop (mkF m pc Ls [w])) :=
  own_end X (fun q => by rw [hret] at q; cases q) hlk (fun fs hr => X.areturnOut hx hw hret ht hd hr) hc hs hQ
theorem own_retV (X : Stand p l e R s m args below meth c T locs cells slots) (hx : p.tables.exec = Jvm.exec) {pc : Nat} {Ls : Array Slot} (hret : meth.sig.returnType = none) (hlk : meth.locks = false)
    (hd : decode c.code pc = .ok (.return_, 1)) (hc : cells ≤ kc) (hs : slots ≤ ks) (hQ : Q none T.heap locs) : own_E p e below s Q kc ks (T.setTop (mkF m pc Ls [])) :=
  own_end X (fun _ => rfl) hlk (fun fs hr => X.returnOut hx hret hd hr) hc hs hQ
/-- a boolean as the machine holds it -/
def own_b (b : Bool) : Int32 := if b then 1 else 0
theorem own_b1 {P : Prop} [Decidable P] (h : P) : own_b (decide P) = 1 := by simp [own_b, h]
theorem own_bz {P : Prop} [Decidable P] (h : ¬ P) : own_b (decide P) = 0 := by simp [own_b, h]
theorem own_lt32 {x y : Int32} (h : x < y) : x.toInt < y.toInt := Int32.lt_iff_toInt_lt.mp h
theorem own_nlt32 {x y : Int32} (h : ¬ x < y) : ¬ x.toInt < y.toInt := fun q => h (Int32.lt_iff_toInt_lt.mpr q)
theorem own_eq32 {x y : Int32} (h : x = y) : x.toInt = y.toInt := congrArg _ h
theorem own_neq32 {x y : Int32} (h : ¬ x = y) : ¬ x.toInt = y.toInt := fun q => h (Int32.toInt_inj.mp q)
theorem own_lt64 {x y : Int64} (h : x < y) : x.toInt < y.toInt := Int64.lt_iff_toInt_lt.mp h
theorem own_nlt64 {x y : Int64} (h : ¬ x < y) : ¬ x.toInt < y.toInt := fun q => h (Int64.lt_iff_toInt_lt.mpr q)
theorem own_eq64 {x y : Int64} (h : x = y) : x.toInt = y.toInt := congrArg _ h
theorem own_neq64 {x y : Int64} (h : ¬ x = y) : ¬ x.toInt = y.toInt := fun q => h (Int64.toInt_inj.mp q)
theorem own_b0 {b : Bool} : own_b b = 0 ↔ b = false := by cases b <;> decide
theorem own_nb (b : Bool) : nar .boolean (own_b b) = own_b b := by cases b <;> rfl
theorem own_nbb (x : Int32) : nar .byte (x.toInt8.toInt32) = x.toInt8.toInt32 := by
  show x.toInt8.toInt32.toInt8.toInt32 = x.toInt8.toInt32
  rw [Int8.toInt8_toInt32]
theorem own_stV {l : Array Slot} {i : Nat} {v : Value} {o : Slot} (hold : l[i]? = some o) (ho : o = .unset ∨ ∃ w, o = .val w ∧ w.category = 1) (hv : v.category = 1) : storeLocals l i v = some (l.setIfInBounds i (.val v)) := XS.store1 hold ho hv
theorem own_narV {ty : FieldType} {v : Value} (hv : v.isRef = true) : narrow ty v = v := by
  rcases ref_cases hv with rfl | ⟨a, rfl⟩ <;> cases ty <;> rfl
theorem own_fitV {ty : FieldType} {v : Value} (ht : ty.isReference = true) (hv : v.isRef = true) : fits ty v = true := by
  rcases ref_cases hv with rfl | ⟨a, rfl⟩ <;> cases ty <;> first | rfl | (cases ht; done)
/-- an array of n places, whose place j holds f j -/
def own_A (Z : State) (h : Heap) (a : Addr) (ty : FieldType) (n : Nat) (f : Nat → Int32) : Prop := ∃ c : Cell, Arr Z h a c ty ∧ c.slots.size = n ∧ n < 2 ^ 31 ∧ (∀ j, j < n → c.slots[j]? = some (.int (f j))) ∧ ∀ j, j < n → fits ty (.int (f j)) = true
def own_up (f : Nat → Int32) (i : Nat) (v : Int32) (k : Nat) : Int32 := if k = i then v else f k
theorem own_up_same (f : Nat → Int32) (i : Nat) (v : Int32) : own_up f i v i = v := if_pos rfl
theorem own_up_ne (f : Nat → Int32) {i k : Nat} (v : Int32) (h : ¬ k = i) : own_up f i v k = f k := if_neg h
theorem own_catV {v : Value} (h : v.isRef = true) : v.category = 1 := by rcases ref_cases h with rfl | ⟨a, rfl⟩ <;> rfl
abbrev own_ix (j : Int32) (i : Nat) : Prop := ¬ j < 0 ∧ j.toNatClampNeg = i
variable {a b : Addr} {ty : FieldType} {n i : Nat} {f : Nat → Int32} {j x : Int32} {pc : Nat} {Ls : Array Slot} {rest : List Value} {sl : Nat} {v : Value} {ws : List Addr}
theorem own_A.lt (F : own_A Z h a ty n f) : a < h.size := by obtain ⟨c, A, -⟩ := F; exact A.lt
theorem own_A.ext (F : own_A Z h a ty n f) (E : Ext h h') : own_A Z h' a ty n f := by obtain ⟨c, A, r⟩ := F; exact ⟨c, A.ext E, r⟩
theorem own_A.other (F : own_A Z h b ty n f) (W : Wr h h' a sl v) (q : b ≠ a) : own_A Z h' b ty n f := by obtain ⟨c, A, r⟩ := F; exact ⟨c, A.other W q, r⟩
theorem own_A.keep (F : own_A Z h a ty n f) (K : Keep h h' ws) (q : a ∉ ws) : own_A Z h' a ty n f := by obtain ⟨c, A, r⟩ := F; exact ⟨c, ⟨K.2.1 a c A.1 q, A.2⟩, r⟩
theorem own_A.congr {g : Nat → Int32} (F : own_A Z h a ty n f) (q : ∀ j, j < n → f j = g j) : own_A Z h a ty n g := by obtain ⟨c, A, r1, r2, r3, r4⟩ := F; exact ⟨c, A, r1, r2, fun j hj => by rw [← q j hj]; exact r3 j hj, fun j hj => by rw [← q j hj]; exact r4 j hj⟩
theorem own_A.new {k : ClassId} {z : Int32} (A : Arr Z h a (newA k ty z) ty) (q : ¬ z < 0) (hz : z.toNatClampNeg = n) (hd : defaultValue ty = .int 0 := by rfl) : own_A Z h a ty n (fun _ => 0) := by
  subst hz
  exact ⟨_, A, sz_new _ _ _, (back32 q).2, fun j hj => by simp [newA, hj, hd], fun j hj => by rw [← hd]; cases ty <;> rfl⟩
theorem own_A.set (F : own_A Z h a ty n f) (hj : own_ix j i) (W : Wr h h' a j.toNatClampNeg (.int x)) (hf : fits ty (.int x) = true) : own_A Z h' a ty n (own_up f i x) := by
  obtain ⟨c, A, r1, r2, r3, r4⟩ := F
  obtain ⟨hj1, rfl⟩ := hj
  refine ⟨_, A.same W, by rw [sz_set]; exact r1, r2, fun k hk => ?_, fun k hk => ?_⟩ <;> by_cases q : k = j.toNatClampNeg
  · subst q; simp [Cell.setSlot, own_up, r1, hk]
  · simp only [Cell.setSlot, own_up, if_neg q]; rw [Array.getElem?_setIfInBounds_ne (Ne.symm q)]; exact r3 k hk
  · simp only [own_up, if_pos q]; exact hf
  · simp only [own_up, if_neg q]; exact r4 k hk
theorem own_in (hj : own_ix j i) (hi : i < n) {c : Cell} (hc : c.slots.size = n) : ¬ (j < 0 ∨ c.slots.size ≤ j.toNatClampNeg) := by
  rintro (q | q)
  · exact hj.1 q
  · rw [hj.2, hc] at q; omega
theorem own_stB (X : Stand p l e R s m args below meth c T locs cells slots) (hx : p.tables.exec = Jvm.exec) (hZ : Z.Warmed39 s.vm) (eT : T.heap = h) (A : own_A Z h a .byte n f) (hj : own_ix j i) (hi : i < n) (hd : decode c.code pc = .ok (.bastore, 1)) :
    ∃ T' h', Stand p l e R s m args below meth c T' (locs ++ [⟨a, j.toNatClampNeg⟩]) cells slots ∧ T'.heap = h' ∧ Wr h h' a j.toNatClampNeg (.int (nar .byte x)) ∧ own_A Z h' a .byte n (own_up f i (nar .byte x)) ∧ ∀ t, Steps p.tables e below (T'.setTop (mkF m (pc + 1) Ls rest)) t → Steps p.tables e below (T.setTop (mkF m pc Ls (.int x :: .int j :: .ref a :: rest))) t := by
  have A0 := A
  obtain ⟨cl, A1, r1, r2, r3, r4⟩ := A
  obtain ⟨T', h', X', e', W, st⟩ := stB X hx hZ eT A1 (j := j) (x := x) (own_in hj hi r1) (g := mkF m pc Ls (.int x :: .int j :: .ref a :: rest)) rfl rfl hd
  exact ⟨T', h', X', e', W, A0.set hj W (fits_nar_byte x), st⟩
theorem own_stI (X : Stand p l e R s m args below meth c T locs cells slots) (hx : p.tables.exec = Jvm.exec) (hZ : Z.Warmed39 s.vm) (eT : T.heap = h) (A : own_A Z h a .int n f) (hj : own_ix j i) (hi : i < n) (hd : decode c.code pc = .ok (.iastore, 1)) :
    ∃ T' h', Stand p l e R s m args below meth c T' (locs ++ [⟨a, j.toNatClampNeg⟩]) cells slots ∧ T'.heap = h' ∧ Wr h h' a j.toNatClampNeg (.int x) ∧ own_A Z h' a .int n (own_up f i x) ∧ ∀ t, Steps p.tables e below (T'.setTop (mkF m (pc + 1) Ls rest)) t → Steps p.tables e below (T.setTop (mkF m pc Ls (.int x :: .int j :: .ref a :: rest))) t := by
  have A0 := A
  obtain ⟨cl, A1, r1, r2, r3, r4⟩ := A
  obtain ⟨T', h', X', e', W, st⟩ := stI X hx hZ eT A1 (j := j) (x := x) (own_in hj hi r1) (g := mkF m pc Ls (.int x :: .int j :: .ref a :: rest)) rfl rfl hd
  exact ⟨T', h', X', e', W, A0.set hj W rfl, st⟩
theorem own_ldB (X : Stand p l e R s m args below meth c T locs cells slots) (hx : p.tables.exec = Jvm.exec) (hZ : Z.Warmed39 s.vm) (eT : T.heap = h) (A : own_A Z h a .byte n f) (hj : own_ix j i) (hi : i < n) (hd : decode c.code pc = .ok (.baload, 1)) (t : State)
    (k : Steps p.tables e below (T.setTop (mkF m (pc + 1) Ls (.int (f i) :: rest))) t) : Steps p.tables e below (T.setTop (mkF m pc Ls (.int j :: .ref a :: rest))) t := by
  obtain ⟨cl, A1, r1, r2, r3, r4⟩ := A
  exact X.baloadBytes hx (j := j) (v := .int (f i)) (by rw [eT]; exact A1.1) (State.isArrayOf_alike hZ.alike A1.2.1) A1.2.2 (own_in hj hi r1) (by rw [hj.2]; exact r3 i hi) (g := mkF m pc Ls (.int j :: .ref a :: rest)) rfl rfl hd t k
theorem own_ldI (X : Stand p l e R s m args below meth c T locs cells slots) (hx : p.tables.exec = Jvm.exec) (hZ : Z.Warmed39 s.vm) (eT : T.heap = h) (A : own_A Z h a .int n f) (hj : own_ix j i) (hi : i < n) (hd : decode c.code pc = .ok (.iaload, 1)) (t : State)
    (k : Steps p.tables e below (T.setTop (mkF m (pc + 1) Ls (.int (f i) :: rest))) t) : Steps p.tables e below (T.setTop (mkF m pc Ls (.int j :: .ref a :: rest))) t := by
  obtain ⟨cl, A1, r1, r2, r3, r4⟩ := A
  exact X.iaload hx (j := j) (v := .int (f i)) (by rw [eT]; exact A1.1) (State.isArrayOf_alike hZ.alike A1.2.1) A1.2.2 (own_in hj hi r1) (by rw [hj.2]; exact r3 i hi) (g := mkF m pc Ls (.int j :: .ref a :: rest)) rfl rfl hd t k
theorem own_len {z : Int32} (X : Stand p l e R s m args below meth c T locs cells slots) (hx : p.tables.exec = Jvm.exec) (hZ : Z.Warmed39 s.vm) (eT : T.heap = h) (A : own_A Z h a ty n f) (hz : n.toInt32 = z) (hd : decode c.code pc = .ok (.arraylength, 1)) (t : State)
    (k : Steps p.tables e below (T.setTop (mkF m (pc + 1) Ls (.int z :: rest))) t) : Steps p.tables e below (T.setTop (mkF m pc Ls (.ref a :: rest))) t := by
  obtain ⟨cl, A1, r1, r2, r3, r4⟩ := A
  subst hz
  refine X.arraylength hx (by rw [eT]; exact A1.1) (State.isArrayOf_alike hZ.alike A1.2.1) (g := mkF m pc Ls (.ref a :: rest)) rfl rfl hd t ?_
  rw [r1]; exact k
theorem own_clone (X : Stand p l e R s m args below meth c T locs cells slots) (hx : p.tables.exec = Jvm.exec) (hZ : Z.Warmed39 s.vm) {a0 : Array Value} {own ad : String} {index : Nat} (hown : s.vm.findClass own = some m.cls)
    (w1 : (Cond.methodLink own index ⟨ad, "clone", "()Ljava/lang/Object;"⟩).before a0 Z = true) (w2 : (Cond.sameMethod ad "java/lang/Object" "clone" "()Ljava/lang/Object;").before a0 Z = true) (w3 : (Cond.native ⟨"java/lang/Object", "clone", "()Ljava/lang/Object;"⟩).before a0 Z = true)
    (w4 : (Cond.instanceMethod ⟨"java/lang/Object", "clone", "()Ljava/lang/Object;"⟩).before a0 Z = true) (w5 : (Cond.selects ad ⟨ad, "clone", "()Ljava/lang/Object;"⟩ ⟨"java/lang/Object", "clone", "()Ljava/lang/Object;"⟩).before a0 Z = true) (w6 : (Cond.castable ad "java/lang/Cloneable").before a0 Z = true)
    (eT : T.heap = h) (A : own_A Z h a ty n f) (E : Exa Z h a ad) (hsize : Ls.size = c.maxLocals) (hd : decode c.code pc = .ok (.invokevirtual index, 3))
    (hf : 1 ≤ R.frames) {W cap : Nat} (hW : 2 * 0 + (rest.map fun v => v.category).sum ≤ W) (hl : W + 14 ≤ R.locals) (hcap : n ≤ cap) (hc : cells + 1 ≤ R.cells) (hsl : slots + cap ≤ R.slots) :
    ∃ T' h', Stand p l e R s m args below meth c T' locs (cells + 1) (slots + cap) ∧ T'.heap = h' ∧ Ext h h' ∧ own_A Z h' h.size ty n f ∧ Exa Z h' h.size ad ∧
      ∀ t, Steps p.tables e below (T'.setTop (mkF m (pc + 3) Ls (.ref h.size :: rest))) t → Steps p.tables e below (T.setTop (mkF m pc Ls (.ref a :: rest))) t := by
  obtain ⟨cl, A1, r1, r2, r3, r4⟩ := A
  have FC : FitC Z cl := fitC_of A1 fun i hi v hv => by rw [r1] at hi; rw [r3 i hi] at hv; cases hv; exact r4 i hi
  obtain ⟨T', h', X', e', ex, A', E', st⟩ := cloneA X hx hZ hown w1 w2 w3 w4 w5 w6 eT A1 E FC (g := mkF m pc Ls (.ref a :: rest)) rfl hsize rfl hd hf hW hl (by rw [r1]; exact hcap) hc hsl
  exact ⟨T', h', X', e', ex, ⟨cloneOf cl, A', r1, r2, r3, r4⟩, E', st⟩
theorem own_selP {s : State} {args : Array Value} {y : MethodName} {n : Nat} (hin : (Cond.instantiable y.cls n).before args s = true) (hpriv : s.PrivateAt y) (hinst : (Cond.instanceMethod y).before args s = true) (hy : y.cls ≠ "java/lang/invoke/MethodHandle" ∧ y.cls ≠ "java/lang/invoke/VarHandle") : (Cond.selects y.cls y y).before args s = true := by
  obtain ⟨c, k, h1, h2, -, h4, -⟩ := Cond.instantiable_spec hin
  exact selects_self_of_private h1 h2 (Bool.or_eq_false_iff.mp h4).1 hpriv hinst hy
theorem own_ixa (h : own_ix j i) (k : Nat) (hi : i + k < 2 ^ 31) : own_ix (j + Int32.ofNat k) (i + k) := by
  obtain ⟨h1, h2⟩ := h
  have e0 : (0 : Int32).toInt = 0 := rfl
  have e1 : (Int32.ofNat k).toInt = k := Int32.toInt_ofNat_of_lt (by omega)
  rw [Int32.lt_iff_toInt_lt, e0] at h1
  simp only [Int32.toNatClampNeg] at h2
  have h3 := c_iadd j (Int32.ofNat k); have h4 := rng32 (j + Int32.ofNat k)
  rw [e1] at h3
  refine ⟨by rw [Int32.lt_iff_toInt_lt, e0]; omega, ?_⟩
  simp only [Int32.toNatClampNeg]; omega
theorem own_ixI (h : own_ix j i) : j.toInt = i := by
  obtain ⟨h1, h2⟩ := h
  have e0 : (0 : Int32).toInt = 0 := rfl
  rw [Int32.lt_iff_toInt_lt, e0] at h1
  simp only [Int32.toNatClampNeg] at h2; omega
theorem own_ixof (h : j.toInt = i) : own_ix j i := by
  have e0 : (0 : Int32).toInt = 0 := rfl
  refine ⟨by rw [Int32.lt_iff_toInt_lt, e0]; omega, ?_⟩
  simp only [Int32.toNatClampNeg]; omega
theorem own_ixs (h : ¬ j < 0) : own_ix j j.toNatClampNeg := ⟨h, rfl⟩
theorem own_and3 (x : Int32) (k : Nat) (hk : k < 2 ^ 31) : ¬ (x &&& Int32.ofNat k) < 0 ∧ (x &&& Int32.ofNat k).toNatClampNeg ≤ k := by
  have h0 : 0 ≤ (Int32.ofNat k).toInt := by rw [Int32.toInt_ofNat_of_lt hk]; omega
  have h1 := (c_andS x (Int32.ofNat k)).2.2 h0
  have e0 : (0 : Int32).toInt = 0 := rfl
  refine ⟨by rw [Int32.lt_iff_toInt_lt, e0]; omega, ?_⟩
  have hb : (x &&& Int32.ofNat k).toBitVec.toNat ≤ k := by
    have : (x &&& Int32.ofNat k).toBitVec.toNat = x.toBitVec.toNat &&& (Int32.ofNat k).toBitVec.toNat := by rw [Int32.toBitVec_and, BitVec.toNat_and]
    rw [this]
    refine Nat.le_trans Nat.and_le_right ?_
    show (BitVec.ofNat 32 k).toNat ≤ k
    rw [BitVec.toNat_ofNat]; exact Nat.mod_le _ _
  have e : (x &&& Int32.ofNat k).toInt = ((x &&& Int32.ofNat k).toBitVec.toNat : Int) := by
    show (x &&& Int32.ofNat k).toBitVec.toInt = _
    rw [BitVec.toInt_eq_toNat_cond]; split
    · rfl
    · omega
  simp only [Int32.toNatClampNeg, e]; omega
end Own

def own_rd (a b : Int32) : Bool := decide (¬ 256 < a ∧ ¬ 254 < b)
theorem own_rd_eq (a b : Int32) : own_b (own_rd a b) = if a < 257 then (if b < 255 then 1 else 0) else 0 := by
  have e1 : a < 257 ↔ ¬ 256 < a := by
    rw [Int32.lt_iff_toInt_lt, Int32.lt_iff_toInt_lt, show (257 : Int32).toInt = 257 from rfl, show (256 : Int32).toInt = 256 from rfl]; omega
  have e2 : b < 255 ↔ ¬ 254 < b := by
    rw [Int32.lt_iff_toInt_lt, Int32.lt_iff_toInt_lt, show (255 : Int32).toInt = 255 from rfl, show (254 : Int32).toInt = 254 from rfl]; omega
  rw [own_rd]
  by_cases h1 : (256 : Int32) < a <;> by_cases h2 : (254 : Int32) < b <;> simp [e1, e2, h1, h2, own_b]
theorem own_b2_d0 : decode jdk_30_method_1_code 0 = .ok (.aload_n 0, 1) := by decide +kernel
theorem own_b2_d1 : decode jdk_30_method_1_code 1 = .ok (.invokespecial 1, 3) := by decide +kernel
theorem own_b2_d4 : decode jdk_30_method_1_code 4 = .ok (.return_, 1) := by decide +kernel
theorem own_pn0 : plainName "java/lang/Record" = true := by first | (simp [plainName, overriddenIn]; done) | decide +kernel
theorem own_ef_rm2 (m : MethodId) (x0 : Addr) : entryFrame m #[(.ref x0)] 1 = mkF m 0 #[.val (.ref x0)] [] := by first | (simp [entryFrame, mkF, argsToLocals, Value.category]; done) | rfl
def Q2 (Z : State) (a : Addr) (h0 : Heap) (n0 : Nat) (v : Option Value) (h : Heap) (L : List Loc) : Prop := v = none ∧ Fr n0 L ∧ h = h0
set_option maxRecDepth 65536 in
set_option maxHeartbeats 40000000 in
theorem rm2 (l : Launch) (Z : State) (a0 : Array Value) (hw : ∀ d ∈ tables_1, d.before a0 Z = true) (ws : List Jvm.Cond) (a : Addr) (h0 : Heap) (n0 : Nat) (Z0 : n0 ≤ h0.size) :
    MetFree l (⟨"java/lang/Record", "<init>", "()V"⟩ : MethodName) (head1 (Jvm.Cond.code (⟨"java/lang/Record", "<init>", "()V"⟩ : MethodName) jdk_30_method_1_code 1 none :: ws) ({ frames := 1, cells := 0, slots := 0, locals := 12 } : Room)) (fun aa_ U_ => aa_ = #[(.ref a)] ∧ Z.Warmed39 U_.vm ∧ U_.heap = h0) (fun _ _ _ _ _ => True) (fun _ U_ o_ U1_ => ∃ v_ L_, o_ = .returned v_ ∧ Q2 Z a h0 n0 v_ U1_.heap L_ ∧ FrameEnd U_ o_ U1_ L_ ({ frames := 1, cells := 0, slots := 0, locals := 12 } : Room).cells ({ frames := 1, cells := 0, slots := 0, locals := 12 } : Room).slots) := by
  refine MetFree.of_bodySF (plainFor_of_name own_pn0) hisR ?_
  intro p e s m args below meth c s₁ Bd hml0 hP hK
  obtain ⟨rfl, hZ, hh⟩ := hP
  have hx := Bd.exec
  have hby := Bd.bytes
  have hlk := Bd.notSynchronized
  have hml : c.maxLocals = 1 := hml0
  have hown : s.vm.findClass "java/lang/Record" = some m.cls := findClass_of_methodNamed Bd.named
  have hnm := (name_of_methodNamed Bd.named Bd.method).1
  have X0 : Stand p l e ({ frames := 1, cells := 0, slots := 0, locals := 12 } : Room) s m #[(.ref a)] below meth c s₁ [] 0 0 := Stand.of_body Bd
  have e0 : s₁.heap = h0 := by rw [← hh, Bd.state]; rfl
  have N0 := Fr.nil n0
  show own_E p e below s (Q2 Z a h0 n0) ({ frames := 1, cells := 0, slots := 0, locals := 12 } : Room).cells ({ frames := 1, cells := 0, slots := 0, locals := 12 } : Room).slots (s₁.setTop (entryFrame m #[(.ref a)] 1))
  refine own_st (B := s₁.setTop (mkF m 0 #[.val (.ref a)] [])) (fun t_ k_ => castTop (own_ef_rm2 m a) k_) ?_
  refine own_st (B := s₁.setTop (mkF m 1 #[.val (.ref a)] [(.ref a)])) (fun t_ k_ => XS.aloadN X0.here hx rfl (hb hby own_b2_d0) rfl rfl k_) ?_
  obtain ⟨T1, X1, e1, st1⟩ := initO X0 hx hZ hown (hw _ (List.mem_of_getElem? (i := 11) rfl)) (hw _ (List.mem_of_getElem? (i := 12) rfl)) (hw _ (List.mem_of_getElem? (i := 13) rfl)) e0 (g := (mkF m 1 #[.val (.ref a)] [(.ref a)])) rfl (by rw [hml]; rfl) rfl (hb hby own_b2_d1) (by decide) (W := 0) (by show 2 * 0 + _ ≤ _; exact Nat.le_of_eq rfl) (by decide)
  refine own_st (B := T1.setTop (mkF m 4 #[.val (.ref a)] [])) st1 ?_
  refine own_retV X1 hx Bd.returns hlk (hb hby own_b2_d4) (by decide) (by decide) ?_
  show Q2 Z a h0 n0 _ T1.heap _
  rw [e1]
  exact ⟨rfl, N0, rfl⟩
theorem own_pd0 : parseMethodDescriptor "()V" = some ⟨[], none⟩ := by decide +kernel
theorem own_b1_d0 : decode prog_57_method_1_code 0 = .ok (.aload_n 0, 1) := by decide +kernel
theorem own_b1_d1 : decode prog_57_method_1_code 1 = .ok (.invokespecial 1, 3) := by decide +kernel
theorem own_b1_d4 : decode prog_57_method_1_code 4 = .ok (.aload_n 0, 1) := by decide +kernel
theorem own_b1_d5 : decode prog_57_method_1_code 5 = .ok (.iload_n 1, 1) := by decide +kernel
theorem own_b1_d6 : decode prog_57_method_1_code 6 = .ok (.putfield 7, 3) := by decide +kernel
theorem own_b1_d9 : decode prog_57_method_1_code 9 = .ok (.aload_n 0, 1) := by decide +kernel
theorem own_b1_d10 : decode prog_57_method_1_code 10 = .ok (.iload_n 2, 1) := by decide +kernel
theorem own_b1_d11 : decode prog_57_method_1_code 11 = .ok (.putfield 13, 3) := by decide +kernel
theorem own_b1_d14 : decode prog_57_method_1_code 14 = .ok (.return_, 1) := by decide +kernel
theorem own_pn1 : plainName "com/example/cardprobe/cardprobe/procedure/RecordFile" = true := by first | (simp [plainName, overriddenIn]; done) | decide +kernel
theorem own_ef_rm1 (m : MethodId) (x0 : Addr) (x1 : Int32) (x2 : Int32) : entryFrame m #[(.ref x0), (.int x1), (.int x2)] 3 = mkF m 0 #[.val (.ref x0), .val (.int x1), .val (.int x2)] [] := by first | (simp [entryFrame, mkF, argsToLocals, Value.category]; done) | rfl
def Q1 (Z : State) (a : Addr) (k : Int32) (t : Int32) (h0 : Heap) (n0 : Nat) (v : Option Value) (h : Heap) (L : List Loc) : Prop := v = none ∧ Fr n0 L ∧ Keep h0 h [a] ∧ Fld Z h a "com/example/cardprobe/cardprobe/procedure/RecordFile" "recordLength" "I" (.int k) ∧ Fld Z h a "com/example/cardprobe/cardprobe/procedure/RecordFile" "recordCount" "I" (.int t)
set_option maxRecDepth 65536 in
set_option maxHeartbeats 40000000 in
theorem rm1 (l : Launch) (Z : State) (a0 : Array Value) (hw : ∀ d ∈ tables_1, d.before a0 Z = true) (ws : List Jvm.Cond) (a : Addr) (k : Int32) (t : Int32) (h0 : Heap) (n0 : Nat) (Z0 : n0 ≤ h0.size) (E : Exa Z h0 a "com/example/cardprobe/cardprobe/procedure/RecordFile") (F1 : Fld Z h0 a "com/example/cardprobe/cardprobe/procedure/RecordFile" "recordLength" "I" (.int (0 : Int32))) (F2 : Fld Z h0 a "com/example/cardprobe/cardprobe/procedure/RecordFile" "recordCount" "I" (.int (0 : Int32))) (ga : n0 ≤ a) :
    MetFree l (⟨"com/example/cardprobe/cardprobe/procedure/RecordFile", "<init>", "(II)V"⟩ : MethodName) (head1 (Jvm.Cond.code (⟨"com/example/cardprobe/cardprobe/procedure/RecordFile", "<init>", "(II)V"⟩ : MethodName) prog_57_method_1_code 3 none :: ws) ({ frames := 2, cells := 0, slots := 0, locals := 24 } : Room)) (fun aa_ U_ => aa_ = #[(.ref a), (.int k), (.int t)] ∧ Z.Warmed39 U_.vm ∧ U_.heap = h0) (fun _ _ _ _ _ => True) (fun _ U_ o_ U1_ => ∃ v_ L_, o_ = .returned v_ ∧ Q1 Z a k t h0 n0 v_ U1_.heap L_ ∧ FrameEnd U_ o_ U1_ L_ ({ frames := 2, cells := 0, slots := 0, locals := 24 } : Room).cells ({ frames := 2, cells := 0, slots := 0, locals := 24 } : Room).slots) := by
  refine MetFree.of_bodySF (plainFor_of_name own_pn1) hisR ?_
  intro p e s m args below meth c s₁ Bd hml0 hP hK
  obtain ⟨rfl, hZ, hh⟩ := hP
  have hx := Bd.exec
  have hby := Bd.bytes
  have hlk := Bd.notSynchronized
  have hml : c.maxLocals = 3 := hml0
  have hown : s.vm.findClass "com/example/cardprobe/cardprobe/procedure/RecordFile" = some m.cls := findClass_of_methodNamed Bd.named
  have hnm := (name_of_methodNamed Bd.named Bd.method).1
  have X0 : Stand p l e ({ frames := 2, cells := 0, slots := 0, locals := 24 } : Room) s m #[(.ref a), (.int k), (.int t)] below meth c s₁ [] 0 0 := Stand.of_body Bd
  have e0 : s₁.heap = h0 := by rw [← hh, Bd.state]; rfl
  have N0 := Fr.nil n0
  show own_E p e below s (Q1 Z a k t h0 n0) ({ frames := 2, cells := 0, slots := 0, locals := 24 } : Room).cells ({ frames := 2, cells := 0, slots := 0, locals := 24 } : Room).slots (s₁.setTop (entryFrame m #[(.ref a), (.int k), (.int t)] 3))
  refine own_st (B := s₁.setTop (mkF m 0 #[.val (.ref a), .val (.int k), .val (.int t)] [])) (fun t_ k_ => castTop (own_ef_rm1 m a k t) k_) ?_
  have K0 : Keep h0 h0 [a] := Keep.refl _ _
  refine own_st (B := s₁.setTop (mkF m 1 #[.val (.ref a), .val (.int k), .val (.int t)] [(.ref a)])) (fun t_ k_ => XS.aloadN X0.here hx rfl (hb hby own_b1_d0) rfl rfl k_) ?_
  obtain ⟨_, _, ⟨T1, L1, k1, n1⟩, -, X1, ⟨Lc1, hQ1, l1, y1, z1⟩, st1⟩ := X0.specialBack hx (y := (⟨"java/lang/Record", "<init>", "()V"⟩ : MethodName)) rfl hown (mvT hZ (hw _ (List.mem_of_getElem? (i := 6) rfl))) (mvT hZ (hw _ (List.mem_of_getElem? (i := 7) rfl))) (mvT hZ (hw _ (List.mem_of_getElem? (i := 10) rfl))) (by decide) (backOf (W := 0) (rm2 l Z a0 hw [] a h0 n0 Z0 ) hZ (hw _ (List.mem_of_getElem? (i := 10) rfl)) (hw _ (List.mem_of_getElem? (i := 9) rfl)) (by decide) (by decide)) (g := (mkF m 1 #[.val (.ref a), .val (.int k), .val (.int t)] [(.ref a)])) rfl (by rw [hml]; rfl) (Steps.refl _) (a := a) (argsL := []) (rest := []) (lenOf own_pd0 rfl) rfl (by show 2 * 0 + _ ≤ _; exact Nat.le_of_eq rfl) (hb hby own_b1_d1) (fun _ _ => ⟨rfl, e0, (by decide : 0 + 0 ≤ _), (by decide : 0 + 0 ≤ _)⟩)
  dsimp only [Pt.U, Pt.locs, Pt.cells, Pt.slots] at X1 l1 y1 z1 st1 hQ1
  subst l1 y1 z1
  obtain ⟨rfl, N1q, eh1⟩ := hQ1
  have N1 := Fr.app N0 N1q
  refine own_st (B := T1.setTop (mkF m 4 #[.val (.ref a), .val (.int k), .val (.int t)] [])) (fun t_ k_ => st1.trans k_) ?_
  refine own_st (B := T1.setTop (mkF m 5 #[.val (.ref a), .val (.int k), .val (.int t)] [(.ref a)])) (fun t_ k_ => XS.aloadN X1.here hx rfl (hb hby own_b1_d4) rfl rfl k_) ?_
  refine own_st (B := T1.setTop (mkF m 6 #[.val (.ref a), .val (.int k), .val (.int t)] [(.int k), (.ref a)])) (fun t_ k_ => XS.iloadN X1.here hx rfl (hb hby own_b1_d5) rfl k_) ?_
  obtain ⟨T2, h2, X2, e2, W2, st2⟩ := putF X1 hx hZ hown (host := "") (Or.inl (hw _ (List.mem_of_getElem? (i := 14) rfl))) Via.refl eh1 F1 E (Or.inr ⟨(hw _ (List.mem_of_getElem? (i := 15) rfl)), rfl, hnm⟩) (hw _ (List.mem_of_getElem? (i := 1) rfl)) (ty := .int) (by decide) rfl rfl (g := (mkF m 6 #[.val (.ref a), .val (.int k), .val (.int t)] [(.int k), (.ref a)])) rfl rfl (hb hby own_b1_d6)
  have Fw2 := F1.same W2
  have N2 := Fr.snoc X2 N1 ga
  have Z3 := Nat.le_trans Z0 (Keep.of_wr W2).1
  have K4 := K0.wr W2 (Or.inl (List.mem_of_getElem? (i := 0) rfl))
  refine own_st (B := T2.setTop (mkF m 9 #[.val (.ref a), .val (.int k), .val (.int t)] [])) st2 ?_
  refine own_st (B := T2.setTop (mkF m 10 #[.val (.ref a), .val (.int k), .val (.int t)] [(.ref a)])) (fun t_ k_ => XS.aloadN X2.here hx rfl (hb hby own_b1_d9) rfl rfl k_) ?_
  refine own_st (B := T2.setTop (mkF m 11 #[.val (.ref a), .val (.int k), .val (.int t)] [(.int t), (.ref a)])) (fun t_ k_ => XS.iloadN X2.here hx rfl (hb hby own_b1_d10) rfl k_) ?_
  have u5 := E.wr W2
  have u6 := F2.other W2 (Or.inr (slot_ne (Or.inr (hw _ (List.mem_of_getElem? (i := 17) rfl))) (Or.inr (hw _ (List.mem_of_getElem? (i := 15) rfl))) (by decide) (t := .int) (t' := .int) (by decide) (by decide)))
  obtain ⟨T7, h7, X7, e7, W7, st7⟩ := putF X2 hx hZ hown (host := "") (Or.inl (hw _ (List.mem_of_getElem? (i := 16) rfl))) Via.refl e2 u6 u5 (Or.inr ⟨(hw _ (List.mem_of_getElem? (i := 17) rfl)), rfl, hnm⟩) (hw _ (List.mem_of_getElem? (i := 1) rfl)) (ty := .int) (by decide) rfl rfl (g := (mkF m 11 #[.val (.ref a), .val (.int k), .val (.int t)] [(.int t), (.ref a)])) rfl rfl (hb hby own_b1_d11)
  have Fw7 := u6.same W7
  have N7 := Fr.snoc X7 N2 ga
  have Z8 := Nat.le_trans Z3 (Keep.of_wr W7).1
  have K9 := K4.wr W7 (Or.inl (List.mem_of_getElem? (i := 0) rfl))
  refine own_st (B := T7.setTop (mkF m 14 #[.val (.ref a), .val (.int k), .val (.int t)] [])) st7 ?_
  refine own_retV X7 hx Bd.returns hlk (hb hby own_b1_d14) (by decide) (by decide) ?_
  show Q1 Z a k t h0 n0 _ T7.heap _
  rw [e7]
  have u10 := Fw2.other W7 (Or.inr (slot_ne (Or.inr (hw _ (List.mem_of_getElem? (i := 15) rfl))) (Or.inr (hw _ (List.mem_of_getElem? (i := 17) rfl))) (by decide) (t := .int) (t' := .int) (by decide) (by decide)))
  exact ⟨rfl, N7, K9, u10, Fw7⟩
theorem own_b4_d0 : decode prog_57_method_4_code 0 = .ok (.aload_n 0, 1) := by decide +kernel
theorem own_b4_d1 : decode prog_57_method_4_code 1 = .ok (.getfield 7, 3) := by decide +kernel
theorem own_b4_d4 : decode prog_57_method_4_code 4 = .ok (.sipush 256, 3) := by decide +kernel
theorem own_b4_d7 : decode prog_57_method_4_code 7 = .ok (.if_icmp .gt 17, 3) := by decide +kernel
theorem own_b4_d10 : decode prog_57_method_4_code 10 = .ok (.aload_n 0, 1) := by decide +kernel
theorem own_b4_d11 : decode prog_57_method_4_code 11 = .ok (.getfield 13, 3) := by decide +kernel
theorem own_b4_d14 : decode prog_57_method_4_code 14 = .ok (.sipush 254, 3) := by decide +kernel
theorem own_b4_d17 : decode prog_57_method_4_code 17 = .ok (.if_icmp .gt 7, 3) := by decide +kernel
theorem own_b4_d20 : decode prog_57_method_4_code 20 = .ok (.iconst 1, 1) := by decide +kernel
theorem own_b4_d21 : decode prog_57_method_4_code 21 = .ok (.goto 4, 3) := by decide +kernel
theorem own_b4_d24 : decode prog_57_method_4_code 24 = .ok (.iconst 0, 1) := by decide +kernel
theorem own_b4_d25 : decode prog_57_method_4_code 25 = .ok (.ireturn, 1) := by decide +kernel
theorem own_ef_rm4 (m : MethodId) (x0 : Addr) : entryFrame m #[(.ref x0)] 1 = mkF m 0 #[.val (.ref x0)] [] := by first | (simp [entryFrame, mkF, argsToLocals, Value.category]; done) | rfl
def Q4 (Z : State) (a : Addr) (k : Int32) (t : Int32) (h0 : Heap) (n0 : Nat) (v : Option Value) (h : Heap) (L : List Loc) : Prop := v = some (.int (own_b (own_rd k t))) ∧ Fr n0 L ∧ h = h0
set_option maxRecDepth 65536 in
set_option maxHeartbeats 40000000 in
theorem rm4 (l : Launch) (Z : State) (a0 : Array Value) (hw : ∀ d ∈ tables_1, d.before a0 Z = true) (ws : List Jvm.Cond) (a : Addr) (k : Int32) (t : Int32) (h0 : Heap) (n0 : Nat) (Z0 : n0 ≤ h0.size) (F1 : Fld Z h0 a "com/example/cardprobe/cardprobe/procedure/RecordFile" "recordLength" "I" (.int k)) (F2 : Fld Z h0 a "com/example/cardprobe/cardprobe/procedure/RecordFile" "recordCount" "I" (.int t)) :
    MetFree l (⟨"com/example/cardprobe/cardprobe/procedure/RecordFile", "readable", "()Z"⟩ : MethodName) (head1 (Jvm.Cond.code (⟨"com/example/cardprobe/cardprobe/procedure/RecordFile", "readable", "()Z"⟩ : MethodName) prog_57_method_4_code 1 (some .boolean) :: ws) ({ frames := 0, cells := 0, slots := 0, locals := 0 } : Room)) (fun aa_ U_ => aa_ = #[(.ref a)] ∧ Z.Warmed39 U_.vm ∧ U_.heap = h0) (fun _ _ _ _ _ => True) (fun _ U_ o_ U1_ => ∃ v_ L_, o_ = .returned v_ ∧ Q4 Z a k t h0 n0 v_ U1_.heap L_ ∧ FrameEnd U_ o_ U1_ L_ ({ frames := 0, cells := 0, slots := 0, locals := 0 } : Room).cells ({ frames := 0, cells := 0, slots := 0, locals := 0 } : Room).slots) := by
  refine MetFree.of_bodySF (plainFor_of_name own_pn1) hisR ?_
  intro p e s m args below meth c s₁ Bd hml0 hP hK
  obtain ⟨rfl, hZ, hh⟩ := hP
  have hx := Bd.exec
  have hby := Bd.bytes
  have hlk := Bd.notSynchronized
  have hml : c.maxLocals = 1 := hml0
  have hown : s.vm.findClass "com/example/cardprobe/cardprobe/procedure/RecordFile" = some m.cls := findClass_of_methodNamed Bd.named
  have hnm := (name_of_methodNamed Bd.named Bd.method).1
  have X0 : Stand p l e ({ frames := 0, cells := 0, slots := 0, locals := 0 } : Room) s m #[(.ref a)] below meth c s₁ [] 0 0 := Stand.of_body Bd
  have e0 : s₁.heap = h0 := by rw [← hh, Bd.state]; rfl
  have N0 := Fr.nil n0
  show own_E p e below s (Q4 Z a k t h0 n0) ({ frames := 0, cells := 0, slots := 0, locals := 0 } : Room).cells ({ frames := 0, cells := 0, slots := 0, locals := 0 } : Room).slots (s₁.setTop (entryFrame m #[(.ref a)] 1))
  refine own_st (B := s₁.setTop (mkF m 0 #[.val (.ref a)] [])) (fun t_ k_ => castTop (own_ef_rm4 m a) k_) ?_
  refine own_st (B := s₁.setTop (mkF m 1 #[.val (.ref a)] [(.ref a)])) (fun t_ k_ => XS.aloadN X0.here hx rfl (hb hby own_b4_d0) rfl rfl k_) ?_
  obtain ⟨T1, X1, e1, st1⟩ := getF X0 hx hZ hown (host := "") (Or.inl (hw _ (List.mem_of_getElem? (i := 14) rfl))) Via.refl e0 F1 (g := (mkF m 1 #[.val (.ref a)] [(.ref a)])) rfl rfl (hb hby own_b4_d1)
  refine own_st (B := T1.setTop (mkF m 4 #[.val (.ref a)] [(.int k)])) st1 ?_
  refine own_st (B := T1.setTop (mkF m 7 #[.val (.ref a)] [(.int (256 : Int32)), (.int k)])) (fun t_ k_ => XS.sipush X1.here hx rfl (hb hby own_b4_d4) k_) ?_
  by_cases hc2 : (256 : Int32) < k
  · have hd2 := own_lt32 hc2
    rw [show (256 : Int32).toInt = 256 from rfl] at hd2
    refine own_st (B := T1.setTop (mkF m 24 #[.val (.ref a)] [])) (fun t_ k_ => XS.icmpYes X1.here hx rfl (pc0 := 7) (pc' := 24) rfl (hb hby own_b4_d7) rfl (tlt hc2).2.2.1 (by decide) (by decide) k_) ?_
    refine own_st (B := T1.setTop (mkF m 25 #[.val (.ref a)] [(.int (0 : Int32))])) (fun t_ k_ => XS.iconst X1.here hx rfl (hb hby own_b4_d24) k_) ?_
    refine own_retN X1 hx (t := .boolean) Bd.returns (by simp) hlk (hb hby own_b4_d25) (z' := (0 : Int32)) (by first | rfl | exact own_nb _ | exact own_nbb _) (by decide) (by decide) ?_
    show Q4 Z a k t h0 n0 _ T1.heap _
    rw [e1]
    exact ⟨by simp [own_rd, own_b, hc2], N0, rfl⟩
  · have hd2 := own_nlt32 hc2
    rw [show (256 : Int32).toInt = 256 from rfl] at hd2
    refine own_st (B := T1.setTop (mkF m 10 #[.val (.ref a)] [])) (fun t_ k_ => XS.icmpNo X1.here hx rfl (hb hby own_b4_d7) rfl (flt hc2).2.2.1 k_) ?_
    refine own_st (B := T1.setTop (mkF m 11 #[.val (.ref a)] [(.ref a)])) (fun t_ k_ => XS.aloadN X1.here hx rfl (hb hby own_b4_d10) rfl rfl k_) ?_
    obtain ⟨T3, X3, e3, st3⟩ := getF X1 hx hZ hown (host := "") (Or.inl (hw _ (List.mem_of_getElem? (i := 16) rfl))) Via.refl e1 F2 (g := (mkF m 11 #[.val (.ref a)] [(.ref a)])) rfl rfl (hb hby own_b4_d11)
    refine own_st (B := T3.setTop (mkF m 14 #[.val (.ref a)] [(.int t)])) st3 ?_
    refine own_st (B := T3.setTop (mkF m 17 #[.val (.ref a)] [(.int (254 : Int32)), (.int t)])) (fun t_ k_ => XS.sipush X3.here hx rfl (hb hby own_b4_d14) k_) ?_
    by_cases hc4 : (254 : Int32) < t
    · have hd4 := own_lt32 hc4
      rw [show (254 : Int32).toInt = 254 from rfl] at hd4
      refine own_st (B := T3.setTop (mkF m 24 #[.val (.ref a)] [])) (fun t_ k_ => XS.icmpYes X3.here hx rfl (pc0 := 17) (pc' := 24) rfl (hb hby own_b4_d17) rfl (tlt hc4).2.2.1 (by decide) (by decide) k_) ?_
      refine own_st (B := T3.setTop (mkF m 25 #[.val (.ref a)] [(.int (0 : Int32))])) (fun t_ k_ => XS.iconst X3.here hx rfl (hb hby own_b4_d24) k_) ?_
      refine own_retN X3 hx (t := .boolean) Bd.returns (by simp) hlk (hb hby own_b4_d25) (z' := (0 : Int32)) (by first | rfl | exact own_nb _ | exact own_nbb _) (by decide) (by decide) ?_
      show Q4 Z a k t h0 n0 _ T3.heap _
      rw [e3]
      exact ⟨by simp [own_rd, own_b, hc2, hc4], N0, rfl⟩
    · have hd4 := own_nlt32 hc4
      rw [show (254 : Int32).toInt = 254 from rfl] at hd4
      refine own_st (B := T3.setTop (mkF m 20 #[.val (.ref a)] [])) (fun t_ k_ => XS.icmpNo X3.here hx rfl (hb hby own_b4_d17) rfl (flt hc4).2.2.1 k_) ?_
      refine own_st (B := T3.setTop (mkF m 21 #[.val (.ref a)] [(.int (1 : Int32))])) (fun t_ k_ => XS.iconst X3.here hx rfl (hb hby own_b4_d20) k_) ?_
      refine own_st (B := T3.setTop (mkF m 25 #[.val (.ref a)] [(.int (1 : Int32))])) (fun t_ k_ => XS.goto X3.here hx rfl (pc0 := 21) (pc' := 25) rfl (hb hby own_b4_d21) (by decide) (by decide) k_) ?_
      refine own_retN X3 hx (t := .boolean) Bd.returns (by simp) hlk (hb hby own_b4_d25) (z' := (1 : Int32)) (by first | rfl | exact own_nb _ | exact own_nbb _) (by decide) (by decide) ?_
      show Q4 Z a k t h0 n0 _ T3.heap _
      rw [e3]
      exact ⟨by simp [own_rd, own_b, hc2, hc4], N0, rfl⟩
theorem own_pd1 : parseMethodDescriptor "(II)V" = some ⟨[.int, .int], none⟩ := by decide +kernel
theorem own_pd2 : parseMethodDescriptor "()Z" = some ⟨[], some .boolean⟩ := by decide +kernel
theorem own_pn2 : plainName "com/example/cardprobe/cardprobe/procedure/RecordFileReadablePinLaw" = true := by first | (simp [plainName, overriddenIn]; done) | decide +kernel
theorem own_ef_rm0 (m : MethodId) (x0 : Int32) (x1 : Int32) (x2 : Int32) : entryFrame m #[(.int x0), (.int x1), (.int x2)] maxLocals = mkF m 0 #[.val (.int x0), .val (.int x1), .val (.int x2), .unset, .unset, .unset, .unset, .unset, .unset] [] := by first | (simp [entryFrame, mkF, argsToLocals, Value.category, maxLocals]; done) | rfl
def Q0 (Z : State) (u0 : Int32) (u1 : Int32) (u2 : Int32) (h0 : Heap) (n0 : Nat) (v : Option Value) (h : Heap) (L : List Loc) : Prop := v = some (.int 1) ∧ Fr n0 L
set_option maxRecDepth 65536 in
set_option maxHeartbeats 40000000 in
theorem rm0 (l : Launch) (Z : State) (a0 : Array Value) (hw : ∀ d ∈ tables_1, d.before a0 Z = true) (ws : List Jvm.Cond) (u0 : Int32) (u1 : Int32) (u2 : Int32) (h0 : Heap) (n0 : Nat) (Z0 : n0 ≤ h0.size) :
    MetFree l x (head1 (Jvm.Cond.code x code maxLocals ret :: ws) room_1) (fun aa_ U_ => aa_ = #[(.int u0), (.int u1), (.int u2)] ∧ Z.Warmed39 U_.vm ∧ U_.heap = h0) (fun _ _ _ _ _ => True) (fun _ U_ o_ U1_ => ∃ v_ L_, o_ = .returned v_ ∧ Q0 Z u0 u1 u2 h0 n0 v_ U1_.heap L_ ∧ FrameEnd U_ o_ U1_ L_ 1 2) := by
  refine MetFree.of_bodySF (plainFor_of_name own_pn2) hisR ?_
  intro p e s m args below meth c s₁ Bd hml0 hP hK
  obtain ⟨rfl, hZ, hh⟩ := hP
  have hx := Bd.exec
  have hby := Bd.bytes
  have hlk := Bd.notSynchronized
  have hml : c.maxLocals = 9 := hml0
  have hown : s.vm.findClass "com/example/cardprobe/cardprobe/procedure/RecordFileReadablePinLaw" = some m.cls := findClass_of_methodNamed Bd.named
  have hnm := (name_of_methodNamed Bd.named Bd.method).1
  have X0 : Stand p l e room_1 s m #[(.int u0), (.int u1), (.int u2)] below meth c s₁ [] 0 0 := Stand.of_body Bd
  have e0 : s₁.heap = h0 := by rw [← hh, Bd.state]; rfl
  have N0 := Fr.nil n0
  show own_E p e below s (Q0 Z u0 u1 u2 h0 n0) 1 2 (s₁.setTop (entryFrame m #[(.int u0), (.int u1), (.int u2)] maxLocals))
  refine own_st (B := s₁.setTop (mkF m 0 #[.val (.int u0), .val (.int u1), .val (.int u2), .unset, .unset, .unset, .unset, .unset, .unset] [])) (fun t_ k_ => castTop (own_ef_rm0 m u0 u1 u2) k_) ?_
  have J1 : ∀  (y3 : Int32), own_E p e below s (Q0 Z u0 u1 u2 h0 n0) 1 2 (s₁.setTop (mkF m 17 #[.val (.int u0), .val (.int u1), .val (.int u2), .unset, .unset, .unset, .unset, .unset, .unset] [(.int y3)])) := by
    intro y3
    refine own_st (B := s₁.setTop (mkF m 18 #[.val (.int u0), .val (.int u1), .val (.int u2), .val (.int y3), .unset, .unset, .unset, .unset, .unset] [])) (fun t_ k_ => XS.istoreN X0.here hx rfl (hb hby at_17) rfl (l' := #[.val (.int u0), .val (.int u1), .val (.int u2), .val (.int y3), .unset, .unset, .unset, .unset, .unset]) rfl k_) ?_
    have J2 : ∀  (y4 : Int32), own_E p e below s (Q0 Z u0 u1 u2 h0 n0) 1 2 (s₁.setTop (mkF m 35 #[.val (.int u0), .val (.int u1), .val (.int u2), .val (.int y3), .unset, .unset, .unset, .unset, .unset] [(.int y4)])) := by
      intro y4
      refine own_st (B := s₁.setTop (mkF m 37 #[.val (.int u0), .val (.int u1), .val (.int u2), .val (.int y3), .val (.int y4), .unset, .unset, .unset, .unset] [])) (fun t_ k_ => XS.istore X0.here hx rfl (hb hby at_35) rfl (l' := #[.val (.int u0), .val (.int u1), .val (.int u2), .val (.int y3), .val (.int y4), .unset, .unset, .unset, .unset]) rfl k_) ?_
      refine own_st (B := s₁.setTop (mkF m 38 #[.val (.int u0), .val (.int u1), .val (.int u2), .val (.int y3), .val (.int y4), .unset, .unset, .unset, .unset] [(.int y3)])) (fun t_ k_ => XS.iloadN X0.here hx rfl (hb hby at_37) rfl k_) ?_
      refine own_st (B := s₁.setTop (mkF m 41 #[.val (.int u0), .val (.int u1), .val (.int u2), .val (.int y3), .val (.int y4), .unset, .unset, .unset, .unset] [(.int (257 : Int32)), (.int y3)])) (fun t_ k_ => XS.sipush X0.here hx rfl (hb hby at_38) k_) ?_
      by_cases hc3 : y3 < (257 : Int32)
      · have hd3 := own_lt32 hc3
        rw [show (257 : Int32).toInt = 257 from rfl] at hd3
        refine own_st (B := s₁.setTop (mkF m 44 #[.val (.int u0), .val (.int u1), .val (.int u2), .val (.int y3), .val (.int y4), .unset, .unset, .unset, .unset] [])) (fun t_ k_ => XS.icmpNo X0.here hx rfl (hb hby at_41) rfl (tlt hc3).2.1 k_) ?_
        refine own_st (B := s₁.setTop (mkF m 45 #[.val (.int u0), .val (.int u1), .val (.int u2), .val (.int y3), .val (.int y4), .unset, .unset, .unset, .unset] [(.int (1 : Int32))])) (fun t_ k_ => XS.iconst X0.here hx rfl (hb hby at_44) k_) ?_
        refine own_st (B := s₁.setTop (mkF m 49 #[.val (.int u0), .val (.int u1), .val (.int u2), .val (.int y3), .val (.int y4), .unset, .unset, .unset, .unset] [(.int (1 : Int32))])) (fun t_ k_ => XS.goto X0.here hx rfl (pc0 := 45) (pc' := 49) rfl (hb hby at_45) (by decide) (by decide) k_) ?_
        refine own_st (B := s₁.setTop (mkF m 51 #[.val (.int u0), .val (.int u1), .val (.int u2), .val (.int y3), .val (.int y4), .val (.int (1 : Int32)), .unset, .unset, .unset] [])) (fun t_ k_ => XS.istore X0.here hx rfl (hb hby at_49) rfl (l' := #[.val (.int u0), .val (.int u1), .val (.int u2), .val (.int y3), .val (.int y4), .val (.int (1 : Int32)), .unset, .unset, .unset]) rfl k_) ?_
        refine own_st (B := s₁.setTop (mkF m 53 #[.val (.int u0), .val (.int u1), .val (.int u2), .val (.int y3), .val (.int y4), .val (.int (1 : Int32)), .unset, .unset, .unset] [(.int y4)])) (fun t_ k_ => XS.iload X0.here hx rfl (hb hby at_51) rfl k_) ?_
        refine own_st (B := s₁.setTop (mkF m 56 #[.val (.int u0), .val (.int u1), .val (.int u2), .val (.int y3), .val (.int y4), .val (.int (1 : Int32)), .unset, .unset, .unset] [(.int (255 : Int32)), (.int y4)])) (fun t_ k_ => XS.sipush X0.here hx rfl (hb hby at_53) k_) ?_
        by_cases hc4 : y4 < (255 : Int32)
        · have hd4 := own_lt32 hc4
          rw [show (255 : Int32).toInt = 255 from rfl] at hd4
          refine own_st (B := s₁.setTop (mkF m 59 #[.val (.int u0), .val (.int u1), .val (.int u2), .val (.int y3), .val (.int y4), .val (.int (1 : Int32)), .unset, .unset, .unset] [])) (fun t_ k_ => XS.icmpNo X0.here hx rfl (hb hby at_56) rfl (tlt hc4).2.1 k_) ?_
          refine own_st (B := s₁.setTop (mkF m 60 #[.val (.int u0), .val (.int u1), .val (.int u2), .val (.int y3), .val (.int y4), .val (.int (1 : Int32)), .unset, .unset, .unset] [(.int (1 : Int32))])) (fun t_ k_ => XS.iconst X0.here hx rfl (hb hby at_59) k_) ?_
          refine own_st (B := s₁.setTop (mkF m 64 #[.val (.int u0), .val (.int u1), .val (.int u2), .val (.int y3), .val (.int y4), .val (.int (1 : Int32)), .unset, .unset, .unset] [(.int (1 : Int32))])) (fun t_ k_ => XS.goto X0.here hx rfl (pc0 := 60) (pc' := 64) rfl (hb hby at_60) (by decide) (by decide) k_) ?_
          refine own_st (B := s₁.setTop (mkF m 66 #[.val (.int u0), .val (.int u1), .val (.int u2), .val (.int y3), .val (.int y4), .val (.int (1 : Int32)), .val (.int (1 : Int32)), .unset, .unset] [])) (fun t_ k_ => XS.istore X0.here hx rfl (hb hby at_64) rfl (l' := #[.val (.int u0), .val (.int u1), .val (.int u2), .val (.int y3), .val (.int y4), .val (.int (1 : Int32)), .val (.int (1 : Int32)), .unset, .unset]) rfl k_) ?_
          refine own_st (B := s₁.setTop (mkF m 68 #[.val (.int u0), .val (.int u1), .val (.int u2), .val (.int y3), .val (.int y4), .val (.int (1 : Int32)), .val (.int (1 : Int32)), .unset, .unset] [(.int (1 : Int32))])) (fun t_ k_ => XS.iload X0.here hx rfl (hb hby at_66) rfl k_) ?_
          refine own_st (B := s₁.setTop (mkF m 71 #[.val (.int u0), .val (.int u1), .val (.int u2), .val (.int y3), .val (.int y4), .val (.int (1 : Int32)), .val (.int (1 : Int32)), .unset, .unset] [])) (fun t_ k_ => XS.ifNo X0.here hx rfl (hb hby at_68) rfl ((if0 _ _).trans (feq (by decide : ¬ ((1 : Int32) = (0 : Int32)))).1) k_) ?_
          refine own_st (B := s₁.setTop (mkF m 73 #[.val (.int u0), .val (.int u1), .val (.int u2), .val (.int y3), .val (.int y4), .val (.int (1 : Int32)), .val (.int (1 : Int32)), .unset, .unset] [(.int (1 : Int32))])) (fun t_ k_ => XS.iload X0.here hx rfl (hb hby at_71) rfl k_) ?_
          refine own_st (B := s₁.setTop (mkF m 76 #[.val (.int u0), .val (.int u1), .val (.int u2), .val (.int y3), .val (.int y4), .val (.int (1 : Int32)), .val (.int (1 : Int32)), .unset, .unset] [])) (fun t_ k_ => XS.ifNo X0.here hx rfl (hb hby at_73) rfl ((if0 _ _).trans (feq (by decide : ¬ ((1 : Int32) = (0 : Int32)))).1) k_) ?_
          refine own_st (B := s₁.setTop (mkF m 77 #[.val (.int u0), .val (.int u1), .val (.int u2), .val (.int y3), .val (.int y4), .val (.int (1 : Int32)), .val (.int (1 : Int32)), .unset, .unset] [(.int (1 : Int32))])) (fun t_ k_ => XS.iconst X0.here hx rfl (hb hby at_76) k_) ?_
          refine own_st (B := s₁.setTop (mkF m 81 #[.val (.int u0), .val (.int u1), .val (.int u2), .val (.int y3), .val (.int y4), .val (.int (1 : Int32)), .val (.int (1 : Int32)), .unset, .unset] [(.int (1 : Int32))])) (fun t_ k_ => XS.goto X0.here hx rfl (pc0 := 77) (pc' := 81) rfl (hb hby at_77) (by decide) (by decide) k_) ?_
          refine own_st (B := s₁.setTop (mkF m 83 #[.val (.int u0), .val (.int u1), .val (.int u2), .val (.int y3), .val (.int y4), .val (.int (1 : Int32)), .val (.int (1 : Int32)), .val (.int (1 : Int32)), .unset] [])) (fun t_ k_ => XS.istore X0.here hx rfl (hb hby at_81) rfl (l' := #[.val (.int u0), .val (.int u1), .val (.int u2), .val (.int y3), .val (.int y4), .val (.int (1 : Int32)), .val (.int (1 : Int32)), .val (.int (1 : Int32)), .unset]) rfl k_) ?_
          obtain ⟨T5, h5, X5, e5, E5, A5, D5, -, st5⟩ := newO X0 hx hZ hown (hw _ (List.mem_of_getElem? (i := 0) rfl)) (hw _ (List.mem_of_getElem? (i := 1) rfl)) (hw _ (List.mem_of_getElem? (i := 2) rfl)) e0 (g := (mkF m 83 #[.val (.int u0), .val (.int u1), .val (.int u2), .val (.int y3), .val (.int y4), .val (.int (1 : Int32)), .val (.int (1 : Int32)), .val (.int (1 : Int32)), .unset] [])) rfl (hb hby at_83) (by decide) (by decide)
          obtain ⟨b5, g5⟩ : ∃ z, z = h0.size := ⟨_, rfl⟩
          rw [← g5] at A5 D5 st5
          have g6 : n0 ≤ b5 := Nat.le_trans Z0 (Nat.le_of_eq g5.symm)
          have Z7 := Nat.le_trans Z0 E5.1
          have F5_recordLength : Fld Z h5 b5 "com/example/cardprobe/cardprobe/procedure/RecordFile" "recordLength" "I" (.int (0 : Int32)) := D5 (Or.inr (hw _ (List.mem_of_getElem? (i := 15) rfl))) (ty := .int) (by decide)
          have F5_recordCount : Fld Z h5 b5 "com/example/cardprobe/cardprobe/procedure/RecordFile" "recordCount" "I" (.int (0 : Int32)) := D5 (Or.inr (hw _ (List.mem_of_getElem? (i := 17) rfl))) (ty := .int) (by decide)
          refine own_st (B := T5.setTop (mkF m 86 #[.val (.int u0), .val (.int u1), .val (.int u2), .val (.int y3), .val (.int y4), .val (.int (1 : Int32)), .val (.int (1 : Int32)), .val (.int (1 : Int32)), .unset] [(.ref b5)])) st5 ?_
          refine own_st (B := T5.setTop (mkF m 87 #[.val (.int u0), .val (.int u1), .val (.int u2), .val (.int y3), .val (.int y4), .val (.int (1 : Int32)), .val (.int (1 : Int32)), .val (.int (1 : Int32)), .unset] [(.ref b5), (.ref b5)])) (fun t_ k_ => XS.dup X5.here hx rfl (hb hby at_86) rfl rfl k_) ?_
          refine own_st (B := T5.setTop (mkF m 88 #[.val (.int u0), .val (.int u1), .val (.int u2), .val (.int y3), .val (.int y4), .val (.int (1 : Int32)), .val (.int (1 : Int32)), .val (.int (1 : Int32)), .unset] [(.int y3), (.ref b5), (.ref b5)])) (fun t_ k_ => XS.iloadN X5.here hx rfl (hb hby at_87) rfl k_) ?_
          refine own_st (B := T5.setTop (mkF m 90 #[.val (.int u0), .val (.int u1), .val (.int u2), .val (.int y3), .val (.int y4), .val (.int (1 : Int32)), .val (.int (1 : Int32)), .val (.int (1 : Int32)), .unset] [(.int y4), (.int y3), (.ref b5), (.ref b5)])) (fun t_ k_ => XS.iload X5.here hx rfl (hb hby at_88) rfl k_) ?_
          obtain ⟨_, _, ⟨T8, L8, k8, n8⟩, -, X8, ⟨Lc8, hQ8, l8, y8, z8⟩, st8⟩ := X5.specialBack hx (y := (⟨"com/example/cardprobe/cardprobe/procedure/RecordFile", "<init>", "(II)V"⟩ : MethodName)) rfl hown (mvT hZ (hw _ (List.mem_of_getElem? (i := 3) rfl))) (mvT hZ (hw _ (List.mem_of_getElem? (i := 4) rfl))) (mvT hZ (hw _ (List.mem_of_getElem? (i := 5) rfl))) (by decide) (backOf (W := 1) (rm1 l Z a0 hw [] b5 y3 y4 h5 n0 Z7 A5 F5_recordLength F5_recordCount g6) hZ (hw _ (List.mem_of_getElem? (i := 5) rfl)) (hw _ (List.mem_of_getElem? (i := 2) rfl)) (by decide) (by decide)) (g := (mkF m 90 #[.val (.int u0), .val (.int u1), .val (.int u2), .val (.int y3), .val (.int y4), .val (.int (1 : Int32)), .val (.int (1 : Int32)), .val (.int (1 : Int32)), .unset] [(.int y4), (.int y3), (.ref b5), (.ref b5)])) rfl (by rw [hml]; rfl) (Steps.refl _) (a := b5) (argsL := [(.int y3), (.int y4)]) (rest := [(.ref b5)]) (lenOf own_pd1 rfl) rfl (by show 2 * 0 + _ ≤ _; exact Nat.le_of_eq rfl) (hb hby at_90) (fun _ _ => ⟨rfl, e5, (by decide : 1 + 0 ≤ _), (by decide : 2 + 0 ≤ _)⟩)
          dsimp only [Pt.U, Pt.locs, Pt.cells, Pt.slots] at X8 l8 y8 z8 st8 hQ8
          subst l8 y8 z8
          obtain ⟨rfl, N8q, K8, Fa8, Fb8⟩ := hQ8
          have N8 := Fr.app N0 N8q
          have Z9 := Nat.le_trans Z7 K8.1
          refine own_st (B := T8.setTop (mkF m 93 #[.val (.int u0), .val (.int u1), .val (.int u2), .val (.int y3), .val (.int y4), .val (.int (1 : Int32)), .val (.int (1 : Int32)), .val (.int (1 : Int32)), .unset] [(.ref b5)])) (fun t_ k_ => st8.trans k_) ?_
          refine own_st (B := T8.setTop (mkF m 95 #[.val (.int u0), .val (.int u1), .val (.int u2), .val (.int y3), .val (.int y4), .val (.int (1 : Int32)), .val (.int (1 : Int32)), .val (.int (1 : Int32)), .val (.ref b5)] [])) (fun t_ k_ => XS.astore X8.here hx rfl (hb hby at_93) rfl rfl (l' := #[.val (.int u0), .val (.int u1), .val (.int u2), .val (.int y3), .val (.int y4), .val (.int (1 : Int32)), .val (.int (1 : Int32)), .val (.int (1 : Int32)), .val (.ref b5)]) rfl k_) ?_
          refine own_st (B := T8.setTop (mkF m 97 #[.val (.int u0), .val (.int u1), .val (.int u2), .val (.int y3), .val (.int y4), .val (.int (1 : Int32)), .val (.int (1 : Int32)), .val (.int (1 : Int32)), .val (.ref b5)] [(.ref b5)])) (fun t_ k_ => XS.aload X8.here hx rfl (hb hby at_95) rfl rfl k_) ?_
          have u11 := A5.keep K8
          obtain ⟨cq10, kq10, q10a, q10b, q10c⟩ := isOf hZ rfl u11
          obtain ⟨_, _, ⟨T10, L10, k10, n10⟩, -, X10, ⟨Lc10, hQ10, l10, y10, z10⟩, st10⟩ := X8.virtualBack hx (y := (⟨"com/example/cardprobe/cardprobe/procedure/RecordFile", "readable", "()Z"⟩ : MethodName)) (z := (⟨"com/example/cardprobe/cardprobe/procedure/RecordFile", "readable", "()Z"⟩ : MethodName)) hown (mvT hZ (hw _ (List.mem_of_getElem? (i := 18) rfl))) (mvT hZ (hw _ (List.mem_of_getElem? (i := 19) rfl))) (notFace_of_selects (args := #[]) (mvT hZ (hw _ (List.mem_of_getElem? (i := 21) rfl)))) (mvT hZ (hw _ (List.mem_of_getElem? (i := 21) rfl))) (mvT hZ (hw _ (List.mem_of_getElem? (i := 20) rfl))) (by decide) (backOf (W := 0) (rm4 l Z a0 hw [] b5 y3 y4 T8.heap n0 Z9 Fa8 Fb8) hZ (hw _ (List.mem_of_getElem? (i := 22) rfl)) (hw _ (List.mem_of_getElem? (i := 2) rfl)) (by decide) (by decide)) q10a q10c (g := (mkF m 97 #[.val (.int u0), .val (.int u1), .val (.int u2), .val (.int y3), .val (.int y4), .val (.int (1 : Int32)), .val (.int (1 : Int32)), .val (.int (1 : Int32)), .val (.ref b5)] [(.ref b5)])) rfl (by rw [hml]; rfl) (Steps.refl _) (argsL := []) (rest := []) (lenOf own_pd2 rfl) rfl (by show 2 * 0 + _ ≤ _; exact Nat.le_of_eq rfl) (hb hby at_97) (fun _ _ => ⟨rfl, rfl, (by decide : 1 + 0 ≤ _), (by decide : 2 + 0 ≤ _)⟩)
          dsimp only [Pt.U, Pt.locs, Pt.cells, Pt.slots] at X10 l10 y10 z10 st10 hQ10
          subst l10 y10 z10
          obtain ⟨rfl, N10q, eh10⟩ := hQ10
          have N10 := Fr.app N8 N10q
          refine own_st (B := T10.setTop (mkF m 100 #[.val (.int u0), .val (.int u1), .val (.int u2), .val (.int y3), .val (.int y4), .val (.int (1 : Int32)), .val (.int (1 : Int32)), .val (.int (1 : Int32)), .val (.ref b5)] [(.int (own_b (own_rd y3 y4)))])) (fun t_ k_ => st10.trans k_) ?_
          refine own_st (B := T10.setTop (mkF m 102 #[.val (.int u0), .val (.int u1), .val (.int u2), .val (.int y3), .val (.int y4), .val (.int (1 : Int32)), .val (.int (1 : Int32)), .val (.int (1 : Int32)), .val (.ref b5)] [(.int (1 : Int32)), (.int (own_b (own_rd y3 y4)))])) (fun t_ k_ => XS.iload X10.here hx rfl (hb hby at_100) rfl k_) ?_
          have hc12 : (own_b (own_rd y3 y4)) = (1 : Int32) := (own_rd_eq y3 y4).trans (by simp [hc3, hc4])
          have hd12 := own_eq32 hc12
          rw [show (1 : Int32).toInt = 1 from rfl] at hd12
          refine own_st (B := T10.setTop (mkF m 105 #[.val (.int u0), .val (.int u1), .val (.int u2), .val (.int y3), .val (.int y4), .val (.int (1 : Int32)), .val (.int (1 : Int32)), .val (.int (1 : Int32)), .val (.ref b5)] [])) (fun t_ k_ => XS.icmpNo X10.here hx rfl (hb hby at_102) rfl (teq hc12).2 k_) ?_
          refine own_st (B := T10.setTop (mkF m 106 #[.val (.int u0), .val (.int u1), .val (.int u2), .val (.int y3), .val (.int y4), .val (.int (1 : Int32)), .val (.int (1 : Int32)), .val (.int (1 : Int32)), .val (.ref b5)] [(.int (1 : Int32))])) (fun t_ k_ => XS.iconst X10.here hx rfl (hb hby at_105) k_) ?_
          refine own_st (B := T10.setTop (mkF m 110 #[.val (.int u0), .val (.int u1), .val (.int u2), .val (.int y3), .val (.int y4), .val (.int (1 : Int32)), .val (.int (1 : Int32)), .val (.int (1 : Int32)), .val (.ref b5)] [(.int (1 : Int32))])) (fun t_ k_ => XS.goto X10.here hx rfl (pc0 := 106) (pc' := 110) rfl (hb hby at_106) (by decide) (by decide) k_) ?_
          refine own_retN X10 hx (t := .boolean) Bd.returns (by simp) hlk (hb hby at_110) (z' := (1 : Int32)) (by first | rfl | exact own_nb _ | exact own_nbb _) (by decide) (by decide) ?_
          show Q0 Z u0 u1 u2 h0 n0 _ T10.heap _
          rw [eh10]
          exact ⟨rfl, N10⟩
        · have hd4 := own_nlt32 hc4
          rw [show (255 : Int32).toInt = 255 from rfl] at hd4
          refine own_st (B := s₁.setTop (mkF m 63 #[.val (.int u0), .val (.int u1), .val (.int u2), .val (.int y3), .val (.int y4), .val (.int (1 : Int32)), .unset, .unset, .unset] [])) (fun t_ k_ => XS.icmpYes X0.here hx rfl (pc0 := 56) (pc' := 63) rfl (hb hby at_56) rfl (flt hc4).2.1 (by decide) (by decide) k_) ?_
          refine own_st (B := s₁.setTop (mkF m 64 #[.val (.int u0), .val (.int u1), .val (.int u2), .val (.int y3), .val (.int y4), .val (.int (1 : Int32)), .unset, .unset, .unset] [(.int (0 : Int32))])) (fun t_ k_ => XS.iconst X0.here hx rfl (hb hby at_63) k_) ?_
          refine own_st (B := s₁.setTop (mkF m 66 #[.val (.int u0), .val (.int u1), .val (.int u2), .val (.int y3), .val (.int y4), .val (.int (1 : Int32)), .val (.int (0 : Int32)), .unset, .unset] [])) (fun t_ k_ => XS.istore X0.here hx rfl (hb hby at_64) rfl (l' := #[.val (.int u0), .val (.int u1), .val (.int u2), .val (.int y3), .val (.int y4), .val (.int (1 : Int32)), .val (.int (0 : Int32)), .unset, .unset]) rfl k_) ?_
          refine own_st (B := s₁.setTop (mkF m 68 #[.val (.int u0), .val (.int u1), .val (.int u2), .val (.int y3), .val (.int y4), .val (.int (1 : Int32)), .val (.int (0 : Int32)), .unset, .unset] [(.int (1 : Int32))])) (fun t_ k_ => XS.iload X0.here hx rfl (hb hby at_66) rfl k_) ?_
          refine own_st (B := s₁.setTop (mkF m 71 #[.val (.int u0), .val (.int u1), .val (.int u2), .val (.int y3), .val (.int y4), .val (.int (1 : Int32)), .val (.int (0 : Int32)), .unset, .unset] [])) (fun t_ k_ => XS.ifNo X0.here hx rfl (hb hby at_68) rfl ((if0 _ _).trans (feq (by decide : ¬ ((1 : Int32) = (0 : Int32)))).1) k_) ?_
          refine own_st (B := s₁.setTop (mkF m 73 #[.val (.int u0), .val (.int u1), .val (.int u2), .val (.int y3), .val (.int y4), .val (.int (1 : Int32)), .val (.int (0 : Int32)), .unset, .unset] [(.int (0 : Int32))])) (fun t_ k_ => XS.iload X0.here hx rfl (hb hby at_71) rfl k_) ?_
          refine own_st (B := s₁.setTop (mkF m 80 #[.val (.int u0), .val (.int u1), .val (.int u2), .val (.int y3), .val (.int y4), .val (.int (1 : Int32)), .val (.int (0 : Int32)), .unset, .unset] [])) (fun t_ k_ => XS.ifYes X0.here hx rfl (pc0 := 73) (pc' := 80) rfl (hb hby at_73) rfl ((if0 _ _).trans (teq (by decide : (0 : Int32) = (0 : Int32))).1) (by decide) (by decide) k_) ?_
          refine own_st (B := s₁.setTop (mkF m 81 #[.val (.int u0), .val (.int u1), .val (.int u2), .val (.int y3), .val (.int y4), .val (.int (1 : Int32)), .val (.int (0 : Int32)), .unset, .unset] [(.int (0 : Int32))])) (fun t_ k_ => XS.iconst X0.here hx rfl (hb hby at_80) k_) ?_
          refine own_st (B := s₁.setTop (mkF m 83 #[.val (.int u0), .val (.int u1), .val (.int u2), .val (.int y3), .val (.int y4), .val (.int (1 : Int32)), .val (.int (0 : Int32)), .val (.int (0 : Int32)), .unset] [])) (fun t_ k_ => XS.istore X0.here hx rfl (hb hby at_81) rfl (l' := #[.val (.int u0), .val (.int u1), .val (.int u2), .val (.int y3), .val (.int y4), .val (.int (1 : Int32)), .val (.int (0 : Int32)), .val (.int (0 : Int32)), .unset]) rfl k_) ?_
          obtain ⟨T13, h13, X13, e13, E13, A13, D13, -, st13⟩ := newO X0 hx hZ hown (hw _ (List.mem_of_getElem? (i := 0) rfl)) (hw _ (List.mem_of_getElem? (i := 1) rfl)) (hw _ (List.mem_of_getElem? (i := 2) rfl)) e0 (g := (mkF m 83 #[.val (.int u0), .val (.int u1), .val (.int u2), .val (.int y3), .val (.int y4), .val (.int (1 : Int32)), .val (.int (0 : Int32)), .val (.int (0 : Int32)), .unset] [])) rfl (hb hby at_83) (by decide) (by decide)
          obtain ⟨b13, g13⟩ : ∃ z, z = h0.size := ⟨_, rfl⟩
          rw [← g13] at A13 D13 st13
          have g14 : n0 ≤ b13 := Nat.le_trans Z0 (Nat.le_of_eq g13.symm)
          have Z15 := Nat.le_trans Z0 E13.1
          have F13_recordLength : Fld Z h13 b13 "com/example/cardprobe/cardprobe/procedure/RecordFile" "recordLength" "I" (.int (0 : Int32)) := D13 (Or.inr (hw _ (List.mem_of_getElem? (i := 15) rfl))) (ty := .int) (by decide)
          have F13_recordCount : Fld Z h13 b13 "com/example/cardprobe/cardprobe/procedure/RecordFile" "recordCount" "I" (.int (0 : Int32)) := D13 (Or.inr (hw _ (List.mem_of_getElem? (i := 17) rfl))) (ty := .int) (by decide)
          refine own_st (B := T13.setTop (mkF m 86 #[.val (.int u0), .val (.int u1), .val (.int u2), .val (.int y3), .val (.int y4), .val (.int (1 : Int32)), .val (.int (0 : Int32)), .val (.int (0 : Int32)), .unset] [(.ref b13)])) st13 ?_
          refine own_st (B := T13.setTop (mkF m 87 #[.val (.int u0), .val (.int u1), .val (.int u2), .val (.int y3), .val (.int y4), .val (.int (1 : Int32)), .val (.int (0 : Int32)), .val (.int (0 : Int32)), .unset] [(.ref b13), (.ref b13)])) (fun t_ k_ => XS.dup X13.here hx rfl (hb hby at_86) rfl rfl k_) ?_
          refine own_st (B := T13.setTop (mkF m 88 #[.val (.int u0), .val (.int u1), .val (.int u2), .val (.int y3), .val (.int y4), .val (.int (1 : Int32)), .val (.int (0 : Int32)), .val (.int (0 : Int32)), .unset] [(.int y3), (.ref b13), (.ref b13)])) (fun t_ k_ => XS.iloadN X13.here hx rfl (hb hby at_87) rfl k_) ?_
          refine own_st (B := T13.setTop (mkF m 90 #[.val (.int u0), .val (.int u1), .val (.int u2), .val (.int y3), .val (.int y4), .val (.int (1 : Int32)), .val (.int (0 : Int32)), .val (.int (0 : Int32)), .unset] [(.int y4), (.int y3), (.ref b13), (.ref b13)])) (fun t_ k_ => XS.iload X13.here hx rfl (hb hby at_88) rfl k_) ?_
          obtain ⟨_, _, ⟨T16, L16, k16, n16⟩, -, X16, ⟨Lc16, hQ16, l16, y16, z16⟩, st16⟩ := X13.specialBack hx (y := (⟨"com/example/cardprobe/cardprobe/procedure/RecordFile", "<init>", "(II)V"⟩ : MethodName)) rfl hown (mvT hZ (hw _ (List.mem_of_getElem? (i := 3) rfl))) (mvT hZ (hw _ (List.mem_of_getElem? (i := 4) rfl))) (mvT hZ (hw _ (List.mem_of_getElem? (i := 5) rfl))) (by decide) (backOf (W := 1) (rm1 l Z a0 hw [] b13 y3 y4 h13 n0 Z15 A13 F13_recordLength F13_recordCount g14) hZ (hw _ (List.mem_of_getElem? (i := 5) rfl)) (hw _ (List.mem_of_getElem? (i := 2) rfl)) (by decide) (by decide)) (g := (mkF m 90 #[.val (.int u0), .val (.int u1), .val (.int u2), .val (.int y3), .val (.int y4), .val (.int (1 : Int32)), .val (.int (0 : Int32)), .val (.int (0 : Int32)), .unset] [(.int y4), (.int y3), (.ref b13), (.ref b13)])) rfl (by rw [hml]; rfl) (Steps.refl _) (a := b13) (argsL := [(.int y3), (.int y4)]) (rest := [(.ref b13)]) (lenOf own_pd1 rfl) rfl (by show 2 * 0 + _ ≤ _; exact Nat.le_of_eq rfl) (hb hby at_90) (fun _ _ => ⟨rfl, e13, (by decide : 1 + 0 ≤ _), (by decide : 2 + 0 ≤ _)⟩)
          dsimp only [Pt.U, Pt.locs, Pt.cells, Pt.slots] at X16 l16 y16 z16 st16 hQ16
          subst l16 y16 z16
          obtain ⟨rfl, N16q, K16, Fa16, Fb16⟩ := hQ16
          have N16 := Fr.app N0 N16q
          have Z17 := Nat.le_trans Z15 K16.1
          refine own_st (B := T16.setTop (mkF m 93 #[.val (.int u0), .val (.int u1), .val (.int u2), .val (.int y3), .val (.int y4), .val (.int (1 : Int32)), .val (.int (0 : Int32)), .val (.int (0 : Int32)), .unset] [(.ref b13)])) (fun t_ k_ => st16.trans k_) ?_
          refine own_st (B := T16.setTop (mkF m 95 #[.val (.int u0), .val (.int u1), .val (.int u2), .val (.int y3), .val (.int y4), .val (.int (1 : Int32)), .val (.int (0 : Int32)), .val (.int (0 : Int32)), .val (.ref b13)] [])) (fun t_ k_ => XS.astore X16.here hx rfl (hb hby at_93) rfl rfl (l' := #[.val (.int u0), .val (.int u1), .val (.int u2), .val (.int y3), .val (.int y4), .val (.int (1 : Int32)), .val (.int (0 : Int32)), .val (.int (0 : Int32)), .val (.ref b13)]) rfl k_) ?_
          refine own_st (B := T16.setTop (mkF m 97 #[.val (.int u0), .val (.int u1), .val (.int u2), .val (.int y3), .val (.int y4), .val (.int (1 : Int32)), .val (.int (0 : Int32)), .val (.int (0 : Int32)), .val (.ref b13)] [(.ref b13)])) (fun t_ k_ => XS.aload X16.here hx rfl (hb hby at_95) rfl rfl k_) ?_
          have u19 := A13.keep K16
          obtain ⟨cq18, kq18, q18a, q18b, q18c⟩ := isOf hZ rfl u19
          obtain ⟨_, _, ⟨T18, L18, k18, n18⟩, -, X18, ⟨Lc18, hQ18, l18, y18, z18⟩, st18⟩ := X16.virtualBack hx (y := (⟨"com/example/cardprobe/cardprobe/procedure/RecordFile", "readable", "()Z"⟩ : MethodName)) (z := (⟨"com/example/cardprobe/cardprobe/procedure/RecordFile", "readable", "()Z"⟩ : MethodName)) hown (mvT hZ (hw _ (List.mem_of_getElem? (i := 18) rfl))) (mvT hZ (hw _ (List.mem_of_getElem? (i := 19) rfl))) (notFace_of_selects (args := #[]) (mvT hZ (hw _ (List.mem_of_getElem? (i := 21) rfl)))) (mvT hZ (hw _ (List.mem_of_getElem? (i := 21) rfl))) (mvT hZ (hw _ (List.mem_of_getElem? (i := 20) rfl))) (by decide) (backOf (W := 0) (rm4 l Z a0 hw [] b13 y3 y4 T16.heap n0 Z17 Fa16 Fb16) hZ (hw _ (List.mem_of_getElem? (i := 22) rfl)) (hw _ (List.mem_of_getElem? (i := 2) rfl)) (by decide) (by decide)) q18a q18c (g := (mkF m 97 #[.val (.int u0), .val (.int u1), .val (.int u2), .val (.int y3), .val (.int y4), .val (.int (1 : Int32)), .val (.int (0 : Int32)), .val (.int (0 : Int32)), .val (.ref b13)] [(.ref b13)])) rfl (by rw [hml]; rfl) (Steps.refl _) (argsL := []) (rest := []) (lenOf own_pd2 rfl) rfl (by show 2 * 0 + _ ≤ _; exact Nat.le_of_eq rfl) (hb hby at_97) (fun _ _ => ⟨rfl, rfl, (by decide : 1 + 0 ≤ _), (by decide : 2 + 0 ≤ _)⟩)
          dsimp only [Pt.U, Pt.locs, Pt.cells, Pt.slots] at X18 l18 y18 z18 st18 hQ18
          subst l18 y18 z18
          obtain ⟨rfl, N18q, eh18⟩ := hQ18
          have N18 := Fr.app N16 N18q
          refine own_st (B := T18.setTop (mkF m 100 #[.val (.int u0), .val (.int u1), .val (.int u2), .val (.int y3), .val (.int y4), .val (.int (1 : Int32)), .val (.int (0 : Int32)), .val (.int (0 : Int32)), .val (.ref b13)] [(.int (own_b (own_rd y3 y4)))])) (fun t_ k_ => st18.trans k_) ?_
          refine own_st (B := T18.setTop (mkF m 102 #[.val (.int u0), .val (.int u1), .val (.int u2), .val (.int y3), .val (.int y4), .val (.int (1 : Int32)), .val (.int (0 : Int32)), .val (.int (0 : Int32)), .val (.ref b13)] [(.int (0 : Int32)), (.int (own_b (own_rd y3 y4)))])) (fun t_ k_ => XS.iload X18.here hx rfl (hb hby at_100) rfl k_) ?_
          have hc20 : (own_b (own_rd y3 y4)) = (0 : Int32) := (own_rd_eq y3 y4).trans (by simp [hc3, hc4])
          have hd20 := own_eq32 hc20
          rw [show (0 : Int32).toInt = 0 from rfl] at hd20
          refine own_st (B := T18.setTop (mkF m 105 #[.val (.int u0), .val (.int u1), .val (.int u2), .val (.int y3), .val (.int y4), .val (.int (1 : Int32)), .val (.int (0 : Int32)), .val (.int (0 : Int32)), .val (.ref b13)] [])) (fun t_ k_ => XS.icmpNo X18.here hx rfl (hb hby at_102) rfl (teq hc20).2 k_) ?_
          refine own_st (B := T18.setTop (mkF m 106 #[.val (.int u0), .val (.int u1), .val (.int u2), .val (.int y3), .val (.int y4), .val (.int (1 : Int32)), .val (.int (0 : Int32)), .val (.int (0 : Int32)), .val (.ref b13)] [(.int (1 : Int32))])) (fun t_ k_ => XS.iconst X18.here hx rfl (hb hby at_105) k_) ?_
          refine own_st (B := T18.setTop (mkF m 110 #[.val (.int u0), .val (.int u1), .val (.int u2), .val (.int y3), .val (.int y4), .val (.int (1 : Int32)), .val (.int (0 : Int32)), .val (.int (0 : Int32)), .val (.ref b13)] [(.int (1 : Int32))])) (fun t_ k_ => XS.goto X18.here hx rfl (pc0 := 106) (pc' := 110) rfl (hb hby at_106) (by decide) (by decide) k_) ?_
          refine own_retN X18 hx (t := .boolean) Bd.returns (by simp) hlk (hb hby at_110) (z' := (1 : Int32)) (by first | rfl | exact own_nb _ | exact own_nbb _) (by decide) (by decide) ?_
          show Q0 Z u0 u1 u2 h0 n0 _ T18.heap _
          rw [eh18]
          exact ⟨rfl, N18⟩
      · have hd3 := own_nlt32 hc3
        rw [show (257 : Int32).toInt = 257 from rfl] at hd3
        refine own_st (B := s₁.setTop (mkF m 48 #[.val (.int u0), .val (.int u1), .val (.int u2), .val (.int y3), .val (.int y4), .unset, .unset, .unset, .unset] [])) (fun t_ k_ => XS.icmpYes X0.here hx rfl (pc0 := 41) (pc' := 48) rfl (hb hby at_41) rfl (flt hc3).2.1 (by decide) (by decide) k_) ?_
        refine own_st (B := s₁.setTop (mkF m 49 #[.val (.int u0), .val (.int u1), .val (.int u2), .val (.int y3), .val (.int y4), .unset, .unset, .unset, .unset] [(.int (0 : Int32))])) (fun t_ k_ => XS.iconst X0.here hx rfl (hb hby at_48) k_) ?_
        refine own_st (B := s₁.setTop (mkF m 51 #[.val (.int u0), .val (.int u1), .val (.int u2), .val (.int y3), .val (.int y4), .val (.int (0 : Int32)), .unset, .unset, .unset] [])) (fun t_ k_ => XS.istore X0.here hx rfl (hb hby at_49) rfl (l' := #[.val (.int u0), .val (.int u1), .val (.int u2), .val (.int y3), .val (.int y4), .val (.int (0 : Int32)), .unset, .unset, .unset]) rfl k_) ?_
        refine own_st (B := s₁.setTop (mkF m 53 #[.val (.int u0), .val (.int u1), .val (.int u2), .val (.int y3), .val (.int y4), .val (.int (0 : Int32)), .unset, .unset, .unset] [(.int y4)])) (fun t_ k_ => XS.iload X0.here hx rfl (hb hby at_51) rfl k_) ?_
        refine own_st (B := s₁.setTop (mkF m 56 #[.val (.int u0), .val (.int u1), .val (.int u2), .val (.int y3), .val (.int y4), .val (.int (0 : Int32)), .unset, .unset, .unset] [(.int (255 : Int32)), (.int y4)])) (fun t_ k_ => XS.sipush X0.here hx rfl (hb hby at_53) k_) ?_
        by_cases hc21 : y4 < (255 : Int32)
        · have hd21 := own_lt32 hc21
          rw [show (255 : Int32).toInt = 255 from rfl] at hd21
          refine own_st (B := s₁.setTop (mkF m 59 #[.val (.int u0), .val (.int u1), .val (.int u2), .val (.int y3), .val (.int y4), .val (.int (0 : Int32)), .unset, .unset, .unset] [])) (fun t_ k_ => XS.icmpNo X0.here hx rfl (hb hby at_56) rfl (tlt hc21).2.1 k_) ?_
          refine own_st (B := s₁.setTop (mkF m 60 #[.val (.int u0), .val (.int u1), .val (.int u2), .val (.int y3), .val (.int y4), .val (.int (0 : Int32)), .unset, .unset, .unset] [(.int (1 : Int32))])) (fun t_ k_ => XS.iconst X0.here hx rfl (hb hby at_59) k_) ?_
          refine own_st (B := s₁.setTop (mkF m 64 #[.val (.int u0), .val (.int u1), .val (.int u2), .val (.int y3), .val (.int y4), .val (.int (0 : Int32)), .unset, .unset, .unset] [(.int (1 : Int32))])) (fun t_ k_ => XS.goto X0.here hx rfl (pc0 := 60) (pc' := 64) rfl (hb hby at_60) (by decide) (by decide) k_) ?_
          refine own_st (B := s₁.setTop (mkF m 66 #[.val (.int u0), .val (.int u1), .val (.int u2), .val (.int y3), .val (.int y4), .val (.int (0 : Int32)), .val (.int (1 : Int32)), .unset, .unset] [])) (fun t_ k_ => XS.istore X0.here hx rfl (hb hby at_64) rfl (l' := #[.val (.int u0), .val (.int u1), .val (.int u2), .val (.int y3), .val (.int y4), .val (.int (0 : Int32)), .val (.int (1 : Int32)), .unset, .unset]) rfl k_) ?_
          refine own_st (B := s₁.setTop (mkF m 68 #[.val (.int u0), .val (.int u1), .val (.int u2), .val (.int y3), .val (.int y4), .val (.int (0 : Int32)), .val (.int (1 : Int32)), .unset, .unset] [(.int (0 : Int32))])) (fun t_ k_ => XS.iload X0.here hx rfl (hb hby at_66) rfl k_) ?_
          refine own_st (B := s₁.setTop (mkF m 80 #[.val (.int u0), .val (.int u1), .val (.int u2), .val (.int y3), .val (.int y4), .val (.int (0 : Int32)), .val (.int (1 : Int32)), .unset, .unset] [])) (fun t_ k_ => XS.ifYes X0.here hx rfl (pc0 := 68) (pc' := 80) rfl (hb hby at_68) rfl ((if0 _ _).trans (teq (by decide : (0 : Int32) = (0 : Int32))).1) (by decide) (by decide) k_) ?_
          refine own_st (B := s₁.setTop (mkF m 81 #[.val (.int u0), .val (.int u1), .val (.int u2), .val (.int y3), .val (.int y4), .val (.int (0 : Int32)), .val (.int (1 : Int32)), .unset, .unset] [(.int (0 : Int32))])) (fun t_ k_ => XS.iconst X0.here hx rfl (hb hby at_80) k_) ?_
          refine own_st (B := s₁.setTop (mkF m 83 #[.val (.int u0), .val (.int u1), .val (.int u2), .val (.int y3), .val (.int y4), .val (.int (0 : Int32)), .val (.int (1 : Int32)), .val (.int (0 : Int32)), .unset] [])) (fun t_ k_ => XS.istore X0.here hx rfl (hb hby at_81) rfl (l' := #[.val (.int u0), .val (.int u1), .val (.int u2), .val (.int y3), .val (.int y4), .val (.int (0 : Int32)), .val (.int (1 : Int32)), .val (.int (0 : Int32)), .unset]) rfl k_) ?_
          obtain ⟨T22, h22, X22, e22, E22, A22, D22, -, st22⟩ := newO X0 hx hZ hown (hw _ (List.mem_of_getElem? (i := 0) rfl)) (hw _ (List.mem_of_getElem? (i := 1) rfl)) (hw _ (List.mem_of_getElem? (i := 2) rfl)) e0 (g := (mkF m 83 #[.val (.int u0), .val (.int u1), .val (.int u2), .val (.int y3), .val (.int y4), .val (.int (0 : Int32)), .val (.int (1 : Int32)), .val (.int (0 : Int32)), .unset] [])) rfl (hb hby at_83) (by decide) (by decide)
          obtain ⟨b22, g22⟩ : ∃ z, z = h0.size := ⟨_, rfl⟩
          rw [← g22] at A22 D22 st22
          have g23 : n0 ≤ b22 := Nat.le_trans Z0 (Nat.le_of_eq g22.symm)
          have Z24 := Nat.le_trans Z0 E22.1
          have F22_recordLength : Fld Z h22 b22 "com/example/cardprobe/cardprobe/procedure/RecordFile" "recordLength" "I" (.int (0 : Int32)) := D22 (Or.inr (hw _ (List.mem_of_getElem? (i := 15) rfl))) (ty := .int) (by decide)
          have F22_recordCount : Fld Z h22 b22 "com/example/cardprobe/cardprobe/procedure/RecordFile" "recordCount" "I" (.int (0 : Int32)) := D22 (Or.inr (hw _ (List.mem_of_getElem? (i := 17) rfl))) (ty := .int) (by decide)
          refine own_st (B := T22.setTop (mkF m 86 #[.val (.int u0), .val (.int u1), .val (.int u2), .val (.int y3), .val (.int y4), .val (.int (0 : Int32)), .val (.int (1 : Int32)), .val (.int (0 : Int32)), .unset] [(.ref b22)])) st22 ?_
          refine own_st (B := T22.setTop (mkF m 87 #[.val (.int u0), .val (.int u1), .val (.int u2), .val (.int y3), .val (.int y4), .val (.int (0 : Int32)), .val (.int (1 : Int32)), .val (.int (0 : Int32)), .unset] [(.ref b22), (.ref b22)])) (fun t_ k_ => XS.dup X22.here hx rfl (hb hby at_86) rfl rfl k_) ?_
          refine own_st (B := T22.setTop (mkF m 88 #[.val (.int u0), .val (.int u1), .val (.int u2), .val (.int y3), .val (.int y4), .val (.int (0 : Int32)), .val (.int (1 : Int32)), .val (.int (0 : Int32)), .unset] [(.int y3), (.ref b22), (.ref b22)])) (fun t_ k_ => XS.iloadN X22.here hx rfl (hb hby at_87) rfl k_) ?_
          refine own_st (B := T22.setTop (mkF m 90 #[.val (.int u0), .val (.int u1), .val (.int u2), .val (.int y3), .val (.int y4), .val (.int (0 : Int32)), .val (.int (1 : Int32)), .val (.int (0 : Int32)), .unset] [(.int y4), (.int y3), (.ref b22), (.ref b22)])) (fun t_ k_ => XS.iload X22.here hx rfl (hb hby at_88) rfl k_) ?_
          obtain ⟨_, _, ⟨T25, L25, k25, n25⟩, -, X25, ⟨Lc25, hQ25, l25, y25, z25⟩, st25⟩ := X22.specialBack hx (y := (⟨"com/example/cardprobe/cardprobe/procedure/RecordFile", "<init>", "(II)V"⟩ : MethodName)) rfl hown (mvT hZ (hw _ (List.mem_of_getElem? (i := 3) rfl))) (mvT hZ (hw _ (List.mem_of_getElem? (i := 4) rfl))) (mvT hZ (hw _ (List.mem_of_getElem? (i := 5) rfl))) (by decide) (backOf (W := 1) (rm1 l Z a0 hw [] b22 y3 y4 h22 n0 Z24 A22 F22_recordLength F22_recordCount g23) hZ (hw _ (List.mem_of_getElem? (i := 5) rfl)) (hw _ (List.mem_of_getElem? (i := 2) rfl)) (by decide) (by decide)) (g := (mkF m 90 #[.val (.int u0), .val (.int u1), .val (.int u2), .val (.int y3), .val (.int y4), .val (.int (0 : Int32)), .val (.int (1 : Int32)), .val (.int (0 : Int32)), .unset] [(.int y4), (.int y3), (.ref b22), (.ref b22)])) rfl (by rw [hml]; rfl) (Steps.refl _) (a := b22) (argsL := [(.int y3), (.int y4)]) (rest := [(.ref b22)]) (lenOf own_pd1 rfl) rfl (by show 2 * 0 + _ ≤ _; exact Nat.le_of_eq rfl) (hb hby at_90) (fun _ _ => ⟨rfl, e22, (by decide : 1 + 0 ≤ _), (by decide : 2 + 0 ≤ _)⟩)
          dsimp only [Pt.U, Pt.locs, Pt.cells, Pt.slots] at X25 l25 y25 z25 st25 hQ25
          subst l25 y25 z25
          obtain ⟨rfl, N25q, K25, Fa25, Fb25⟩ := hQ25
          have N25 := Fr.app N0 N25q
          have Z26 := Nat.le_trans Z24 K25.1
          refine own_st (B := T25.setTop (mkF m 93 #[.val (.int u0), .val (.int u1), .val (.int u2), .val (.int y3), .val (.int y4), .val (.int (0 : Int32)), .val (.int (1 : Int32)), .val (.int (0 : Int32)), .unset] [(.ref b22)])) (fun t_ k_ => st25.trans k_) ?_
          refine own_st (B := T25.setTop (mkF m 95 #[.val (.int u0), .val (.int u1), .val (.int u2), .val (.int y3), .val (.int y4), .val (.int (0 : Int32)), .val (.int (1 : Int32)), .val (.int (0 : Int32)), .val (.ref b22)] [])) (fun t_ k_ => XS.astore X25.here hx rfl (hb hby at_93) rfl rfl (l' := #[.val (.int u0), .val (.int u1), .val (.int u2), .val (.int y3), .val (.int y4), .val (.int (0 : Int32)), .val (.int (1 : Int32)), .val (.int (0 : Int32)), .val (.ref b22)]) rfl k_) ?_
          refine own_st (B := T25.setTop (mkF m 97 #[.val (.int u0), .val (.int u1), .val (.int u2), .val (.int y3), .val (.int y4), .val (.int (0 : Int32)), .val (.int (1 : Int32)), .val (.int (0 : Int32)), .val (.ref b22)] [(.ref b22)])) (fun t_ k_ => XS.aload X25.here hx rfl (hb hby at_95) rfl rfl k_) ?_
          have u28 := A22.keep K25
          obtain ⟨cq27, kq27, q27a, q27b, q27c⟩ := isOf hZ rfl u28
          obtain ⟨_, _, ⟨T27, L27, k27, n27⟩, -, X27, ⟨Lc27, hQ27, l27, y27, z27⟩, st27⟩ := X25.virtualBack hx (y := (⟨"com/example/cardprobe/cardprobe/procedure/RecordFile", "readable", "()Z"⟩ : MethodName)) (z := (⟨"com/example/cardprobe/cardprobe/procedure/RecordFile", "readable", "()Z"⟩ : MethodName)) hown (mvT hZ (hw _ (List.mem_of_getElem? (i := 18) rfl))) (mvT hZ (hw _ (List.mem_of_getElem? (i := 19) rfl))) (notFace_of_selects (args := #[]) (mvT hZ (hw _ (List.mem_of_getElem? (i := 21) rfl)))) (mvT hZ (hw _ (List.mem_of_getElem? (i := 21) rfl))) (mvT hZ (hw _ (List.mem_of_getElem? (i := 20) rfl))) (by decide) (backOf (W := 0) (rm4 l Z a0 hw [] b22 y3 y4 T25.heap n0 Z26 Fa25 Fb25) hZ (hw _ (List.mem_of_getElem? (i := 22) rfl)) (hw _ (List.mem_of_getElem? (i := 2) rfl)) (by decide) (by decide)) q27a q27c (g := (mkF m 97 #[.val (.int u0), .val (.int u1), .val (.int u2), .val (.int y3), .val (.int y4), .val (.int (0 : Int32)), .val (.int (1 : Int32)), .val (.int (0 : Int32)), .val (.ref b22)] [(.ref b22)])) rfl (by rw [hml]; rfl) (Steps.refl _) (argsL := []) (rest := []) (lenOf own_pd2 rfl) rfl (by show 2 * 0 + _ ≤ _; exact Nat.le_of_eq rfl) (hb hby at_97) (fun _ _ => ⟨rfl, rfl, (by decide : 1 + 0 ≤ _), (by decide : 2 + 0 ≤ _)⟩)
          dsimp only [Pt.U, Pt.locs, Pt.cells, Pt.slots] at X27 l27 y27 z27 st27 hQ27
          subst l27 y27 z27
          obtain ⟨rfl, N27q, eh27⟩ := hQ27
          have N27 := Fr.app N25 N27q
          refine own_st (B := T27.setTop (mkF m 100 #[.val (.int u0), .val (.int u1), .val (.int u2), .val (.int y3), .val (.int y4), .val (.int (0 : Int32)), .val (.int (1 : Int32)), .val (.int (0 : Int32)), .val (.ref b22)] [(.int (own_b (own_rd y3 y4)))])) (fun t_ k_ => st27.trans k_) ?_
          refine own_st (B := T27.setTop (mkF m 102 #[.val (.int u0), .val (.int u1), .val (.int u2), .val (.int y3), .val (.int y4), .val (.int (0 : Int32)), .val (.int (1 : Int32)), .val (.int (0 : Int32)), .val (.ref b22)] [(.int (0 : Int32)), (.int (own_b (own_rd y3 y4)))])) (fun t_ k_ => XS.iload X27.here hx rfl (hb hby at_100) rfl k_) ?_
          have hc29 : (own_b (own_rd y3 y4)) = (0 : Int32) := (own_rd_eq y3 y4).trans (by simp [hc3, hc21])
          have hd29 := own_eq32 hc29
          rw [show (0 : Int32).toInt = 0 from rfl] at hd29
          refine own_st (B := T27.setTop (mkF m 105 #[.val (.int u0), .val (.int u1), .val (.int u2), .val (.int y3), .val (.int y4), .val (.int (0 : Int32)), .val (.int (1 : Int32)), .val (.int (0 : Int32)), .val (.ref b22)] [])) (fun t_ k_ => XS.icmpNo X27.here hx rfl (hb hby at_102) rfl (teq hc29).2 k_) ?_
          refine own_st (B := T27.setTop (mkF m 106 #[.val (.int u0), .val (.int u1), .val (.int u2), .val (.int y3), .val (.int y4), .val (.int (0 : Int32)), .val (.int (1 : Int32)), .val (.int (0 : Int32)), .val (.ref b22)] [(.int (1 : Int32))])) (fun t_ k_ => XS.iconst X27.here hx rfl (hb hby at_105) k_) ?_
          refine own_st (B := T27.setTop (mkF m 110 #[.val (.int u0), .val (.int u1), .val (.int u2), .val (.int y3), .val (.int y4), .val (.int (0 : Int32)), .val (.int (1 : Int32)), .val (.int (0 : Int32)), .val (.ref b22)] [(.int (1 : Int32))])) (fun t_ k_ => XS.goto X27.here hx rfl (pc0 := 106) (pc' := 110) rfl (hb hby at_106) (by decide) (by decide) k_) ?_
          refine own_retN X27 hx (t := .boolean) Bd.returns (by simp) hlk (hb hby at_110) (z' := (1 : Int32)) (by first | rfl | exact own_nb _ | exact own_nbb _) (by decide) (by decide) ?_
          show Q0 Z u0 u1 u2 h0 n0 _ T27.heap _
          rw [eh27]
          exact ⟨rfl, N27⟩
        · have hd21 := own_nlt32 hc21
          rw [show (255 : Int32).toInt = 255 from rfl] at hd21
          refine own_st (B := s₁.setTop (mkF m 63 #[.val (.int u0), .val (.int u1), .val (.int u2), .val (.int y3), .val (.int y4), .val (.int (0 : Int32)), .unset, .unset, .unset] [])) (fun t_ k_ => XS.icmpYes X0.here hx rfl (pc0 := 56) (pc' := 63) rfl (hb hby at_56) rfl (flt hc21).2.1 (by decide) (by decide) k_) ?_
          refine own_st (B := s₁.setTop (mkF m 64 #[.val (.int u0), .val (.int u1), .val (.int u2), .val (.int y3), .val (.int y4), .val (.int (0 : Int32)), .unset, .unset, .unset] [(.int (0 : Int32))])) (fun t_ k_ => XS.iconst X0.here hx rfl (hb hby at_63) k_) ?_
          refine own_st (B := s₁.setTop (mkF m 66 #[.val (.int u0), .val (.int u1), .val (.int u2), .val (.int y3), .val (.int y4), .val (.int (0 : Int32)), .val (.int (0 : Int32)), .unset, .unset] [])) (fun t_ k_ => XS.istore X0.here hx rfl (hb hby at_64) rfl (l' := #[.val (.int u0), .val (.int u1), .val (.int u2), .val (.int y3), .val (.int y4), .val (.int (0 : Int32)), .val (.int (0 : Int32)), .unset, .unset]) rfl k_) ?_
          refine own_st (B := s₁.setTop (mkF m 68 #[.val (.int u0), .val (.int u1), .val (.int u2), .val (.int y3), .val (.int y4), .val (.int (0 : Int32)), .val (.int (0 : Int32)), .unset, .unset] [(.int (0 : Int32))])) (fun t_ k_ => XS.iload X0.here hx rfl (hb hby at_66) rfl k_) ?_
          refine own_st (B := s₁.setTop (mkF m 80 #[.val (.int u0), .val (.int u1), .val (.int u2), .val (.int y3), .val (.int y4), .val (.int (0 : Int32)), .val (.int (0 : Int32)), .unset, .unset] [])) (fun t_ k_ => XS.ifYes X0.here hx rfl (pc0 := 68) (pc' := 80) rfl (hb hby at_68) rfl ((if0 _ _).trans (teq (by decide : (0 : Int32) = (0 : Int32))).1) (by decide) (by decide) k_) ?_
          refine own_st (B := s₁.setTop (mkF m 81 #[.val (.int u0), .val (.int u1), .val (.int u2), .val (.int y3), .val (.int y4), .val (.int (0 : Int32)), .val (.int (0 : Int32)), .unset, .unset] [(.int (0 : Int32))])) (fun t_ k_ => XS.iconst X0.here hx rfl (hb hby at_80) k_) ?_
          refine own_st (B := s₁.setTop (mkF m 83 #[.val (.int u0), .val (.int u1), .val (.int u2), .val (.int y3), .val (.int y4), .val (.int (0 : Int32)), .val (.int (0 : Int32)), .val (.int (0 : Int32)), .unset] [])) (fun t_ k_ => XS.istore X0.here hx rfl (hb hby at_81) rfl (l' := #[.val (.int u0), .val (.int u1), .val (.int u2), .val (.int y3), .val (.int y4), .val (.int (0 : Int32)), .val (.int (0 : Int32)), .val (.int (0 : Int32)), .unset]) rfl k_) ?_
          obtain ⟨T30, h30, X30, e30, E30, A30, D30, -, st30⟩ := newO X0 hx hZ hown (hw _ (List.mem_of_getElem? (i := 0) rfl)) (hw _ (List.mem_of_getElem? (i := 1) rfl)) (hw _ (List.mem_of_getElem? (i := 2) rfl)) e0 (g := (mkF m 83 #[.val (.int u0), .val (.int u1), .val (.int u2), .val (.int y3), .val (.int y4), .val (.int (0 : Int32)), .val (.int (0 : Int32)), .val (.int (0 : Int32)), .unset] [])) rfl (hb hby at_83) (by decide) (by decide)
          obtain ⟨b30, g30⟩ : ∃ z, z = h0.size := ⟨_, rfl⟩
          rw [← g30] at A30 D30 st30
          have g31 : n0 ≤ b30 := Nat.le_trans Z0 (Nat.le_of_eq g30.symm)
          have Z32 := Nat.le_trans Z0 E30.1
          have F30_recordLength : Fld Z h30 b30 "com/example/cardprobe/cardprobe/procedure/RecordFile" "recordLength" "I" (.int (0 : Int32)) := D30 (Or.inr (hw _ (List.mem_of_getElem? (i := 15) rfl))) (ty := .int) (by decide)
          have F30_recordCount : Fld Z h30 b30 "com/example/cardprobe/cardprobe/procedure/RecordFile" "recordCount" "I" (.int (0 : Int32)) := D30 (Or.inr (hw _ (List.mem_of_getElem? (i := 17) rfl))) (ty := .int) (by decide)
          refine own_st (B := T30.setTop (mkF m 86 #[.val (.int u0), .val (.int u1), .val (.int u2), .val (.int y3), .val (.int y4), .val (.int (0 : Int32)), .val (.int (0 : Int32)), .val (.int (0 : Int32)), .unset] [(.ref b30)])) st30 ?_
          refine own_st (B := T30.setTop (mkF m 87 #[.val (.int u0), .val (.int u1), .val (.int u2), .val (.int y3), .val (.int y4), .val (.int (0 : Int32)), .val (.int (0 : Int32)), .val (.int (0 : Int32)), .unset] [(.ref b30), (.ref b30)])) (fun t_ k_ => XS.dup X30.here hx rfl (hb hby at_86) rfl rfl k_) ?_
          refine own_st (B := T30.setTop (mkF m 88 #[.val (.int u0), .val (.int u1), .val (.int u2), .val (.int y3), .val (.int y4), .val (.int (0 : Int32)), .val (.int (0 : Int32)), .val (.int (0 : Int32)), .unset] [(.int y3), (.ref b30), (.ref b30)])) (fun t_ k_ => XS.iloadN X30.here hx rfl (hb hby at_87) rfl k_) ?_
          refine own_st (B := T30.setTop (mkF m 90 #[.val (.int u0), .val (.int u1), .val (.int u2), .val (.int y3), .val (.int y4), .val (.int (0 : Int32)), .val (.int (0 : Int32)), .val (.int (0 : Int32)), .unset] [(.int y4), (.int y3), (.ref b30), (.ref b30)])) (fun t_ k_ => XS.iload X30.here hx rfl (hb hby at_88) rfl k_) ?_
          obtain ⟨_, _, ⟨T33, L33, k33, n33⟩, -, X33, ⟨Lc33, hQ33, l33, y33, z33⟩, st33⟩ := X30.specialBack hx (y := (⟨"com/example/cardprobe/cardprobe/procedure/RecordFile", "<init>", "(II)V"⟩ : MethodName)) rfl hown (mvT hZ (hw _ (List.mem_of_getElem? (i := 3) rfl))) (mvT hZ (hw _ (List.mem_of_getElem? (i := 4) rfl))) (mvT hZ (hw _ (List.mem_of_getElem? (i := 5) rfl))) (by decide) (backOf (W := 1) (rm1 l Z a0 hw [] b30 y3 y4 h30 n0 Z32 A30 F30_recordLength F30_recordCount g31) hZ (hw _ (List.mem_of_getElem? (i := 5) rfl)) (hw _ (List.mem_of_getElem? (i := 2) rfl)) (by decide) (by decide)) (g := (mkF m 90 #[.val (.int u0), .val (.int u1), .val (.int u2), .val (.int y3), .val (.int y4), .val (.int (0 : Int32)), .val (.int (0 : Int32)), .val (.int (0 : Int32)), .unset] [(.int y4), (.int y3), (.ref b30), (.ref b30)])) rfl (by rw [hml]; rfl) (Steps.refl _) (a := b30) (argsL := [(.int y3), (.int y4)]) (rest := [(.ref b30)]) (lenOf own_pd1 rfl) rfl (by show 2 * 0 + _ ≤ _; exact Nat.le_of_eq rfl) (hb hby at_90) (fun _ _ => ⟨rfl, e30, (by decide : 1 + 0 ≤ _), (by decide : 2 + 0 ≤ _)⟩)
          dsimp only [Pt.U, Pt.locs, Pt.cells, Pt.slots] at X33 l33 y33 z33 st33 hQ33
          subst l33 y33 z33
          obtain ⟨rfl, N33q, K33, Fa33, Fb33⟩ := hQ33
          have N33 := Fr.app N0 N33q
          have Z34 := Nat.le_trans Z32 K33.1
          refine own_st (B := T33.setTop (mkF m 93 #[.val (.int u0), .val (.int u1), .val (.int u2), .val (.int y3), .val (.int y4), .val (.int (0 : Int32)), .val (.int (0 : Int32)), .val (.int (0 : Int32)), .unset] [(.ref b30)])) (fun t_ k_ => st33.trans k_) ?_
          refine own_st (B := T33.setTop (mkF m 95 #[.val (.int u0), .val (.int u1), .val (.int u2), .val (.int y3), .val (.int y4), .val (.int (0 : Int32)), .val (.int (0 : Int32)), .val (.int (0 : Int32)), .val (.ref b30)] [])) (fun t_ k_ => XS.astore X33.here hx rfl (hb hby at_93) rfl rfl (l' := #[.val (.int u0), .val (.int u1), .val (.int u2), .val (.int y3), .val (.int y4), .val (.int (0 : Int32)), .val (.int (0 : Int32)), .val (.int (0 : Int32)), .val (.ref b30)]) rfl k_) ?_
          refine own_st (B := T33.setTop (mkF m 97 #[.val (.int u0), .val (.int u1), .val (.int u2), .val (.int y3), .val (.int y4), .val (.int (0 : Int32)), .val (.int (0 : Int32)), .val (.int (0 : Int32)), .val (.ref b30)] [(.ref b30)])) (fun t_ k_ => XS.aload X33.here hx rfl (hb hby at_95) rfl rfl k_) ?_
          have u36 := A30.keep K33
          obtain ⟨cq35, kq35, q35a, q35b, q35c⟩ := isOf hZ rfl u36
          obtain ⟨_, _, ⟨T35, L35, k35, n35⟩, -, X35, ⟨Lc35, hQ35, l35, y35, z35⟩, st35⟩ := X33.virtualBack hx (y := (⟨"com/example/cardprobe/cardprobe/procedure/RecordFile", "readable", "()Z"⟩ : MethodName)) (z := (⟨"com/example/cardprobe/cardprobe/procedure/RecordFile", "readable", "()Z"⟩ : MethodName)) hown (mvT hZ (hw _ (List.mem_of_getElem? (i := 18) rfl))) (mvT hZ (hw _ (List.mem_of_getElem? (i := 19) rfl))) (notFace_of_selects (args := #[]) (mvT hZ (hw _ (List.mem_of_getElem? (i := 21) rfl)))) (mvT hZ (hw _ (List.mem_of_getElem? (i := 21) rfl))) (mvT hZ (hw _ (List.mem_of_getElem? (i := 20) rfl))) (by decide) (backOf (W := 0) (rm4 l Z a0 hw [] b30 y3 y4 T33.heap n0 Z34 Fa33 Fb33) hZ (hw _ (List.mem_of_getElem? (i := 22) rfl)) (hw _ (List.mem_of_getElem? (i := 2) rfl)) (by decide) (by decide)) q35a q35c (g := (mkF m 97 #[.val (.int u0), .val (.int u1), .val (.int u2), .val (.int y3), .val (.int y4), .val (.int (0 : Int32)), .val (.int (0 : Int32)), .val (.int (0 : Int32)), .val (.ref b30)] [(.ref b30)])) rfl (by rw [hml]; rfl) (Steps.refl _) (argsL := []) (rest := []) (lenOf own_pd2 rfl) rfl (by show 2 * 0 + _ ≤ _; exact Nat.le_of_eq rfl) (hb hby at_97) (fun _ _ => ⟨rfl, rfl, (by decide : 1 + 0 ≤ _), (by decide : 2 + 0 ≤ _)⟩)
          dsimp only [Pt.U, Pt.locs, Pt.cells, Pt.slots] at X35 l35 y35 z35 st35 hQ35
          subst l35 y35 z35
          obtain ⟨rfl, N35q, eh35⟩ := hQ35
          have N35 := Fr.app N33 N35q
          refine own_st (B := T35.setTop (mkF m 100 #[.val (.int u0), .val (.int u1), .val (.int u2), .val (.int y3), .val (.int y4), .val (.int (0 : Int32)), .val (.int (0 : Int32)), .val (.int (0 : Int32)), .val (.ref b30)] [(.int (own_b (own_rd y3 y4)))])) (fun t_ k_ => st35.trans k_) ?_
          refine own_st (B := T35.setTop (mkF m 102 #[.val (.int u0), .val (.int u1), .val (.int u2), .val (.int y3), .val (.int y4), .val (.int (0 : Int32)), .val (.int (0 : Int32)), .val (.int (0 : Int32)), .val (.ref b30)] [(.int (0 : Int32)), (.int (own_b (own_rd y3 y4)))])) (fun t_ k_ => XS.iload X35.here hx rfl (hb hby at_100) rfl k_) ?_
          have hc37 : (own_b (own_rd y3 y4)) = (0 : Int32) := (own_rd_eq y3 y4).trans (by simp [hc3, hc21])
          have hd37 := own_eq32 hc37
          rw [show (0 : Int32).toInt = 0 from rfl] at hd37
          refine own_st (B := T35.setTop (mkF m 105 #[.val (.int u0), .val (.int u1), .val (.int u2), .val (.int y3), .val (.int y4), .val (.int (0 : Int32)), .val (.int (0 : Int32)), .val (.int (0 : Int32)), .val (.ref b30)] [])) (fun t_ k_ => XS.icmpNo X35.here hx rfl (hb hby at_102) rfl (teq hc37).2 k_) ?_
          refine own_st (B := T35.setTop (mkF m 106 #[.val (.int u0), .val (.int u1), .val (.int u2), .val (.int y3), .val (.int y4), .val (.int (0 : Int32)), .val (.int (0 : Int32)), .val (.int (0 : Int32)), .val (.ref b30)] [(.int (1 : Int32))])) (fun t_ k_ => XS.iconst X35.here hx rfl (hb hby at_105) k_) ?_
          refine own_st (B := T35.setTop (mkF m 110 #[.val (.int u0), .val (.int u1), .val (.int u2), .val (.int y3), .val (.int y4), .val (.int (0 : Int32)), .val (.int (0 : Int32)), .val (.int (0 : Int32)), .val (.ref b30)] [(.int (1 : Int32))])) (fun t_ k_ => XS.goto X35.here hx rfl (pc0 := 106) (pc' := 110) rfl (hb hby at_106) (by decide) (by decide) k_) ?_
          refine own_retN X35 hx (t := .boolean) Bd.returns (by simp) hlk (hb hby at_110) (z' := (1 : Int32)) (by first | rfl | exact own_nb _ | exact own_nbb _) (by decide) (by decide) ?_
          show Q0 Z u0 u1 u2 h0 n0 _ T35.heap _
          rw [eh35]
          exact ⟨rfl, N35⟩
    refine own_st (B := s₁.setTop (mkF m 19 #[.val (.int u0), .val (.int u1), .val (.int u2), .val (.int y3), .unset, .unset, .unset, .unset, .unset] [(.int u2)])) (fun t_ k_ => XS.iloadN X0.here hx rfl (hb hby at_18) rfl k_) ?_
    refine own_st (B := s₁.setTop (mkF m 20 #[.val (.int u0), .val (.int u1), .val (.int u2), .val (.int y3), .unset, .unset, .unset, .unset, .unset] [(.int (2 : Int32)), (.int u2)])) (fun t_ k_ => XS.iconst X0.here hx rfl (hb hby at_19) k_) ?_
    refine own_st (B := s₁.setTop (mkF m 21 #[.val (.int u0), .val (.int u1), .val (.int u2), .val (.int y3), .unset, .unset, .unset, .unset, .unset] [(.int (u2 &&& (2 : Int32)))])) (fun t_ k_ => XS.iand X0.here hx rfl (hb hby at_20) rfl k_) ?_
    by_cases hc38 : (u2 &&& (2 : Int32)) = (0 : Int32)
    · have hd38 := own_eq32 hc38
      rw [show (0 : Int32).toInt = 0 from rfl] at hd38
      refine own_st (B := s₁.setTop (mkF m 34 #[.val (.int u0), .val (.int u1), .val (.int u2), .val (.int y3), .unset, .unset, .unset, .unset, .unset] [])) (fun t_ k_ => XS.ifYes X0.here hx rfl (pc0 := 21) (pc' := 34) rfl (hb hby at_21) rfl ((if0 _ _).trans (teq hc38).1) (by decide) (by decide) k_) ?_
      refine own_st (B := s₁.setTop (mkF m 35 #[.val (.int u0), .val (.int u1), .val (.int u2), .val (.int y3), .unset, .unset, .unset, .unset, .unset] [(.int u1)])) (fun t_ k_ => XS.iloadN X0.here hx rfl (hb hby at_34) rfl k_) ?_
      exact J2  u1 
    · have hd38 := own_neq32 hc38
      rw [show (0 : Int32).toInt = 0 from rfl] at hd38
      refine own_st (B := s₁.setTop (mkF m 24 #[.val (.int u0), .val (.int u1), .val (.int u2), .val (.int y3), .unset, .unset, .unset, .unset, .unset] [])) (fun t_ k_ => XS.ifNo X0.here hx rfl (hb hby at_21) rfl ((if0 _ _).trans (feq hc38).1) k_) ?_
      refine own_st (B := s₁.setTop (mkF m 27 #[.val (.int u0), .val (.int u1), .val (.int u2), .val (.int y3), .unset, .unset, .unset, .unset, .unset] [(.int (252 : Int32))])) (fun t_ k_ => XS.sipush X0.here hx rfl (hb hby at_24) k_) ?_
      refine own_st (B := s₁.setTop (mkF m 28 #[.val (.int u0), .val (.int u1), .val (.int u2), .val (.int y3), .unset, .unset, .unset, .unset, .unset] [(.int u1), (.int (252 : Int32))])) (fun t_ k_ => XS.iloadN X0.here hx rfl (hb hby at_27) rfl k_) ?_
      refine own_st (B := s₁.setTop (mkF m 29 #[.val (.int u0), .val (.int u1), .val (.int u2), .val (.int y3), .unset, .unset, .unset, .unset, .unset] [(.int (3 : Int32)), (.int u1), (.int (252 : Int32))])) (fun t_ k_ => XS.iconst X0.here hx rfl (hb hby at_28) k_) ?_
      refine own_st (B := s₁.setTop (mkF m 30 #[.val (.int u0), .val (.int u1), .val (.int u2), .val (.int y3), .unset, .unset, .unset, .unset, .unset] [(.int (u1 &&& (3 : Int32))), (.int (252 : Int32))])) (fun t_ k_ => XS.iand X0.here hx rfl (hb hby at_29) rfl k_) ?_
      refine own_st (B := s₁.setTop (mkF m 31 #[.val (.int u0), .val (.int u1), .val (.int u2), .val (.int y3), .unset, .unset, .unset, .unset, .unset] [(.int ((252 : Int32) + (u1 &&& (3 : Int32))))])) (fun t_ k_ => XS.iadd X0.here hx rfl (hb hby at_30) rfl k_) ?_
      refine own_st (B := s₁.setTop (mkF m 35 #[.val (.int u0), .val (.int u1), .val (.int u2), .val (.int y3), .unset, .unset, .unset, .unset, .unset] [(.int ((252 : Int32) + (u1 &&& (3 : Int32))))])) (fun t_ k_ => XS.goto X0.here hx rfl (pc0 := 31) (pc' := 35) rfl (hb hby at_31) (by decide) (by decide) k_) ?_
      exact J2  ((252 : Int32) + (u1 &&& (3 : Int32))) 
  refine own_st (B := s₁.setTop (mkF m 1 #[.val (.int u0), .val (.int u1), .val (.int u2), .unset, .unset, .unset, .unset, .unset, .unset] [(.int u2)])) (fun t_ k_ => XS.iloadN X0.here hx rfl (hb hby at_0) rfl k_) ?_
  refine own_st (B := s₁.setTop (mkF m 2 #[.val (.int u0), .val (.int u1), .val (.int u2), .unset, .unset, .unset, .unset, .unset, .unset] [(.int (1 : Int32)), (.int u2)])) (fun t_ k_ => XS.iconst X0.here hx rfl (hb hby at_1) k_) ?_
  refine own_st (B := s₁.setTop (mkF m 3 #[.val (.int u0), .val (.int u1), .val (.int u2), .unset, .unset, .unset, .unset, .unset, .unset] [(.int (u2 &&& (1 : Int32)))])) (fun t_ k_ => XS.iand X0.here hx rfl (hb hby at_2) rfl k_) ?_
  by_cases hc39 : (u2 &&& (1 : Int32)) = (0 : Int32)
  · have hd39 := own_eq32 hc39
    rw [show (0 : Int32).toInt = 0 from rfl] at hd39
    refine own_st (B := s₁.setTop (mkF m 16 #[.val (.int u0), .val (.int u1), .val (.int u2), .unset, .unset, .unset, .unset, .unset, .unset] [])) (fun t_ k_ => XS.ifYes X0.here hx rfl (pc0 := 3) (pc' := 16) rfl (hb hby at_3) rfl ((if0 _ _).trans (teq hc39).1) (by decide) (by decide) k_) ?_
    refine own_st (B := s₁.setTop (mkF m 17 #[.val (.int u0), .val (.int u1), .val (.int u2), .unset, .unset, .unset, .unset, .unset, .unset] [(.int u0)])) (fun t_ k_ => XS.iloadN X0.here hx rfl (hb hby at_16) rfl k_) ?_
    exact J1  u0 
  · have hd39 := own_neq32 hc39
    rw [show (0 : Int32).toInt = 0 from rfl] at hd39
    refine own_st (B := s₁.setTop (mkF m 6 #[.val (.int u0), .val (.int u1), .val (.int u2), .unset, .unset, .unset, .unset, .unset, .unset] [])) (fun t_ k_ => XS.ifNo X0.here hx rfl (hb hby at_3) rfl ((if0 _ _).trans (feq hc39).1) k_) ?_
    refine own_st (B := s₁.setTop (mkF m 9 #[.val (.int u0), .val (.int u1), .val (.int u2), .unset, .unset, .unset, .unset, .unset, .unset] [(.int (254 : Int32))])) (fun t_ k_ => XS.sipush X0.here hx rfl (hb hby at_6) k_) ?_
    refine own_st (B := s₁.setTop (mkF m 10 #[.val (.int u0), .val (.int u1), .val (.int u2), .unset, .unset, .unset, .unset, .unset, .unset] [(.int u0), (.int (254 : Int32))])) (fun t_ k_ => XS.iloadN X0.here hx rfl (hb hby at_9) rfl k_) ?_
    refine own_st (B := s₁.setTop (mkF m 11 #[.val (.int u0), .val (.int u1), .val (.int u2), .unset, .unset, .unset, .unset, .unset, .unset] [(.int (3 : Int32)), (.int u0), (.int (254 : Int32))])) (fun t_ k_ => XS.iconst X0.here hx rfl (hb hby at_10) k_) ?_
    refine own_st (B := s₁.setTop (mkF m 12 #[.val (.int u0), .val (.int u1), .val (.int u2), .unset, .unset, .unset, .unset, .unset, .unset] [(.int (u0 &&& (3 : Int32))), (.int (254 : Int32))])) (fun t_ k_ => XS.iand X0.here hx rfl (hb hby at_11) rfl k_) ?_
    refine own_st (B := s₁.setTop (mkF m 13 #[.val (.int u0), .val (.int u1), .val (.int u2), .unset, .unset, .unset, .unset, .unset, .unset] [(.int ((254 : Int32) + (u0 &&& (3 : Int32))))])) (fun t_ k_ => XS.iadd X0.here hx rfl (hb hby at_12) rfl k_) ?_
    refine own_st (B := s₁.setTop (mkF m 17 #[.val (.int u0), .val (.int u1), .val (.int u2), .unset, .unset, .unset, .unset, .unset, .unset] [(.int ((254 : Int32) + (u0 &&& (3 : Int32))))])) (fun t_ k_ => XS.goto X0.here hx rfl (pc0 := 13) (pc' := 17) rfl (hb hby at_13) (by decide) (by decide) k_) ?_
    exact J1  ((254 : Int32) + (u0 &&& (3 : Int32))) 
set_option maxRecDepth 65536 in
set_option maxHeartbeats 40000000 in
theorem comes_1 {Post : Tables → Env → Array Value → State → Outcome → State → Prop} (hpost : ∀ tb e args s v u, (limb_1_1.after args s (.returned v) u = true ∧ limb_1_2.after args s (.returned v) u = true ∧ True) → FrameEnd s (.returned v) u (Jvm.fieldLocs frame_1_writes args s ++ Jvm.arrayLocs frame_1_arrays args s ++ Jvm.staticLocs frame_1_statics s) 16 128 → Post tb e args s (.returned v) u) :
    ArmFor flags0 classFile x code maxLocals ret World_1 tables_1 room_1 Calls_1 rest_1 Pre_1 Post := by
  intro l hfl _ _ p e ha hc hk s m args below hf hA hF happ hP
  obtain ⟨hcalls, hrest, hpre⟩ := hP
  obtain ⟨-, -, -, hnamed, -, -, -, hat⟩ := (Spec.applies_iff hf).mp happ
  obtain ⟨hg, hn⟩ := and_e (Cond.before_iff.mp (show (Jvm.Cond.and given_1 narrow_1).before args s = true from hpre))
  obtain ⟨gg1, gg2⟩ := and_e hg
  obtain ⟨gg3, gg4⟩ := and_e gg2
  obtain ⟨gg5, gg6⟩ := and_e gg4
  obtain ⟨w0, w1, w2, rfl⟩ : ∃ w0 w1 w2 : Value, args = #[w0, w1, w2] := by
    have hs : args.size = 3 := by simpa [Cond.value, given_1] using gg1
    obtain ⟨L⟩ := args
    match L, hs with
    | [w0, w1, w2], _ => exact ⟨w0, w1, w2, rfl⟩
  have hw := fun d (hd : d ∈ tables_1) => atoms_spec (ws := Jvm.Cond.code x code maxLocals ret :: tables_1) hat d (List.mem_cons_of_mem _ hd)
  have hfit : Fit s := fun {y c} hc i hi => by
    obtain ⟨ha, rfl⟩ := Array.getElem?_eq_some_iff.mp hc
    have q := List.all_eq_true.mp ((Array.all_eq_true_iff_forall_mem.mp hF) _ (Array.getElem_mem ha)) i (List.mem_range.mpr hi)
    simpa [Array.getElem?_eq_getElem hi] using q
  obtain ⟨i0, ei0⟩ := is_v gg3
  obtain rfl : w0 = (.int i0) := Option.some.inj ei0
  obtain ⟨i1, ei1⟩ := is_v gg5
  obtain rfl : w1 = (.int i1) := Option.some.inj ei1
  obtain ⟨i2, ei2⟩ := is_v gg6
  obtain rfl : w2 = (.int i2) := Option.some.inj ei2
  obtain ⟨n, o, h1, h2, h3, _, L, rfl, ⟨rfl, N⟩, hq⟩ := rm0 l s _ hw tables_1 i0 i1 i2 s.heap s.heap.size (Nat.le_refl _)  p e ha hc hk s m _ below hf ((Spec.applies_iff_loose hf).mp happ).1 ⟨rfl, State.Warmed39.refl s, rfl⟩ trivial
  refine ⟨n, _, h1, h2, h3, hpost _ _ _ _ _ _ ⟨Cond.after_iff.mpr rfl, Cond.after_iff.mpr (eq_i res_at (Term.int_eval (1)) rfl), trivial⟩ ⟨hq.1, hq.2.1, (hq.2.2.sift fun y hy => Or.inr (N y hy)).mono (by decide) (by decide)⟩⟩
theorem main_1_1 : Claimed_1_1 := comes_1 fun _ _ _ _ _ _ h hF => ⟨h.1, hF⟩
theorem main_1_2 : Claimed_1_2 := comes_1 fun _ _ _ _ _ _ h hF => ⟨h.2.1, hF⟩
end Jvm.Pilot.@@N@@
namespace Jvm.Pilot.@@N@@
open Jvm Jvm.ClassFile Sem Op Lib Jvm.Free Jvm.Stand Jvm.Pilot.@@N@@.Jvm.D
/-! MADE BY PROGRAM (witnessworld.py) out of the Statement's table words and the real class files: 10 classes; the members and pool entries that the words name. The judged class is class 1, her method 1. -/
namespace start1
open Jvm.ClassFile
def u (s : String) : CpInfo := .utf8 (stringToUtf16 s)
/-- a pool by its gaps: so many unusable entries, then the entry; so many at the end -/
def gap : Nat → List CpInfo → List CpInfo
  | 0, r => r
  | n + 1, r => .unusable :: gap n r
def poolList (es : List (Nat × CpInfo)) (last : Nat) : List CpInfo := es.foldr (fun e r => gap e.1 (e.2 :: r)) (gap last [])
def pool (es : List (Nat × CpInfo)) (last : Nat) : Array CpInfo := ⟨poolList es last⟩
def fileOf (pool : Array CpInfo) (this : Nat) (attrs : Array Attribute := #[]) (ms : Array MethodInfo := #[]) (fl : Nat := 33) (sup : Nat := 0) (ifs : Array Nat := #[]) (fds : Array FieldInfo := #[]) : ClassFile where
  minorVersion := 0
  majorVersion := 65
  constantPool := pool
  accessFlags := fl
  thisClass := this
  superClass := sup
  interfaces := ifs
  fields := fds
  methods := ms
  attributes := attrs
def plain (name : String) (sup : Option ClassId) : Class where
  name := name
  kind := .ordinary
  loader := none
  accessFlags := 33
  super := sup
  interfaces := #[]
  cf := none
  fields := #[]
  methods := #[]
  instanceTypes := #[]
  staticTypes := #[]
  resolved := #[]
  callSites := []
  init := .initialized
  statics := none
  mirror := none

def pool0 : Array CpInfo := pool [(5, u "<init>"), (0, u "()V"), (1, .class_ 10), (1, u "java/lang/Object")] 113

def k0c0 : Code := { maxStack := 0, maxLocals := 1, code := object_method_1_code, exceptionTable := #[], attributes := #[] }
def k0m0 : Method := { name := "<init>", desc := "()V", sig := { parameters := [], returnType := none }, accessFlags := 1, code := some k0c0 }
/-- java/lang/Object -/
def k0 : Class := { plain "java/lang/Object" none with
  accessFlags := 33
  interfaces := #[]
  cf := some (fileOf pool0 8 #[] #[{ accessFlags := 1, nameIndex := 5, descriptorIndex := 6, attributes := #[] }] 33 0 #[] #[])
  fields := #[]
  methods := #[k0m0]
  instanceTypes := #[]
  staticTypes := #[]
  resolved := Array.replicate 124 none
  statics := none }

def pool1 : Array CpInfo := pool [(2, .class_ 4), (1, u "java/lang/Object"), (0, u "<init>"), (0, u "()V"), (0, .class_ 8), (0, u "com/example/cardprobe/cardprobe/procedure/RecordFile"), (0, .methodref 7 10), (0, .nameAndType 5 11), (0, u "(II)V"), (0, .methodref 7 13), (0, .nameAndType 14 15), (0, u "readable"), (0, u "()Z"), (0, .class_ 17), (0, u "com/example/cardprobe/cardprobe/procedure/RecordFileReadablePinLaw"), (2, u "law"), (0, u "(III)Z")] 3

def k1m0 : Method := { name := "<init>", desc := "()V", sig := { parameters := [], returnType := none }, accessFlags := 2, code := none }
def k1c1 : Code := { maxStack := 4, maxLocals := 9, code := code, exceptionTable := #[], attributes := #[] }
def k1m1 : Method := { name := "law", desc := "(III)Z", sig := { parameters := [.int, .int, .int], returnType := some .boolean }, accessFlags := 9, code := some k1c1 }
/-- com/example/cardprobe/cardprobe/procedure/RecordFileReadablePinLaw -/
def k1 : Class := { plain "com/example/cardprobe/cardprobe/procedure/RecordFileReadablePinLaw" (some 0) with
  accessFlags := 49
  interfaces := #[]
  cf := some (fileOf pool1 16 #[] #[{ accessFlags := 2, nameIndex := 5, descriptorIndex := 6, attributes := #[] }, { accessFlags := 9, nameIndex := 20, descriptorIndex := 21, attributes := #[] }] 49 2 #[] #[])
  fields := #[]
  methods := #[k1m0, k1m1]
  instanceTypes := #[]
  staticTypes := #[]
  resolved := Array.replicate 25 none
  statics := none }

def pool2 : Array CpInfo := pool [(1, .methodref 2 3), (0, .class_ 4), (0, .nameAndType 5 6), (0, u "java/lang/Object"), (0, u "<init>"), (0, u "()V"), (0, .class_ 8), (0, u "java/lang/Record")] 13

def k2c0 : Code := { maxStack := 1, maxLocals := 1, code := jdk_30_method_1_code, exceptionTable := #[], attributes := #[] }
def k2m0 : Method := { name := "<init>", desc := "()V", sig := { parameters := [], returnType := none }, accessFlags := 4, code := some k2c0 }
/-- java/lang/Record -/
def k2 : Class := { plain "java/lang/Record" (some 0) with
  accessFlags := 1057
  interfaces := #[]
  cf := some (fileOf pool2 7 #[] #[{ accessFlags := 4, nameIndex := 5, descriptorIndex := 6, attributes := #[] }] 1057 2 #[] #[])
  fields := #[]
  methods := #[k2m0]
  instanceTypes := #[]
  staticTypes := #[]
  resolved := Array.replicate 22 none
  statics := none }

def pool3 : Array CpInfo := pool [(1, .methodref 2 3), (0, .class_ 4), (0, .nameAndType 5 6), (0, u "java/lang/Record"), (0, u "<init>"), (0, u "()V"), (0, .fieldref 8 9), (0, .class_ 10), (0, .nameAndType 11 12), (0, u "com/example/cardprobe/cardprobe/procedure/RecordFile"), (0, u "recordLength"), (0, u "I"), (0, .fieldref 8 14), (0, .nameAndType 15 12), (0, u "recordCount"), (11, u "()Z"), (22, .class_ 52), (1, u "com/example/cardprobe/cardprobe/procedure/RecordFile$Structure"), (32, u "(II)V"), (53, u "readable"), (13, u "DESCRIPTOR_LENGTH"), (2, u "MOST_RECORDS")] 71

def k3c0 : Code := { maxStack := 2, maxLocals := 3, code := prog_57_method_1_code, exceptionTable := #[], attributes := #[] }
def k3m0 : Method := { name := "<init>", desc := "(II)V", sig := { parameters := [.int, .int], returnType := none }, accessFlags := 0, code := some k3c0 }
def k3c1 : Code := { maxStack := 2, maxLocals := 1, code := prog_57_method_4_code, exceptionTable := #[], attributes := #[] }
def k3m1 : Method := { name := "readable", desc := "()Z", sig := { parameters := [], returnType := some .boolean }, accessFlags := 0, code := some k3c1 }
/-- com/example/cardprobe/cardprobe/procedure/RecordFile -/
def k3 : Class := { plain "com/example/cardprobe/cardprobe/procedure/RecordFile" (some 2) with
  accessFlags := 48
  interfaces := #[]
  cf := some (fileOf pool3 8 #[.nestMembers #[50]] #[{ accessFlags := 0, nameIndex := 5, descriptorIndex := 85, attributes := #[] }, { accessFlags := 0, nameIndex := 139, descriptorIndex := 27, attributes := #[] }] 48 2 #[] #[{ accessFlags := 18, nameIndex := 11, descriptorIndex := 12, attributes := #[] }, { accessFlags := 18, nameIndex := 15, descriptorIndex := 12, attributes := #[] }, { accessFlags := 26, nameIndex := 153, descriptorIndex := 12, attributes := #[] }, { accessFlags := 26, nameIndex := 156, descriptorIndex := 12, attributes := #[] }])
  fields := #[{ name := "recordLength", type := .int, accessFlags := 18, slot := 0, constantValue := 0 }, { name := "recordCount", type := .int, accessFlags := 18, slot := 1, constantValue := 0 }, { name := "DESCRIPTOR_LENGTH", type := .int, accessFlags := 26, slot := 0, constantValue := 0 }, { name := "MOST_RECORDS", type := .int, accessFlags := 26, slot := 1, constantValue := 0 }]
  methods := #[k3m0, k3m1]
  instanceTypes := #[.int, .int]
  staticTypes := #[.int, .int]
  resolved := Array.replicate 228 none
  statics := none }

def pool4 : Array CpInfo := pool [(1, u "java/lang/Cloneable"), (0, .class_ 1), (0, u "java/lang/Object"), (0, .class_ 3)] 3

/-- java/lang/Cloneable -/
def k4 : Class := { plain "java/lang/Cloneable" (some 0) with
  accessFlags := 1537
  interfaces := #[]
  cf := some (fileOf pool4 2 #[] #[] 1537 4 #[] #[])
  fields := #[]
  methods := #[]
  instanceTypes := #[]
  staticTypes := #[]
  resolved := Array.replicate 8 none
  statics := none }

def pool5 : Array CpInfo := pool [(1, u "java/io/Serializable"), (0, .class_ 1), (0, u "java/lang/Object"), (0, .class_ 3)] 3

/-- java/io/Serializable -/
def k5 : Class := { plain "java/io/Serializable" (some 0) with
  accessFlags := 1537
  interfaces := #[]
  cf := some (fileOf pool5 2 #[] #[] 1537 4 #[] #[])
  fields := #[]
  methods := #[]
  instanceTypes := #[]
  staticTypes := #[]
  resolved := Array.replicate 8 none
  statics := none }

/-- the primitive byte -/
def k6 : Class := { plain "byte" none with kind := .primitive 'B', accessFlags := 0x411 }
/-- [B -/
def k7 : Class := { plain "[B" (some 0) with kind := .array 6 .byte, interfaces := #[4, 5], accessFlags := 1041 }

/-- the primitive int -/
def k8 : Class := { plain "int" none with kind := .primitive 'I', accessFlags := 0x411 }
/-- [I -/
def k9 : Class := { plain "[I" (some 0) with kind := .array 8 .int, interfaces := #[4, 5], accessFlags := 1041 }

def heap : Heap := #[]
def classes : Array Class := #[k0, k1, k2, k3, k4, k5, k6, k7, k8, k9]
def interned : List (Array UInt16 × Addr) := []
def slotsUsed : Nat := 0
def theMethod : MethodId := ⟨1, 1⟩
def args0 : Array Value := #[.int 5, .int 6, .int 7]
def aboutOver (below : List Frame) : State where
  vm := { classes := classes, interned := interned.toArray }
  heap := heap
  slotsUsed := slotsUsed
  threads := #[{ frames := .invoking theMethod args0 :: below }]
def below0 : List Frame := [.native { method := ⟨0, 0⟩, args := #[] }]
def about1 : State := aboutOver below0
def p0 : Program := .bare "" "" ""
def e0 : Env := launch0.env 0 0 0
theorem w_frames : about1.frames = Frame.invoking theMethod args0 :: below0 := rfl
set_option maxRecDepth 65536 in
theorem w_args : argsFit about1.vm theMethod args0 = true := by decide +kernel
set_option maxRecDepth 65536 in
theorem w_heap : heapFits about1 = true := by decide +kernel
set_option maxRecDepth 65536 in
theorem w_runnable : about1.curStatus? = some .runnable := by decide +kernel
set_option maxRecDepth 65536 in
theorem w_alone : about1.alone = true := by decide +kernel
set_option maxRecDepth 65536 in
theorem w_named : about1.methodNamed? x = some theMethod := by decide +kernel
set_option maxRecDepth 65536 in
theorem w_hears : about1.hears theMethod below0 = true := by decide +kernel
set_option maxRecDepth 65536 in
theorem w_ripe : about1.ripe theMethod args0 below0 = true := by decide +kernel
theorem w_running : about1.status = .running := rfl
set_option maxRecDepth 65536 in
theorem w_room : about1.hasRoom e0.platform room_1 = true :=
  launch0.hasRoom_least _ room_1 (by decide +kernel) (by decide +kernel) (by decide +kernel) (by decide +kernel) (by decide +kernel) (by decide +kernel)
theorem allAtoms_all (ts : List Jvm.Cond) (a : Array Jvm.Value) (st : Jvm.State) : (allAtoms ts).before a st = ts.all (fun c => c.before a st) := by
  induction ts with
  | nil => rfl
  | cons c t ih =>
    show (Jvm.Cond.and c (allAtoms t)).before a st = _
    rw [Jvm.Cond.before_and, ih, List.all_cons]
def words1 : List Jvm.Cond := Jvm.Cond.code x code maxLocals ret :: tables_1
/-- a 'code' word, met by the world's own term for the bytes: nothing is compared byte by byte -/
theorem code_word {y : MethodName} {bytes : ByteArray} {mx : Nat} {rt : Option FieldType} {a : Array Value} {s : State} {m : MethodId} {meth : Method} {c : Code} (h1 : s.methodNamed? y = some m) (h2 : s.vm.method? m = some meth) (h3 : meth.code = some c) (h4 : c.code = bytes)
    (h5 : (c.maxLocals == mx && c.exceptionTable.isEmpty && decide (c.maxStack ≤ mostOperands) && decide (meth.sig.returnType = rt) && !meth.locks && decide (parseMethodDescriptor y.desc = some meth.sig)) = true) : (Jvm.Cond.code y bytes mx rt).before a s = true := by
  simp only [Bool.and_eq_true, beq_iff_eq, Bool.not_eq_true', decide_eq_true_eq] at h5
  obtain ⟨⟨⟨⟨⟨g1, g2⟩, g3⟩, g4⟩, g5⟩, g6⟩ := h5
  simp [Cond.before, Cond.holds, Cond.value, h1, h2, h3, h4, g1, g2, g3, g4, g5, g6]
def isCode : Jvm.Cond → Bool
  | .code _ _ _ _ => true
  | _ => false
theorem all_split {L : List Jvm.Cond} {P : Jvm.Cond → Bool} (h1 : L.all (fun c => isCode c || P c) = true) (h2 : ∀ c ∈ L.filter isCode, P c = true) : L.all P = true := by
  refine List.all_eq_true.mpr fun c hc => ?_
  have h := List.all_eq_true.mp h1 c hc
  rcases Bool.eq_false_or_eq_true (isCode c) with hi | hi
  · exact h2 c (List.mem_filter.mpr ⟨hc, hi⟩)
  · simpa [hi] using h
set_option maxRecDepth 65536 in
theorem w_c0 : (Jvm.Cond.code x code maxLocals ret).before args0 about1 = true := code_word (m := ⟨1, 1⟩) (meth := k1m1) (c := k1c1) (by decide +kernel) rfl rfl rfl (by decide +kernel)
set_option maxRecDepth 65536 in
theorem w_c1 : (Jvm.Cond.code ({ cls := "com/example/cardprobe/cardprobe/procedure/RecordFile", name := "<init>", desc := "(II)V" } : Jvm.MethodName) prog_57_method_1_code (3 : Nat) (Option.none : Option Jvm.ClassFile.FieldType)).before args0 about1 = true := code_word (m := ⟨3, 0⟩) (meth := k3m0) (c := k3c0) (by decide +kernel) rfl rfl rfl (by decide +kernel)
set_option maxRecDepth 65536 in
theorem w_c2 : (Jvm.Cond.code ({ cls := "java/lang/Record", name := "<init>", desc := "()V" } : Jvm.MethodName) jdk_30_method_1_code (1 : Nat) (Option.none : Option Jvm.ClassFile.FieldType)).before args0 about1 = true := code_word (m := ⟨2, 0⟩) (meth := k2m0) (c := k2c0) (by decide +kernel) rfl rfl rfl (by decide +kernel)
set_option maxRecDepth 65536 in
theorem w_c3 : (Jvm.Cond.code ({ cls := "java/lang/Object", name := "<init>", desc := "()V" } : Jvm.MethodName) object_method_1_code (1 : Nat) (Option.none : Option Jvm.ClassFile.FieldType)).before args0 about1 = true := code_word (m := ⟨0, 0⟩) (meth := k0m0) (c := k0c0) (by decide +kernel) rfl rfl rfl (by decide +kernel)
set_option maxRecDepth 65536 in
theorem w_c4 : (Jvm.Cond.code ({ cls := "com/example/cardprobe/cardprobe/procedure/RecordFile", name := "readable", desc := "()Z" } : Jvm.MethodName) prog_57_method_4_code (1 : Nat) (Option.some Jvm.ClassFile.FieldType.boolean)).before args0 about1 = true := code_word (m := ⟨3, 1⟩) (meth := k3m1) (c := k3c1) (by decide +kernel) rfl rfl rfl (by decide +kernel)
def codes1 : List Jvm.Cond := [Jvm.Cond.code x code maxLocals ret, Jvm.Cond.code ({ cls := "com/example/cardprobe/cardprobe/procedure/RecordFile", name := "<init>", desc := "(II)V" } : Jvm.MethodName) prog_57_method_1_code (3 : Nat) (Option.none : Option Jvm.ClassFile.FieldType), Jvm.Cond.code ({ cls := "java/lang/Record", name := "<init>", desc := "()V" } : Jvm.MethodName) jdk_30_method_1_code (1 : Nat) (Option.none : Option Jvm.ClassFile.FieldType), Jvm.Cond.code ({ cls := "java/lang/Object", name := "<init>", desc := "()V" } : Jvm.MethodName) object_method_1_code (1 : Nat) (Option.none : Option Jvm.ClassFile.FieldType), Jvm.Cond.code ({ cls := "com/example/cardprobe/cardprobe/procedure/RecordFile", name := "readable", desc := "()Z" } : Jvm.MethodName) prog_57_method_4_code (1 : Nat) (Option.some Jvm.ClassFile.FieldType.boolean)]
set_option maxRecDepth 65536 in
theorem codes_eq : words1.filter isCode = codes1 := rfl
theorem w_codes : ∀ c ∈ words1.filter isCode, c.before args0 about1 = true := by
  rw [codes_eq]
  intro c hc
  simp only [codes1, List.mem_cons, List.not_mem_nil, or_false] at hc
  rcases hc with rfl | rfl | rfl | rfl | rfl
  · exact w_c0
  · exact w_c1
  · exact w_c2
  · exact w_c3
  · exact w_c4
set_option maxRecDepth 65536 in
theorem w_t1 : words1.all (fun c => isCode c || c.before args0 about1) = true := by decide +kernel
theorem w_tables : (allAtoms (Jvm.Cond.code x code maxLocals ret :: tables_1)).before args0 about1 = true := by
  rw [allAtoms_all]
  show words1.all (fun c => c.before args0 about1) = true
  refine all_split ?_ w_codes
  rw [w_t1]
set_option maxRecDepth 65536 in
theorem w_case : (Jvm.Cond.and given_1 narrow_1).before args0 about1 = true := by decide +kernel
theorem w_applies : (headSpec (Jvm.Cond.code x code maxLocals ret :: tables_1) room_1).applies x e0.platform about1 = true :=
  (Spec.applies_iff w_frames).mpr ⟨w_running, w_runnable, w_alone, w_named, w_hears, w_ripe, w_room, w_tables⟩
theorem atStart : AtStart classFile x code maxLocals ret World_1 tables_1 room_1 Calls_1 rest_1 Pre_1 launch0 p0 e0 about1 theMethod args0 below0 :=
  ⟨lists_1, trivial, launch0.admits_env _ _ _, launch0.least_env, fairChoices_fair.cas, fairChoices_fair.clock, w_frames, w_args, w_heap, w_applies, trivial, trivial, w_case⟩
end start1
theorem witness_1 : WitnessClaimed_1 := ⟨start1.p0, start1.e0, start1.about1, start1.theMethod, start1.args0, start1.below0, start1.atStart⟩
end Jvm.Pilot.@@N@@
