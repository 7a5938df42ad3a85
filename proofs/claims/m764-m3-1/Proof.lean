import JvmDerived
import JvmDerived.Pilot.@@N@@Statement
import JvmDerived.Pilot.@@N@@Code
set_option linter.unusedVariables false
set_option linter.unusedSimpArgs false

namespace Jvm.Pilot.@@N@@
open Jvm Jvm.ClassFile Sem Op Lib Jvm.Free Jvm.Stand Jvm.LawKit Jvm.RoadKit Bundle Jvm.Pilot.@@N@@.Jvm.D
section Own
variable {p : Program} {l : Launch} {e : Env} {R : Room} {s : State} {m : MethodId} {args : Array Value} {below : List Frame} {meth : Method} {c : Code} {T : State} {locs : List Loc} {cells slots : Nat} {Z : State} {h h' : Heap}
/-- the run from A comes to the method's end as Q says, with at most kc new cells and ks new slots -/
def own_E (p : Program) (e : Env) (below : List Frame) (s : State) (Q : Option Value → Heap → List Loc → Prop) (kc ks : Nat) (A : State) : Prop :=
  ∃ s₂ o, Steps p.tables e below A s₂ ∧ s₂.status = .running ∧ Ended s₂ below o ∧ ∃ v L, o = .returned v ∧ Q v s₂.heap L ∧ FrameEnd s o s₂ L kc ks
variable {Q : Option Value → Heap → List Loc → Prop} {kc ks : Nat} {A B : State}
theorem own_st (k : ∀ t, Steps p.tables e below B t → Steps p.tables e below A t) (h : own_E p e below s Q kc ks B) : own_E p e below s Q kc ks A := by
  obtain ⟨t, o, h1, h2⟩ := h
  exact ⟨t, o, k t h1, h2⟩
theorem own_end (X : Stand p l e R s m args below meth c T locs cells slots) {v : Option Value} (hv : meth.sig.returnType = none → v = none) (hlk : meth.locks = false)
    (hk : ∀ fs, (∀ (f : JFrame) (acts : List Action), f.method = m → f.locked = none → f.entered = [] → (doReturn e (T.setTop f) acts v).1 = T.setFrames fs) → Steps p.tables e below A (T.setFrames fs)) (hc : cells ≤ kc) (hs : slots ≤ ks) (hQ : Q v T.heap locs) : own_E p e below s Q kc ks A := by
  obtain ⟨fs, hr, hrun, hended, hW, hsame⟩ := X.leave (v := v) hv hlk
  exact ⟨_, _, hk fs hr, hrun, hended, _, _, rfl, hQ, ⟨_, rfl⟩, hW, hsame.mono hc hs⟩
theorem own_retN (X : Stand p l e R s m args below meth c T locs cells slots) (hx : p.tables.exec = Jvm.exec) {pc : Nat} {Ls : Array Slot} {z z' : Int32} {t : FieldType} {rest : List Value} (hret : meth.sig.returnType = some t) (ht : t = .boolean ∨ t = .byte ∨ t = .char ∨ t = .short) (hlk : meth.locks = false)
    (hd : decode c.code pc = .ok (.ireturn, 1)) (hz : nar t z = z') (hc : cells ≤ kc) (hs : slots ≤ ks) (hQ : Q (some (.int z')) T.heap locs) : own_E p e below s Q kc ks (T.setTop (mkF m pc Ls (.int z :: rest))) := by
  subst hz
  exact own_end X (fun q => by rw [hret] at q; cases q) hlk (fun fs hr => retN X hx hret ht hd hr) hc hs hQ
theorem own_retI (X : Stand p l e R s m args below meth c T locs cells slots) (hx : p.tables.exec = Jvm.exec) {pc : Nat} {Ls : Array Slot} {z : Int32} {rest : List Value} (hret : meth.sig.returnType = some .int) (hlk : meth.locks = false)
    (hd : decode c.code pc = .ok (.ireturn, 1)) (hc : cells ≤ kc) (hs : slots ≤ ks) (hQ : Q (some (.int z)) T.heap locs) : own_E p e below s Q kc ks (T.setTop (mkF m pc Ls (.int z :: rest))) := by
  refine own_end X (fun q => by rw [hret] at q; cases q) hlk (fun fs hr => ?_) hc hs hQ
  have hm' : T.vm.method? m = some meth := X.method'
  have hn : narrow .int (.int z) = .int z := rfl
  show Steps p.tables e below (T.setTop { method := m, pc := pc, locals := Ls, stack := _ :: rest, locked := none }) _
  jvm_step X.here [X.here.top, hx, hd, hm', hret, hn]
  first | (intro acts; rw [hr _ acts rfl rfl rfl]) | rw [hr _ _ rfl rfl rfl]
  exact Steps.refl _
theorem own_retJ (X : Stand p l e R s m args below meth c T locs cells slots) (hx : p.tables.exec = Jvm.exec) {pc : Nat} {Ls : Array Slot} {z : Int64} (hret : meth.sig.returnType = some .long) (hlk : meth.locks = false)
    (hd : decode c.code pc = .ok (.lreturn, 1)) (hc : cells ≤ kc) (hs : slots ≤ ks) (hQ : Q (some (.long z)) T.heap locs) : own_E p e below s Q kc ks (T.setTop (mkF m pc Ls [.long z])) :=
  own_end X (fun q => by rw [hret] at q; cases q) hlk (fun fs hr => X.lreturnOut hx hret hd hr) hc hs hQ
theorem own_retR (X : Stand p l e R s m args below meth c T locs cells slots) (hx : p.tables.exec = Jvm.exec) {pc : Nat} {Ls : Array Slot} {w : Value} {t : FieldType} (hw : w.isRef = true) (hret : meth.sig.returnType = some t) (ht : t.isReference = true) (hlk : meth.locks = false)
    (hd : decode c.code pc = .ok (.areturn, 1)) (hc : cells ≤ kc) (hs : slots ≤ ks) (hQ : Q (some w) T.heap locs) : own_E p e below s Q kc ks (T.setTop (mkF m pc Ls [w])) :=
  own_end X (fun q => by rw [hret] at q; cases q) hlk (fun fs hr => X.areturnOut hx hw hret ht hd hr) hc hs hQ
theorem own_retV (X : Stand p l e R s m args below meth c T locs cells slots) (hx : p.tables.exec = Jvm.exec) {pc : Nat} {Ls : Array Slot} (hret : meth.sig.returnType = none) (hlk : meth.locks = false)
    (hd : decode c.code pc = .ok (.return_, 1)) (hc : cells ≤ kc) (hs : slots ≤ ks) (hQ : Q none T.heap locs) : own_E p e below s Q kc ks (T.setTop (mkF m pc Ls [])) :=
  own_end X (fun _ => rfl) hlk (fun fs hr => X.returnOut hx hret hd hr) hc hs hQ
/-- a boolean as the machine holds it -/
def own_b (b : Bool) : Int32 := if b then 1 else 0
theorem own_b1 {P : Prop} [Decidable P] (h : P) : own_b (decide P) = 1 := by simp [own_b, h]
theorem own_bz {P : Prop} [Decidable P] (h : ¬ P) : own_b (decide P) = 0 := by simp [own_b, h]
theorem own_lt32 {x y : Int32} (h : x < y) : x.toInt < y.toInt := Int32.lt_iff_toInt_lt.mp h
theorem own_nlt32 {x y : Int32} (h : ¬ x < y) : ¬ x.toInt < y.toInt := fun q => h (Int32.lt_iff_toInt_lt.mpr q)
theorem own_eq32 {x y : Int32} (h : x = y) : x.toInt = y.toInt := congrArg _ h
theorem own_neq32 {x y : Int32} (h : ¬ x = y) : ¬ x.toInt = y.toInt := fun q => h (Int32.toInt_inj.mp q)
theorem own_lt64 {x y : Int64} (h : x < y) : x.toInt < y.toInt := Int64.lt_iff_toInt_lt.mp h
theorem own_nlt64 {x y : Int64} (h : ¬ x < y) : ¬ x.toInt < y.toInt := fun q => h (Int64.lt_iff_toInt_lt.mpr q)
theorem own_eq64 {x y : Int64} (h : x = y) : x.toInt = y.toInt := congrArg _ h
theorem own_neq64 {x y : Int64} (h : ¬ x = y) : ¬ x.toInt = y.toInt := fun q => h (Int64.toInt_inj.mp q)
theorem own_b0 {b : Bool} : own_b b = 0 ↔ b = false := by cases b <;> decide
theorem own_nb (b : Bool) : nar .boolean (own_b b) = own_b b := by cases b <;> rfl
theorem own_nbb (x : Int32) : nar .byte (x.toInt8.toInt32) = x.toInt8.toInt32 := by
  show x.toInt8.toInt32.toInt8.toInt32 = x.toInt8.toInt32
  rw [Int8.toInt8_toInt32]
theorem own_stV {l : Array Slot} {i : Nat} {v : Value} {o : Slot} (hold : l[i]? = some o) (ho : o = .unset ∨ ∃ w, o = .val w ∧ w.category = 1) (hv : v.category = 1) : storeLocals l i v = some (l.setIfInBounds i (.val v)) := XS.store1 hold ho hv
theorem own_narV {ty : FieldType} {v : Value} (hv : v.isRef = true) : narrow ty v = v := by
  rcases ref_cases hv with rfl | ⟨a, rfl⟩ <;> cases ty <;> rfl
theorem own_fitV {ty : FieldType} {v : Value} (ht : ty.isReference = true) (hv : v.isRef = true) : fits ty v = true := by
  rcases ref_cases hv with rfl | ⟨a, rfl⟩ <;> cases ty <;> first | rfl | (cases ht; done)
/-- an array of n places, whose place j holds f j -/
def own_A (Z : State) (h : Heap) (a : Addr) (ty : FieldType) (n : Nat) (f : Nat → Int32) : Prop := ∃ c : Cell, Arr Z h a c ty ∧ c.slots.size = n ∧ n < 2 ^ 31 ∧ (∀ j, j < n → c.slots[j]? = some (.int (f j))) ∧ ∀ j, j < n → fits ty (.int (f j)) = true
def own_up (f : Nat → Int32) (i : Nat) (v : Int32) (k : Nat) : Int32 := if k = i then v else f k
theorem own_up_same (f : Nat → Int32) (i : Nat) (v : Int32) : own_up f i v i = v := if_pos rfl
theorem own_up_ne (f : Nat → Int32) {i k : Nat} (v : Int32) (h : ¬ k = i) : own_up f i v k = f k := if_neg h
theorem own_catV {v : Value} (h : v.isRef = true) : v.category = 1 := by rcases ref_cases h with rfl | ⟨a, rfl⟩ <;> rfl
abbrev own_ix (j : Int32) (i : Nat) : Prop := ¬ j < 0 ∧ j.toNatClampNeg = i
variable {a b : Addr} {ty : FieldType} {n i : Nat} {f : Nat → Int32} {j x : Int32} {pc : Nat} {Ls : Array Slot} {rest : List Value} {sl : Nat} {v : Value} {ws : List Addr}
theorem own_A.lt (F : own_A Z h a ty n f) : a < h.size := by obtain ⟨c, A, -⟩ := F; exact A.lt
theorem own_A.ext (F : own_A Z h a ty n f) (E : Ext h h') : own_A Z h' a ty n f := by obtain ⟨c, A, r⟩ := F; exact ⟨c, A.ext E, r⟩
theorem own_A.other (F : own_A Z h b ty n f) (W : Wr h h' a sl v) (q : b ≠ a) : own_A Z h' b ty n f := by obtain ⟨c, A, r⟩ := F; exact ⟨c, A.other W q, r⟩
theorem own_A.keep (F : own_A Z h a ty n f) (K : Keep h h' ws) (q : a ∉ ws) : own_A Z h' a ty n f := by obtain ⟨c, A, r⟩ := F; exact ⟨c, ⟨K.2.1 a c A.1 q, A.2⟩, r⟩
theorem own_A.congr {g : Nat → Int32} (F : own_A Z h a ty n f) (q : ∀ j, j < n → f j = g j) : own_A Z h a ty n g := by obtain ⟨c, A, r1, r2, r3, r4⟩ := F; exact ⟨c, A, r1, r2, fun j hj => by rw [← q j hj]; exact r3 j hj, fun j hj => by rw [← q j hj]; exact r4 j hj⟩
theorem own_A.new {k : ClassId} {z : Int32} (A : Arr Z h a (newA k ty z) ty) (q : ¬ z < 0) (hz : z.toNatClampNeg = n) (hd : defaultValue ty = .int 0 := by rfl) : own_A Z h a ty n (fun _ => 0) := by
  subst hz
  exact ⟨_, A, sz_new _ _ _, (back32 q).2, fun j hj => by simp [newA, hj, hd], fun j hj => by rw [← hd]; cases ty <;> rfl⟩
theorem own_A.set (F : own_A Z h a ty n f) (hj : own_ix j i) (W : Wr h h' a j.toNatClampNeg (.int x)) (hf : fits ty (.int x) = true) : own_A Z h' a ty n (own_up f i x) := by
  obtain ⟨c, A, r1, r2, r3, r4⟩ := F
  obtain ⟨hj1, rfl⟩ := hj
  refine ⟨_, A.same W, by rw [sz_set]; exact r1, r2, fun k hk => ?_, fun k hk => ?_⟩ <;> by_cases q : k = j.toNatClampNeg
  · subst q; simp [Cell.setSlot, own_up, r1, hk]
  · simp only [Cell.setSlot, own_up, if_neg q]; rw [Array.getElem?_setIfInBounds_ne (Ne.symm q)]; exact r3 k hk
  · simp only [own_up, if_pos q]; exact hf
  · simp only [own_up, if_neg q]; exact r4 k hk
theorem own_in (hj : own_ix j i) (hi : i < n) {c : Cell} (hc : c.slots.size = n) : ¬ (j < 0 ∨ c.slots.size ≤ j.toNatClampNeg) := by
  rintro (q | q)
  · exact hj.1 q
  · rw [hj.2, hc] at q; omega
theorem own_stB (X : Stand p l e R s m args below meth c T locs cells slots) (hx : p.tables.exec = Jvm.exec) (hZ : Z.Warmed39 s.vm) (eT : T.heap = h) (A : own_A Z h a .byte n f) (hj : own_ix j i) (hi : i < n) (hd : decode c.code pc = .ok (.bastore, 1)) :
    ∃ T' h', Stand p l e R s m args below meth c T' (locs ++ [⟨a, j.toNatClampNeg⟩]) cells slots ∧ T'.heap = h' ∧ Wr h h' a j.toNatClampNeg (.int (nar .byte x)) ∧ own_A Z h' a .byte n (own_up f i (nar .byte x)) ∧ ∀ t, Steps p.tables e below (T'.setTop (mkF m (pc + 1) Ls rest)) t → Steps p.tables e below (T.setTop (mkF m pc Ls (.int x :: .int j :: .ref a :: rest))) t := by
  have A0 := A
  obtain ⟨cl, A1, r1, r2, r3, r4⟩ := A
  obtain ⟨T', h', X', e', W, st⟩ := stB X hx hZ eT A1 (j := j) (x := x) (own_in hj hi r1) (g := mkF m pc Ls (.int x :: .int j :: .ref a :: rest)) rfl rfl hd
  exact ⟨T', h', X', e', W, A0.set hj W (fits_nar_byte x), st⟩
theorem own_stI (X : Stand p l e R s m args below meth c T locs cells slots) (hx : p.tables.exec = Jvm.exec) (hZ : Z.Warmed39 s.vm) (eT : T.heap = h) (A : own_A Z h a .int n f) (hj : own_ix j i) (hi : i < n) (hd : decode c.code pc = .ok (.iastore, 1)) :
    ∃ T' h', Stand p l e R s m args below meth c T' (locs ++ [⟨a, j.toNatClampNeg⟩]) cells slots ∧ T'.heap = h' ∧ Wr h h' a j.toNatClampNeg (.int x) ∧ own_A Z h' a .int n (own_up f i x) ∧ ∀ t, Steps p.tables e below (T'.setTop (mkF m (pc + 1) Ls rest)) t → Steps p.tables e below (T.setTop (mkF m pc Ls (.int x :: .int j :: .ref a :: rest))) t := by
  have A0 := A
  obtain ⟨cl, A1, r1, r2, r3, r4⟩ := A
  obtain ⟨T', h', X', e', W, st⟩ := stI X hx hZ eT A1 (j := j) (x := x) (own_in hj hi r1) (g := mkF m pc Ls (.int x :: .int j :: .ref a :: rest)) rfl rfl hd
  exact ⟨T', h', X', e', W, A0.set hj W rfl, st⟩
theorem own_ldB (X : Stand p l e R s m args below meth c T locs cells slots) (hx : p.tables.exec = Jvm.exec) (hZ : Z.Warmed39 s.vm) (eT : T.heap = h) (A : own_A Z h a .byte n f) (hj : own_ix j i) (hi : i < n) (hd : decode c.code pc = .ok (.baload, 1)) (t : State)
    (k : Steps p.tables e below (T.setTop (mkF m (pc + 1) Ls (.int (f i) :: rest))) t) : Steps p.tables e below (T.setTop (mkF m pc Ls (.int j :: .ref a :: rest))) t := by
  obtain ⟨cl, A1, r1, r2, r3, r4⟩ := A
  exact X.baloadBytes hx (j := j) (v := .int (f i)) (by rw [eT]; exact A1.1) (State.isArrayOf_alike hZ.alike A1.2.1) A1.2.2 (own_in hj hi r1) (by rw [hj.2]; exact r3 i hi) (g := mkF m pc Ls (.int j :: .ref a :: rest)) rfl rfl hd t k
theorem own_ldI (X : Stand p l e R s m args below meth c T locs cells slots) (hx : p.tables.exec = Jvm.exec) (hZ : Z.Warmed39 s.vm) (eT : T.heap = h) (A : own_A Z h a .int n f) (hj : own_ix j i) (hi : i < n) (hd : decode c.code pc = .ok (.iaload, 1)) (t : State)
    (k : Steps p.tables e below (T.setTop (mkF m (pc + 1) Ls (.int (f i) :: rest))) t) : Steps p.tables e below (T.setTop (mkF m pc Ls (.int j :: .ref a :: rest))) t := by
  obtain ⟨cl, A1, r1, r2, r3, r4⟩ := A
  exact X.iaload hx (j := j) (v := .int (f i)) (by rw [eT]; exact A1.1) (State.isArrayOf_alike hZ.alike A1.2.1) A1.2.2 (own_in hj hi r1) (by rw [hj.2]; exact r3 i hi) (g := mkF m pc Ls (.int j :: .ref a :: rest)) rfl rfl hd t k
theorem own_len {z : Int32} (X : Stand p l e R s m args below meth c T locs cells slots) (hx : p.tables.exec = Jvm.exec) (hZ : Z.Warmed39 s.vm) (eT : T.heap = h) (A : own_A Z h a ty n f) (hz : n.toInt32 = z) (hd : decode c.code pc = .ok (.arraylength, 1)) (t : State)
    (k : Steps p.tables e below (T.setTop (mkF m (pc + 1) Ls (.int z :: rest))) t) : Steps p.tables e below (T.setTop (mkF m pc Ls (.ref a :: rest))) t := by
  obtain ⟨cl, A1, r1, r2, r3, r4⟩ := A
  subst hz
  refine X.arraylength hx (by rw [eT]; exact A1.1) (State.isArrayOf_alike hZ.alike A1.2.1) (g := mkF m pc Ls (.ref a :: rest)) rfl rfl hd t ?_
  rw [r1]; exact k
theorem own_clone (X : Stand p l e R s m args below meth c T locs cells slots) (hx : p.tables.exec = Jvm.exec) (hZ : Z.Warmed39 s.vm) {a0 : Array Value} {own ad : String} {index : Nat} (hown : s.vm.findClass own = some m.cls)
    (w1 : (Cond.methodLink own index ⟨ad, "clone", "()Ljava/lang/Object;"⟩).before a0 Z = true) (w2 : (Cond.sameMethod ad "java/lang/Object" "clone" "()Ljava/lang/Object;").before a0 Z = true) (w3 : (Cond.native ⟨"java/lang/Object", "clone", "()Ljava/lang/Object;"⟩).before a0 Z = true)
    (w4 : (Cond.instanceMethod ⟨"java/lang/Object", "clone", "()Ljava/lang/Object;"⟩).before a0 Z = true) (w5 : (Cond.selects ad ⟨ad, "clone", "()Ljava/lang/Object;"⟩ ⟨"java/lang/Object", "clone", "()Ljava/lang/Object;"⟩).before a0 Z = true) (w6 : (Cond.castable ad "java/lang/Cloneable").before a0 Z = true)
    (eT : T.heap = h) (A : own_A Z h a ty n f) (E : Exa Z h a ad) (hsize : Ls.size = c.maxLocals) (hd : decode c.code pc = .ok (.invokevirtual index, 3))
    (hf : 1 ≤ R.frames) {W cap : Nat} (hW : 2 * 0 + (rest.map fun v => v.category).sum ≤ W) (hl : W + 14 ≤ R.locals) (hcap : n ≤ cap) (hc : cells + 1 ≤ R.cells) (hsl : slots + cap ≤ R.slots) :
    ∃ T' h', Stand p l e R s m args below meth c T' locs (cells + 1) (slots + cap) ∧ T'.heap = h' ∧ Ext h h' ∧ own_A Z h' h.size ty n f ∧ Exa Z h' h.size ad ∧
      ∀ t, Steps p.tables e below (T'.setTop (mkF m (pc + 3) Ls (.ref h.size :: rest))) t → Steps p.tables e below (T.setTop (mkF m pc Ls (.ref a :: rest))) t := by
  obtain ⟨cl, A1, r1, r2, r3, r4⟩ := A
  have FC : FitC Z cl := fitC_of A1 fun i hi v hv => by rw [r1] at hi; rw [r3 i hi] at hv; cases hv; exact r4 i hi
  obtain ⟨T', h', X', e', ex, A', E', st⟩ := cloneA X hx hZ hown w1 w2 w3 w4 w5 w6 eT A1 E FC (g := mkF m pc Ls (.ref a :: rest)) rfl hsize rfl hd hf hW hl (by rw [r1]; exact hcap) hc hsl
  exact ⟨T', h', X', e', ex, ⟨cloneOf cl, A', r1, r2, r3, r4⟩, E', st⟩
theorem own_selP {s : State} {args : Array Value} {y : MethodName} {n : Nat} (hin : (Cond.instantiable y.cls n).before args s = true) (hpriv : s.PrivateAt y) (hinst : (Cond.instanceMethod y).before args s = true) (hy : y.cls ≠ "java/lang/invoke/MethodHandle" ∧ y.cls ≠ "java/lang/invoke/VarHandle") : (Cond.selects y.cls y y).before args s = true := by
  obtain ⟨c, k, h1, h2, -, h4, -⟩ := Cond.instantiable_spec hin
  exact selects_self_of_private h1 h2 (Bool.or_eq_false_iff.mp h4).1 hpriv hinst hy
theorem own_ixa (h : own_ix j i) (k : Nat) (hi : i + k < 2 ^ 31) : own_ix (j + Int32.ofNat k) (i + k) := by
  obtain ⟨h1, h2⟩ := h
  have e0 : (0 : Int32).toInt = 0 := rfl
  have e1 : (Int32.ofNat k).toInt = k := Int32.toInt_ofNat_of_lt (by omega)
  rw [Int32.lt_iff_toInt_lt, e0] at h1
  simp only [Int32.toNatClampNeg] at h2
  have h3 := c_iadd j (Int32.ofNat k); have h4 := rng32 (j + Int32.ofNat k)
  rw [e1] at h3
  refine ⟨by rw [Int32.lt_iff_toInt_lt, e0]; omega, ?_⟩
  simp only [Int32.toNatClampNeg]; omega
theorem own_ixI (h : own_ix j i) : j.toInt = i := by
  obtain ⟨h1, h2⟩ := h
  have e0 : (0 : Int32).toInt = 0 := rfl
  rw [Int32.lt_iff_toInt_lt, e0] at h1
  simp only [Int32.toNatClampNeg] at h2; omega
theorem own_ixof (h : j.toInt = i) : own_ix j i := by
  have e0 : (0 : Int32).toInt = 0 := rfl
  refine ⟨by rw [Int32.lt_iff_toInt_lt, e0]; omega, ?_⟩
  simp only [Int32.toNatClampNeg]; omega
theorem own_ixs (h : ¬ j < 0) : own_ix j j.toNatClampNeg := ⟨h, rfl⟩
theorem own_and3 (x : Int32) (k : Nat) (hk : k < 2 ^ 31) : ¬ (x &&& Int32.ofNat k) < 0 ∧ (x &&& Int32.ofNat k).toNatClampNeg ≤ k := by
  have h0 : 0 ≤ (Int32.ofNat k).toInt := by rw [Int32.toInt_ofNat_of_lt hk]; omega
  have h1 := (c_andS x (Int32.ofNat k)).2.2 h0
  have e0 : (0 : Int32).toInt = 0 := rfl
  refine ⟨by rw [Int32.lt_iff_toInt_lt, e0]; omega, ?_⟩
  have hb : (x &&& Int32.ofNat k).toBitVec.toNat ≤ k := by
    have : (x &&& Int32.ofNat k).toBitVec.toNat = x.toBitVec.toNat &&& (Int32.ofNat k).toBitVec.toNat := by rw [Int32.toBitVec_and, BitVec.toNat_and]
    rw [this]
    refine Nat.le_trans Nat.and_le_right ?_
    show (BitVec.ofNat 32 k).toNat ≤ k
    rw [BitVec.toNat_ofNat]; exact Nat.mod_le _ _
  have e : (x &&& Int32.ofNat k).toInt = ((x &&& Int32.ofNat k).toBitVec.toNat : Int) := by
    show (x &&& Int32.ofNat k).toBitVec.toInt = _
    rw [BitVec.toInt_eq_toNat_cond]; split
    · rfl
    · omega
  simp only [Int32.toNatClampNeg, e]; omega
end Own

def own_ann (t : Int32) : Int32 := if t &&& 255 = 0 then 256 else t &&& 255
theorem own_m (t : Int32) : 0 ≤ (t &&& 255).toInt ∧ (t &&& 255).toInt ≤ 255 := by
  have h := own_and3 t 255 (by decide)
  change ¬ (t &&& 255) < 0 ∧ (t &&& 255).toNatClampNeg ≤ 255 at h
  have e0 : (0 : Int32).toInt = 0 := rfl
  rw [Int32.lt_iff_toInt_lt, e0] at h
  simp only [Int32.toNatClampNeg] at h; omega
theorem own_ann1 (t : Int32) : ¬ own_ann t < 1 := by
  unfold own_ann; split
  · decide
  · rename_i q
    have h := own_m t
    rw [← Int32.toInt_inj] at q
    have e0 : (0 : Int32).toInt = 0 := rfl
    have e1 : (1 : Int32).toInt = 1 := rfl
    rw [Int32.lt_iff_toInt_lt, e1]; omega
theorem own_ann2 (t : Int32) : ¬ 256 < own_ann t := by
  unfold own_ann; split
  · decide
  · have h := own_m t
    have e1 : (256 : Int32).toInt = 256 := rfl
    rw [Int32.lt_iff_toInt_lt, e1]; omega
theorem own_ann3 (t : Int32) : own_ann t &&& 255 = t &&& 255 := by
  unfold own_ann; split
  · rename_i q; rw [q]; decide
  · rw [Int32.and_assoc]; rfl
theorem own_b2_d0 : decode jdk_30_method_1_code 0 = .ok (.aload_n 0, 1) := by decide +kernel
theorem own_b2_d1 : decode jdk_30_method_1_code 1 = .ok (.invokespecial 1, 3) := by decide +kernel
theorem own_b2_d4 : decode jdk_30_method_1_code 4 = .ok (.return_, 1) := by decide +kernel
theorem own_pn0 : plainName "java/lang/Record" = true := by first | (simp [plainName, overriddenIn]; done) | decide +kernel
theorem own_ef_rm2 (m : MethodId) (x0 : Addr) : entryFrame m #[(.ref x0)] 1 = mkF m 0 #[.val (.ref x0)] [] := by first | (simp [entryFrame, mkF, argsToLocals, Value.category]; done) | rfl
def Q2 (Z : State) (a : Addr) (h0 : Heap) (n0 : Nat) (v : Option Value) (h : Heap) (L : List Loc) : Prop := v = none ∧ Fr n0 L ∧ h = h0
set_option maxRecDepth 65536 in
set_option maxHeartbeats 40000000 in
theorem rm2 (l : Launch) (Z : State) (a0 : Array Value) (hw : ∀ d ∈ tables_1, d.before a0 Z = true) (ws : List Jvm.Cond) (a : Addr) (h0 : Heap) (n0 : Nat) (Z0 : n0 ≤ h0.size) :
    MetFree l (⟨"java/lang/Record", "<init>", "()V"⟩ : MethodName) (head1 (Jvm.Cond.code (⟨"java/lang/Record", "<init>", "()V"⟩ : MethodName) jdk_30_method_1_code 1 none :: ws) ({ frames := 1, cells := 0, slots := 0, locals := 12 } : Room)) (fun aa_ U_ => aa_ = #[(.ref a)] ∧ Z.Warmed39 U_.vm ∧ U_.heap = h0) (fun _ _ _ _ _ => True) (fun _ U_ o_ U1_ => ∃ v_ L_, o_ = .returned v_ ∧ Q2 Z a h0 n0 v_ U1_.heap L_ ∧ FrameEnd U_ o_ U1_ L_ ({ frames := 1, cells := 0, slots := 0, locals := 12 } : Room).cells ({ frames := 1, cells := 0, slots := 0, locals := 12 } : Room).slots) := by
  refine MetFree.of_bodySF (plainFor_of_name own_pn0) hisR ?_
  intro p e s m args below meth c s₁ Bd hml0 hP hK
  obtain ⟨rfl, hZ, hh⟩ := hP
  have hx := Bd.exec
  have hby := Bd.bytes
  have hlk := Bd.notSynchronized
  have hml : c.maxLocals = 1 := hml0
  have hown : s.vm.findClass "java/lang/Record" = some m.cls := findClass_of_methodNamed Bd.named
  have hnm := (name_of_methodNamed Bd.named Bd.method).1
  have X0 : Stand p l e ({ frames := 1, cells := 0, slots := 0, locals := 12 } : Room) s m #[(.ref a)] below meth c s₁ [] 0 0 := Stand.of_body Bd
  have e0 : s₁.heap = h0 := by rw [← hh, Bd.state]; rfl
  have N0 := Fr.nil n0
  show own_E p e below s (Q2 Z a h0 n0) ({ frames := 1, cells := 0, slots := 0, locals := 12 } : Room).cells ({ frames := 1, cells := 0, slots := 0, locals := 12 } : Room).slots (s₁.setTop (entryFrame m #[(.ref a)] 1))
  refine own_st (B := s₁.setTop (mkF m 0 #[.val (.ref a)] [])) (fun t_ k_ => castTop (own_ef_rm2 m a) k_) ?_
  refine own_st (B := s₁.setTop (mkF m 1 #[.val (.ref a)] [(.ref a)])) (fun t_ k_ => XS.aloadN X0.here hx rfl (hb hby own_b2_d0) rfl rfl k_) ?_
  obtain ⟨T1, X1, e1, st1⟩ := initO X0 hx hZ hown (hw _ (List.mem_of_getElem? (i := 12) rfl)) (hw _ (List.mem_of_getElem? (i := 13) rfl)) (hw _ (List.mem_of_getElem? (i := 14) rfl)) e0 (g := (mkF m 1 #[.val (.ref a)] [(.ref a)])) rfl (by rw [hml]; rfl) rfl (hb hby own_b2_d1) (by decide) (W := 0) (by show 2 * 0 + _ ≤ _; exact Nat.le_of_eq rfl) (by decide)
  refine own_st (B := T1.setTop (mkF m 4 #[.val (.ref a)] [])) st1 ?_
  refine own_retV X1 hx Bd.returns hlk (hb hby own_b2_d4) (by decide) (by decide) ?_
  show Q2 Z a h0 n0 _ T1.heap _
  rw [e1]
  exact ⟨rfl, N0, rfl⟩
theorem own_pd0 : parseMethodDescriptor "()V" = some ⟨[], none⟩ := by decide +kernel
theorem own_b1_d0 : decode prog_36_method_1_code 0 = .ok (.aload_n 0, 1) := by decide +kernel
theorem own_b1_d1 : decode prog_36_method_1_code 1 = .ok (.invokespecial 1, 3) := by decide +kernel
theorem own_b1_d4 : decode prog_36_method_1_code 4 = .ok (.aload_n 1, 1) := by decide +kernel
theorem own_b1_d5 : decode prog_36_method_1_code 5 = .ok (.invokevirtual 7, 3) := by decide +kernel
theorem own_b1_d8 : decode prog_36_method_1_code 8 = .ok (.checkcast 8, 3) := by decide +kernel
theorem own_b1_d11 : decode prog_36_method_1_code 11 = .ok (.astore_n 1, 1) := by decide +kernel
theorem own_b1_d12 : decode prog_36_method_1_code 12 = .ok (.aload_n 0, 1) := by decide +kernel
theorem own_b1_d13 : decode prog_36_method_1_code 13 = .ok (.aload_n 1, 1) := by decide +kernel
theorem own_b1_d14 : decode prog_36_method_1_code 14 = .ok (.putfield 13, 3) := by decide +kernel
theorem own_b1_d17 : decode prog_36_method_1_code 17 = .ok (.aload_n 0, 1) := by decide +kernel
theorem own_b1_d18 : decode prog_36_method_1_code 18 = .ok (.iload_n 2, 1) := by decide +kernel
theorem own_b1_d19 : decode prog_36_method_1_code 19 = .ok (.putfield 18, 3) := by decide +kernel
theorem own_b1_d22 : decode prog_36_method_1_code 22 = .ok (.return_, 1) := by decide +kernel
theorem own_pn1 : plainName "com/example/cardprobe/cardprobe/judging/Response" = true := by first | (simp [plainName, overriddenIn]; done) | decide +kernel
theorem own_ef_rm1 (m : MethodId) (x0 : Addr) (x1 : Addr) (x2 : Int32) : entryFrame m #[(.ref x0), (.ref x1), (.int x2)] 3 = mkF m 0 #[.val (.ref x0), .val (.ref x1), .val (.int x2)] [] := by first | (simp [entryFrame, mkF, argsToLocals, Value.category]; done) | rfl
def Q1 (Z : State) (a : Addr) (d : Addr) (t : Int32) (k : Nat) (f : Nat → Int32) (h0 : Heap) (n0 : Nat) (v : Option Value) (h : Heap) (L : List Loc) : Prop := v = none ∧ Fr n0 L ∧ Keep h0 h [a] ∧ Fld Z h a "com/example/cardprobe/cardprobe/judging/Response" "status" "I" (.int t) ∧ ∃ b : Addr, h0.size ≤ b ∧ Fld Z h a "com/example/cardprobe/cardprobe/judging/Response" "data" "[B" (.ref b) ∧ own_A Z h b .byte k f
set_option maxRecDepth 65536 in
set_option maxHeartbeats 40000000 in
theorem rm1 (l : Launch) (Z : State) (a0 : Array Value) (hw : ∀ d ∈ tables_1, d.before a0 Z = true) (ws : List Jvm.Cond) (a : Addr) (d : Addr) (t : Int32) (k : Nat) (f : Nat → Int32) (h0 : Heap) (n0 : Nat) (Z0 : n0 ≤ h0.size) (E : Exa Z h0 a "com/example/cardprobe/cardprobe/judging/Response") (Fd : Fld Z h0 a "com/example/cardprobe/cardprobe/judging/Response" "data" "[B" .null) (Fs : Fld Z h0 a "com/example/cardprobe/cardprobe/judging/Response" "status" "I" (.int (0 : Int32))) (A : own_A Z h0 d .byte k f) (Ed : Exa Z h0 d "[B") (ga : n0 ≤ a) (hk : k ≤ 3) :
    MetFree l (⟨"com/example/cardprobe/cardprobe/judging/Response", "<init>", "([BI)V"⟩ : MethodName) (head1 (Jvm.Cond.code (⟨"com/example/cardprobe/cardprobe/judging/Response", "<init>", "([BI)V"⟩ : MethodName) prog_36_method_1_code 3 none :: ws) ({ frames := 2, cells := 1, slots := 3, locals := 24 } : Room)) (fun aa_ U_ => aa_ = #[(.ref a), (.ref d), (.int t)] ∧ Z.Warmed39 U_.vm ∧ U_.heap = h0) (fun _ _ _ _ _ => True) (fun _ U_ o_ U1_ => ∃ v_ L_, o_ = .returned v_ ∧ Q1 Z a d t k f h0 n0 v_ U1_.heap L_ ∧ FrameEnd U_ o_ U1_ L_ ({ frames := 2, cells := 1, slots := 3, locals := 24 } : Room).cells ({ frames := 2, cells := 1, slots := 3, locals := 24 } : Room).slots) := by
  refine MetFree.of_bodySF (plainFor_of_name own_pn1) hisR ?_
  intro p e s m args below meth c s₁ Bd hml0 hP hK
  obtain ⟨rfl, hZ, hh⟩ := hP
  have hx := Bd.exec
  have hby := Bd.bytes
  have hlk := Bd.notSynchronized
  have hml : c.maxLocals = 3 := hml0
  have hown : s.vm.findClass "com/example/cardprobe/cardprobe/judging/Response" = some m.cls := findClass_of_methodNamed Bd.named
  have hnm := (name_of_methodNamed Bd.named Bd.method).1
  have X0 : Stand p l e ({ frames := 2, cells := 1, slots := 3, locals := 24 } : Room) s m #[(.ref a), (.ref d), (.int t)] below meth c s₁ [] 0 0 := Stand.of_body Bd
  have e0 : s₁.heap = h0 := by rw [← hh, Bd.state]; rfl
  have N0 := Fr.nil n0
  show own_E p e below s (Q1 Z a d t k f h0 n0) ({ frames := 2, cells := 1, slots := 3, locals := 24 } : Room).cells ({ frames := 2, cells := 1, slots := 3, locals := 24 } : Room).slots (s₁.setTop (entryFrame m #[(.ref a), (.ref d), (.int t)] 3))
  refine own_st (B := s₁.setTop (mkF m 0 #[.val (.ref a), .val (.ref d), .val (.int t)] [])) (fun t_ k_ => castTop (own_ef_rm1 m a d t) k_) ?_
  have K0 : Keep h0 h0 [a] := Keep.refl _ _
  refine own_st (B := s₁.setTop (mkF m 1 #[.val (.ref a), .val (.ref d), .val (.int t)] [(.ref a)])) (fun t_ k_ => XS.aloadN X0.here hx rfl (hb hby own_b1_d0) rfl rfl k_) ?_
  obtain ⟨_, _, ⟨T1, L1, k1, n1⟩, -, X1, ⟨Lc1, hQ1, l1, y1, z1⟩, st1⟩ := X0.specialBack hx (y := (⟨"java/lang/Record", "<init>", "()V"⟩ : MethodName)) rfl hown (mvT hZ (hw _ (List.mem_of_getElem? (i := 7) rfl))) (mvT hZ (hw _ (List.mem_of_getElem? (i := 8) rfl))) (mvT hZ (hw _ (List.mem_of_getElem? (i := 11) rfl))) (by decide) (backOf (W := 0) (rm2 l Z a0 hw [] a h0 n0 Z0 ) hZ (hw _ (List.mem_of_getElem? (i := 11) rfl)) (hw _ (List.mem_of_getElem? (i := 10) rfl)) (by decide) (by decide)) (g := (mkF m 1 #[.val (.ref a), .val (.ref d), .val (.int t)] [(.ref a)])) rfl (by rw [hml]; rfl) (Steps.refl _) (a := a) (argsL := []) (rest := []) (lenOf own_pd0 rfl) rfl (by show 2 * 0 + _ ≤ _; exact Nat.le_of_eq rfl) (hb hby own_b1_d1) (fun _ _ => ⟨rfl, e0, (by decide : 0 + 0 ≤ _), (by decide : 0 + 0 ≤ _)⟩)
  dsimp only [Pt.U, Pt.locs, Pt.cells, Pt.slots] at X1 l1 y1 z1 st1 hQ1
  subst l1 y1 z1
  obtain ⟨rfl, N1q, eh1⟩ := hQ1
  have N1 := Fr.app N0 N1q
  refine own_st (B := T1.setTop (mkF m 4 #[.val (.ref a), .val (.ref d), .val (.int t)] [])) (fun t_ k_ => st1.trans k_) ?_
  refine own_st (B := T1.setTop (mkF m 5 #[.val (.ref a), .val (.ref d), .val (.int t)] [(.ref d)])) (fun t_ k_ => XS.aloadN X1.here hx rfl (hb hby own_b1_d4) rfl rfl k_) ?_
  obtain ⟨T2, h2, X2, e2, E2, A2, G2, st2⟩ := own_clone X1 hx hZ hown (hw _ (List.mem_of_getElem? (i := 15) rfl)) (hw _ (List.mem_of_getElem? (i := 16) rfl)) (hw _ (List.mem_of_getElem? (i := 20) rfl)) (hw _ (List.mem_of_getElem? (i := 18) rfl)) (hw _ (List.mem_of_getElem? (i := 19) rfl)) (hw _ (List.mem_of_getElem? (i := 21) rfl)) eh1 A Ed (pc := 5) (Ls := #[.val (.ref a), .val (.ref d), .val (.int t)]) (rest := []) (by rw [hml]; rfl) (hb hby own_b1_d5) (by decide) (W := 0) (by show 2 * 0 + _ ≤ _; exact Nat.le_of_eq rfl) (by decide) (cap := 3) hk (by decide) (by decide)
  obtain ⟨b2, g2⟩ : ∃ z, z = h0.size := ⟨_, rfl⟩
  rw [← g2] at A2 G2 st2
  have ne3 : a ≠ b2 := Nat.ne_of_lt (Nat.lt_of_lt_of_le E.lt (Nat.le_of_eq g2.symm))
  have ne4 : d ≠ b2 := Nat.ne_of_lt (Nat.lt_of_lt_of_le A.lt (Nat.le_of_eq g2.symm))
  have g5 : n0 ≤ b2 := Nat.le_trans Z0 (Nat.le_of_eq g2.symm)
  have sz6 : h0.size ≤ b2 := Nat.le_trans K0.1 (Nat.le_of_eq g2.symm)
  have Z7 := Nat.le_trans Z0 E2.1
  have K8 := K0.ext E2
  refine own_st (B := T2.setTop (mkF m 8 #[.val (.ref a), .val (.ref d), .val (.int t)] [(.ref b2)])) st2 ?_
  obtain ⟨T9, X9, e9, st9⟩ := castY X2 hx hZ hown (hw _ (List.mem_of_getElem? (i := 22) rfl)) e2 (Ins.self G2) (g := (mkF m 8 #[.val (.ref a), .val (.ref d), .val (.int t)] [(.ref b2)])) rfl rfl (hb hby own_b1_d8)
  refine own_st (B := T9.setTop (mkF m 11 #[.val (.ref a), .val (.ref d), .val (.int t)] [(.ref b2)])) st9 ?_
  refine own_st (B := T9.setTop (mkF m 12 #[.val (.ref a), .val (.ref b2), .val (.int t)] [])) (fun t_ k_ => XS.astoreN X9.here hx rfl (hb hby own_b1_d11) rfl rfl (l' := #[.val (.ref a), .val (.ref b2), .val (.int t)]) rfl k_) ?_
  refine own_st (B := T9.setTop (mkF m 13 #[.val (.ref a), .val (.ref b2), .val (.int t)] [(.ref a)])) (fun t_ k_ => XS.aloadN X9.here hx rfl (hb hby own_b1_d12) rfl rfl k_) ?_
  refine own_st (B := T9.setTop (mkF m 14 #[.val (.ref a), .val (.ref b2), .val (.int t)] [(.ref b2), (.ref a)])) (fun t_ k_ => XS.aloadN X9.here hx rfl (hb hby own_b1_d13) rfl rfl k_) ?_
  have u10 := E.ext E2
  have u11 := Fd.ext E2
  obtain ⟨T12, h12, X12, e12, W12, st12⟩ := putF X9 hx hZ hown (host := "") (Or.inl (hw _ (List.mem_of_getElem? (i := 24) rfl))) Via.refl e9 u11 u10 (Or.inr ⟨(hw _ (List.mem_of_getElem? (i := 25) rfl)), rfl, hnm⟩) (hw _ (List.mem_of_getElem? (i := 2) rfl)) (ty := (.array .byte)) (by decide) rfl rfl (g := (mkF m 14 #[.val (.ref a), .val (.ref b2), .val (.int t)] [(.ref b2), (.ref a)])) rfl rfl (hb hby own_b1_d14)
  have Fw12 := u11.same W12
  have N12 := Fr.snoc X12 N1 ga
  have Z13 := Nat.le_trans Z7 (Keep.of_wr W12).1
  have K14 := K8.wr W12 (Or.inl (List.mem_of_getElem? (i := 0) rfl))
  refine own_st (B := T12.setTop (mkF m 17 #[.val (.ref a), .val (.ref b2), .val (.int t)] [])) st12 ?_
  refine own_st (B := T12.setTop (mkF m 18 #[.val (.ref a), .val (.ref b2), .val (.int t)] [(.ref a)])) (fun t_ k_ => XS.aloadN X12.here hx rfl (hb hby own_b1_d17) rfl rfl k_) ?_
  refine own_st (B := T12.setTop (mkF m 19 #[.val (.ref a), .val (.ref b2), .val (.int t)] [(.int t), (.ref a)])) (fun t_ k_ => XS.iloadN X12.here hx rfl (hb hby own_b1_d18) rfl k_) ?_
  have u15 := u10.wr W12
  have u16 := Fs.ext E2
  have u17 := u16.other W12 (Or.inr (slot_ne (Or.inr (hw _ (List.mem_of_getElem? (i := 27) rfl))) (Or.inr (hw _ (List.mem_of_getElem? (i := 25) rfl))) (by decide) (t := .int) (t' := (.array .byte)) (by decide) (by decide)))
  obtain ⟨T18, h18, X18, e18, W18, st18⟩ := putF X12 hx hZ hown (host := "") (Or.inl (hw _ (List.mem_of_getElem? (i := 26) rfl))) Via.refl e12 u17 u15 (Or.inr ⟨(hw _ (List.mem_of_getElem? (i := 27) rfl)), rfl, hnm⟩) (hw _ (List.mem_of_getElem? (i := 2) rfl)) (ty := .int) (by decide) rfl rfl (g := (mkF m 19 #[.val (.ref a), .val (.ref b2), .val (.int t)] [(.int t), (.ref a)])) rfl rfl (hb hby own_b1_d19)
  have Fw18 := u17.same W18
  have N18 := Fr.snoc X18 N12 ga
  have Z19 := Nat.le_trans Z13 (Keep.of_wr W18).1
  have K20 := K14.wr W18 (Or.inl (List.mem_of_getElem? (i := 0) rfl))
  refine own_st (B := T18.setTop (mkF m 22 #[.val (.ref a), .val (.ref b2), .val (.int t)] [])) st18 ?_
  refine own_retV X18 hx Bd.returns hlk (hb hby own_b1_d22) (by decide) (by decide) ?_
  show Q1 Z a d t k f h0 n0 _ T18.heap _
  rw [e18]
  have u21 := A2.other W12 (Ne.symm ne3)
  have u22 := u21.other W18 (Ne.symm ne3)
  have u23 := Fw12.other W18 (Or.inr (slot_ne (Or.inr (hw _ (List.mem_of_getElem? (i := 25) rfl))) (Or.inr (hw _ (List.mem_of_getElem? (i := 27) rfl))) (by decide) (t := (.array .byte)) (t' := .int) (by decide) (by decide)))
  exact ⟨rfl, N18, K20, Fw18, b2, sz6, u23, u22⟩
theorem own_b4_d0 : decode prog_36_method_4_code 0 = .ok (.aload_n 0, 1) := by decide +kernel
theorem own_b4_d1 : decode prog_36_method_4_code 1 = .ok (.getfield 18, 3) := by decide +kernel
theorem own_b4_d4 : decode prog_36_method_4_code 4 = .ok (.sipush 255, 3) := by decide +kernel
theorem own_b4_d7 : decode prog_36_method_4_code 7 = .ok (.iand, 1) := by decide +kernel
theorem own_b4_d8 : decode prog_36_method_4_code 8 = .ok (.istore_n 1, 1) := by decide +kernel
theorem own_b4_d9 : decode prog_36_method_4_code 9 = .ok (.iload_n 1, 1) := by decide +kernel
theorem own_b4_d10 : decode prog_36_method_4_code 10 = .ok (.ifCond .ne 9, 3) := by decide +kernel
theorem own_b4_d13 : decode prog_36_method_4_code 13 = .ok (.sipush 256, 3) := by decide +kernel
theorem own_b4_d16 : decode prog_36_method_4_code 16 = .ok (.goto 4, 3) := by decide +kernel
theorem own_b4_d19 : decode prog_36_method_4_code 19 = .ok (.iload_n 1, 1) := by decide +kernel
theorem own_b4_d20 : decode prog_36_method_4_code 20 = .ok (.ireturn, 1) := by decide +kernel
theorem own_ef_rm4 (m : MethodId) (x0 : Addr) : entryFrame m #[(.ref x0)] 2 = mkF m 0 #[.val (.ref x0), .unset] [] := by first | (simp [entryFrame, mkF, argsToLocals, Value.category]; done) | rfl
def Q4 (Z : State) (a : Addr) (t : Int32) (h0 : Heap) (n0 : Nat) (v : Option Value) (h : Heap) (L : List Loc) : Prop := v = some (.int (own_ann t)) ∧ Fr n0 L ∧ h = h0
set_option maxRecDepth 65536 in
set_option maxHeartbeats 40000000 in
theorem rm4 (l : Launch) (Z : State) (a0 : Array Value) (hw : ∀ d ∈ tables_1, d.before a0 Z = true) (ws : List Jvm.Cond) (a : Addr) (t : Int32) (h0 : Heap) (n0 : Nat) (Z0 : n0 ≤ h0.size) (F : Fld Z h0 a "com/example/cardprobe/cardprobe/judging/Response" "status" "I" (.int t)) :
    MetFree l (⟨"com/example/cardprobe/cardprobe/judging/Response", "announcedLength", "()I"⟩ : MethodName) (head1 (Jvm.Cond.code (⟨"com/example/cardprobe/cardprobe/judging/Response", "announcedLength", "()I"⟩ : MethodName) prog_36_method_4_code 2 (some .int) :: ws) ({ frames := 0, cells := 0, slots := 0, locals := 0 } : Room)) (fun aa_ U_ => aa_ = #[(.ref a)] ∧ Z.Warmed39 U_.vm ∧ U_.heap = h0) (fun _ _ _ _ _ => True) (fun _ U_ o_ U1_ => ∃ v_ L_, o_ = .returned v_ ∧ Q4 Z a t h0 n0 v_ U1_.heap L_ ∧ FrameEnd U_ o_ U1_ L_ ({ frames := 0, cells := 0, slots := 0, locals := 0 } : Room).cells ({ frames := 0, cells := 0, slots := 0, locals := 0 } : Room).slots) := by
  refine MetFree.of_bodySF (plainFor_of_name own_pn1) hisR ?_
  intro p e s m args below meth c s₁ Bd hml0 hP hK
  obtain ⟨rfl, hZ, hh⟩ := hP
  have hx := Bd.exec
  have hby := Bd.bytes
  have hlk := Bd.notSynchronized
  have hml : c.maxLocals = 2 := hml0
  have hown : s.vm.findClass "com/example/cardprobe/cardprobe/judging/Response" = some m.cls := findClass_of_methodNamed Bd.named
  have hnm := (name_of_methodNamed Bd.named Bd.method).1
  have X0 : Stand p l e ({ frames := 0, cells := 0, slots := 0, locals := 0 } : Room) s m #[(.ref a)] below meth c s₁ [] 0 0 := Stand.of_body Bd
  have e0 : s₁.heap = h0 := by rw [← hh, Bd.state]; rfl
  have N0 := Fr.nil n0
  show own_E p e below s (Q4 Z a t h0 n0) ({ frames := 0, cells := 0, slots := 0, locals := 0 } : Room).cells ({ frames := 0, cells := 0, slots := 0, locals := 0 } : Room).slots (s₁.setTop (entryFrame m #[(.ref a)] 2))
  refine own_st (B := s₁.setTop (mkF m 0 #[.val (.ref a), .unset] [])) (fun t_ k_ => castTop (own_ef_rm4 m a) k_) ?_
  refine own_st (B := s₁.setTop (mkF m 1 #[.val (.ref a), .unset] [(.ref a)])) (fun t_ k_ => XS.aloadN X0.here hx rfl (hb hby own_b4_d0) rfl rfl k_) ?_
  obtain ⟨T1, X1, e1, st1⟩ := getF X0 hx hZ hown (host := "") (Or.inl (hw _ (List.mem_of_getElem? (i := 26) rfl))) Via.refl e0 F (g := (mkF m 1 #[.val (.ref a), .unset] [(.ref a)])) rfl rfl (hb hby own_b4_d1)
  refine own_st (B := T1.setTop (mkF m 4 #[.val (.ref a), .unset] [(.int t)])) st1 ?_
  refine own_st (B := T1.setTop (mkF m 7 #[.val (.ref a), .unset] [(.int (255 : Int32)), (.int t)])) (fun t_ k_ => XS.sipush X1.here hx rfl (hb hby own_b4_d4) k_) ?_
  refine own_st (B := T1.setTop (mkF m 8 #[.val (.ref a), .unset] [(.int (t &&& (255 : Int32)))])) (fun t_ k_ => XS.iand X1.here hx rfl (hb hby own_b4_d7) rfl k_) ?_
  refine own_st (B := T1.setTop (mkF m 9 #[.val (.ref a), .val (.int (t &&& (255 : Int32)))] [])) (fun t_ k_ => XS.istoreN X1.here hx rfl (hb hby own_b4_d8) rfl (l' := #[.val (.ref a), .val (.int (t &&& (255 : Int32)))]) rfl k_) ?_
  refine own_st (B := T1.setTop (mkF m 10 #[.val (.ref a), .val (.int (t &&& (255 : Int32)))] [(.int (t &&& (255 : Int32)))])) (fun t_ k_ => XS.iloadN X1.here hx rfl (hb hby own_b4_d9) rfl k_) ?_
  by_cases hc2 : (t &&& (255 : Int32)) = (0 : Int32)
  · have hd2 := own_eq32 hc2
    rw [show (0 : Int32).toInt = 0 from rfl] at hd2
    refine own_st (B := T1.setTop (mkF m 13 #[.val (.ref a), .val (.int (t &&& (255 : Int32)))] [])) (fun t_ k_ => XS.ifNo X1.here hx rfl (hb hby own_b4_d10) rfl ((if0 _ _).trans (teq hc2).2) k_) ?_
    refine own_st (B := T1.setTop (mkF m 16 #[.val (.ref a), .val (.int (t &&& (255 : Int32)))] [(.int (256 : Int32))])) (fun t_ k_ => XS.sipush X1.here hx rfl (hb hby own_b4_d13) k_) ?_
    refine own_st (B := T1.setTop (mkF m 20 #[.val (.ref a), .val (.int (t &&& (255 : Int32)))] [(.int (256 : Int32))])) (fun t_ k_ => XS.goto X1.here hx rfl (pc0 := 16) (pc' := 20) rfl (hb hby own_b4_d16) (by decide) (by decide) k_) ?_
    refine own_retI X1 hx Bd.returns hlk (hb hby own_b4_d20) (by decide) (by decide) ?_
    show Q4 Z a t h0 n0 _ T1.heap _
    rw [e1]
    exact ⟨by simp [own_ann, hc2], N0, rfl⟩
  · have hd2 := own_neq32 hc2
    rw [show (0 : Int32).toInt = 0 from rfl] at hd2
    refine own_st (B := T1.setTop (mkF m 19 #[.val (.ref a), .val (.int (t &&& (255 : Int32)))] [])) (fun t_ k_ => XS.ifYes X1.here hx rfl (pc0 := 10) (pc' := 19) rfl (hb hby own_b4_d10) rfl ((if0 _ _).trans (feq hc2).2) (by decide) (by decide) k_) ?_
    refine own_st (B := T1.setTop (mkF m 20 #[.val (.ref a), .val (.int (t &&& (255 : Int32)))] [(.int (t &&& (255 : Int32)))])) (fun t_ k_ => XS.iloadN X1.here hx rfl (hb hby own_b4_d19) rfl k_) ?_
    refine own_retI X1 hx Bd.returns hlk (hb hby own_b4_d20) (by decide) (by decide) ?_
    show Q4 Z a t h0 n0 _ T1.heap _
    rw [e1]
    exact ⟨by simp [own_ann, hc2], N0, rfl⟩
theorem own_posl {z : Int32} (q : 0 < z) : 0 < z.toNatClampNeg := by
  rw [Int32.lt_iff_toInt_lt] at q
  have e0 : (0 : Int32).toInt = 0 := rfl
  simp only [Int32.toNatClampNeg]; omega
theorem own_pd1 : parseMethodDescriptor "([BI)V" = some ⟨[(.array .byte), .int], none⟩ := by decide +kernel
theorem own_pd2 : parseMethodDescriptor "()I" = some ⟨[], some .int⟩ := by decide +kernel
theorem own_pn2 : plainName "com/example/cardprobe/cardprobe/judging/ResponseAnnouncedLengthPinLaw" = true := by first | (simp [plainName, overriddenIn]; done) | decide +kernel
theorem own_ef_rm0 (m : MethodId) (x0 : Int32) (x1 : Int32) (x2 : Int32) : entryFrame m #[(.int x0), (.int x1), (.int x2)] maxLocals = mkF m 0 #[.val (.int x0), .val (.int x1), .val (.int x2), .unset, .unset, .unset] [] := by first | (simp [entryFrame, mkF, argsToLocals, Value.category, maxLocals]; done) | rfl
def Q0 (Z : State) (u0 : Int32) (u1 : Int32) (u2 : Int32) (h0 : Heap) (n0 : Nat) (v : Option Value) (h : Heap) (L : List Loc) : Prop := v = some (.int 1) ∧ Fr n0 L
set_option maxRecDepth 65536 in
set_option maxHeartbeats 40000000 in
theorem rm0 (l : Launch) (Z : State) (a0 : Array Value) (hw : ∀ d ∈ tables_1, d.before a0 Z = true) (ws : List Jvm.Cond) (u0 : Int32) (u1 : Int32) (u2 : Int32) (h0 : Heap) (n0 : Nat) (Z0 : n0 ≤ h0.size) :
    MetFree l x (head1 (Jvm.Cond.code x code maxLocals ret :: ws) room_1) (fun aa_ U_ => aa_ = #[(.int u0), (.int u1), (.int u2)] ∧ Z.Warmed39 U_.vm ∧ U_.heap = h0) (fun _ _ _ _ _ => True) (fun _ U_ o_ U1_ => ∃ v_ L_, o_ = .returned v_ ∧ Q0 Z u0 u1 u2 h0 n0 v_ U1_.heap L_ ∧ FrameEnd U_ o_ U1_ L_ 3 8) := by
  refine MetFree.of_bodySF (plainFor_of_name own_pn2) hisR ?_
  intro p e s m args below meth c s₁ Bd hml0 hP hK
  obtain ⟨rfl, hZ, hh⟩ := hP
  have hx := Bd.exec
  have hby := Bd.bytes
  have hlk := Bd.notSynchronized
  have hml : c.maxLocals = 6 := hml0
  have hown : s.vm.findClass "com/example/cardprobe/cardprobe/judging/ResponseAnnouncedLengthPinLaw" = some m.cls := findClass_of_methodNamed Bd.named
  have hnm := (name_of_methodNamed Bd.named Bd.method).1
  have X0 : Stand p l e room_1 s m #[(.int u0), (.int u1), (.int u2)] below meth c s₁ [] 0 0 := Stand.of_body Bd
  have e0 : s₁.heap = h0 := by rw [← hh, Bd.state]; rfl
  have N0 := Fr.nil n0
  show own_E p e below s (Q0 Z u0 u1 u2 h0 n0) 3 8 (s₁.setTop (entryFrame m #[(.int u0), (.int u1), (.int u2)] maxLocals))
  refine own_st (B := s₁.setTop (mkF m 0 #[.val (.int u0), .val (.int u1), .val (.int u2), .unset, .unset, .unset] [])) (fun t_ k_ => castTop (own_ef_rm0 m u0 u1 u2) k_) ?_
  refine own_st (B := s₁.setTop (mkF m 1 #[.val (.int u0), .val (.int u1), .val (.int u2), .unset, .unset, .unset] [(.int u1)])) (fun t_ k_ => XS.iloadN X0.here hx rfl (hb hby at_0) rfl k_) ?_
  refine own_st (B := s₁.setTop (mkF m 2 #[.val (.int u0), .val (.int u1), .val (.int u2), .unset, .unset, .unset] [(.int (3 : Int32)), (.int u1)])) (fun t_ k_ => XS.iconst X0.here hx rfl (hb hby at_1) k_) ?_
  refine own_st (B := s₁.setTop (mkF m 3 #[.val (.int u0), .val (.int u1), .val (.int u2), .unset, .unset, .unset] [(.int (u1 &&& (3 : Int32)))])) (fun t_ k_ => XS.iand X0.here hx rfl (hb hby at_2) rfl k_) ?_
  obtain ⟨T1, h1, k1, X1, e1, E1, A1, G1, st1⟩ := newPE X0 hx hZ (hw _ (List.mem_of_getElem? (i := 0) rfl)) e0 (g := (mkF m 3 #[.val (.int u0), .val (.int u1), .val (.int u2), .unset, .unset, .unset] [(.int (u1 &&& (3 : Int32)))])) rfl (hb hby at_3) rfl (own_and3 u1 3 (by decide)).1 (cap := 3) (own_and3 u1 3 (by decide)).2 (by decide) (by decide) (by decide) (ad := "[B") (by decide)
  obtain ⟨b1, g1⟩ : ∃ z, z = h0.size := ⟨_, rfl⟩
  rw [← g1] at A1 G1 st1
  have g2 : n0 ≤ b1 := Nat.le_trans Z0 (Nat.le_of_eq g1.symm)
  have Z3 := Nat.le_trans Z0 E1.1
  have a1 : own_A Z h1 b1 .byte (u1 &&& (3 : Int32)).toNatClampNeg (fun _ => 0) := own_A.new A1 (own_and3 u1 3 (by decide)).1 rfl
  refine own_st (B := T1.setTop (mkF m 5 #[.val (.int u0), .val (.int u1), .val (.int u2), .unset, .unset, .unset] [(.ref b1)])) st1 ?_
  refine own_st (B := T1.setTop (mkF m 6 #[.val (.int u0), .val (.int u1), .val (.int u2), .val (.ref b1), .unset, .unset] [])) (fun t_ k_ => XS.astoreN X1.here hx rfl (hb hby at_5) rfl rfl (l' := #[.val (.int u0), .val (.int u1), .val (.int u2), .val (.ref b1), .unset, .unset]) rfl k_) ?_
  refine own_st (B := T1.setTop (mkF m 7 #[.val (.int u0), .val (.int u1), .val (.int u2), .val (.ref b1), .unset, .unset] [(.ref b1)])) (fun t_ k_ => XS.aloadN X1.here hx rfl (hb hby at_6) rfl rfl k_) ?_
  refine own_st (B := T1.setTop (mkF m 8 #[.val (.int u0), .val (.int u1), .val (.int u2), .val (.ref b1), .unset, .unset] [(.int (u1 &&& (3 : Int32)))])) (fun t_ k_ => own_len X1 hx hZ e1 a1 (z := (u1 &&& (3 : Int32))) (back32 (own_and3 u1 3 (by decide)).1).1 (hb hby at_7) t_ k_) ?_
  by_cases hc4 : (0 : Int32) < (u1 &&& (3 : Int32))
  · have hd4 := own_lt32 hc4
    rw [show (0 : Int32).toInt = 0 from rfl] at hd4
    refine own_st (B := T1.setTop (mkF m 11 #[.val (.int u0), .val (.int u1), .val (.int u2), .val (.ref b1), .unset, .unset] [])) (fun t_ k_ => XS.ifNo X1.here hx rfl (hb hby at_8) rfl ((if0 _ _).trans (tlt hc4).2.2.2) k_) ?_
    refine own_st (B := T1.setTop (mkF m 12 #[.val (.int u0), .val (.int u1), .val (.int u2), .val (.ref b1), .unset, .unset] [(.ref b1)])) (fun t_ k_ => XS.aloadN X1.here hx rfl (hb hby at_11) rfl rfl k_) ?_
    refine own_st (B := T1.setTop (mkF m 13 #[.val (.int u0), .val (.int u1), .val (.int u2), .val (.ref b1), .unset, .unset] [(.int (0 : Int32)), (.ref b1)])) (fun t_ k_ => XS.iconst X1.here hx rfl (hb hby at_12) k_) ?_
    refine own_st (B := T1.setTop (mkF m 14 #[.val (.int u0), .val (.int u1), .val (.int u2), .val (.ref b1), .unset, .unset] [(.int u2), (.int (0 : Int32)), (.ref b1)])) (fun t_ k_ => XS.iloadN X1.here hx rfl (hb hby at_13) rfl k_) ?_
    refine own_st (B := T1.setTop (mkF m 15 #[.val (.int u0), .val (.int u1), .val (.int u2), .val (.ref b1), .unset, .unset] [(.int (u2.toInt8.toInt32)), (.int (0 : Int32)), (.ref b1)])) (fun t_ k_ => XS.i2b X1.here hx rfl (hb hby at_14) rfl k_) ?_
    obtain ⟨T5, h5, X5, e5, W5, a5, st5⟩ := own_stB X1 hx hZ e1 a1 (i := 0) (j := (0 : Int32)) (by decide) (own_posl hc4) (pc := 15) (x := (u2.toInt8.toInt32)) (Ls := #[.val (.int u0), .val (.int u1), .val (.int u2), .val (.ref b1), .unset, .unset]) (rest := []) (hb hby at_15)
    have N5 := Fr.snoc X5 N0 g2
    have Z6 := Nat.le_trans Z3 (Keep.of_wr W5).1
    refine own_st (B := T5.setTop (mkF m 16 #[.val (.int u0), .val (.int u1), .val (.int u2), .val (.ref b1), .unset, .unset] [])) st5 ?_
    obtain ⟨T7, h7, X7, e7, E7, A7, D7, -, st7⟩ := newO X5 hx hZ hown (hw _ (List.mem_of_getElem? (i := 1) rfl)) (hw _ (List.mem_of_getElem? (i := 2) rfl)) (hw _ (List.mem_of_getElem? (i := 3) rfl)) e5 (g := (mkF m 16 #[.val (.int u0), .val (.int u1), .val (.int u2), .val (.ref b1), .unset, .unset] [])) rfl (hb hby at_16) (by decide) (by decide)
    obtain ⟨b7, g7⟩ : ∃ z, z = h5.size := ⟨_, rfl⟩
    rw [← g7] at A7 D7 st7
    have ne8 : b1 ≠ b7 := Nat.ne_of_lt (Nat.lt_of_lt_of_le a5.lt (Nat.le_of_eq g7.symm))
    have g9 : n0 ≤ b7 := Nat.le_trans Z6 (Nat.le_of_eq g7.symm)
    have Z10 := Nat.le_trans Z6 E7.1
    have F7_data : Fld Z h7 b7 "com/example/cardprobe/cardprobe/judging/Response" "data" "[B" .null := D7 (Or.inr (hw _ (List.mem_of_getElem? (i := 25) rfl))) (ty := (.array .byte)) (by decide)
    have F7_status : Fld Z h7 b7 "com/example/cardprobe/cardprobe/judging/Response" "status" "I" (.int (0 : Int32)) := D7 (Or.inr (hw _ (List.mem_of_getElem? (i := 27) rfl))) (ty := .int) (by decide)
    refine own_st (B := T7.setTop (mkF m 19 #[.val (.int u0), .val (.int u1), .val (.int u2), .val (.ref b1), .unset, .unset] [(.ref b7)])) st7 ?_
    refine own_st (B := T7.setTop (mkF m 20 #[.val (.int u0), .val (.int u1), .val (.int u2), .val (.ref b1), .unset, .unset] [(.ref b7), (.ref b7)])) (fun t_ k_ => XS.dup X7.here hx rfl (hb hby at_19) rfl rfl k_) ?_
    refine own_st (B := T7.setTop (mkF m 21 #[.val (.int u0), .val (.int u1), .val (.int u2), .val (.ref b1), .unset, .unset] [(.ref b1), (.ref b7), (.ref b7)])) (fun t_ k_ => XS.aloadN X7.here hx rfl (hb hby at_20) rfl rfl k_) ?_
    refine own_st (B := T7.setTop (mkF m 22 #[.val (.int u0), .val (.int u1), .val (.int u2), .val (.ref b1), .unset, .unset] [(.int u0), (.ref b1), (.ref b7), (.ref b7)])) (fun t_ k_ => XS.iloadN X7.here hx rfl (hb hby at_21) rfl k_) ?_
    have u12 := a5.ext E7
    have u13 := G1.wr W5
    have u14 := u13.ext E7
    obtain ⟨_, _, ⟨T11, L11, k11, n11⟩, -, X11, ⟨Lc11, hQ11, l11, y11, z11⟩, st11⟩ := X7.specialBack hx (y := (⟨"com/example/cardprobe/cardprobe/judging/Response", "<init>", "([BI)V"⟩ : MethodName)) rfl hown (mvT hZ (hw _ (List.mem_of_getElem? (i := 4) rfl))) (mvT hZ (hw _ (List.mem_of_getElem? (i := 5) rfl))) (mvT hZ (hw _ (List.mem_of_getElem? (i := 6) rfl))) (by decide) (backOf (W := 1) (rm1 l Z a0 hw [] b7 b1 u0 (u1 &&& (3 : Int32)).toNatClampNeg (own_up (fun _ => 0) 0 (nar .byte (u2.toInt8.toInt32))) h7 n0 Z10 A7 F7_data F7_status u12 u14 g9 (own_and3 u1 3 (by decide)).2) hZ (hw _ (List.mem_of_getElem? (i := 6) rfl)) (hw _ (List.mem_of_getElem? (i := 3) rfl)) (by decide) (by decide)) (g := (mkF m 22 #[.val (.int u0), .val (.int u1), .val (.int u2), .val (.ref b1), .unset, .unset] [(.int u0), (.ref b1), (.ref b7), (.ref b7)])) rfl (by rw [hml]; rfl) (Steps.refl _) (a := b7) (argsL := [(.ref b1), (.int u0)]) (rest := [(.ref b7)]) (lenOf own_pd1 rfl) rfl (by show 2 * 0 + _ ≤ _; exact Nat.le_of_eq rfl) (hb hby at_22) (fun _ _ => ⟨rfl, e7, (by decide : 2 + 1 ≤ _), (by decide : 5 + 3 ≤ _)⟩)
    dsimp only [Pt.U, Pt.locs, Pt.cells, Pt.slots] at X11 l11 y11 z11 st11 hQ11
    subst l11 y11 z11
    obtain ⟨rfl, N11q, K11, Fs11, d11, gd11, Fd11, Ad11⟩ := hQ11
    have N11 := Fr.app N5 N11q
    have ne15 : b1 ≠ d11 := Nat.ne_of_lt (Nat.lt_of_lt_of_le u12.lt gd11)
    have ne16 : b7 ≠ d11 := Nat.ne_of_lt (Nat.lt_of_lt_of_le A7.lt gd11)
    have g17 : n0 ≤ d11 := Nat.le_trans Z10 gd11
    have Z18 := Nat.le_trans Z10 K11.1
    refine own_st (B := T11.setTop (mkF m 25 #[.val (.int u0), .val (.int u1), .val (.int u2), .val (.ref b1), .unset, .unset] [(.ref b7)])) (fun t_ k_ => st11.trans k_) ?_
    refine own_st (B := T11.setTop (mkF m 27 #[.val (.int u0), .val (.int u1), .val (.int u2), .val (.ref b1), .val (.ref b7), .unset] [])) (fun t_ k_ => XS.astore X11.here hx rfl (hb hby at_25) rfl rfl (l' := #[.val (.int u0), .val (.int u1), .val (.int u2), .val (.ref b1), .val (.ref b7), .unset]) rfl k_) ?_
    refine own_st (B := T11.setTop (mkF m 29 #[.val (.int u0), .val (.int u1), .val (.int u2), .val (.ref b1), .val (.ref b7), .unset] [(.ref b7)])) (fun t_ k_ => XS.aload X11.here hx rfl (hb hby at_27) rfl rfl k_) ?_
    have u20 := A7.keep K11
    obtain ⟨cq19, kq19, q19a, q19b, q19c⟩ := isOf hZ rfl u20
    obtain ⟨_, _, ⟨T19, L19, k19, n19⟩, -, X19, ⟨Lc19, hQ19, l19, y19, z19⟩, st19⟩ := X11.virtualBack hx (y := (⟨"com/example/cardprobe/cardprobe/judging/Response", "announcedLength", "()I"⟩ : MethodName)) (z := (⟨"com/example/cardprobe/cardprobe/judging/Response", "announcedLength", "()I"⟩ : MethodName)) hown (mvT hZ (hw _ (List.mem_of_getElem? (i := 28) rfl))) (mvT hZ (hw _ (List.mem_of_getElem? (i := 29) rfl))) (notFace_of_selects (args := #[]) (mvT hZ (hw _ (List.mem_of_getElem? (i := 31) rfl)))) (mvT hZ (hw _ (List.mem_of_getElem? (i := 31) rfl))) (mvT hZ (hw _ (List.mem_of_getElem? (i := 30) rfl))) (by decide) (backOf (W := 0) (rm4 l Z a0 hw [] b7 u0 T11.heap n0 Z18 Fs11) hZ (hw _ (List.mem_of_getElem? (i := 32) rfl)) (hw _ (List.mem_of_getElem? (i := 3) rfl)) (by decide) (by decide)) q19a q19c (g := (mkF m 29 #[.val (.int u0), .val (.int u1), .val (.int u2), .val (.ref b1), .val (.ref b7), .unset] [(.ref b7)])) rfl (by rw [hml]; rfl) (Steps.refl _) (argsL := []) (rest := []) (lenOf own_pd2 rfl) rfl (by show 2 * 0 + _ ≤ _; exact Nat.le_of_eq rfl) (hb hby at_29) (fun _ _ => ⟨rfl, rfl, (by decide : 3 + 0 ≤ _), (by decide : 8 + 0 ≤ _)⟩)
    dsimp only [Pt.U, Pt.locs, Pt.cells, Pt.slots] at X19 l19 y19 z19 st19 hQ19
    subst l19 y19 z19
    obtain ⟨rfl, N19q, eh19⟩ := hQ19
    have N19 := Fr.app N11 N19q
    refine own_st (B := T19.setTop (mkF m 32 #[.val (.int u0), .val (.int u1), .val (.int u2), .val (.ref b1), .val (.ref b7), .unset] [(.int (own_ann u0))])) (fun t_ k_ => st19.trans k_) ?_
    refine own_st (B := T19.setTop (mkF m 34 #[.val (.int u0), .val (.int u1), .val (.int u2), .val (.ref b1), .val (.ref b7), .val (.int (own_ann u0))] [])) (fun t_ k_ => XS.istore X19.here hx rfl (hb hby at_32) rfl (l' := #[.val (.int u0), .val (.int u1), .val (.int u2), .val (.ref b1), .val (.ref b7), .val (.int (own_ann u0))]) rfl k_) ?_
    refine own_st (B := T19.setTop (mkF m 36 #[.val (.int u0), .val (.int u1), .val (.int u2), .val (.ref b1), .val (.ref b7), .val (.int (own_ann u0))] [(.int (own_ann u0))])) (fun t_ k_ => XS.iload X19.here hx rfl (hb hby at_34) rfl k_) ?_
    refine own_st (B := T19.setTop (mkF m 37 #[.val (.int u0), .val (.int u1), .val (.int u2), .val (.ref b1), .val (.ref b7), .val (.int (own_ann u0))] [(.int (1 : Int32)), (.int (own_ann u0))])) (fun t_ k_ => XS.iconst X19.here hx rfl (hb hby at_36) k_) ?_
    have hc21 : ¬ ((own_ann u0) < (1 : Int32)) := own_ann1 u0
    have hd21 := own_nlt32 hc21
    rw [show (1 : Int32).toInt = 1 from rfl] at hd21
    refine own_st (B := T19.setTop (mkF m 40 #[.val (.int u0), .val (.int u1), .val (.int u2), .val (.ref b1), .val (.ref b7), .val (.int (own_ann u0))] [])) (fun t_ k_ => XS.icmpNo X19.here hx rfl (hb hby at_37) rfl (flt hc21).1 k_) ?_
    refine own_st (B := T19.setTop (mkF m 42 #[.val (.int u0), .val (.int u1), .val (.int u2), .val (.ref b1), .val (.ref b7), .val (.int (own_ann u0))] [(.int (own_ann u0))])) (fun t_ k_ => XS.iload X19.here hx rfl (hb hby at_40) rfl k_) ?_
    refine own_st (B := T19.setTop (mkF m 45 #[.val (.int u0), .val (.int u1), .val (.int u2), .val (.ref b1), .val (.ref b7), .val (.int (own_ann u0))] [(.int (256 : Int32)), (.int (own_ann u0))])) (fun t_ k_ => XS.sipush X19.here hx rfl (hb hby at_42) k_) ?_
    have hc22 : ¬ ((256 : Int32) < (own_ann u0)) := own_ann2 u0
    have hd22 := own_nlt32 hc22
    rw [show (256 : Int32).toInt = 256 from rfl] at hd22
    refine own_st (B := T19.setTop (mkF m 48 #[.val (.int u0), .val (.int u1), .val (.int u2), .val (.ref b1), .val (.ref b7), .val (.int (own_ann u0))] [])) (fun t_ k_ => XS.icmpNo X19.here hx rfl (hb hby at_45) rfl (flt hc22).2.2.1 k_) ?_
    refine own_st (B := T19.setTop (mkF m 50 #[.val (.int u0), .val (.int u1), .val (.int u2), .val (.ref b1), .val (.ref b7), .val (.int (own_ann u0))] [(.int (own_ann u0))])) (fun t_ k_ => XS.iload X19.here hx rfl (hb hby at_48) rfl k_) ?_
    refine own_st (B := T19.setTop (mkF m 53 #[.val (.int u0), .val (.int u1), .val (.int u2), .val (.ref b1), .val (.ref b7), .val (.int (own_ann u0))] [(.int (255 : Int32)), (.int (own_ann u0))])) (fun t_ k_ => XS.sipush X19.here hx rfl (hb hby at_50) k_) ?_
    refine own_st (B := T19.setTop (mkF m 54 #[.val (.int u0), .val (.int u1), .val (.int u2), .val (.ref b1), .val (.ref b7), .val (.int (own_ann u0))] [(.int ((own_ann u0) &&& (255 : Int32)))])) (fun t_ k_ => XS.iand X19.here hx rfl (hb hby at_53) rfl k_) ?_
    refine own_st (B := T19.setTop (mkF m 55 #[.val (.int u0), .val (.int u1), .val (.int u2), .val (.ref b1), .val (.ref b7), .val (.int (own_ann u0))] [(.int u0), (.int ((own_ann u0) &&& (255 : Int32)))])) (fun t_ k_ => XS.iloadN X19.here hx rfl (hb hby at_54) rfl k_) ?_
    refine own_st (B := T19.setTop (mkF m 58 #[.val (.int u0), .val (.int u1), .val (.int u2), .val (.ref b1), .val (.ref b7), .val (.int (own_ann u0))] [(.int (255 : Int32)), (.int u0), (.int ((own_ann u0) &&& (255 : Int32)))])) (fun t_ k_ => XS.sipush X19.here hx rfl (hb hby at_55) k_) ?_
    refine own_st (B := T19.setTop (mkF m 59 #[.val (.int u0), .val (.int u1), .val (.int u2), .val (.ref b1), .val (.ref b7), .val (.int (own_ann u0))] [(.int (u0 &&& (255 : Int32))), (.int ((own_ann u0) &&& (255 : Int32)))])) (fun t_ k_ => XS.iand X19.here hx rfl (hb hby at_58) rfl k_) ?_
    have hc23 : ((own_ann u0) &&& (255 : Int32)) = (u0 &&& (255 : Int32)) := own_ann3 u0
    have hd23 := own_eq32 hc23
    refine own_st (B := T19.setTop (mkF m 62 #[.val (.int u0), .val (.int u1), .val (.int u2), .val (.ref b1), .val (.ref b7), .val (.int (own_ann u0))] [])) (fun t_ k_ => XS.icmpNo X19.here hx rfl (hb hby at_59) rfl (teq hc23).2 k_) ?_
    refine own_st (B := T19.setTop (mkF m 63 #[.val (.int u0), .val (.int u1), .val (.int u2), .val (.ref b1), .val (.ref b7), .val (.int (own_ann u0))] [(.int (1 : Int32))])) (fun t_ k_ => XS.iconst X19.here hx rfl (hb hby at_62) k_) ?_
    refine own_st (B := T19.setTop (mkF m 67 #[.val (.int u0), .val (.int u1), .val (.int u2), .val (.ref b1), .val (.ref b7), .val (.int (own_ann u0))] [(.int (1 : Int32))])) (fun t_ k_ => XS.goto X19.here hx rfl (pc0 := 63) (pc' := 67) rfl (hb hby at_63) (by decide) (by decide) k_) ?_
    refine own_retN X19 hx (t := .boolean) Bd.returns (by simp) hlk (hb hby at_67) (z' := (1 : Int32)) (by first | rfl | exact own_nb _ | exact own_nbb _) (by decide) (by decide) ?_
    show Q0 Z u0 u1 u2 h0 n0 _ T19.heap _
    rw [eh19]
    exact ⟨rfl, N19⟩
  · have hd4 := own_nlt32 hc4
    rw [show (0 : Int32).toInt = 0 from rfl] at hd4
    refine own_st (B := T1.setTop (mkF m 16 #[.val (.int u0), .val (.int u1), .val (.int u2), .val (.ref b1), .unset, .unset] [])) (fun t_ k_ => XS.ifYes X1.here hx rfl (pc0 := 8) (pc' := 16) rfl (hb hby at_8) rfl ((if0 _ _).trans (flt hc4).2.2.2) (by decide) (by decide) k_) ?_
    obtain ⟨T24, h24, X24, e24, E24, A24, D24, -, st24⟩ := newO X1 hx hZ hown (hw _ (List.mem_of_getElem? (i := 1) rfl)) (hw _ (List.mem_of_getElem? (i := 2) rfl)) (hw _ (List.mem_of_getElem? (i := 3) rfl)) e1 (g := (mkF m 16 #[.val (.int u0), .val (.int u1), .val (.int u2), .val (.ref b1), .unset, .unset] [])) rfl (hb hby at_16) (by decide) (by decide)
    obtain ⟨b24, g24⟩ : ∃ z, z = h1.size := ⟨_, rfl⟩
    rw [← g24] at A24 D24 st24
    have ne25 : b1 ≠ b24 := Nat.ne_of_lt (Nat.lt_of_lt_of_le a1.lt (Nat.le_of_eq g24.symm))
    have g26 : n0 ≤ b24 := Nat.le_trans Z3 (Nat.le_of_eq g24.symm)
    have Z27 := Nat.le_trans Z3 E24.1
    have F24_data : Fld Z h24 b24 "com/example/cardprobe/cardprobe/judging/Response" "data" "[B" .null := D24 (Or.inr (hw _ (List.mem_of_getElem? (i := 25) rfl))) (ty := (.array .byte)) (by decide)
    have F24_status : Fld Z h24 b24 "com/example/cardprobe/cardprobe/judging/Response" "status" "I" (.int (0 : Int32)) := D24 (Or.inr (hw _ (List.mem_of_getElem? (i := 27) rfl))) (ty := .int) (by decide)
    refine own_st (B := T24.setTop (mkF m 19 #[.val (.int u0), .val (.int u1), .val (.int u2), .val (.ref b1), .unset, .unset] [(.ref b24)])) st24 ?_
    refine own_st (B := T24.setTop (mkF m 20 #[.val (.int u0), .val (.int u1), .val (.int u2), .val (.ref b1), .unset, .unset] [(.ref b24), (.ref b24)])) (fun t_ k_ => XS.dup X24.here hx rfl (hb hby at_19) rfl rfl k_) ?_
    refine own_st (B := T24.setTop (mkF m 21 #[.val (.int u0), .val (.int u1), .val (.int u2), .val (.ref b1), .unset, .unset] [(.ref b1), (.ref b24), (.ref b24)])) (fun t_ k_ => XS.aloadN X24.here hx rfl (hb hby at_20) rfl rfl k_) ?_
    refine own_st (B := T24.setTop (mkF m 22 #[.val (.int u0), .val (.int u1), .val (.int u2), .val (.ref b1), .unset, .unset] [(.int u0), (.ref b1), (.ref b24), (.ref b24)])) (fun t_ k_ => XS.iloadN X24.here hx rfl (hb hby at_21) rfl k_) ?_
    have u29 := a1.ext E24
    have u30 := G1.ext E24
    obtain ⟨_, _, ⟨T28, L28, k28, n28⟩, -, X28, ⟨Lc28, hQ28, l28, y28, z28⟩, st28⟩ := X24.specialBack hx (y := (⟨"com/example/cardprobe/cardprobe/judging/Response", "<init>", "([BI)V"⟩ : MethodName)) rfl hown (mvT hZ (hw _ (List.mem_of_getElem? (i := 4) rfl))) (mvT hZ (hw _ (List.mem_of_getElem? (i := 5) rfl))) (mvT hZ (hw _ (List.mem_of_getElem? (i := 6) rfl))) (by decide) (backOf (W := 1) (rm1 l Z a0 hw [] b24 b1 u0 (u1 &&& (3 : Int32)).toNatClampNeg (fun _ => 0) h24 n0 Z27 A24 F24_data F24_status u29 u30 g26 (own_and3 u1 3 (by decide)).2) hZ (hw _ (List.mem_of_getElem? (i := 6) rfl)) (hw _ (List.mem_of_getElem? (i := 3) rfl)) (by decide) (by decide)) (g := (mkF m 22 #[.val (.int u0), .val (.int u1), .val (.int u2), .val (.ref b1), .unset, .unset] [(.int u0), (.ref b1), (.ref b24), (.ref b24)])) rfl (by rw [hml]; rfl) (Steps.refl _) (a := b24) (argsL := [(.ref b1), (.int u0)]) (rest := [(.ref b24)]) (lenOf own_pd1 rfl) rfl (by show 2 * 0 + _ ≤ _; exact Nat.le_of_eq rfl) (hb hby at_22) (fun _ _ => ⟨rfl, e24, (by decide : 2 + 1 ≤ _), (by decide : 5 + 3 ≤ _)⟩)
    dsimp only [Pt.U, Pt.locs, Pt.cells, Pt.slots] at X28 l28 y28 z28 st28 hQ28
    subst l28 y28 z28
    obtain ⟨rfl, N28q, K28, Fs28, d28, gd28, Fd28, Ad28⟩ := hQ28
    have N28 := Fr.app N0 N28q
    have ne31 : b1 ≠ d28 := Nat.ne_of_lt (Nat.lt_of_lt_of_le u29.lt gd28)
    have ne32 : b24 ≠ d28 := Nat.ne_of_lt (Nat.lt_of_lt_of_le A24.lt gd28)
    have g33 : n0 ≤ d28 := Nat.le_trans Z27 gd28
    have Z34 := Nat.le_trans Z27 K28.1
    refine own_st (B := T28.setTop (mkF m 25 #[.val (.int u0), .val (.int u1), .val (.int u2), .val (.ref b1), .unset, .unset] [(.ref b24)])) (fun t_ k_ => st28.trans k_) ?_
    refine own_st (B := T28.setTop (mkF m 27 #[.val (.int u0), .val (.int u1), .val (.int u2), .val (.ref b1), .val (.ref b24), .unset] [])) (fun t_ k_ => XS.astore X28.here hx rfl (hb hby at_25) rfl rfl (l' := #[.val (.int u0), .val (.int u1), .val (.int u2), .val (.ref b1), .val (.ref b24), .unset]) rfl k_) ?_
    refine own_st (B := T28.setTop (mkF m 29 #[.val (.int u0), .val (.int u1), .val (.int u2), .val (.ref b1), .val (.ref b24), .unset] [(.ref b24)])) (fun t_ k_ => XS.aload X28.here hx rfl (hb hby at_27) rfl rfl k_) ?_
    have u36 := A24.keep K28
    obtain ⟨cq35, kq35, q35a, q35b, q35c⟩ := isOf hZ rfl u36
    obtain ⟨_, _, ⟨T35, L35, k35, n35⟩, -, X35, ⟨Lc35, hQ35, l35, y35, z35⟩, st35⟩ := X28.virtualBack hx (y := (⟨"com/example/cardprobe/cardprobe/judging/Response", "announcedLength", "()I"⟩ : MethodName)) (z := (⟨"com/example/cardprobe/cardprobe/judging/Response", "announcedLength", "()I"⟩ : MethodName)) hown (mvT hZ (hw _ (List.mem_of_getElem? (i := 28) rfl))) (mvT hZ (hw _ (List.mem_of_getElem? (i := 29) rfl))) (notFace_of_selects (args := #[]) (mvT hZ (hw _ (List.mem_of_getElem? (i := 31) rfl)))) (mvT hZ (hw _ (List.mem_of_getElem? (i := 31) rfl))) (mvT hZ (hw _ (List.mem_of_getElem? (i := 30) rfl))) (by decide) (backOf (W := 0) (rm4 l Z a0 hw [] b24 u0 T28.heap n0 Z34 Fs28) hZ (hw _ (List.mem_of_getElem? (i := 32) rfl)) (hw _ (List.mem_of_getElem? (i := 3) rfl)) (by decide) (by decide)) q35a q35c (g := (mkF m 29 #[.val (.int u0), .val (.int u1), .val (.int u2), .val (.ref b1), .val (.ref b24), .unset] [(.ref b24)])) rfl (by rw [hml]; rfl) (Steps.refl _) (argsL := []) (rest := []) (lenOf own_pd2 rfl) rfl (by show 2 * 0 + _ ≤ _; exact Nat.le_of_eq rfl) (hb hby at_29) (fun _ _ => ⟨rfl, rfl, (by decide : 3 + 0 ≤ _), (by decide : 8 + 0 ≤ _)⟩)
    dsimp only [Pt.U, Pt.locs, Pt.cells, Pt.slots] at X35 l35 y35 z35 st35 hQ35
    subst l35 y35 z35
    obtain ⟨rfl, N35q, eh35⟩ := hQ35
    have N35 := Fr.app N28 N35q
    refine own_st (B := T35.setTop (mkF m 32 #[.val (.int u0), .val (.int u1), .val (.int u2), .val (.ref b1), .val (.ref b24), .unset] [(.int (own_ann u0))])) (fun t_ k_ => st35.trans k_) ?_
    refine own_st (B := T35.setTop (mkF m 34 #[.val (.int u0), .val (.int u1), .val (.int u2), .val (.ref b1), .val (.ref b24), .val (.int (own_ann u0))] [])) (fun t_ k_ => XS.istore X35.here hx rfl (hb hby at_32) rfl (l' := #[.val (.int u0), .val (.int u1), .val (.int u2), .val (.ref b1), .val (.ref b24), .val (.int (own_ann u0))]) rfl k_) ?_
    refine own_st (B := T35.setTop (mkF m 36 #[.val (.int u0), .val (.int u1), .val (.int u2), .val (.ref b1), .val (.ref b24), .val (.int (own_ann u0))] [(.int (own_ann u0))])) (fun t_ k_ => XS.iload X35.here hx rfl (hb hby at_34) rfl k_) ?_
    refine own_st (B := T35.setTop (mkF m 37 #[.val (.int u0), .val (.int u1), .val (.int u2), .val (.ref b1), .val (.ref b24), .val (.int (own_ann u0))] [(.int (1 : Int32)), (.int (own_ann u0))])) (fun t_ k_ => XS.iconst X35.here hx rfl (hb hby at_36) k_) ?_
    have hc37 : ¬ ((own_ann u0) < (1 : Int32)) := own_ann1 u0
    have hd37 := own_nlt32 hc37
    rw [show (1 : Int32).toInt = 1 from rfl] at hd37
    refine own_st (B := T35.setTop (mkF m 40 #[.val (.int u0), .val (.int u1), .val (.int u2), .val (.ref b1), .val (.ref b24), .val (.int (own_ann u0))] [])) (fun t_ k_ => XS.icmpNo X35.here hx rfl (hb hby at_37) rfl (flt hc37).1 k_) ?_
    refine own_st (B := T35.setTop (mkF m 42 #[.val (.int u0), .val (.int u1), .val (.int u2), .val (.ref b1), .val (.ref b24), .val (.int (own_ann u0))] [(.int (own_ann u0))])) (fun t_ k_ => XS.iload X35.here hx rfl (hb hby at_40) rfl k_) ?_
    refine own_st (B := T35.setTop (mkF m 45 #[.val (.int u0), .val (.int u1), .val (.int u2), .val (.ref b1), .val (.ref b24), .val (.int (own_ann u0))] [(.int (256 : Int32)), (.int (own_ann u0))])) (fun t_ k_ => XS.sipush X35.here hx rfl (hb hby at_42) k_) ?_
    have hc38 : ¬ ((256 : Int32) < (own_ann u0)) := own_ann2 u0
    have hd38 := own_nlt32 hc38
    rw [show (256 : Int32).toInt = 256 from rfl] at hd38
    refine own_st (B := T35.setTop (mkF m 48 #[.val (.int u0), .val (.int u1), .val (.int u2), .val (.ref b1), .val (.ref b24), .val (.int (own_ann u0))] [])) (fun t_ k_ => XS.icmpNo X35.here hx rfl (hb hby at_45) rfl (flt hc38).2.2.1 k_) ?_
    refine own_st (B := T35.setTop (mkF m 50 #[.val (.int u0), .val (.int u1), .val (.int u2), .val (.ref b1), .val (.ref b24), .val (.int (own_ann u0))] [(.int (own_ann u0))])) (fun t_ k_ => XS.iload X35.here hx rfl (hb hby at_48) rfl k_) ?_
    refine own_st (B := T35.setTop (mkF m 53 #[.val (.int u0), .val (.int u1), .val (.int u2), .val (.ref b1), .val (.ref b24), .val (.int (own_ann u0))] [(.int (255 : Int32)), (.int (own_ann u0))])) (fun t_ k_ => XS.sipush X35.here hx rfl (hb hby at_50) k_) ?_
    refine own_st (B := T35.setTop (mkF m 54 #[.val (.int u0), .val (.int u1), .val (.int u2), .val (.ref b1), .val (.ref b24), .val (.int (own_ann u0))] [(.int ((own_ann u0) &&& (255 : Int32)))])) (fun t_ k_ => XS.iand X35.here hx rfl (hb hby at_53) rfl k_) ?_
    refine own_st (B := T35.setTop (mkF m 55 #[.val (.int u0), .val (.int u1), .val (.int u2), .val (.ref b1), .val (.ref b24), .val (.int (own_ann u0))] [(.int u0), (.int ((own_ann u0) &&& (255 : Int32)))])) (fun t_ k_ => XS.iloadN X35.here hx rfl (hb hby at_54) rfl k_) ?_
    refine own_st (B := T35.setTop (mkF m 58 #[.val (.int u0), .val (.int u1), .val (.int u2), .val (.ref b1), .val (.ref b24), .val (.int (own_ann u0))] [(.int (255 : Int32)), (.int u0), (.int ((own_ann u0) &&& (255 : Int32)))])) (fun t_ k_ => XS.sipush X35.here hx rfl (hb hby at_55) k_) ?_
    refine own_st (B := T35.setTop (mkF m 59 #[.val (.int u0), .val (.int u1), .val (.int u2), .val (.ref b1), .val (.ref b24), .val (.int (own_ann u0))] [(.int (u0 &&& (255 : Int32))), (.int ((own_ann u0) &&& (255 : Int32)))])) (fun t_ k_ => XS.iand X35.here hx rfl (hb hby at_58) rfl k_) ?_
    have hc39 : ((own_ann u0) &&& (255 : Int32)) = (u0 &&& (255 : Int32)) := own_ann3 u0
    have hd39 := own_eq32 hc39
    refine own_st (B := T35.setTop (mkF m 62 #[.val (.int u0), .val (.int u1), .val (.int u2), .val (.ref b1), .val (.ref b24), .val (.int (own_ann u0))] [])) (fun t_ k_ => XS.icmpNo X35.here hx rfl (hb hby at_59) rfl (teq hc39).2 k_) ?_
    refine own_st (B := T35.setTop (mkF m 63 #[.val (.int u0), .val (.int u1), .val (.int u2), .val (.ref b1), .val (.ref b24), .val (.int (own_ann u0))] [(.int (1 : Int32))])) (fun t_ k_ => XS.iconst X35.here hx rfl (hb hby at_62) k_) ?_
    refine own_st (B := T35.setTop (mkF m 67 #[.val (.int u0), .val (.int u1), .val (.int u2), .val (.ref b1), .val (.ref b24), .val (.int (own_ann u0))] [(.int (1 : Int32))])) (fun t_ k_ => XS.goto X35.here hx rfl (pc0 := 63) (pc' := 67) rfl (hb hby at_63) (by decide) (by decide) k_) ?_
    refine own_retN X35 hx (t := .boolean) Bd.returns (by simp) hlk (hb hby at_67) (z' := (1 : Int32)) (by first | rfl | exact own_nb _ | exact own_nbb _) (by decide) (by decide) ?_
    show Q0 Z u0 u1 u2 h0 n0 _ T35.heap _
    rw [eh35]
    exact ⟨rfl, N35⟩
set_option maxRecDepth 65536 in
set_option maxHeartbeats 40000000 in
theorem comes_1 {Post : Tables → Env → Array Value → State → Outcome → State → Prop} (hpost : ∀ tb e args s v u, (limb_1_1.after args s (.returned v) u = true ∧ limb_1_2.after args s (.returned v) u = true ∧ True) → FrameEnd s (.returned v) u (Jvm.fieldLocs frame_1_writes args s ++ Jvm.arrayLocs frame_1_arrays args s ++ Jvm.staticLocs frame_1_statics s) 16 128 → Post tb e args s (.returned v) u) :
    ArmFor flags0 classFile x code maxLocals ret World_1 tables_1 room_1 Calls_1 rest_1 Pre_1 Post := by
  intro l hfl _ _ p e ha hc hk s m args below hf hA hF happ hP
  obtain ⟨hcalls, hrest, hpre⟩ := hP
  obtain ⟨-, -, -, hnamed, -, -, -, hat⟩ := (Spec.applies_iff hf).mp happ
  obtain ⟨hg, hn⟩ := and_e (Cond.before_iff.mp (show (Jvm.Cond.and given_1 narrow_1).before args s = true from hpre))
  obtain ⟨gg1, gg2⟩ := and_e hg
  obtain ⟨gg3, gg4⟩ := and_e gg2
  obtain ⟨gg5, gg6⟩ := and_e gg4
  obtain ⟨w0, w1, w2, rfl⟩ : ∃ w0 w1 w2 : Value, args = #[w0, w1, w2] := by
    have hs : args.size = 3 := by simpa [Cond.value, given_1] using gg1
    obtain ⟨L⟩ := args
    match L, hs with
    | [w0, w1, w2], _ => exact ⟨w0, w1, w2, rfl⟩
  have hw := fun d (hd : d ∈ tables_1) => atoms_spec (ws := Jvm.Cond.code x code maxLocals ret :: tables_1) hat d (List.mem_cons_of_mem _ hd)
  have hfit : Fit s := fun {y c} hc i hi => by
    obtain ⟨ha, rfl⟩ := Array.getElem?_eq_some_iff.mp hc
    have q := List.all_eq_true.mp ((Array.all_eq_true_iff_forall_mem.mp hF) _ (Array.getElem_mem ha)) i (List.mem_range.mpr hi)
    simpa [Array.getElem?_eq_getElem hi] using q
  obtain ⟨i0, ei0⟩ := is_v gg3
  obtain rfl : w0 = (.int i0) := Option.some.inj ei0
  obtain ⟨i1, ei1⟩ := is_v gg5
  obtain rfl : w1 = (.int i1) := Option.some.inj ei1
  obtain ⟨i2, ei2⟩ := is_v gg6
  obtain rfl : w2 = (.int i2) := Option.some.inj ei2
  obtain ⟨n, o, h1, h2, h3, _, L, rfl, ⟨rfl, N⟩, hq⟩ := rm0 l s _ hw tables_1 i0 i1 i2 s.heap s.heap.size (Nat.le_refl _)  p e ha hc hk s m _ below hf ((Spec.applies_iff_loose hf).mp happ).1 ⟨rfl, State.Warmed39.refl s, rfl⟩ trivial
  refine ⟨n, _, h1, h2, h3, hpost _ _ _ _ _ _ ⟨Cond.after_iff.mpr rfl, Cond.after_iff.mpr (eq_i res_at (Term.int_eval (1)) rfl), trivial⟩ ⟨hq.1, hq.2.1, (hq.2.2.sift fun y hy => Or.inr (N y hy)).mono (by decide) (by decide)⟩⟩
theorem main_1_1 : Claimed_1_1 := comes_1 fun _ _ _ _ _ _ h hF => ⟨h.1, hF⟩
theorem main_1_2 : Claimed_1_2 := comes_1 fun _ _ _ _ _ _ h hF => ⟨h.2.1, hF⟩
end Jvm.Pilot.@@N@@
namespace Jvm.Pilot.@@N@@
open Jvm Jvm.ClassFile Sem Op Lib Jvm.Free Jvm.Stand Jvm.Pilot.@@N@@.Jvm.D
/-! MADE BY PROGRAM (witnessworld.py) out of the Statement's table words and the real class files: 10 classes; the members and pool entries that the words name. The judged class is class 1, her method 1. -/
namespace start1
open Jvm.ClassFile
def u (s : String) : CpInfo := .utf8 (stringToUtf16 s)
/-- a pool by its gaps: so many unusable entries, then the entry; so many at the end -/
def gap : Nat → List CpInfo → List CpInfo
  | 0, r => r
  | n + 1, r => .unusable :: gap n r
def poolList (es : List (Nat × CpInfo)) (last : Nat) : List CpInfo := es.foldr (fun e r => gap e.1 (e.2 :: r)) (gap last [])
def pool (es : List (Nat × CpInfo)) (last : Nat) : Array CpInfo := ⟨poolList es last⟩
def fileOf (pool : Array CpInfo) (this : Nat) (attrs : Array Attribute := #[]) (ms : Array MethodInfo := #[]) (fl : Nat := 33) (sup : Nat := 0) (ifs : Array Nat := #[]) (fds : Array FieldInfo := #[]) : ClassFile where
  minorVersion := 0
  majorVersion := 65
  constantPool := pool
  accessFlags := fl
  thisClass := this
  superClass := sup
  interfaces := ifs
  fields := fds
  methods := ms
  attributes := attrs
def plain (name : String) (sup : Option ClassId) : Class where
  name := name
  kind := .ordinary
  loader := none
  accessFlags := 33
  super := sup
  interfaces := #[]
  cf := none
  fields := #[]
  methods := #[]
  instanceTypes := #[]
  staticTypes := #[]
  resolved := #[]
  callSites := []
  init := .initialized
  statics := none
  mirror := none

def pool0 : Array CpInfo := pool [(5, u "<init>"), (0, u "()V"), (1, .class_ 10), (1, u "java/lang/Object"), (85, u "clone"), (0, u "()Ljava/lang/Object;")] 26

def k0c0 : Code := { maxStack := 0, maxLocals := 1, code := object_method_1_code, exceptionTable := #[], attributes := #[] }
def k0m0 : Method := { name := "<init>", desc := "()V", sig := { parameters := [], returnType := none }, accessFlags := 1, code := some k0c0 }
def k0m1 : Method := { name := "clone", desc := "()Ljava/lang/Object;", sig := { parameters := [], returnType := some (.object "java/lang/Object") }, accessFlags := 260, code := none }
/-- java/lang/Object -/
def k0 : Class := { plain "java/lang/Object" none with
  accessFlags := 33
  interfaces := #[]
  cf := some (fileOf pool0 8 #[] #[{ accessFlags := 1, nameIndex := 5, descriptorIndex := 6, attributes := #[] }, { accessFlags := 260, nameIndex := 96, descriptorIndex := 97, attributes := #[] }] 33 0 #[] #[])
  fields := #[]
  methods := #[k0m0, k0m1]
  instanceTypes := #[]
  staticTypes := #[]
  resolved := Array.replicate 124 none
  statics := none }

def pool1 : Array CpInfo := pool [(2, .class_ 4), (1, u "java/lang/Object"), (0, u "<init>"), (0, u "()V"), (0, .class_ 8), (0, u "com/example/cardprobe/cardprobe/judging/Response"), (0, .methodref 7 10), (0, .nameAndType 5 11), (0, u "([BI)V"), (0, .methodref 7 13), (0, .nameAndType 14 15), (0, u "announcedLength"), (0, u "()I"), (0, .class_ 17), (0, u "com/example/cardprobe/cardprobe/judging/ResponseAnnouncedLengthPinLaw"), (2, u "law"), (0, u "(III)Z")] 5

def k1m0 : Method := { name := "<init>", desc := "()V", sig := { parameters := [], returnType := none }, accessFlags := 1, code := none }
def k1c1 : Code := { maxStack := 4, maxLocals := 6, code := code, exceptionTable := #[], attributes := #[] }
def k1m1 : Method := { name := "law", desc := "(III)Z", sig := { parameters := [.int, .int, .int], returnType := some .boolean }, accessFlags := 9, code := some k1c1 }
/-- com/example/cardprobe/cardprobe/judging/ResponseAnnouncedLengthPinLaw -/
def k1 : Class := { plain "com/example/cardprobe/cardprobe/judging/ResponseAnnouncedLengthPinLaw" (some 0) with
  accessFlags := 49
  interfaces := #[]
  cf := some (fileOf pool1 16 #[] #[{ accessFlags := 1, nameIndex := 5, descriptorIndex := 6, attributes := #[] }, { accessFlags := 9, nameIndex := 20, descriptorIndex := 21, attributes := #[] }] 49 2 #[] #[])
  fields := #[]
  methods := #[k1m0, k1m1]
  instanceTypes := #[]
  staticTypes := #[]
  resolved := Array.replicate 27 none
  statics := none }

def pool2 : Array CpInfo := pool [(1, .methodref 2 3), (0, .class_ 4), (0, .nameAndType 5 6), (0, u "java/lang/Object"), (0, u "<init>"), (0, u "()V"), (0, .class_ 8), (0, u "java/lang/Record")] 13

def k2c0 : Code := { maxStack := 1, maxLocals := 1, code := jdk_30_method_1_code, exceptionTable := #[], attributes := #[] }
def k2m0 : Method := { name := "<init>", desc := "()V", sig := { parameters := [], returnType := none }, accessFlags := 4, code := some k2c0 }
/-- java/lang/Record -/
def k2 : Class := { plain "java/lang/Record" (some 0) with
  accessFlags := 1057
  interfaces := #[]
  cf := some (fileOf pool2 7 #[] #[{ accessFlags := 4, nameIndex := 5, descriptorIndex := 6, attributes := #[] }] 1057 2 #[] #[])
  fields := #[]
  methods := #[k2m0]
  instanceTypes := #[]
  staticTypes := #[]
  resolved := Array.replicate 22 none
  statics := none }

def pool3 : Array CpInfo := pool [(1, .methodref 2 3), (0, .class_ 4), (0, .nameAndType 5 6), (0, u "java/lang/Record"), (0, u "<init>"), (0, u "()V"), (0, .methodref 8 9), (0, .class_ 10), (0, .nameAndType 11 12), (0, u "[B"), (0, u "clone"), (0, u "()Ljava/lang/Object;"), (0, .fieldref 14 15), (0, .class_ 16), (0, .nameAndType 17 10), (0, u "com/example/cardprobe/cardprobe/judging/Response"), (0, u "data"), (0, .fieldref 14 19), (0, .nameAndType 20 21), (0, u "status"), (0, u "I"), (31, u "OK"), (1, u "BYTES_WAITING"), (1, u "WRONG_LE"), (1, u "([BI)V"), (5, u "()I"), (0, u "announcedLength")] 39

def k3c0 : Code := { maxStack := 2, maxLocals := 3, code := prog_36_method_1_code, exceptionTable := #[], attributes := #[] }
def k3m0 : Method := { name := "<init>", desc := "([BI)V", sig := { parameters := [(.array .byte), .int], returnType := none }, accessFlags := 1, code := some k3c0 }
def k3c1 : Code := { maxStack := 2, maxLocals := 2, code := prog_36_method_4_code, exceptionTable := #[], attributes := #[] }
def k3m1 : Method := { name := "announcedLength", desc := "()I", sig := { parameters := [], returnType := some .int }, accessFlags := 1, code := some k3c1 }
/-- com/example/cardprobe/cardprobe/judging/Response -/
def k3 : Class := { plain "com/example/cardprobe/cardprobe/judging/Response" (some 2) with
  accessFlags := 49
  interfaces := #[]
  cf := some (fileOf pool3 14 #[] #[{ accessFlags := 1, nameIndex := 5, descriptorIndex := 59, attributes := #[] }, { accessFlags := 1, nameIndex := 66, descriptorIndex := 65, attributes := #[] }] 49 2 #[] #[{ accessFlags := 18, nameIndex := 17, descriptorIndex := 10, attributes := #[] }, { accessFlags := 18, nameIndex := 20, descriptorIndex := 21, attributes := #[] }, { accessFlags := 25, nameIndex := 53, descriptorIndex := 21, attributes := #[] }, { accessFlags := 25, nameIndex := 55, descriptorIndex := 21, attributes := #[] }, { accessFlags := 25, nameIndex := 57, descriptorIndex := 21, attributes := #[] }])
  fields := #[{ name := "data", type := (.array .byte), accessFlags := 18, slot := 0, constantValue := 0 }, { name := "status", type := .int, accessFlags := 18, slot := 1, constantValue := 0 }, { name := "OK", type := .int, accessFlags := 25, slot := 0, constantValue := 0 }, { name := "BYTES_WAITING", type := .int, accessFlags := 25, slot := 1, constantValue := 0 }, { name := "WRONG_LE", type := .int, accessFlags := 25, slot := 2, constantValue := 0 }]
  methods := #[k3m0, k3m1]
  instanceTypes := #[(.array .byte), .int]
  staticTypes := #[.int, .int, .int]
  resolved := Array.replicate 106 none
  statics := none }

def pool4 : Array CpInfo := pool [(1, .class_ 2), (0, u "java/lang/Cloneable"), (0, .class_ 4), (0, u "java/lang/Object")] 2

/-- java/lang/Cloneable -/
def k4 : Class := { plain "java/lang/Cloneable" (some 0) with
  accessFlags := 1537
  interfaces := #[]
  cf := some (fileOf pool4 1 #[] #[] 1537 3 #[] #[])
  fields := #[]
  methods := #[]
  instanceTypes := #[]
  staticTypes := #[]
  resolved := Array.replicate 7 none
  statics := none }

def pool5 : Array CpInfo := pool [(1, u "java/io/Serializable"), (0, .class_ 1), (0, u "java/lang/Object"), (0, .class_ 3)] 3

/-- java/io/Serializable -/
def k5 : Class := { plain "java/io/Serializable" (some 0) with
  accessFlags := 1537
  interfaces := #[]
  cf := some (fileOf pool5 2 #[] #[] 1537 4 #[] #[])
  fields := #[]
  methods := #[]
  instanceTypes := #[]
  staticTypes := #[]
  resolved := Array.replicate 8 none
  statics := none }

/-- the primitive byte -/
def k6 : Class := { plain "byte" none with kind := .primitive 'B', accessFlags := 0x411 }
/-- [B -/
def k7 : Class := { plain "[B" (some 0) with kind := .array 6 .byte, interfaces := #[4, 5], accessFlags := 1041 }

/-- the primitive int -/
def k8 : Class := { plain "int" none with kind := .primitive 'I', accessFlags := 0x411 }
/-- [I -/
def k9 : Class := { plain "[I" (some 0) with kind := .array 8 .int, interfaces := #[4, 5], accessFlags := 1041 }

def heap : Heap := #[]
def classes : Array Class := #[k0, k1, k2, k3, k4, k5, k6, k7, k8, k9]
def interned : List (Array UInt16 × Addr) := []
def slotsUsed : Nat := 0
def theMethod : MethodId := ⟨1, 1⟩
def args0 : Array Value := #[.int 5, .int 6, .int 7]
def aboutOver (below : List Frame) : State where
  vm := { classes := classes, interned := interned.toArray }
  heap := heap
  slotsUsed := slotsUsed
  threads := #[{ frames := .invoking theMethod args0 :: below }]
def below0 : List Frame := [.native { method := ⟨0, 0⟩, args := #[] }]
def about1 : State := aboutOver below0
def p0 : Program := .bare "" "" ""
def e0 : Env := launch0.env 0 0 0
theorem w_frames : about1.frames = Frame.invoking theMethod args0 :: below0 := rfl
set_option maxRecDepth 65536 in
theorem w_args : argsFit about1.vm theMethod args0 = true := by decide +kernel
set_option maxRecDepth 65536 in
theorem w_heap : heapFits about1 = true := by decide +kernel
set_option maxRecDepth 65536 in
theorem w_runnable : about1.curStatus? = some .runnable := by decide +kernel
set_option maxRecDepth 65536 in
theorem w_alone : about1.alone = true := by decide +kernel
set_option maxRecDepth 65536 in
theorem w_named : about1.methodNamed? x = some theMethod := by decide +kernel
set_option maxRecDepth 65536 in
theorem w_hears : about1.hears theMethod below0 = true := by decide +kernel
set_option maxRecDepth 65536 in
theorem w_ripe : about1.ripe theMethod args0 below0 = true := by decide +kernel
theorem w_running : about1.status = .running := rfl
set_option maxRecDepth 65536 in
theorem w_room : about1.hasRoom e0.platform room_1 = true :=
  launch0.hasRoom_least _ room_1 (by decide +kernel) (by decide +kernel) (by decide +kernel) (by decide +kernel) (by decide +kernel) (by decide +kernel)
theorem allAtoms_all (ts : List Jvm.Cond) (a : Array Jvm.Value) (st : Jvm.State) : (allAtoms ts).before a st = ts.all (fun c => c.before a st) := by
  induction ts with
  | nil => rfl
  | cons c t ih =>
    show (Jvm.Cond.and c (allAtoms t)).before a st = _
    rw [Jvm.Cond.before_and, ih, List.all_cons]
def words1 : List Jvm.Cond := Jvm.Cond.code x code maxLocals ret :: tables_1
/-- a 'code' word, met by the world's own term for the bytes: nothing is compared byte by byte -/
theorem code_word {y : MethodName} {bytes : ByteArray} {mx : Nat} {rt : Option FieldType} {a : Array Value} {s : State} {m : MethodId} {meth : Method} {c : Code} (h1 : s.methodNamed? y = some m) (h2 : s.vm.method? m = some meth) (h3 : meth.code = some c) (h4 : c.code = bytes)
    (h5 : (c.maxLocals == mx && c.exceptionTable.isEmpty && decide (c.maxStack ≤ mostOperands) && decide (meth.sig.returnType = rt) && !meth.locks && decide (parseMethodDescriptor y.desc = some meth.sig)) = true) : (Jvm.Cond.code y bytes mx rt).before a s = true := by
  simp only [Bool.and_eq_true, beq_iff_eq, Bool.not_eq_true', decide_eq_true_eq] at h5
  obtain ⟨⟨⟨⟨⟨g1, g2⟩, g3⟩, g4⟩, g5⟩, g6⟩ := h5
  simp [Cond.before, Cond.holds, Cond.value, h1, h2, h3, h4, g1, g2, g3, g4, g5, g6]
def isCode : Jvm.Cond → Bool
  | .code _ _ _ _ => true
  | _ => false
theorem all_split {L : List Jvm.Cond} {P : Jvm.Cond → Bool} (h1 : L.all (fun c => isCode c || P c) = true) (h2 : ∀ c ∈ L.filter isCode, P c = true) : L.all P = true := by
  refine List.all_eq_true.mpr fun c hc => ?_
  have h := List.all_eq_true.mp h1 c hc
  rcases Bool.eq_false_or_eq_true (isCode c) with hi | hi
  · exact h2 c (List.mem_filter.mpr ⟨hc, hi⟩)
  · simpa [hi] using h
set_option maxRecDepth 65536 in
theorem w_c0 : (Jvm.Cond.code x code maxLocals ret).before args0 about1 = true := code_word (m := ⟨1, 1⟩) (meth := k1m1) (c := k1c1) (by decide +kernel) rfl rfl rfl (by decide +kernel)
set_option maxRecDepth 65536 in
theorem w_c1 : (Jvm.Cond.code ({ cls := "com/example/cardprobe/cardprobe/judging/Response", name := "<init>", desc := "([BI)V" } : Jvm.MethodName) prog_36_method_1_code (3 : Nat) (Option.none : Option Jvm.ClassFile.FieldType)).before args0 about1 = true := code_word (m := ⟨3, 0⟩) (meth := k3m0) (c := k3c0) (by decide +kernel) rfl rfl rfl (by decide +kernel)
set_option maxRecDepth 65536 in
theorem w_c2 : (Jvm.Cond.code ({ cls := "java/lang/Record", name := "<init>", desc := "()V" } : Jvm.MethodName) jdk_30_method_1_code (1 : Nat) (Option.none : Option Jvm.ClassFile.FieldType)).before args0 about1 = true := code_word (m := ⟨2, 0⟩) (meth := k2m0) (c := k2c0) (by decide +kernel) rfl rfl rfl (by decide +kernel)
set_option maxRecDepth 65536 in
theorem w_c3 : (Jvm.Cond.code ({ cls := "java/lang/Object", name := "<init>", desc := "()V" } : Jvm.MethodName) object_method_1_code (1 : Nat) (Option.none : Option Jvm.ClassFile.FieldType)).before args0 about1 = true := code_word (m := ⟨0, 0⟩) (meth := k0m0) (c := k0c0) (by decide +kernel) rfl rfl rfl (by decide +kernel)
set_option maxRecDepth 65536 in
theorem w_c4 : (Jvm.Cond.code ({ cls := "com/example/cardprobe/cardprobe/judging/Response", name := "announcedLength", desc := "()I" } : Jvm.MethodName) prog_36_method_4_code (2 : Nat) (Option.some Jvm.ClassFile.FieldType.int)).before args0 about1 = true := code_word (m := ⟨3, 1⟩) (meth := k3m1) (c := k3c1) (by decide +kernel) rfl rfl rfl (by decide +kernel)
def codes1 : List Jvm.Cond := [Jvm.Cond.code x code maxLocals ret, Jvm.Cond.code ({ cls := "com/example/cardprobe/cardprobe/judging/Response", name := "<init>", desc := "([BI)V" } : Jvm.MethodName) prog_36_method_1_code (3 : Nat) (Option.none : Option Jvm.ClassFile.FieldType), Jvm.Cond.code ({ cls := "java/lang/Record", name := "<init>", desc := "()V" } : Jvm.MethodName) jdk_30_method_1_code (1 : Nat) (Option.none : Option Jvm.ClassFile.FieldType), Jvm.Cond.code ({ cls := "java/lang/Object", name := "<init>", desc := "()V" } : Jvm.MethodName) object_method_1_code (1 : Nat) (Option.none : Option Jvm.ClassFile.FieldType), Jvm.Cond.code ({ cls := "com/example/cardprobe/cardprobe/judging/Response", name := "announcedLength", desc := "()I" } : Jvm.MethodName) prog_36_method_4_code (2 : Nat) (Option.some Jvm.ClassFile.FieldType.int)]
set_option maxRecDepth 65536 in
theorem codes_eq : words1.filter isCode = codes1 := rfl
theorem w_codes : ∀ c ∈ words1.filter isCode, c.before args0 about1 = true := by
  rw [codes_eq]
  intro c hc
  simp only [codes1, List.mem_cons, List.not_mem_nil, or_false] at hc
  rcases hc with rfl | rfl | rfl | rfl | rfl
  · exact w_c0
  · exact w_c1
  · exact w_c2
  · exact w_c3
  · exact w_c4
set_option maxRecDepth 65536 in
theorem w_t1 : (words1.take 24).all (fun c => isCode c || c.before args0 about1) = true := by decide +kernel
set_option maxRecDepth 65536 in
theorem w_t2 : (words1.drop 24).all (fun c => isCode c || c.before args0 about1) = true := by decide +kernel
theorem w_tables : (allAtoms (Jvm.Cond.code x code maxLocals ret :: tables_1)).before args0 about1 = true := by
  rw [allAtoms_all]
  show words1.all (fun c => c.before args0 about1) = true
  refine all_split ?_ w_codes
  rw [← List.take_append_drop 24 words1, List.all_append, w_t1, w_t2]
  rfl
set_option maxRecDepth 65536 in
theorem w_case : (Jvm.Cond.and given_1 narrow_1).before args0 about1 = true := by decide +kernel
theorem w_applies : (headSpec (Jvm.Cond.code x code maxLocals ret :: tables_1) room_1).applies x e0.platform about1 = true :=
  (Spec.applies_iff w_frames).mpr ⟨w_running, w_runnable, w_alone, w_named, w_hears, w_ripe, w_room, w_tables⟩
theorem atStart : AtStart classFile x code maxLocals ret World_1 tables_1 room_1 Calls_1 rest_1 Pre_1 launch0 p0 e0 about1 theMethod args0 below0 :=
  ⟨lists_1, trivial, launch0.admits_env _ _ _, launch0.least_env, fairChoices_fair.cas, fairChoices_fair.clock, w_frames, w_args, w_heap, w_applies, trivial, trivial, w_case⟩
end start1
theorem witness_1 : WitnessClaimed_1 := ⟨start1.p0, start1.e0, start1.about1, start1.theMethod, start1.args0, start1.below0, start1.atStart⟩
end Jvm.Pilot.@@N@@
