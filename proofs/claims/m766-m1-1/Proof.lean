import JvmDerived
import JvmDerived.Pilot.@@N@@Statement
import JvmDerived.Pilot.@@N@@Code
set_option linter.unusedVariables false
set_option linter.unusedSimpArgs false

namespace Jvm.Pilot.@@N@@
open Jvm Jvm.ClassFile Sem Op Lib Jvm.Free Jvm.Stand Jvm.LawKit Jvm.RoadKit Bundle Jvm.Pilot.@@N@@.Jvm.D
section Own
variable {p : Program} {l : Launch} {e : Env} {R : Room} {s : State} {m : MethodId} {args : Array Value} {below : List Frame} {meth : Method} {c : Code} {T : State} {locs : List Loc} {cells slots : Nat} {Z : State} {h h' : Heap}
/-- the run from A comes to the method's end as Q says, with at most kc new cells and ks new slots -/
def own_E (p : Program) (e : Env) (below : List Frame) (s : State) (Q : Option Value → Heap → List Loc → Prop) (kc ks : Nat) (A : State) : Prop :=
  ∃ s₂ o, Steps p.tables e below A s₂ ∧ s₂.status = .running ∧ Ended s₂ below o ∧ ∃ v L, o = .returned v ∧ Q v s₂.heap L ∧ FrameEnd s o s₂ L kc ks
variable {Q : Option Value → Heap → List Loc → Prop} {kc ks : Nat} {A B : State}
theorem own_st (k : ∀ t, Steps p.tables e below B t → Steps p.tables e below A t) (h : own_E p e below s Q kc ks B) : own_E p e below s Q kc ks A := by
  obtain ⟨t, o, h1, h2⟩ := h
  exact ⟨t, o, k t h1, h2⟩
theorem own_end (X : Stand p l e R s m args below meth c T locs cells slots) {v : Option Value} (hv : meth.sig.returnType = none → v = none) (hlk : meth.locks = false)
    (hk : ∀ fs, (∀ (f : JFrame) (acts : List Action), f.method = m → f.locked = none → f.entered = [] → (doReturn e (T.setTop f) acts v).1 = T.setFrames fs) → Steps p.tables e below A (T.setFrames fs)) (hc : cells ≤ kc) (hs : slots ≤ ks) (hQ : Q v T.heap locs) : own_E p e below s Q kc ks A := by
  obtain ⟨fs, hr, hrun, hended, hW, hsame⟩ := X.leave (v := v) hv hlk
  exact ⟨_, _, hk fs hr, hrun, hended, _, _, rfl, hQ, ⟨_, rfl⟩, hW, hsame.mono hc hs⟩
theorem own_retN (X : Stand p l e R s m args below meth c T locs cells slots) (hx : p.tables.exec = Jvm.exec) {pc : Nat} {Ls : Array Slot} {z z' : Int32} {t : FieldType} {rest : List Value} (hret : meth.sig.returnType = some t) (ht : t = .boolean ∨ t = .byte ∨ t = .char ∨ t = .short) (hlk : meth.locks = false)
    (hd : decode c.code pc = .ok (.ireturn, 1)) (hz : nar t z = z') (hc : cells ≤ kc) (hs : slots ≤ ks) (hQ : Q (some (.int z')) T.heap locs) : own_E p e below s Q kc ks (T.setTop (mkF m pc Ls (.int z :: rest))) := by
  subst hz
  exact own_end X (fun q => by rw [hret] at q; cases q) hlk (fun fs hr => retN X hx hret ht hd hr) hc hs hQ
theorem own_retI (X : Stand p l e R s m args below meth c T locs cells slots) (hx : p.tables.exec = Jvm.exec) {pc : Nat} {Ls : Array Slot} {z : Int32} {rest : List Value} (hret : meth.sig.returnType = some .int) (hlk : meth.locks = false)
    (hd : decode c.code pc = .ok (.ireturn, 1)) (hc : cells ≤ kc) (hs : slots ≤ ks) (hQ : Q (some (.int z)) T.heap locs) : own_E p e below s Q kc ks (T.setTop (mkF m pc Ls (.int z :: rest))) := by
  refine own_end X (fun q => by rw [hret] at q; cases q) hlk (fun fs hr => ?_) hc hs hQ
  have hm' : T.vm.method? m = some meth := X.method'
  have hn : narrow .int (.int z) = .int z := rfl
  show Steps p.tables e below (T.setTop { method := m, pc := pc, locals := Ls, stack := _ :: rest, locked := none }) _
  jvm_step X.here [X.here.top, hx, hd, hm', hret, hn]
  first | (intro acts; rw [hr _ acts rfl rfl rfl]) | rw [hr _ _ rfl rfl rfl]
  exact Steps.refl _
theorem own_retJ (X : Stand p l e R s m args below meth c T locs cells slots) (hx : p.tables.exec = Jvm.exec) {pc : Nat} {Ls : Array Slot} {z : Int64} (hret : meth.sig.returnType = some .long) (hlk : meth.locks = false)
    (hd : decode c.code pc = .ok (.lreturn, 1)) (hc : cells ≤ kc) (hs : slots ≤ ks) (hQ : Q (some (.long z)) T.heap locs) : own_E p e below s Q kc ks (T.setTop (mkF m pc Ls [.long z])) :=
  own_end X (fun q => by rw [hret] at q; cases q) hlk (fun fs hr => X.lreturnOut hx hret hd hr) hc hs hQ
theorem own_retR (X : Stand p l e R s m args below meth c T locs cells slots) (hx : p.tables.exec = Jvm.exec) {pc : Nat} {Ls : Array Slot} {w : Value} {t : FieldType} (hw : w.isRef = true) (hret : meth.sig.returnType = some t) (ht : t.isReference = true) (hlk : meth.locks = false)
    (hd : decode c.code pc = .ok (.areturn, 1)) (hc : cells ≤ kc) (hs : slots ≤ ks) (hQ : Q (some w) T.heap locs) : own_E p e below s Q kc ks (T.setTop (mkF m pc Ls [w])) :=
  own_end X (fun q => by rw [hret] at q; cases q) hlk (fun fs hr => X.areturnOut hx hw hret ht hd hr) hc hs hQ
theorem own_retV (X : Stand p l e R s m args below meth c T locs cells slots) (hx : p.tables.exec = Jvm.exec) {pc : Nat} {Ls : Array Slot} (hret : meth.sig.returnType = none) (hlk : meth.locks = false)
    (hd : decode c.code pc = .ok (.return_, 1)) (hc : cells ≤ kc) (hs : slots ≤ ks) (hQ : Q none T.heap locs) : own_E p e below s Q kc ks (T.setTop (mkF m pc Ls [])) :=
  own_end X (fun _ => rfl) hlk (fun fs hr => X.returnOut hx hret hd hr) hc hs hQ
/-- a boolean as the machine holds it -/
def own_b (b : Bool) : Int32 := if b then 1 else 0
theorem own_b1 {P : Prop} [Decidable P] (h : P) : own_b (decide P) = 1 := by simp [own_b, h]
theorem own_bz {P : Prop} [Decidable P] (h : ¬ P) : own_b (decide P) = 0 := by simp [own_b, h]
theorem own_lt32 {x y : Int32} (h : x < y) : x.toInt < y.toInt := Int32.lt_iff_toInt_lt.mp h
theorem own_nlt32 {x y : Int32} (h : ¬ x < y) : ¬ x.toInt < y.toInt := fun q => h (Int32.lt_iff_toInt_lt.mpr q)
theorem own_eq32 {x y : Int32} (h : x = y) : x.toInt = y.toInt := congrArg _ h
theorem own_neq32 {x y : Int32} (h : ¬ x = y) : ¬ x.toInt = y.toInt := fun q => h (Int32.toInt_inj.mp q)
theorem own_lt64 {x y : Int64} (h : x < y) : x.toInt < y.toInt := Int64.lt_iff_toInt_lt.mp h
theorem own_nlt64 {x y : Int64} (h : ¬ x < y) : ¬ x.toInt < y.toInt := fun q => h (Int64.lt_iff_toInt_lt.mpr q)
theorem own_eq64 {x y : Int64} (h : x = y) : x.toInt = y.toInt := congrArg _ h
theorem own_neq64 {x y : Int64} (h : ¬ x = y) : ¬ x.toInt = y.toInt := fun q => h (Int64.toInt_inj.mp q)
theorem own_b0 {b : Bool} : own_b b = 0 ↔ b = false := by cases b <;> decide
theorem own_nb (b : Bool) : nar .boolean (own_b b) = own_b b := by cases b <;> rfl
theorem own_nbb (x : Int32) : nar .byte (x.toInt8.toInt32) = x.toInt8.toInt32 := by
  show x.toInt8.toInt32.toInt8.toInt32 = x.toInt8.toInt32
  rw [Int8.toInt8_toInt32]
theorem own_stV {l : Array Slot} {i : Nat} {v : Value} {o : Slot} (hold : l[i]? = some o) (ho : o = .unset ∨ ∃ w, o = .val w ∧ w.category = 1) (hv : v.category = 1) : storeLocals l i v = some (l.setIfInBounds i (.val v)) := XS.store1 hold ho hv
theorem own_narV {ty : FieldType} {v : Value} (hv : v.isRef = true) : narrow ty v = v := by
  rcases ref_cases hv with rfl | ⟨a, rfl⟩ <;> cases ty <;> rfl
theorem own_fitV {ty : FieldType} {v : Value} (ht : ty.isReference = true) (hv : v.isRef = true) : fits ty v = true := by
  rcases ref_cases hv with rfl | ⟨a, rfl⟩ <;> cases ty <;> first | rfl | (cases ht; done)
/-- an array of n places, whose place j holds f j -/
def own_A (Z : State) (h : Heap) (a : Addr) (ty : FieldType) (n : Nat) (f : Nat → Int32) : Prop := ∃ c : Cell, Arr Z h a c ty ∧ c.slots.size = n ∧ n < 2 ^ 31 ∧ (∀ j, j < n → c.slots[j]? = some (.int (f j))) ∧ ∀ j, j < n → fits ty (.int (f j)) = true
def own_up (f : Nat → Int32) (i : Nat) (v : Int32) (k : Nat) : Int32 := if k = i then v else f k
theorem own_up_same (f : Nat → Int32) (i : Nat) (v : Int32) : own_up f i v i = v := if_pos rfl
theorem own_up_ne (f : Nat → Int32) {i k : Nat} (v : Int32) (h : ¬ k = i) : own_up f i v k = f k := if_neg h
theorem own_catV {v : Value} (h : v.isRef = true) : v.category = 1 := by rcases ref_cases h with rfl | ⟨a, rfl⟩ <;> rfl
abbrev own_ix (j : Int32) (i : Nat) : Prop := ¬ j < 0 ∧ j.toNatClampNeg = i
variable {a b : Addr} {ty : FieldType} {n i : Nat} {f : Nat → Int32} {j x : Int32} {pc : Nat} {Ls : Array Slot} {rest : List Value} {sl : Nat} {v : Value} {ws : List Addr}
theorem own_A.lt (F : own_A Z h a ty n f) : a < h.size := by obtain ⟨c, A, -⟩ := F; exact A.lt
theorem own_A.ext (F : own_A Z h a ty n f) (E : Ext h h') : own_A Z h' a ty n f := by obtain ⟨c, A, r⟩ := F; exact ⟨c, A.ext E, r⟩
theorem own_A.other (F : own_A Z h b ty n f) (W : Wr h h' a sl v) (q : b ≠ a) : own_A Z h' b ty n f := by obtain ⟨c, A, r⟩ := F; exact ⟨c, A.other W q, r⟩
theorem own_A.keep (F : own_A Z h a ty n f) (K : Keep h h' ws) (q : a ∉ ws) : own_A Z h' a ty n f := by obtain ⟨c, A, r⟩ := F; exact ⟨c, ⟨K.2.1 a c A.1 q, A.2⟩, r⟩
theorem own_A.congr {g : Nat → Int32} (F : own_A Z h a ty n f) (q : ∀ j, j < n → f j = g j) : own_A Z h a ty n g := by obtain ⟨c, A, r1, r2, r3, r4⟩ := F; exact ⟨c, A, r1, r2, fun j hj => by rw [← q j hj]; exact r3 j hj, fun j hj => by rw [← q j hj]; exact r4 j hj⟩
theorem own_A.new {k : ClassId} {z : Int32} (A : Arr Z h a (newA k ty z) ty) (q : ¬ z < 0) (hz : z.toNatClampNeg = n) (hd : defaultValue ty = .int 0 := by rfl) : own_A Z h a ty n (fun _ => 0) := by
  subst hz
  exact ⟨_, A, sz_new _ _ _, (back32 q).2, fun j hj => by simp [newA, hj, hd], fun j hj => by rw [← hd]; cases ty <;> rfl⟩
theorem own_A.set (F : own_A Z h a ty n f) (hj : own_ix j i) (W : Wr h h' a j.toNatClampNeg (.int x)) (hf : fits ty (.int x) = true) : own_A Z h' a ty n (own_up f i x) := by
  obtain ⟨c, A, r1, r2, r3, r4⟩ := F
  obtain ⟨hj1, rfl⟩ := hj
  refine ⟨_, A.same W, by rw [sz_set]; exact r1, r2, fun k hk => ?_, fun k hk => ?_⟩ <;> by_cases q : k = j.toNatClampNeg
  · subst q; simp [Cell.setSlot, own_up, r1, hk]
  · simp only [Cell.setSlot, own_up, if_neg q]; rw [Array.getElem?_setIfInBounds_ne (Ne.symm q)]; exact r3 k hk
  · simp only [own_up, if_pos q]; exact hf
  · simp only [own_up, if_neg q]; exact r4 k hk
theorem own_in (hj : own_ix j i) (hi : i < n) {c : Cell} (hc : c.slots.size = n) : ¬ (j < 0 ∨ c.slots.size ≤ j.toNatClampNeg) := by
  rintro (q | q)
  · exact hj.1 q
  · rw [hj.2, hc] at q; omega
theorem own_stB (X : Stand p l e R s m args below meth c T locs cells slots) (hx : p.tables.exec = Jvm.exec) (hZ : Z.Warmed39 s.vm) (eT : T.heap = h) (A : own_A Z h a .byte n f) (hj : own_ix j i) (hi : i < n) (hd : decode c.code pc = .ok (.bastore, 1)) :
    ∃ T' h', Stand p l e R s m args below meth c T' (locs ++ [⟨a, j.toNatClampNeg⟩]) cells slots ∧ T'.heap = h' ∧ Wr h h' a j.toNatClampNeg (.int (nar .byte x)) ∧ own_A Z h' a .byte n (own_up f i (nar .byte x)) ∧ ∀ t, Steps p.tables e below (T'.setTop (mkF m (pc + 1) Ls rest)) t → Steps p.tables e below (T.setTop (mkF m pc Ls (.int x :: .int j :: .ref a :: rest))) t := by
  have A0 := A
  obtain ⟨cl, A1, r1, r2, r3, r4⟩ := A
  obtain ⟨T', h', X', e', W, st⟩ := stB X hx hZ eT A1 (j := j) (x := x) (own_in hj hi r1) (g := mkF m pc Ls (.int x :: .int j :: .ref a :: rest)) rfl rfl hd
  exact ⟨T', h', X', e', W, A0.set hj W (fits_nar_byte x), st⟩
theorem own_stI (X : Stand p l e R s m args below meth c T locs cells slots) (hx : p.tables.exec = Jvm.exec) (hZ : Z.Warmed39 s.vm) (eT : T.heap = h) (A : own_A Z h a .int n f) (hj : own_ix j i) (hi : i < n) (hd : decode c.code pc = .ok (.iastore, 1)) :
    ∃ T' h', Stand p l e R s m args below meth c T' (locs ++ [⟨a, j.toNatClampNeg⟩]) cells slots ∧ T'.heap = h' ∧ Wr h h' a j.toNatClampNeg (.int x) ∧ own_A Z h' a .int n (own_up f i x) ∧ ∀ t, Steps p.tables e below (T'.setTop (mkF m (pc + 1) Ls rest)) t → Steps p.tables e below (T.setTop (mkF m pc Ls (.int x :: .int j :: .ref a :: rest))) t := by
  have A0 := A
  obtain ⟨cl, A1, r1, r2, r3, r4⟩ := A
  obtain ⟨T', h', X', e', W, st⟩ := stI X hx hZ eT A1 (j := j) (x := x) (own_in hj hi r1) (g := mkF m pc Ls (.int x :: .int j :: .ref a :: rest)) rfl rfl hd
  exact ⟨T', h', X', e', W, A0.set hj W rfl, st⟩
theorem own_ldB (X : Stand p l e R s m args below meth c T locs cells slots) (hx : p.tables.exec = Jvm.exec) (hZ : Z.Warmed39 s.vm) (eT : T.heap = h) (A : own_A Z h a .byte n f) (hj : own_ix j i) (hi : i < n) (hd : decode c.code pc = .ok (.baload, 1)) (t : State)
    (k : Steps p.tables e below (T.setTop (mkF m (pc + 1) Ls (.int (f i) :: rest))) t) : Steps p.tables e below (T.setTop (mkF m pc Ls (.int j :: .ref a :: rest))) t := by
  obtain ⟨cl, A1, r1, r2, r3, r4⟩ := A
  exact X.baloadBytes hx (j := j) (v := .int (f i)) (by rw [eT]; exact A1.1) (State.isArrayOf_alike hZ.alike A1.2.1) A1.2.2 (own_in hj hi r1) (by rw [hj.2]; exact r3 i hi) (g := mkF m pc Ls (.int j :: .ref a :: rest)) rfl rfl hd t k
theorem own_ldI (X : Stand p l e R s m args below meth c T locs cells slots) (hx : p.tables.exec = Jvm.exec) (hZ : Z.Warmed39 s.vm) (eT : T.heap = h) (A : own_A Z h a .int n f) (hj : own_ix j i) (hi : i < n) (hd : decode c.code pc = .ok (.iaload, 1)) (t : State)
    (k : Steps p.tables e below (T.setTop (mkF m (pc + 1) Ls (.int (f i) :: rest))) t) : Steps p.tables e below (T.setTop (mkF m pc Ls (.int j :: .ref a :: rest))) t := by
  obtain ⟨cl, A1, r1, r2, r3, r4⟩ := A
  exact X.iaload hx (j := j) (v := .int (f i)) (by rw [eT]; exact A1.1) (State.isArrayOf_alike hZ.alike A1.2.1) A1.2.2 (own_in hj hi r1) (by rw [hj.2]; exact r3 i hi) (g := mkF m pc Ls (.int j :: .ref a :: rest)) rfl rfl hd t k
theorem own_len {z : Int32} (X : Stand p l e R s m args below meth c T locs cells slots) (hx : p.tables.exec = Jvm.exec) (hZ : Z.Warmed39 s.vm) (eT : T.heap = h) (A : own_A Z h a ty n f) (hz : n.toInt32 = z) (hd : decode c.code pc = .ok (.arraylength, 1)) (t : State)
    (k : Steps p.tables e below (T.setTop (mkF m (pc + 1) Ls (.int z :: rest))) t) : Steps p.tables e below (T.setTop (mkF m pc Ls (.ref a :: rest))) t := by
  obtain ⟨cl, A1, r1, r2, r3, r4⟩ := A
  subst hz
  refine X.arraylength hx (by rw [eT]; exact A1.1) (State.isArrayOf_alike hZ.alike A1.2.1) (g := mkF m pc Ls (.ref a :: rest)) rfl rfl hd t ?_
  rw [r1]; exact k
theorem own_clone (X : Stand p l e R s m args below meth c T locs cells slots) (hx : p.tables.exec = Jvm.exec) (hZ : Z.Warmed39 s.vm) {a0 : Array Value} {own ad : String} {index : Nat} (hown : s.vm.findClass own = some m.cls)
    (w1 : (Cond.methodLink own index ⟨ad, "clone", "()Ljava/lang/Object;"⟩).before a0 Z = true) (w2 : (Cond.sameMethod ad "java/lang/Object" "clone" "()Ljava/lang/Object;").before a0 Z = true) (w3 : (Cond.native ⟨"java/lang/Object", "clone", "()Ljava/lang/Object;"⟩).before a0 Z = true)
    (w4 : (Cond.instanceMethod ⟨"java/lang/Object", "clone", "()Ljava/lang/Object;"⟩).before a0 Z = true) (w5 : (Cond.selects ad ⟨ad, "clone", "()Ljava/lang/Object;"⟩ ⟨"java/lang/Object", "clone", "()Ljava/lang/Object;"⟩).before a0 Z = true) (w6 : (Cond.castable ad "java/lang/Cloneable").before a0 Z = true)
    (eT : T.heap = h) (A : own_A Z h a ty n f) (E : Exa Z h a ad) (hsize : Ls.size = c.maxLocals) (hd : decode c.code pc = .ok (.invokevirtual index, 3))
    (hf : 1 ≤ R.frames) {W cap : Nat} (hW : 2 * 0 + (rest.map fun v => v.category).sum ≤ W) (hl : W + 14 ≤ R.locals) (hcap : n ≤ cap) (hc : cells + 1 ≤ R.cells) (hsl : slots + cap ≤ R.slots) :
    ∃ T' h', Stand p l e R s m args below meth c T' locs (cells + 1) (slots + cap) ∧ T'.heap = h' ∧ Ext h h' ∧ own_A Z h' h.size ty n f ∧ Exa Z h' h.size ad ∧
      ∀ t, Steps p.tables e below (T'.setTop (mkF m (pc + 3) Ls (.ref h.size :: rest))) t → Steps p.tables e below (T.setTop (mkF m pc Ls (.ref a :: rest))) t := by
  obtain ⟨cl, A1, r1, r2, r3, r4⟩ := A
  have FC : FitC Z cl := fitC_of A1 fun i hi v hv => by rw [r1] at hi; rw [r3 i hi] at hv; cases hv; exact r4 i hi
  obtain ⟨T', h', X', e', ex, A', E', st⟩ := cloneA X hx hZ hown w1 w2 w3 w4 w5 w6 eT A1 E FC (g := mkF m pc Ls (.ref a :: rest)) rfl hsize rfl hd hf hW hl (by rw [r1]; exact hcap) hc hsl
  exact ⟨T', h', X', e', ex, ⟨cloneOf cl, A', r1, r2, r3, r4⟩, E', st⟩
theorem own_selP {s : State} {args : Array Value} {y : MethodName} {n : Nat} (hin : (Cond.instantiable y.cls n).before args s = true) (hpriv : s.PrivateAt y) (hinst : (Cond.instanceMethod y).before args s = true) (hy : y.cls ≠ "java/lang/invoke/MethodHandle" ∧ y.cls ≠ "java/lang/invoke/VarHandle") : (Cond.selects y.cls y y).before args s = true := by
  obtain ⟨c, k, h1, h2, -, h4, -⟩ := Cond.instantiable_spec hin
  exact selects_self_of_private h1 h2 (Bool.or_eq_false_iff.mp h4).1 hpriv hinst hy
theorem own_ixa (h : own_ix j i) (k : Nat) (hi : i + k < 2 ^ 31) : own_ix (j + Int32.ofNat k) (i + k) := by
  obtain ⟨h1, h2⟩ := h
  have e0 : (0 : Int32).toInt = 0 := rfl
  have e1 : (Int32.ofNat k).toInt = k := Int32.toInt_ofNat_of_lt (by omega)
  rw [Int32.lt_iff_toInt_lt, e0] at h1
  simp only [Int32.toNatClampNeg] at h2
  have h3 := c_iadd j (Int32.ofNat k); have h4 := rng32 (j + Int32.ofNat k)
  rw [e1] at h3
  refine ⟨by rw [Int32.lt_iff_toInt_lt, e0]; omega, ?_⟩
  simp only [Int32.toNatClampNeg]; omega
theorem own_ixI (h : own_ix j i) : j.toInt = i := by
  obtain ⟨h1, h2⟩ := h
  have e0 : (0 : Int32).toInt = 0 := rfl
  rw [Int32.lt_iff_toInt_lt, e0] at h1
  simp only [Int32.toNatClampNeg] at h2; omega
theorem own_ixof (h : j.toInt = i) : own_ix j i := by
  have e0 : (0 : Int32).toInt = 0 := rfl
  refine ⟨by rw [Int32.lt_iff_toInt_lt, e0]; omega, ?_⟩
  simp only [Int32.toNatClampNeg]; omega
theorem own_ixs (h : ¬ j < 0) : own_ix j j.toNatClampNeg := ⟨h, rfl⟩
theorem own_and3 (x : Int32) (k : Nat) (hk : k < 2 ^ 31) : ¬ (x &&& Int32.ofNat k) < 0 ∧ (x &&& Int32.ofNat k).toNatClampNeg ≤ k := by
  have h0 : 0 ≤ (Int32.ofNat k).toInt := by rw [Int32.toInt_ofNat_of_lt hk]; omega
  have h1 := (c_andS x (Int32.ofNat k)).2.2 h0
  have e0 : (0 : Int32).toInt = 0 := rfl
  refine ⟨by rw [Int32.lt_iff_toInt_lt, e0]; omega, ?_⟩
  have hb : (x &&& Int32.ofNat k).toBitVec.toNat ≤ k := by
    have : (x &&& Int32.ofNat k).toBitVec.toNat = x.toBitVec.toNat &&& (Int32.ofNat k).toBitVec.toNat := by rw [Int32.toBitVec_and, BitVec.toNat_and]
    rw [this]
    refine Nat.le_trans Nat.and_le_right ?_
    show (BitVec.ofNat 32 k).toNat ≤ k
    rw [BitVec.toNat_ofNat]; exact Nat.mod_le _ _
  have e : (x &&& Int32.ofNat k).toInt = ((x &&& Int32.ofNat k).toBitVec.toNat : Int) := by
    show (x &&& Int32.ofNat k).toBitVec.toInt = _
    rw [BitVec.toInt_eq_toNat_cond]; split
    · rfl
    · omega
  simp only [Int32.toNatClampNeg, e]; omega
end Own

def own_min (x y : Int64) : Int64 := if y < x then y else x
def own_max (x y : Int64) : Int64 := if x < y then y else x
theorem own_mmI (x y : Int64) : (own_min x y).toInt = min x.toInt y.toInt ∧ (own_max x y).toInt = max x.toInt y.toInt := by
  unfold own_min own_max
  constructor <;> split <;> rename_i q <;> rw [Int64.lt_iff_toInt_lt] at q <;> omega
theorem own_mm {x y : Int64} (h : ¬ x = y) : own_min x y < own_max x y := by
  have h2 := own_neq64 h; have := own_mmI x y
  rw [Int64.lt_iff_toInt_lt]; omega
theorem own_mm' {x y : Int64} (h : ¬ own_min x y = own_max x y) : own_min x y < own_max x y := by
  have h2 := own_neq64 h; have := own_mmI x y
  rw [Int64.lt_iff_toInt_lt]; omega
theorem own_b1_d0 : decode jdk_29_method_70_code 0 = .ok (.lload_n 0, 1) := by decide +kernel
theorem own_b1_d1 : decode jdk_29_method_70_code 1 = .ok (.lload_n 2, 1) := by decide +kernel
theorem own_b1_d2 : decode jdk_29_method_70_code 2 = .ok (.lcmp, 1) := by decide +kernel
theorem own_b1_d3 : decode jdk_29_method_70_code 3 = .ok (.ifCond .gt 7, 3) := by decide +kernel
theorem own_b1_d6 : decode jdk_29_method_70_code 6 = .ok (.lload_n 0, 1) := by decide +kernel
theorem own_b1_d7 : decode jdk_29_method_70_code 7 = .ok (.goto 4, 3) := by decide +kernel
theorem own_b1_d10 : decode jdk_29_method_70_code 10 = .ok (.lload_n 2, 1) := by decide +kernel
theorem own_b1_d11 : decode jdk_29_method_70_code 11 = .ok (.lreturn, 1) := by decide +kernel
theorem own_ef_rm1 (m : MethodId) (x0 : Int64) (x1 : Int64) : entryFrame m #[(.long x0), (.long x1)] 4 = mkF m 0 #[.val (.long x0), .second, .val (.long x1), .second] [] := by first | (simp [entryFrame, mkF, argsToLocals, Value.category]; done) | rfl
def Q1 (Z : State) (x0 : Int64) (x1 : Int64) (h0 : Heap) (n0 : Nat) (v : Option Value) (h : Heap) (L : List Loc) : Prop := v = some (.long (own_min x0 x1)) ∧ Fr n0 L ∧ h = h0
set_option maxRecDepth 65536 in
set_option maxHeartbeats 40000000 in
theorem rm1 (l : Launch) (Z : State) (a0 : Array Value) (hw : ∀ d ∈ tables_1, d.before a0 Z = true) (ws : List Jvm.Cond) (x0 : Int64) (x1 : Int64) (h0 : Heap) (n0 : Nat) (Z0 : n0 ≤ h0.size) :
    MetFree l (⟨"java/lang/Math", "min", "(JJ)J"⟩ : MethodName) (head1 (Jvm.Cond.code (⟨"java/lang/Math", "min", "(JJ)J"⟩ : MethodName) jdk_29_method_70_code 4 (some .long) :: ws) ({ frames := 0, cells := 0, slots := 0, locals := 0 } : Room)) (fun aa_ U_ => aa_ = #[(.long x0), (.long x1)] ∧ Z.Warmed39 U_.vm ∧ U_.heap = h0) (fun _ _ _ _ _ => True) (fun _ U_ o_ U1_ => ∃ v_ L_, o_ = .returned v_ ∧ Q1 Z x0 x1 h0 n0 v_ U1_.heap L_ ∧ FrameEnd U_ o_ U1_ L_ ({ frames := 0, cells := 0, slots := 0, locals := 0 } : Room).cells ({ frames := 0, cells := 0, slots := 0, locals := 0 } : Room).slots) := by
  refine MetFree.of_bodySF (Jvm.Free.JP.mathPlain rfl (by decide +kernel)) hisR ?_
  intro p e s m args below meth c s₁ Bd hml0 hP hK
  obtain ⟨rfl, hZ, hh⟩ := hP
  have hx := Bd.exec
  have hby := Bd.bytes
  have hlk := Bd.notSynchronized
  have hml : c.maxLocals = 4 := hml0
  have hown : s.vm.findClass "java/lang/Math" = some m.cls := findClass_of_methodNamed Bd.named
  have hnm := (name_of_methodNamed Bd.named Bd.method).1
  have X0 : Stand p l e ({ frames := 0, cells := 0, slots := 0, locals := 0 } : Room) s m #[(.long x0), (.long x1)] below meth c s₁ [] 0 0 := Stand.of_body Bd
  have e0 : s₁.heap = h0 := by rw [← hh, Bd.state]; rfl
  have N0 := Fr.nil n0
  show own_E p e below s (Q1 Z x0 x1 h0 n0) ({ frames := 0, cells := 0, slots := 0, locals := 0 } : Room).cells ({ frames := 0, cells := 0, slots := 0, locals := 0 } : Room).slots (s₁.setTop (entryFrame m #[(.long x0), (.long x1)] 4))
  refine own_st (B := s₁.setTop (mkF m 0 #[.val (.long x0), .second, .val (.long x1), .second] [])) (fun t_ k_ => castTop (own_ef_rm1 m x0 x1) k_) ?_
  refine own_st (B := s₁.setTop (mkF m 1 #[.val (.long x0), .second, .val (.long x1), .second] [(.long x0)])) (fun t_ k_ => XS.lloadN X0.here hx rfl (hb hby own_b1_d0) rfl k_) ?_
  refine own_st (B := s₁.setTop (mkF m 2 #[.val (.long x0), .second, .val (.long x1), .second] [(.long x1), (.long x0)])) (fun t_ k_ => XS.lloadN X0.here hx rfl (hb hby own_b1_d1) rfl k_) ?_
  refine own_st (B := s₁.setTop (mkF m 3 #[.val (.long x0), .second, .val (.long x1), .second] [(.int (lcmpW x0 x1))])) (fun t_ k_ => XS.lcmp X0.here hx rfl (hb hby own_b1_d2) rfl k_) ?_
  by_cases hc1 : x1 < x0
  · have hd1 := own_lt64 hc1
    refine own_st (B := s₁.setTop (mkF m 10 #[.val (.long x0), .second, .val (.long x1), .second] [])) (fun t_ k_ => XS.ifYes X0.here hx rfl (pc0 := 3) (pc' := 10) rfl (hb hby own_b1_d3) rfl ((if0 _ _).trans (tlt ((lw_gt _ _).mpr hc1)).2.2.1) (by decide) (by decide) k_) ?_
    refine own_st (B := s₁.setTop (mkF m 11 #[.val (.long x0), .second, .val (.long x1), .second] [(.long x1)])) (fun t_ k_ => XS.lloadN X0.here hx rfl (hb hby own_b1_d10) rfl k_) ?_
    refine own_retJ X0 hx Bd.returns hlk (hb hby own_b1_d11) (by decide) (by decide) ?_
    show Q1 Z x0 x1 h0 n0 _ s₁.heap _
    rw [e0]
    exact ⟨by simp [own_min, hc1], N0, rfl⟩
  · have hd1 := own_nlt64 hc1
    refine own_st (B := s₁.setTop (mkF m 6 #[.val (.long x0), .second, .val (.long x1), .second] [])) (fun t_ k_ => XS.ifNo X0.here hx rfl (hb hby own_b1_d3) rfl ((if0 _ _).trans (flt (fun q => hc1 ((lw_gt _ _).mp q))).2.2.1) k_) ?_
    refine own_st (B := s₁.setTop (mkF m 7 #[.val (.long x0), .second, .val (.long x1), .second] [(.long x0)])) (fun t_ k_ => XS.lloadN X0.here hx rfl (hb hby own_b1_d6) rfl k_) ?_
    refine own_st (B := s₁.setTop (mkF m 11 #[.val (.long x0), .second, .val (.long x1), .second] [(.long x0)])) (fun t_ k_ => XS.goto X0.here hx rfl (pc0 := 7) (pc' := 11) rfl (hb hby own_b1_d7) (by decide) (by decide) k_) ?_
    refine own_retJ X0 hx Bd.returns hlk (hb hby own_b1_d11) (by decide) (by decide) ?_
    show Q1 Z x0 x1 h0 n0 _ s₁.heap _
    rw [e0]
    exact ⟨by simp [own_min, hc1], N0, rfl⟩
theorem own_b2_d0 : decode jdk_29_method_66_code 0 = .ok (.lload_n 0, 1) := by decide +kernel
theorem own_b2_d1 : decode jdk_29_method_66_code 1 = .ok (.lload_n 2, 1) := by decide +kernel
theorem own_b2_d2 : decode jdk_29_method_66_code 2 = .ok (.lcmp, 1) := by decide +kernel
theorem own_b2_d3 : decode jdk_29_method_66_code 3 = .ok (.ifCond .lt 7, 3) := by decide +kernel
theorem own_b2_d6 : decode jdk_29_method_66_code 6 = .ok (.lload_n 0, 1) := by decide +kernel
theorem own_b2_d7 : decode jdk_29_method_66_code 7 = .ok (.goto 4, 3) := by decide +kernel
theorem own_b2_d10 : decode jdk_29_method_66_code 10 = .ok (.lload_n 2, 1) := by decide +kernel
theorem own_b2_d11 : decode jdk_29_method_66_code 11 = .ok (.lreturn, 1) := by decide +kernel
theorem own_ef_rm2 (m : MethodId) (x0 : Int64) (x1 : Int64) : entryFrame m #[(.long x0), (.long x1)] 4 = mkF m 0 #[.val (.long x0), .second, .val (.long x1), .second] [] := by first | (simp [entryFrame, mkF, argsToLocals, Value.category]; done) | rfl
def Q2 (Z : State) (x0 : Int64) (x1 : Int64) (h0 : Heap) (n0 : Nat) (v : Option Value) (h : Heap) (L : List Loc) : Prop := v = some (.long (own_max x0 x1)) ∧ Fr n0 L ∧ h = h0
set_option maxRecDepth 65536 in
set_option maxHeartbeats 40000000 in
theorem rm2 (l : Launch) (Z : State) (a0 : Array Value) (hw : ∀ d ∈ tables_1, d.before a0 Z = true) (ws : List Jvm.Cond) (x0 : Int64) (x1 : Int64) (h0 : Heap) (n0 : Nat) (Z0 : n0 ≤ h0.size) :
    MetFree l (⟨"java/lang/Math", "max", "(JJ)J"⟩ : MethodName) (head1 (Jvm.Cond.code (⟨"java/lang/Math", "max", "(JJ)J"⟩ : MethodName) jdk_29_method_66_code 4 (some .long) :: ws) ({ frames := 0, cells := 0, slots := 0, locals := 0 } : Room)) (fun aa_ U_ => aa_ = #[(.long x0), (.long x1)] ∧ Z.Warmed39 U_.vm ∧ U_.heap = h0) (fun _ _ _ _ _ => True) (fun _ U_ o_ U1_ => ∃ v_ L_, o_ = .returned v_ ∧ Q2 Z x0 x1 h0 n0 v_ U1_.heap L_ ∧ FrameEnd U_ o_ U1_ L_ ({ frames := 0, cells := 0, slots := 0, locals := 0 } : Room).cells ({ frames := 0, cells := 0, slots := 0, locals := 0 } : Room).slots) := by
  refine MetFree.of_bodySF (Jvm.Free.JP.mathPlain rfl (by decide +kernel)) hisR ?_
  intro p e s m args below meth c s₁ Bd hml0 hP hK
  obtain ⟨rfl, hZ, hh⟩ := hP
  have hx := Bd.exec
  have hby := Bd.bytes
  have hlk := Bd.notSynchronized
  have hml : c.maxLocals = 4 := hml0
  have hown : s.vm.findClass "java/lang/Math" = some m.cls := findClass_of_methodNamed Bd.named
  have hnm := (name_of_methodNamed Bd.named Bd.method).1
  have X0 : Stand p l e ({ frames := 0, cells := 0, slots := 0, locals := 0 } : Room) s m #[(.long x0), (.long x1)] below meth c s₁ [] 0 0 := Stand.of_body Bd
  have e0 : s₁.heap = h0 := by rw [← hh, Bd.state]; rfl
  have N0 := Fr.nil n0
  show own_E p e below s (Q2 Z x0 x1 h0 n0) ({ frames := 0, cells := 0, slots := 0, locals := 0 } : Room).cells ({ frames := 0, cells := 0, slots := 0, locals := 0 } : Room).slots (s₁.setTop (entryFrame m #[(.long x0), (.long x1)] 4))
  refine own_st (B := s₁.setTop (mkF m 0 #[.val (.long x0), .second, .val (.long x1), .second] [])) (fun t_ k_ => castTop (own_ef_rm2 m x0 x1) k_) ?_
  refine own_st (B := s₁.setTop (mkF m 1 #[.val (.long x0), .second, .val (.long x1), .second] [(.long x0)])) (fun t_ k_ => XS.lloadN X0.here hx rfl (hb hby own_b2_d0) rfl k_) ?_
  refine own_st (B := s₁.setTop (mkF m 2 #[.val (.long x0), .second, .val (.long x1), .second] [(.long x1), (.long x0)])) (fun t_ k_ => XS.lloadN X0.here hx rfl (hb hby own_b2_d1) rfl k_) ?_
  refine own_st (B := s₁.setTop (mkF m 3 #[.val (.long x0), .second, .val (.long x1), .second] [(.int (lcmpW x0 x1))])) (fun t_ k_ => XS.lcmp X0.here hx rfl (hb hby own_b2_d2) rfl k_) ?_
  by_cases hc1 : x0 < x1
  · have hd1 := own_lt64 hc1
    refine own_st (B := s₁.setTop (mkF m 10 #[.val (.long x0), .second, .val (.long x1), .second] [])) (fun t_ k_ => XS.ifYes X0.here hx rfl (pc0 := 3) (pc' := 10) rfl (hb hby own_b2_d3) rfl ((if0 _ _).trans (tlt ((lw_lt _ _).mpr hc1)).1) (by decide) (by decide) k_) ?_
    refine own_st (B := s₁.setTop (mkF m 11 #[.val (.long x0), .second, .val (.long x1), .second] [(.long x1)])) (fun t_ k_ => XS.lloadN X0.here hx rfl (hb hby own_b2_d10) rfl k_) ?_
    refine own_retJ X0 hx Bd.returns hlk (hb hby own_b2_d11) (by decide) (by decide) ?_
    show Q2 Z x0 x1 h0 n0 _ s₁.heap _
    rw [e0]
    exact ⟨by simp [own_max, hc1], N0, rfl⟩
  · have hd1 := own_nlt64 hc1
    refine own_st (B := s₁.setTop (mkF m 6 #[.val (.long x0), .second, .val (.long x1), .second] [])) (fun t_ k_ => XS.ifNo X0.here hx rfl (hb hby own_b2_d3) rfl ((if0 _ _).trans (flt (fun q => hc1 ((lw_lt _ _).mp q))).1) k_) ?_
    refine own_st (B := s₁.setTop (mkF m 7 #[.val (.long x0), .second, .val (.long x1), .second] [(.long x0)])) (fun t_ k_ => XS.lloadN X0.here hx rfl (hb hby own_b2_d6) rfl k_) ?_
    refine own_st (B := s₁.setTop (mkF m 11 #[.val (.long x0), .second, .val (.long x1), .second] [(.long x0)])) (fun t_ k_ => XS.goto X0.here hx rfl (pc0 := 7) (pc' := 11) rfl (hb hby own_b2_d7) (by decide) (by decide) k_) ?_
    refine own_retJ X0 hx Bd.returns hlk (hb hby own_b2_d11) (by decide) (by decide) ?_
    show Q2 Z x0 x1 h0 n0 _ s₁.heap _
    rw [e0]
    exact ⟨by simp [own_max, hc1], N0, rfl⟩
theorem own_b4_d0 : decode jdk_30_method_1_code 0 = .ok (.aload_n 0, 1) := by decide +kernel
theorem own_b4_d1 : decode jdk_30_method_1_code 1 = .ok (.invokespecial 1, 3) := by decide +kernel
theorem own_b4_d4 : decode jdk_30_method_1_code 4 = .ok (.return_, 1) := by decide +kernel
theorem own_pn0 : plainName "java/lang/Record" = true := by first | (simp [plainName, overriddenIn]; done) | decide +kernel
theorem own_ef_rm4 (m : MethodId) (x0 : Addr) : entryFrame m #[(.ref x0)] 1 = mkF m 0 #[.val (.ref x0)] [] := by first | (simp [entryFrame, mkF, argsToLocals, Value.category]; done) | rfl
def Q4 (Z : State) (a : Addr) (h0 : Heap) (n0 : Nat) (v : Option Value) (h : Heap) (L : List Loc) : Prop := v = none ∧ Fr n0 L ∧ h = h0
set_option maxRecDepth 65536 in
set_option maxHeartbeats 40000000 in
theorem rm4 (l : Launch) (Z : State) (a0 : Array Value) (hw : ∀ d ∈ tables_1, d.before a0 Z = true) (ws : List Jvm.Cond) (a : Addr) (h0 : Heap) (n0 : Nat) (Z0 : n0 ≤ h0.size) :
    MetFree l (⟨"java/lang/Record", "<init>", "()V"⟩ : MethodName) (head1 (Jvm.Cond.code (⟨"java/lang/Record", "<init>", "()V"⟩ : MethodName) jdk_30_method_1_code 1 none :: ws) ({ frames := 1, cells := 0, slots := 0, locals := 12 } : Room)) (fun aa_ U_ => aa_ = #[(.ref a)] ∧ Z.Warmed39 U_.vm ∧ U_.heap = h0) (fun _ _ _ _ _ => True) (fun _ U_ o_ U1_ => ∃ v_ L_, o_ = .returned v_ ∧ Q4 Z a h0 n0 v_ U1_.heap L_ ∧ FrameEnd U_ o_ U1_ L_ ({ frames := 1, cells := 0, slots := 0, locals := 12 } : Room).cells ({ frames := 1, cells := 0, slots := 0, locals := 12 } : Room).slots) := by
  refine MetFree.of_bodySF (plainFor_of_name own_pn0) hisR ?_
  intro p e s m args below meth c s₁ Bd hml0 hP hK
  obtain ⟨rfl, hZ, hh⟩ := hP
  have hx := Bd.exec
  have hby := Bd.bytes
  have hlk := Bd.notSynchronized
  have hml : c.maxLocals = 1 := hml0
  have hown : s.vm.findClass "java/lang/Record" = some m.cls := findClass_of_methodNamed Bd.named
  have hnm := (name_of_methodNamed Bd.named Bd.method).1
  have X0 : Stand p l e ({ frames := 1, cells := 0, slots := 0, locals := 12 } : Room) s m #[(.ref a)] below meth c s₁ [] 0 0 := Stand.of_body Bd
  have e0 : s₁.heap = h0 := by rw [← hh, Bd.state]; rfl
  have N0 := Fr.nil n0
  show own_E p e below s (Q4 Z a h0 n0) ({ frames := 1, cells := 0, slots := 0, locals := 12 } : Room).cells ({ frames := 1, cells := 0, slots := 0, locals := 12 } : Room).slots (s₁.setTop (entryFrame m #[(.ref a)] 1))
  refine own_st (B := s₁.setTop (mkF m 0 #[.val (.ref a)] [])) (fun t_ k_ => castTop (own_ef_rm4 m a) k_) ?_
  refine own_st (B := s₁.setTop (mkF m 1 #[.val (.ref a)] [(.ref a)])) (fun t_ k_ => XS.aloadN X0.here hx rfl (hb hby own_b4_d0) rfl rfl k_) ?_
  obtain ⟨T1, X1, e1, st1⟩ := initO X0 hx hZ hown (hw _ (List.mem_of_getElem? (i := 18) rfl)) (hw _ (List.mem_of_getElem? (i := 19) rfl)) (hw _ (List.mem_of_getElem? (i := 20) rfl)) e0 (g := (mkF m 1 #[.val (.ref a)] [(.ref a)])) rfl (by rw [hml]; rfl) rfl (hb hby own_b4_d1) (by decide) (W := 0) (by show 2 * 0 + _ ≤ _; exact Nat.le_of_eq rfl) (by decide)
  refine own_st (B := T1.setTop (mkF m 4 #[.val (.ref a)] [])) st1 ?_
  refine own_retV X1 hx Bd.returns hlk (hb hby own_b4_d4) (by decide) (by decide) ?_
  show Q4 Z a h0 n0 _ T1.heap _
  rw [e1]
  exact ⟨rfl, N0, rfl⟩
theorem own_pd0 : parseMethodDescriptor "()V" = some ⟨[], none⟩ := by decide +kernel
theorem own_b3_d0 : decode prog_9_method_1_code 0 = .ok (.aload_n 0, 1) := by decide +kernel
theorem own_b3_d1 : decode prog_9_method_1_code 1 = .ok (.invokespecial 1, 3) := by decide +kernel
theorem own_b3_d4 : decode prog_9_method_1_code 4 = .ok (.lload_n 3, 1) := by decide +kernel
theorem own_b3_d5 : decode prog_9_method_1_code 5 = .ok (.lload_n 1, 1) := by decide +kernel
theorem own_b3_d6 : decode prog_9_method_1_code 6 = .ok (.lcmp, 1) := by decide +kernel
theorem own_b3_d7 : decode prog_9_method_1_code 7 = .ok (.ifCond .gt 21, 3) := by decide +kernel
theorem own_b3_d28 : decode prog_9_method_1_code 28 = .ok (.aload_n 0, 1) := by decide +kernel
theorem own_b3_d29 : decode prog_9_method_1_code 29 = .ok (.lload_n 1, 1) := by decide +kernel
theorem own_b3_d30 : decode prog_9_method_1_code 30 = .ok (.putfield 22, 3) := by decide +kernel
theorem own_b3_d33 : decode prog_9_method_1_code 33 = .ok (.aload_n 0, 1) := by decide +kernel
theorem own_b3_d34 : decode prog_9_method_1_code 34 = .ok (.lload_n 3, 1) := by decide +kernel
theorem own_b3_d35 : decode prog_9_method_1_code 35 = .ok (.putfield 26, 3) := by decide +kernel
theorem own_b3_d38 : decode prog_9_method_1_code 38 = .ok (.return_, 1) := by decide +kernel
theorem own_pn1 : plainName "com/example/briareus/briareus/model/Interval" = true := by first | (simp [plainName, overriddenIn]; done) | decide +kernel
theorem own_ef_rm3 (m : MethodId) (x0 : Addr) (x1 : Int64) (x2 : Int64) : entryFrame m #[(.ref x0), (.long x1), (.long x2)] 5 = mkF m 0 #[.val (.ref x0), .val (.long x1), .second, .val (.long x2), .second] [] := by first | (simp [entryFrame, mkF, argsToLocals, Value.category]; done) | rfl
def Q3 (Z : State) (a : Addr) (x0 : Int64) (x1 : Int64) (h0 : Heap) (n0 : Nat) (v : Option Value) (h : Heap) (L : List Loc) : Prop := v = none ∧ Fr n0 L ∧ Keep h0 h [a] ∧ Fld Z h a "com/example/briareus/briareus/model/Interval" "startMillis" "J" (.long x0) ∧ Fld Z h a "com/example/briareus/briareus/model/Interval" "endMillis" "J" (.long x1)
set_option maxRecDepth 65536 in
set_option maxHeartbeats 40000000 in
theorem rm3 (l : Launch) (Z : State) (a0 : Array Value) (hw : ∀ d ∈ tables_1, d.before a0 Z = true) (ws : List Jvm.Cond) (a : Addr) (x0 : Int64) (x1 : Int64) (h0 : Heap) (n0 : Nat) (Z0 : n0 ≤ h0.size) (E : Exa Z h0 a "com/example/briareus/briareus/model/Interval") (F0 : Fld Z h0 a "com/example/briareus/briareus/model/Interval" "startMillis" "J" (.long (0 : Int64))) (F1 : Fld Z h0 a "com/example/briareus/briareus/model/Interval" "endMillis" "J" (.long (0 : Int64))) (ga : n0 ≤ a) (hse : x0 < x1) :
    MetFree l (⟨"com/example/briareus/briareus/model/Interval", "<init>", "(JJ)V"⟩ : MethodName) (head1 (Jvm.Cond.code (⟨"com/example/briareus/briareus/model/Interval", "<init>", "(JJ)V"⟩ : MethodName) prog_9_method_1_code 5 none :: ws) ({ frames := 2, cells := 0, slots := 0, locals := 24 } : Room)) (fun aa_ U_ => aa_ = #[(.ref a), (.long x0), (.long x1)] ∧ Z.Warmed39 U_.vm ∧ U_.heap = h0) (fun _ _ _ _ _ => True) (fun _ U_ o_ U1_ => ∃ v_ L_, o_ = .returned v_ ∧ Q3 Z a x0 x1 h0 n0 v_ U1_.heap L_ ∧ FrameEnd U_ o_ U1_ L_ ({ frames := 2, cells := 0, slots := 0, locals := 24 } : Room).cells ({ frames := 2, cells := 0, slots := 0, locals := 24 } : Room).slots) := by
  refine MetFree.of_bodySF (plainFor_of_name own_pn1) hisR ?_
  intro p e s m args below meth c s₁ Bd hml0 hP hK
  obtain ⟨rfl, hZ, hh⟩ := hP
  have hx := Bd.exec
  have hby := Bd.bytes
  have hlk := Bd.notSynchronized
  have hml : c.maxLocals = 5 := hml0
  have hown : s.vm.findClass "com/example/briareus/briareus/model/Interval" = some m.cls := findClass_of_methodNamed Bd.named
  have hnm := (name_of_methodNamed Bd.named Bd.method).1
  have X0 : Stand p l e ({ frames := 2, cells := 0, slots := 0, locals := 24 } : Room) s m #[(.ref a), (.long x0), (.long x1)] below meth c s₁ [] 0 0 := Stand.of_body Bd
  have e0 : s₁.heap = h0 := by rw [← hh, Bd.state]; rfl
  have N0 := Fr.nil n0
  show own_E p e below s (Q3 Z a x0 x1 h0 n0) ({ frames := 2, cells := 0, slots := 0, locals := 24 } : Room).cells ({ frames := 2, cells := 0, slots := 0, locals := 24 } : Room).slots (s₁.setTop (entryFrame m #[(.ref a), (.long x0), (.long x1)] 5))
  refine own_st (B := s₁.setTop (mkF m 0 #[.val (.ref a), .val (.long x0), .second, .val (.long x1), .second] [])) (fun t_ k_ => castTop (own_ef_rm3 m a x0 x1) k_) ?_
  have K0 : Keep h0 h0 [a] := Keep.refl _ _
  refine own_st (B := s₁.setTop (mkF m 1 #[.val (.ref a), .val (.long x0), .second, .val (.long x1), .second] [(.ref a)])) (fun t_ k_ => XS.aloadN X0.here hx rfl (hb hby own_b3_d0) rfl rfl k_) ?_
  obtain ⟨_, _, ⟨T1, L1, k1, n1⟩, -, X1, ⟨Lc1, hQ1, l1, y1, z1⟩, st1⟩ := X0.specialBack hx (y := (⟨"java/lang/Record", "<init>", "()V"⟩ : MethodName)) rfl hown (mvT hZ (hw _ (List.mem_of_getElem? (i := 13) rfl))) (mvT hZ (hw _ (List.mem_of_getElem? (i := 14) rfl))) (mvT hZ (hw _ (List.mem_of_getElem? (i := 17) rfl))) (by decide) (backOf (W := 0) (rm4 l Z a0 hw [] a h0 n0 Z0 ) hZ (hw _ (List.mem_of_getElem? (i := 17) rfl)) (hw _ (List.mem_of_getElem? (i := 16) rfl)) (by decide) (by decide)) (g := (mkF m 1 #[.val (.ref a), .val (.long x0), .second, .val (.long x1), .second] [(.ref a)])) rfl (by rw [hml]; rfl) (Steps.refl _) (a := a) (argsL := []) (rest := []) (lenOf own_pd0 rfl) rfl (by show 2 * 0 + _ ≤ _; exact Nat.le_of_eq rfl) (hb hby own_b3_d1) (fun _ _ => ⟨rfl, e0, (by decide : 0 + 0 ≤ _), (by decide : 0 + 0 ≤ _)⟩)
  dsimp only [Pt.U, Pt.locs, Pt.cells, Pt.slots] at X1 l1 y1 z1 st1 hQ1
  subst l1 y1 z1
  obtain ⟨rfl, N1q, eh1⟩ := hQ1
  have N1 := Fr.app N0 N1q
  refine own_st (B := T1.setTop (mkF m 4 #[.val (.ref a), .val (.long x0), .second, .val (.long x1), .second] [])) (fun t_ k_ => st1.trans k_) ?_
  refine own_st (B := T1.setTop (mkF m 5 #[.val (.ref a), .val (.long x0), .second, .val (.long x1), .second] [(.long x1)])) (fun t_ k_ => XS.lloadN X1.here hx rfl (hb hby own_b3_d4) rfl k_) ?_
  refine own_st (B := T1.setTop (mkF m 6 #[.val (.ref a), .val (.long x0), .second, .val (.long x1), .second] [(.long x0), (.long x1)])) (fun t_ k_ => XS.lloadN X1.here hx rfl (hb hby own_b3_d5) rfl k_) ?_
  refine own_st (B := T1.setTop (mkF m 7 #[.val (.ref a), .val (.long x0), .second, .val (.long x1), .second] [(.int (lcmpW x1 x0))])) (fun t_ k_ => XS.lcmp X1.here hx rfl (hb hby own_b3_d6) rfl k_) ?_
  have hc2 : x0 < x1 := hse
  have hd2 := own_lt64 hc2
  refine own_st (B := T1.setTop (mkF m 28 #[.val (.ref a), .val (.long x0), .second, .val (.long x1), .second] [])) (fun t_ k_ => XS.ifYes X1.here hx rfl (pc0 := 7) (pc' := 28) rfl (hb hby own_b3_d7) rfl ((if0 _ _).trans (tlt ((lw_gt _ _).mpr hc2)).2.2.1) (by decide) (by decide) k_) ?_
  refine own_st (B := T1.setTop (mkF m 29 #[.val (.ref a), .val (.long x0), .second, .val (.long x1), .second] [(.ref a)])) (fun t_ k_ => XS.aloadN X1.here hx rfl (hb hby own_b3_d28) rfl rfl k_) ?_
  refine own_st (B := T1.setTop (mkF m 30 #[.val (.ref a), .val (.long x0), .second, .val (.long x1), .second] [(.long x0), (.ref a)])) (fun t_ k_ => XS.lloadN X1.here hx rfl (hb hby own_b3_d29) rfl k_) ?_
  obtain ⟨T3, h3, X3, e3, W3, st3⟩ := putF X1 hx hZ hown (host := "") (Or.inl (hw _ (List.mem_of_getElem? (i := 21) rfl))) Via.refl eh1 F0 E (Or.inr ⟨(hw _ (List.mem_of_getElem? (i := 22) rfl)), rfl, hnm⟩) (hw _ (List.mem_of_getElem? (i := 8) rfl)) (ty := .long) (by decide) rfl rfl (g := (mkF m 30 #[.val (.ref a), .val (.long x0), .second, .val (.long x1), .second] [(.long x0), (.ref a)])) rfl rfl (hb hby own_b3_d30)
  have Fw3 := F0.same W3
  have N3 := Fr.snoc X3 N1 ga
  have Z4 := Nat.le_trans Z0 (Keep.of_wr W3).1
  have K5 := K0.wr W3 (Or.inl (List.mem_of_getElem? (i := 0) rfl))
  refine own_st (B := T3.setTop (mkF m 33 #[.val (.ref a), .val (.long x0), .second, .val (.long x1), .second] [])) st3 ?_
  refine own_st (B := T3.setTop (mkF m 34 #[.val (.ref a), .val (.long x0), .second, .val (.long x1), .second] [(.ref a)])) (fun t_ k_ => XS.aloadN X3.here hx rfl (hb hby own_b3_d33) rfl rfl k_) ?_
  refine own_st (B := T3.setTop (mkF m 35 #[.val (.ref a), .val (.long x0), .second, .val (.long x1), .second] [(.long x1), (.ref a)])) (fun t_ k_ => XS.lloadN X3.here hx rfl (hb hby own_b3_d34) rfl k_) ?_
  have u6 := E.wr W3
  have u7 := F1.other W3 (Or.inr (slot_ne (Or.inr (hw _ (List.mem_of_getElem? (i := 24) rfl))) (Or.inr (hw _ (List.mem_of_getElem? (i := 22) rfl))) (by decide) (t := .long) (t' := .long) (by decide) (by decide)))
  obtain ⟨T8, h8, X8, e8, W8, st8⟩ := putF X3 hx hZ hown (host := "") (Or.inl (hw _ (List.mem_of_getElem? (i := 23) rfl))) Via.refl e3 u7 u6 (Or.inr ⟨(hw _ (List.mem_of_getElem? (i := 24) rfl)), rfl, hnm⟩) (hw _ (List.mem_of_getElem? (i := 8) rfl)) (ty := .long) (by decide) rfl rfl (g := (mkF m 35 #[.val (.ref a), .val (.long x0), .second, .val (.long x1), .second] [(.long x1), (.ref a)])) rfl rfl (hb hby own_b3_d35)
  have Fw8 := u7.same W8
  have N8 := Fr.snoc X8 N3 ga
  have Z9 := Nat.le_trans Z4 (Keep.of_wr W8).1
  have K10 := K5.wr W8 (Or.inl (List.mem_of_getElem? (i := 0) rfl))
  refine own_st (B := T8.setTop (mkF m 38 #[.val (.ref a), .val (.long x0), .second, .val (.long x1), .second] [])) st8 ?_
  refine own_retV X8 hx Bd.returns hlk (hb hby own_b3_d38) (by decide) (by decide) ?_
  show Q3 Z a x0 x1 h0 n0 _ T8.heap _
  rw [e8]
  have u11 := Fw3.other W8 (Or.inr (slot_ne (Or.inr (hw _ (List.mem_of_getElem? (i := 22) rfl))) (Or.inr (hw _ (List.mem_of_getElem? (i := 24) rfl))) (by decide) (t := .long) (t' := .long) (by decide) (by decide)))
  exact ⟨rfl, N8, K10, u11, Fw8⟩
def own_ins (x0 x1 x2 : Int64) : Bool := decide (x0.toInt ≤ x2.toInt ∧ x2.toInt < x1.toInt)
def own_enc (x0 x1 x2 x3 : Int64) : Bool := decide (x0.toInt ≤ x2.toInt ∧ x3.toInt ≤ x1.toInt)
theorem own_key (s1 e1 s2 e2 : Int64) (h : s2 < e2) : own_b (own_enc s1 e1 s2 e2) = if own_ins s1 e1 s2 = false then 0 else if own_ins s1 e1 (e2 - (1 : Int64)) = false then 0 else 1 := by
  have h1 := own_lt64 h
  have h2 := c_lsub e2 1
  have h3 := rng64 (e2 - 1)
  have h4 := rng64 e2
  have h5 := rng64 s2
  rw [show (1 : Int64).toInt = 1 from rfl] at h2
  unfold own_ins own_enc
  split
  · rename_i q; rw [decide_eq_false_iff_not] at q
    exact own_bz (by omega)
  · rename_i q; rw [decide_eq_false_iff_not] at q
    split
    · rename_i q2; rw [decide_eq_false_iff_not] at q2
      exact own_bz (by omega)
    · rename_i q2; rw [decide_eq_false_iff_not] at q2
      exact own_b1 (by omega)
theorem own_refl (x0 x1 : Int64) : own_enc x0 x1 x0 x1 = true := by unfold own_enc; exact decide_eq_true (by omega)
theorem own_b6_d0 : decode method_2_code 0 = .ok (.lload_n 0, 1) := by decide +kernel
theorem own_b6_d1 : decode method_2_code 1 = .ok (.lload 4, 2) := by decide +kernel
theorem own_b6_d3 : decode method_2_code 3 = .ok (.lcmp, 1) := by decide +kernel
theorem own_b6_d4 : decode method_2_code 4 = .ok (.ifCond .gt 14, 3) := by decide +kernel
theorem own_b6_d7 : decode method_2_code 7 = .ok (.lload 4, 2) := by decide +kernel
theorem own_b6_d9 : decode method_2_code 9 = .ok (.lload_n 2, 1) := by decide +kernel
theorem own_b6_d10 : decode method_2_code 10 = .ok (.lcmp, 1) := by decide +kernel
theorem own_b6_d11 : decode method_2_code 11 = .ok (.ifCond .ge 7, 3) := by decide +kernel
theorem own_b6_d14 : decode method_2_code 14 = .ok (.iconst 1, 1) := by decide +kernel
theorem own_b6_d15 : decode method_2_code 15 = .ok (.goto 4, 3) := by decide +kernel
theorem own_b6_d18 : decode method_2_code 18 = .ok (.iconst 0, 1) := by decide +kernel
theorem own_b6_d19 : decode method_2_code 19 = .ok (.ireturn, 1) := by decide +kernel
theorem own_pn2 : plainName "com/example/briareus/briareus/model/IntervalEnclosesPinLaw" = true := by first | (simp [plainName, overriddenIn]; done) | decide +kernel
theorem own_ef_rm6 (m : MethodId) (x0 : Int64) (x1 : Int64) (x2 : Int64) : entryFrame m #[(.long x0), (.long x1), (.long x2)] 6 = mkF m 0 #[.val (.long x0), .second, .val (.long x1), .second, .val (.long x2), .second] [] := by first | (simp [entryFrame, mkF, argsToLocals, Value.category]; done) | rfl
def Q6 (Z : State) (x0 : Int64) (x1 : Int64) (x2 : Int64) (h0 : Heap) (n0 : Nat) (v : Option Value) (h : Heap) (L : List Loc) : Prop := v = some (.int (own_b (own_ins x0 x1 x2))) ∧ Fr n0 L ∧ h = h0
set_option maxRecDepth 65536 in
set_option maxHeartbeats 40000000 in
theorem rm6 (l : Launch) (Z : State) (a0 : Array Value) (hw : ∀ d ∈ tables_1, d.before a0 Z = true) (ws : List Jvm.Cond) (x0 : Int64) (x1 : Int64) (x2 : Int64) (h0 : Heap) (n0 : Nat) (Z0 : n0 ≤ h0.size) :
    MetFree l (⟨"com/example/briareus/briareus/model/IntervalEnclosesPinLaw", "inside", "(JJJ)Z"⟩ : MethodName) (head1 (Jvm.Cond.code (⟨"com/example/briareus/briareus/model/IntervalEnclosesPinLaw", "inside", "(JJJ)Z"⟩ : MethodName) method_2_code 6 (some .boolean) :: ws) ({ frames := 0, cells := 0, slots := 0, locals := 0 } : Room)) (fun aa_ U_ => aa_ = #[(.long x0), (.long x1), (.long x2)] ∧ Z.Warmed39 U_.vm ∧ U_.heap = h0) (fun _ _ _ _ _ => True) (fun _ U_ o_ U1_ => ∃ v_ L_, o_ = .returned v_ ∧ Q6 Z x0 x1 x2 h0 n0 v_ U1_.heap L_ ∧ FrameEnd U_ o_ U1_ L_ ({ frames := 0, cells := 0, slots := 0, locals := 0 } : Room).cells ({ frames := 0, cells := 0, slots := 0, locals := 0 } : Room).slots) := by
  refine MetFree.of_bodySF (plainFor_of_name own_pn2) hisR ?_
  intro p e s m args below meth c s₁ Bd hml0 hP hK
  obtain ⟨rfl, hZ, hh⟩ := hP
  have hx := Bd.exec
  have hby := Bd.bytes
  have hlk := Bd.notSynchronized
  have hml : c.maxLocals = 6 := hml0
  have hown : s.vm.findClass "com/example/briareus/briareus/model/IntervalEnclosesPinLaw" = some m.cls := findClass_of_methodNamed Bd.named
  have hnm := (name_of_methodNamed Bd.named Bd.method).1
  have X0 : Stand p l e ({ frames := 0, cells := 0, slots := 0, locals := 0 } : Room) s m #[(.long x0), (.long x1), (.long x2)] below meth c s₁ [] 0 0 := Stand.of_body Bd
  have e0 : s₁.heap = h0 := by rw [← hh, Bd.state]; rfl
  have N0 := Fr.nil n0
  show own_E p e below s (Q6 Z x0 x1 x2 h0 n0) ({ frames := 0, cells := 0, slots := 0, locals := 0 } : Room).cells ({ frames := 0, cells := 0, slots := 0, locals := 0 } : Room).slots (s₁.setTop (entryFrame m #[(.long x0), (.long x1), (.long x2)] 6))
  refine own_st (B := s₁.setTop (mkF m 0 #[.val (.long x0), .second, .val (.long x1), .second, .val (.long x2), .second] [])) (fun t_ k_ => castTop (own_ef_rm6 m x0 x1 x2) k_) ?_
  refine own_st (B := s₁.setTop (mkF m 1 #[.val (.long x0), .second, .val (.long x1), .second, .val (.long x2), .second] [(.long x0)])) (fun t_ k_ => XS.lloadN X0.here hx rfl (hb hby own_b6_d0) rfl k_) ?_
  refine own_st (B := s₁.setTop (mkF m 3 #[.val (.long x0), .second, .val (.long x1), .second, .val (.long x2), .second] [(.long x2), (.long x0)])) (fun t_ k_ => XS.lload X0.here hx rfl (hb hby own_b6_d1) rfl k_) ?_
  refine own_st (B := s₁.setTop (mkF m 4 #[.val (.long x0), .second, .val (.long x1), .second, .val (.long x2), .second] [(.int (lcmpW x0 x2))])) (fun t_ k_ => XS.lcmp X0.here hx rfl (hb hby own_b6_d3) rfl k_) ?_
  by_cases hc1 : x2 < x0
  · have hd1 := own_lt64 hc1
    refine own_st (B := s₁.setTop (mkF m 18 #[.val (.long x0), .second, .val (.long x1), .second, .val (.long x2), .second] [])) (fun t_ k_ => XS.ifYes X0.here hx rfl (pc0 := 4) (pc' := 18) rfl (hb hby own_b6_d4) rfl ((if0 _ _).trans (tlt ((lw_gt _ _).mpr hc1)).2.2.1) (by decide) (by decide) k_) ?_
    refine own_st (B := s₁.setTop (mkF m 19 #[.val (.long x0), .second, .val (.long x1), .second, .val (.long x2), .second] [(.int (0 : Int32))])) (fun t_ k_ => XS.iconst X0.here hx rfl (hb hby own_b6_d18) k_) ?_
    refine own_retN X0 hx (t := .boolean) Bd.returns (by simp) hlk (hb hby own_b6_d19) (z' := (0 : Int32)) (by first | rfl | exact own_nb _ | exact own_nbb _) (by decide) (by decide) ?_
    show Q6 Z x0 x1 x2 h0 n0 _ s₁.heap _
    rw [e0]
    exact ⟨by rw [own_ins, own_bz]; omega, N0, rfl⟩
  · have hd1 := own_nlt64 hc1
    refine own_st (B := s₁.setTop (mkF m 7 #[.val (.long x0), .second, .val (.long x1), .second, .val (.long x2), .second] [])) (fun t_ k_ => XS.ifNo X0.here hx rfl (hb hby own_b6_d4) rfl ((if0 _ _).trans (flt (fun q => hc1 ((lw_gt _ _).mp q))).2.2.1) k_) ?_
    refine own_st (B := s₁.setTop (mkF m 9 #[.val (.long x0), .second, .val (.long x1), .second, .val (.long x2), .second] [(.long x2)])) (fun t_ k_ => XS.lload X0.here hx rfl (hb hby own_b6_d7) rfl k_) ?_
    refine own_st (B := s₁.setTop (mkF m 10 #[.val (.long x0), .second, .val (.long x1), .second, .val (.long x2), .second] [(.long x1), (.long x2)])) (fun t_ k_ => XS.lloadN X0.here hx rfl (hb hby own_b6_d9) rfl k_) ?_
    refine own_st (B := s₁.setTop (mkF m 11 #[.val (.long x0), .second, .val (.long x1), .second, .val (.long x2), .second] [(.int (lcmpW x2 x1))])) (fun t_ k_ => XS.lcmp X0.here hx rfl (hb hby own_b6_d10) rfl k_) ?_
    by_cases hc2 : x2 < x1
    · have hd2 := own_lt64 hc2
      refine own_st (B := s₁.setTop (mkF m 14 #[.val (.long x0), .second, .val (.long x1), .second, .val (.long x2), .second] [])) (fun t_ k_ => XS.ifNo X0.here hx rfl (hb hby own_b6_d11) rfl ((if0 _ _).trans (tlt ((lw_lt _ _).mpr hc2)).2.1) k_) ?_
      refine own_st (B := s₁.setTop (mkF m 15 #[.val (.long x0), .second, .val (.long x1), .second, .val (.long x2), .second] [(.int (1 : Int32))])) (fun t_ k_ => XS.iconst X0.here hx rfl (hb hby own_b6_d14) k_) ?_
      refine own_st (B := s₁.setTop (mkF m 19 #[.val (.long x0), .second, .val (.long x1), .second, .val (.long x2), .second] [(.int (1 : Int32))])) (fun t_ k_ => XS.goto X0.here hx rfl (pc0 := 15) (pc' := 19) rfl (hb hby own_b6_d15) (by decide) (by decide) k_) ?_
      refine own_retN X0 hx (t := .boolean) Bd.returns (by simp) hlk (hb hby own_b6_d19) (z' := (1 : Int32)) (by first | rfl | exact own_nb _ | exact own_nbb _) (by decide) (by decide) ?_
      show Q6 Z x0 x1 x2 h0 n0 _ s₁.heap _
      rw [e0]
      exact ⟨by rw [own_ins, own_b1]; omega, N0, rfl⟩
    · have hd2 := own_nlt64 hc2
      refine own_st (B := s₁.setTop (mkF m 18 #[.val (.long x0), .second, .val (.long x1), .second, .val (.long x2), .second] [])) (fun t_ k_ => XS.ifYes X0.here hx rfl (pc0 := 11) (pc' := 18) rfl (hb hby own_b6_d11) rfl ((if0 _ _).trans (flt (fun q => hc2 ((lw_lt _ _).mp q))).2.1) (by decide) (by decide) k_) ?_
      refine own_st (B := s₁.setTop (mkF m 19 #[.val (.long x0), .second, .val (.long x1), .second, .val (.long x2), .second] [(.int (0 : Int32))])) (fun t_ k_ => XS.iconst X0.here hx rfl (hb hby own_b6_d18) k_) ?_
      refine own_retN X0 hx (t := .boolean) Bd.returns (by simp) hlk (hb hby own_b6_d19) (z' := (0 : Int32)) (by first | rfl | exact own_nb _ | exact own_nbb _) (by decide) (by decide) ?_
      show Q6 Z x0 x1 x2 h0 n0 _ s₁.heap _
      rw [e0]
      exact ⟨by rw [own_ins, own_bz]; omega, N0, rfl⟩
theorem own_b7_d0 : decode prog_9_method_5_code 0 = .ok (.aload_n 0, 1) := by decide +kernel
theorem own_b7_d1 : decode prog_9_method_5_code 1 = .ok (.getfield 22, 3) := by decide +kernel
theorem own_b7_d4 : decode prog_9_method_5_code 4 = .ok (.aload_n 1, 1) := by decide +kernel
theorem own_b7_d5 : decode prog_9_method_5_code 5 = .ok (.getfield 22, 3) := by decide +kernel
theorem own_b7_d8 : decode prog_9_method_5_code 8 = .ok (.lcmp, 1) := by decide +kernel
theorem own_b7_d9 : decode prog_9_method_5_code 9 = .ok (.ifCond .gt 19, 3) := by decide +kernel
theorem own_b7_d12 : decode prog_9_method_5_code 12 = .ok (.aload_n 1, 1) := by decide +kernel
theorem own_b7_d13 : decode prog_9_method_5_code 13 = .ok (.getfield 26, 3) := by decide +kernel
theorem own_b7_d16 : decode prog_9_method_5_code 16 = .ok (.aload_n 0, 1) := by decide +kernel
theorem own_b7_d17 : decode prog_9_method_5_code 17 = .ok (.getfield 26, 3) := by decide +kernel
theorem own_b7_d20 : decode prog_9_method_5_code 20 = .ok (.lcmp, 1) := by decide +kernel
theorem own_b7_d21 : decode prog_9_method_5_code 21 = .ok (.ifCond .gt 7, 3) := by decide +kernel
theorem own_b7_d24 : decode prog_9_method_5_code 24 = .ok (.iconst 1, 1) := by decide +kernel
theorem own_b7_d25 : decode prog_9_method_5_code 25 = .ok (.goto 4, 3) := by decide +kernel
theorem own_b7_d28 : decode prog_9_method_5_code 28 = .ok (.iconst 0, 1) := by decide +kernel
theorem own_b7_d29 : decode prog_9_method_5_code 29 = .ok (.ireturn, 1) := by decide +kernel
theorem own_ef_rm7 (m : MethodId) (x0 : Addr) (x1 : Addr) : entryFrame m #[(.ref x0), (.ref x1)] 2 = mkF m 0 #[.val (.ref x0), .val (.ref x1)] [] := by first | (simp [entryFrame, mkF, argsToLocals, Value.category]; done) | rfl
def Q7 (Z : State) (a : Addr) (d : Addr) (x0 : Int64) (x1 : Int64) (x2 : Int64) (x3 : Int64) (h0 : Heap) (n0 : Nat) (v : Option Value) (h : Heap) (L : List Loc) : Prop := v = some (.int (own_b (own_enc x0 x1 x2 x3))) ∧ Fr n0 L ∧ h = h0
set_option maxRecDepth 65536 in
set_option maxHeartbeats 40000000 in
theorem rm7 (l : Launch) (Z : State) (a0 : Array Value) (hw : ∀ d ∈ tables_1, d.before a0 Z = true) (ws : List Jvm.Cond) (a : Addr) (d : Addr) (x0 : Int64) (x1 : Int64) (x2 : Int64) (x3 : Int64) (h0 : Heap) (n0 : Nat) (Z0 : n0 ≤ h0.size) (F0 : Fld Z h0 a "com/example/briareus/briareus/model/Interval" "startMillis" "J" (.long x0)) (F1 : Fld Z h0 a "com/example/briareus/briareus/model/Interval" "endMillis" "J" (.long x1)) (F2 : Fld Z h0 d "com/example/briareus/briareus/model/Interval" "startMillis" "J" (.long x2)) (F3 : Fld Z h0 d "com/example/briareus/briareus/model/Interval" "endMillis" "J" (.long x3)) :
    MetFree l (⟨"com/example/briareus/briareus/model/Interval", "encloses", "(Lcom/example/briareus/briareus/model/Interval;)Z"⟩ : MethodName) (head1 (Jvm.Cond.code (⟨"com/example/briareus/briareus/model/Interval", "encloses", "(Lcom/example/briareus/briareus/model/Interval;)Z"⟩ : MethodName) prog_9_method_5_code 2 (some .boolean) :: ws) ({ frames := 0, cells := 0, slots := 0, locals := 0 } : Room)) (fun aa_ U_ => aa_ = #[(.ref a), (.ref d)] ∧ Z.Warmed39 U_.vm ∧ U_.heap = h0) (fun _ _ _ _ _ => True) (fun _ U_ o_ U1_ => ∃ v_ L_, o_ = .returned v_ ∧ Q7 Z a d x0 x1 x2 x3 h0 n0 v_ U1_.heap L_ ∧ FrameEnd U_ o_ U1_ L_ ({ frames := 0, cells := 0, slots := 0, locals := 0 } : Room).cells ({ frames := 0, cells := 0, slots := 0, locals := 0 } : Room).slots) := by
  refine MetFree.of_bodySF (plainFor_of_name own_pn1) hisR ?_
  intro p e s m args below meth c s₁ Bd hml0 hP hK
  obtain ⟨rfl, hZ, hh⟩ := hP
  have hx := Bd.exec
  have hby := Bd.bytes
  have hlk := Bd.notSynchronized
  have hml : c.maxLocals = 2 := hml0
  have hown : s.vm.findClass "com/example/briareus/briareus/model/Interval" = some m.cls := findClass_of_methodNamed Bd.named
  have hnm := (name_of_methodNamed Bd.named Bd.method).1
  have X0 : Stand p l e ({ frames := 0, cells := 0, slots := 0, locals := 0 } : Room) s m #[(.ref a), (.ref d)] below meth c s₁ [] 0 0 := Stand.of_body Bd
  have e0 : s₁.heap = h0 := by rw [← hh, Bd.state]; rfl
  have N0 := Fr.nil n0
  show own_E p e below s (Q7 Z a d x0 x1 x2 x3 h0 n0) ({ frames := 0, cells := 0, slots := 0, locals := 0 } : Room).cells ({ frames := 0, cells := 0, slots := 0, locals := 0 } : Room).slots (s₁.setTop (entryFrame m #[(.ref a), (.ref d)] 2))
  refine own_st (B := s₁.setTop (mkF m 0 #[.val (.ref a), .val (.ref d)] [])) (fun t_ k_ => castTop (own_ef_rm7 m a d) k_) ?_
  refine own_st (B := s₁.setTop (mkF m 1 #[.val (.ref a), .val (.ref d)] [(.ref a)])) (fun t_ k_ => XS.aloadN X0.here hx rfl (hb hby own_b7_d0) rfl rfl k_) ?_
  obtain ⟨T1, X1, e1, st1⟩ := getF X0 hx hZ hown (host := "") (Or.inl (hw _ (List.mem_of_getElem? (i := 21) rfl))) Via.refl e0 F0 (g := (mkF m 1 #[.val (.ref a), .val (.ref d)] [(.ref a)])) rfl rfl (hb hby own_b7_d1)
  refine own_st (B := T1.setTop (mkF m 4 #[.val (.ref a), .val (.ref d)] [(.long x0)])) st1 ?_
  refine own_st (B := T1.setTop (mkF m 5 #[.val (.ref a), .val (.ref d)] [(.ref d), (.long x0)])) (fun t_ k_ => XS.aloadN X1.here hx rfl (hb hby own_b7_d4) rfl rfl k_) ?_
  obtain ⟨T2, X2, e2, st2⟩ := getF X1 hx hZ hown (host := "") (Or.inl (hw _ (List.mem_of_getElem? (i := 21) rfl))) Via.refl e1 F2 (g := (mkF m 5 #[.val (.ref a), .val (.ref d)] [(.ref d), (.long x0)])) rfl rfl (hb hby own_b7_d5)
  refine own_st (B := T2.setTop (mkF m 8 #[.val (.ref a), .val (.ref d)] [(.long x2), (.long x0)])) st2 ?_
  refine own_st (B := T2.setTop (mkF m 9 #[.val (.ref a), .val (.ref d)] [(.int (lcmpW x0 x2))])) (fun t_ k_ => XS.lcmp X2.here hx rfl (hb hby own_b7_d8) rfl k_) ?_
  by_cases hc3 : x2 < x0
  · have hd3 := own_lt64 hc3
    refine own_st (B := T2.setTop (mkF m 28 #[.val (.ref a), .val (.ref d)] [])) (fun t_ k_ => XS.ifYes X2.here hx rfl (pc0 := 9) (pc' := 28) rfl (hb hby own_b7_d9) rfl ((if0 _ _).trans (tlt ((lw_gt _ _).mpr hc3)).2.2.1) (by decide) (by decide) k_) ?_
    refine own_st (B := T2.setTop (mkF m 29 #[.val (.ref a), .val (.ref d)] [(.int (0 : Int32))])) (fun t_ k_ => XS.iconst X2.here hx rfl (hb hby own_b7_d28) k_) ?_
    refine own_retN X2 hx (t := .boolean) Bd.returns (by simp) hlk (hb hby own_b7_d29) (z' := (0 : Int32)) (by first | rfl | exact own_nb _ | exact own_nbb _) (by decide) (by decide) ?_
    show Q7 Z a d x0 x1 x2 x3 h0 n0 _ T2.heap _
    rw [e2]
    exact ⟨by rw [own_enc, own_bz]; omega, N0, rfl⟩
  · have hd3 := own_nlt64 hc3
    refine own_st (B := T2.setTop (mkF m 12 #[.val (.ref a), .val (.ref d)] [])) (fun t_ k_ => XS.ifNo X2.here hx rfl (hb hby own_b7_d9) rfl ((if0 _ _).trans (flt (fun q => hc3 ((lw_gt _ _).mp q))).2.2.1) k_) ?_
    refine own_st (B := T2.setTop (mkF m 13 #[.val (.ref a), .val (.ref d)] [(.ref d)])) (fun t_ k_ => XS.aloadN X2.here hx rfl (hb hby own_b7_d12) rfl rfl k_) ?_
    obtain ⟨T4, X4, e4, st4⟩ := getF X2 hx hZ hown (host := "") (Or.inl (hw _ (List.mem_of_getElem? (i := 23) rfl))) Via.refl e2 F3 (g := (mkF m 13 #[.val (.ref a), .val (.ref d)] [(.ref d)])) rfl rfl (hb hby own_b7_d13)
    refine own_st (B := T4.setTop (mkF m 16 #[.val (.ref a), .val (.ref d)] [(.long x3)])) st4 ?_
    refine own_st (B := T4.setTop (mkF m 17 #[.val (.ref a), .val (.ref d)] [(.ref a), (.long x3)])) (fun t_ k_ => XS.aloadN X4.here hx rfl (hb hby own_b7_d16) rfl rfl k_) ?_
    obtain ⟨T5, X5, e5, st5⟩ := getF X4 hx hZ hown (host := "") (Or.inl (hw _ (List.mem_of_getElem? (i := 23) rfl))) Via.refl e4 F1 (g := (mkF m 17 #[.val (.ref a), .val (.ref d)] [(.ref a), (.long x3)])) rfl rfl (hb hby own_b7_d17)
    refine own_st (B := T5.setTop (mkF m 20 #[.val (.ref a), .val (.ref d)] [(.long x1), (.long x3)])) st5 ?_
    refine own_st (B := T5.setTop (mkF m 21 #[.val (.ref a), .val (.ref d)] [(.int (lcmpW x3 x1))])) (fun t_ k_ => XS.lcmp X5.here hx rfl (hb hby own_b7_d20) rfl k_) ?_
    by_cases hc6 : x1 < x3
    · have hd6 := own_lt64 hc6
      refine own_st (B := T5.setTop (mkF m 28 #[.val (.ref a), .val (.ref d)] [])) (fun t_ k_ => XS.ifYes X5.here hx rfl (pc0 := 21) (pc' := 28) rfl (hb hby own_b7_d21) rfl ((if0 _ _).trans (tlt ((lw_gt _ _).mpr hc6)).2.2.1) (by decide) (by decide) k_) ?_
      refine own_st (B := T5.setTop (mkF m 29 #[.val (.ref a), .val (.ref d)] [(.int (0 : Int32))])) (fun t_ k_ => XS.iconst X5.here hx rfl (hb hby own_b7_d28) k_) ?_
      refine own_retN X5 hx (t := .boolean) Bd.returns (by simp) hlk (hb hby own_b7_d29) (z' := (0 : Int32)) (by first | rfl | exact own_nb _ | exact own_nbb _) (by decide) (by decide) ?_
      show Q7 Z a d x0 x1 x2 x3 h0 n0 _ T5.heap _
      rw [e5]
      exact ⟨by rw [own_enc, own_bz]; omega, N0, rfl⟩
    · have hd6 := own_nlt64 hc6
      refine own_st (B := T5.setTop (mkF m 24 #[.val (.ref a), .val (.ref d)] [])) (fun t_ k_ => XS.ifNo X5.here hx rfl (hb hby own_b7_d21) rfl ((if0 _ _).trans (flt (fun q => hc6 ((lw_gt _ _).mp q))).2.2.1) k_) ?_
      refine own_st (B := T5.setTop (mkF m 25 #[.val (.ref a), .val (.ref d)] [(.int (1 : Int32))])) (fun t_ k_ => XS.iconst X5.here hx rfl (hb hby own_b7_d24) k_) ?_
      refine own_st (B := T5.setTop (mkF m 29 #[.val (.ref a), .val (.ref d)] [(.int (1 : Int32))])) (fun t_ k_ => XS.goto X5.here hx rfl (pc0 := 25) (pc' := 29) rfl (hb hby own_b7_d25) (by decide) (by decide) k_) ?_
      refine own_retN X5 hx (t := .boolean) Bd.returns (by simp) hlk (hb hby own_b7_d29) (z' := (1 : Int32)) (by first | rfl | exact own_nb _ | exact own_nbb _) (by decide) (by decide) ?_
      show Q7 Z a d x0 x1 x2 x3 h0 n0 _ T5.heap _
      rw [e5]
      exact ⟨by rw [own_enc, own_b1]; omega, N0, rfl⟩
theorem own_pd1 : parseMethodDescriptor "(JJ)J" = some ⟨[.long, .long], some .long⟩ := by decide +kernel
theorem own_pd2 : parseMethodDescriptor "(JJ)V" = some ⟨[.long, .long], none⟩ := by decide +kernel
theorem own_pd3 : parseMethodDescriptor "(JJJ)Z" = some ⟨[.long, .long, .long], some .boolean⟩ := by decide +kernel
theorem own_pd4 : parseMethodDescriptor "(Lcom/example/briareus/briareus/model/Interval;)Z" = some ⟨[(.object "com/example/briareus/briareus/model/Interval")], some .boolean⟩ := by decide +kernel
theorem own_ef_rm0 (m : MethodId) (x0 : Int64) (x1 : Int64) (x2 : Int64) (x3 : Int64) : entryFrame m #[(.long x0), (.long x1), (.long x2), (.long x3)] maxLocals = mkF m 0 #[.val (.long x0), .second, .val (.long x1), .second, .val (.long x2), .second, .val (.long x3), .second, .unset, .unset, .unset, .unset, .unset, .unset, .unset, .unset, .unset, .unset, .unset, .unset, .unset, .unset, .unset, .unset, .unset] [] := by first | (simp [entryFrame, mkF, argsToLocals, Value.category, maxLocals]; done) | rfl
def Q0 (Z : State) (u0 : Int64) (u1 : Int64) (u2 : Int64) (u3 : Int64) (h0 : Heap) (n0 : Nat) (v : Option Value) (h : Heap) (L : List Loc) : Prop := v = some (.int 1) ∧ Fr n0 L
set_option maxRecDepth 65536 in
set_option maxHeartbeats 40000000 in
theorem rm0 (l : Launch) (Z : State) (a0 : Array Value) (hw : ∀ d ∈ tables_1, d.before a0 Z = true) (ws : List Jvm.Cond) (u0 : Int64) (u1 : Int64) (u2 : Int64) (u3 : Int64) (h0 : Heap) (n0 : Nat) (Z0 : n0 ≤ h0.size) :
    MetFree l x (head1 (Jvm.Cond.code x code maxLocals ret :: ws) room_1) (fun aa_ U_ => aa_ = #[(.long u0), (.long u1), (.long u2), (.long u3)] ∧ Z.Warmed39 U_.vm ∧ U_.heap = h0) (fun _ _ _ _ _ => True) (fun _ U_ o_ U1_ => ∃ v_ L_, o_ = .returned v_ ∧ Q0 Z u0 u1 u2 u3 h0 n0 v_ U1_.heap L_ ∧ FrameEnd U_ o_ U1_ L_ 2 4) := by
  refine MetFree.of_bodySF (plainFor_of_name own_pn2) hisR ?_
  intro p e s m args below meth c s₁ Bd hml0 hP hK
  obtain ⟨rfl, hZ, hh⟩ := hP
  have hx := Bd.exec
  have hby := Bd.bytes
  have hlk := Bd.notSynchronized
  have hml : c.maxLocals = 25 := hml0
  have hown : s.vm.findClass "com/example/briareus/briareus/model/IntervalEnclosesPinLaw" = some m.cls := findClass_of_methodNamed Bd.named
  have hnm := (name_of_methodNamed Bd.named Bd.method).1
  have X0 : Stand p l e room_1 s m #[(.long u0), (.long u1), (.long u2), (.long u3)] below meth c s₁ [] 0 0 := Stand.of_body Bd
  have e0 : s₁.heap = h0 := by rw [← hh, Bd.state]; rfl
  have N0 := Fr.nil n0
  show own_E p e below s (Q0 Z u0 u1 u2 u3 h0 n0) 2 4 (s₁.setTop (entryFrame m #[(.long u0), (.long u1), (.long u2), (.long u3)] maxLocals))
  refine own_st (B := s₁.setTop (mkF m 0 #[.val (.long u0), .second, .val (.long u1), .second, .val (.long u2), .second, .val (.long u3), .second, .unset, .unset, .unset, .unset, .unset, .unset, .unset, .unset, .unset, .unset, .unset, .unset, .unset, .unset, .unset, .unset, .unset] [])) (fun t_ k_ => castTop (own_ef_rm0 m u0 u1 u2 u3) k_) ?_
  refine own_st (B := s₁.setTop (mkF m 1 #[.val (.long u0), .second, .val (.long u1), .second, .val (.long u2), .second, .val (.long u3), .second, .unset, .unset, .unset, .unset, .unset, .unset, .unset, .unset, .unset, .unset, .unset, .unset, .unset, .unset, .unset, .unset, .unset] [(.long u0)])) (fun t_ k_ => XS.lloadN X0.here hx rfl (hb hby at_0) rfl k_) ?_
  refine own_st (B := s₁.setTop (mkF m 2 #[.val (.long u0), .second, .val (.long u1), .second, .val (.long u2), .second, .val (.long u3), .second, .unset, .unset, .unset, .unset, .unset, .unset, .unset, .unset, .unset, .unset, .unset, .unset, .unset, .unset, .unset, .unset, .unset] [(.long u1), (.long u0)])) (fun t_ k_ => XS.lloadN X0.here hx rfl (hb hby at_1) rfl k_) ?_
  refine own_st (B := s₁.setTop (mkF m 3 #[.val (.long u0), .second, .val (.long u1), .second, .val (.long u2), .second, .val (.long u3), .second, .unset, .unset, .unset, .unset, .unset, .unset, .unset, .unset, .unset, .unset, .unset, .unset, .unset, .unset, .unset, .unset, .unset] [(.int (lcmpW u0 u1))])) (fun t_ k_ => XS.lcmp X0.here hx rfl (hb hby at_2) rfl k_) ?_
  by_cases hc1 : u0 = u1
  · have hd1 := own_eq64 hc1
    refine own_st (B := s₁.setTop (mkF m 14 #[.val (.long u0), .second, .val (.long u1), .second, .val (.long u2), .second, .val (.long u3), .second, .unset, .unset, .unset, .unset, .unset, .unset, .unset, .unset, .unset, .unset, .unset, .unset, .unset, .unset, .unset, .unset, .unset] [])) (fun t_ k_ => XS.ifYes X0.here hx rfl (pc0 := 3) (pc' := 14) rfl (hb hby at_3) rfl ((if0 _ _).trans (teq ((lw_eq _ _).mpr hc1)).1) (by decide) (by decide) k_) ?_
    refine own_st (B := s₁.setTop (mkF m 15 #[.val (.long u0), .second, .val (.long u1), .second, .val (.long u2), .second, .val (.long u3), .second, .unset, .unset, .unset, .unset, .unset, .unset, .unset, .unset, .unset, .unset, .unset, .unset, .unset, .unset, .unset, .unset, .unset] [(.int (1 : Int32))])) (fun t_ k_ => XS.iconst X0.here hx rfl (hb hby at_14) k_) ?_
    refine own_retN X0 hx (t := .boolean) Bd.returns (by simp) hlk (hb hby at_15) (z' := (1 : Int32)) (by first | rfl | exact own_nb _ | exact own_nbb _) (by decide) (by decide) ?_
    show Q0 Z u0 u1 u2 u3 h0 n0 _ s₁.heap _
    rw [e0]
    exact ⟨rfl, N0⟩
  · have hd1 := own_neq64 hc1
    refine own_st (B := s₁.setTop (mkF m 6 #[.val (.long u0), .second, .val (.long u1), .second, .val (.long u2), .second, .val (.long u3), .second, .unset, .unset, .unset, .unset, .unset, .unset, .unset, .unset, .unset, .unset, .unset, .unset, .unset, .unset, .unset, .unset, .unset] [])) (fun t_ k_ => XS.ifNo X0.here hx rfl (hb hby at_3) rfl ((if0 _ _).trans (feq (fun q => hc1 ((lw_eq _ _).mp q))).1) k_) ?_
    refine own_st (B := s₁.setTop (mkF m 8 #[.val (.long u0), .second, .val (.long u1), .second, .val (.long u2), .second, .val (.long u3), .second, .unset, .unset, .unset, .unset, .unset, .unset, .unset, .unset, .unset, .unset, .unset, .unset, .unset, .unset, .unset, .unset, .unset] [(.long u2)])) (fun t_ k_ => XS.lload X0.here hx rfl (hb hby at_6) rfl k_) ?_
    refine own_st (B := s₁.setTop (mkF m 10 #[.val (.long u0), .second, .val (.long u1), .second, .val (.long u2), .second, .val (.long u3), .second, .unset, .unset, .unset, .unset, .unset, .unset, .unset, .unset, .unset, .unset, .unset, .unset, .unset, .unset, .unset, .unset, .unset] [(.long u3), (.long u2)])) (fun t_ k_ => XS.lload X0.here hx rfl (hb hby at_8) rfl k_) ?_
    refine own_st (B := s₁.setTop (mkF m 11 #[.val (.long u0), .second, .val (.long u1), .second, .val (.long u2), .second, .val (.long u3), .second, .unset, .unset, .unset, .unset, .unset, .unset, .unset, .unset, .unset, .unset, .unset, .unset, .unset, .unset, .unset, .unset, .unset] [(.int (lcmpW u2 u3))])) (fun t_ k_ => XS.lcmp X0.here hx rfl (hb hby at_10) rfl k_) ?_
    by_cases hc2 : u2 = u3
    · have hd2 := own_eq64 hc2
      refine own_st (B := s₁.setTop (mkF m 14 #[.val (.long u0), .second, .val (.long u1), .second, .val (.long u2), .second, .val (.long u3), .second, .unset, .unset, .unset, .unset, .unset, .unset, .unset, .unset, .unset, .unset, .unset, .unset, .unset, .unset, .unset, .unset, .unset] [])) (fun t_ k_ => XS.ifNo X0.here hx rfl (hb hby at_11) rfl ((if0 _ _).trans (teq ((lw_eq _ _).mpr hc2)).2) k_) ?_
      refine own_st (B := s₁.setTop (mkF m 15 #[.val (.long u0), .second, .val (.long u1), .second, .val (.long u2), .second, .val (.long u3), .second, .unset, .unset, .unset, .unset, .unset, .unset, .unset, .unset, .unset, .unset, .unset, .unset, .unset, .unset, .unset, .unset, .unset] [(.int (1 : Int32))])) (fun t_ k_ => XS.iconst X0.here hx rfl (hb hby at_14) k_) ?_
      refine own_retN X0 hx (t := .boolean) Bd.returns (by simp) hlk (hb hby at_15) (z' := (1 : Int32)) (by first | rfl | exact own_nb _ | exact own_nbb _) (by decide) (by decide) ?_
      show Q0 Z u0 u1 u2 u3 h0 n0 _ s₁.heap _
      rw [e0]
      exact ⟨rfl, N0⟩
    · have hd2 := own_neq64 hc2
      refine own_st (B := s₁.setTop (mkF m 16 #[.val (.long u0), .second, .val (.long u1), .second, .val (.long u2), .second, .val (.long u3), .second, .unset, .unset, .unset, .unset, .unset, .unset, .unset, .unset, .unset, .unset, .unset, .unset, .unset, .unset, .unset, .unset, .unset] [])) (fun t_ k_ => XS.ifYes X0.here hx rfl (pc0 := 11) (pc' := 16) rfl (hb hby at_11) rfl ((if0 _ _).trans (feq (fun q => hc2 ((lw_eq _ _).mp q))).2) (by decide) (by decide) k_) ?_
      refine own_st (B := s₁.setTop (mkF m 17 #[.val (.long u0), .second, .val (.long u1), .second, .val (.long u2), .second, .val (.long u3), .second, .unset, .unset, .unset, .unset, .unset, .unset, .unset, .unset, .unset, .unset, .unset, .unset, .unset, .unset, .unset, .unset, .unset] [(.long u0)])) (fun t_ k_ => XS.lloadN X0.here hx rfl (hb hby at_16) rfl k_) ?_
      refine own_st (B := s₁.setTop (mkF m 18 #[.val (.long u0), .second, .val (.long u1), .second, .val (.long u2), .second, .val (.long u3), .second, .unset, .unset, .unset, .unset, .unset, .unset, .unset, .unset, .unset, .unset, .unset, .unset, .unset, .unset, .unset, .unset, .unset] [(.long u1), (.long u0)])) (fun t_ k_ => XS.lloadN X0.here hx rfl (hb hby at_17) rfl k_) ?_
      obtain ⟨_, _, ⟨T3, L3, k3, n3⟩, -, X3, ⟨Lc3, hQ3, l3, y3, z3⟩, st3⟩ := Jvm.LawKit.callS X0 hx (y := (⟨"java/lang/Math", "min", "(JJ)J"⟩ : MethodName)) hown (mvT hZ (hw _ (List.mem_of_getElem? (i := 0) rfl))) (mvT hZ (hw _ (List.mem_of_getElem? (i := 1) rfl))) (mvT hZ (hw _ (List.mem_of_getElem? (i := 2) rfl))) (mvT hZ (hw _ (List.mem_of_getElem? (i := 3) rfl))) (by decide) (backOf (W := 0) (rm1 l Z a0 hw [] u0 u1 h0 n0 Z0 ) hZ (hw _ (List.mem_of_getElem? (i := 3) rfl)) (hw _ (List.mem_of_getElem? (i := 2) rfl)) (by decide) (by decide)) (g := (mkF m 18 #[.val (.long u0), .second, .val (.long u1), .second, .val (.long u2), .second, .val (.long u3), .second, .unset, .unset, .unset, .unset, .unset, .unset, .unset, .unset, .unset, .unset, .unset, .unset, .unset, .unset, .unset, .unset, .unset] [(.long u1), (.long u0)])) rfl (by rw [hml]; rfl) (argsL := [(.long u0), (.long u1)]) (rest := []) (lenOf own_pd1 rfl) rfl (by show 2 * 0 + _ ≤ _; exact Nat.le_of_eq rfl) (hb hby at_18) (fun _ _ => ⟨rfl, e0, (by decide : 0 + 0 ≤ _), (by decide : 0 + 0 ≤ _)⟩)
      dsimp only [Pt.U, Pt.locs, Pt.cells, Pt.slots] at X3 l3 y3 z3 st3 hQ3
      subst l3 y3 z3
      obtain ⟨rfl, N3q, eh3⟩ := hQ3
      have N3 := Fr.app N0 N3q
      refine own_st (B := T3.setTop (mkF m 21 #[.val (.long u0), .second, .val (.long u1), .second, .val (.long u2), .second, .val (.long u3), .second, .unset, .unset, .unset, .unset, .unset, .unset, .unset, .unset, .unset, .unset, .unset, .unset, .unset, .unset, .unset, .unset, .unset] [(.long (own_min u0 u1))])) st3 ?_
      refine own_st (B := T3.setTop (mkF m 23 #[.val (.long u0), .second, .val (.long u1), .second, .val (.long u2), .second, .val (.long u3), .second, .val (.long (own_min u0 u1)), .second, .unset, .unset, .unset, .unset, .unset, .unset, .unset, .unset, .unset, .unset, .unset, .unset, .unset, .unset, .unset] [])) (fun t_ k_ => XS.lstore X3.here hx rfl (hb hby at_21) rfl (l' := #[.val (.long u0), .second, .val (.long u1), .second, .val (.long u2), .second, .val (.long u3), .second, .val (.long (own_min u0 u1)), .second, .unset, .unset, .unset, .unset, .unset, .unset, .unset, .unset, .unset, .unset, .unset, .unset, .unset, .unset, .unset]) rfl k_) ?_
      refine own_st (B := T3.setTop (mkF m 24 #[.val (.long u0), .second, .val (.long u1), .second, .val (.long u2), .second, .val (.long u3), .second, .val (.long (own_min u0 u1)), .second, .unset, .unset, .unset, .unset, .unset, .unset, .unset, .unset, .unset, .unset, .unset, .unset, .unset, .unset, .unset] [(.long u0)])) (fun t_ k_ => XS.lloadN X3.here hx rfl (hb hby at_23) rfl k_) ?_
      refine own_st (B := T3.setTop (mkF m 25 #[.val (.long u0), .second, .val (.long u1), .second, .val (.long u2), .second, .val (.long u3), .second, .val (.long (own_min u0 u1)), .second, .unset, .unset, .unset, .unset, .unset, .unset, .unset, .unset, .unset, .unset, .unset, .unset, .unset, .unset, .unset] [(.long u1), (.long u0)])) (fun t_ k_ => XS.lloadN X3.here hx rfl (hb hby at_24) rfl k_) ?_
      obtain ⟨_, _, ⟨T4, L4, k4, n4⟩, -, X4, ⟨Lc4, hQ4, l4, y4, z4⟩, st4⟩ := Jvm.LawKit.callS X3 hx (y := (⟨"java/lang/Math", "max", "(JJ)J"⟩ : MethodName)) hown (mvT hZ (hw _ (List.mem_of_getElem? (i := 4) rfl))) (mvT hZ (hw _ (List.mem_of_getElem? (i := 5) rfl))) (mvT hZ (hw _ (List.mem_of_getElem? (i := 2) rfl))) (mvT hZ (hw _ (List.mem_of_getElem? (i := 6) rfl))) (by decide) (backOf (W := 0) (rm2 l Z a0 hw [] u0 u1 h0 n0 Z0 ) hZ (hw _ (List.mem_of_getElem? (i := 6) rfl)) (hw _ (List.mem_of_getElem? (i := 2) rfl)) (by decide) (by decide)) (g := (mkF m 25 #[.val (.long u0), .second, .val (.long u1), .second, .val (.long u2), .second, .val (.long u3), .second, .val (.long (own_min u0 u1)), .second, .unset, .unset, .unset, .unset, .unset, .unset, .unset, .unset, .unset, .unset, .unset, .unset, .unset, .unset, .unset] [(.long u1), (.long u0)])) rfl (by rw [hml]; rfl) (argsL := [(.long u0), (.long u1)]) (rest := []) (lenOf own_pd1 rfl) rfl (by show 2 * 0 + _ ≤ _; exact Nat.le_of_eq rfl) (hb hby at_25) (fun _ _ => ⟨rfl, eh3, (by decide : 0 + 0 ≤ _), (by decide : 0 + 0 ≤ _)⟩)
      dsimp only [Pt.U, Pt.locs, Pt.cells, Pt.slots] at X4 l4 y4 z4 st4 hQ4
      subst l4 y4 z4
      obtain ⟨rfl, N4q, eh4⟩ := hQ4
      have N4 := Fr.app N3 N4q
      refine own_st (B := T4.setTop (mkF m 28 #[.val (.long u0), .second, .val (.long u1), .second, .val (.long u2), .second, .val (.long u3), .second, .val (.long (own_min u0 u1)), .second, .unset, .unset, .unset, .unset, .unset, .unset, .unset, .unset, .unset, .unset, .unset, .unset, .unset, .unset, .unset] [(.long (own_max u0 u1))])) st4 ?_
      refine own_st (B := T4.setTop (mkF m 30 #[.val (.long u0), .second, .val (.long u1), .second, .val (.long u2), .second, .val (.long u3), .second, .val (.long (own_min u0 u1)), .second, .val (.long (own_max u0 u1)), .second, .unset, .unset, .unset, .unset, .unset, .unset, .unset, .unset, .unset, .unset, .unset, .unset, .unset] [])) (fun t_ k_ => XS.lstore X4.here hx rfl (hb hby at_28) rfl (l' := #[.val (.long u0), .second, .val (.long u1), .second, .val (.long u2), .second, .val (.long u3), .second, .val (.long (own_min u0 u1)), .second, .val (.long (own_max u0 u1)), .second, .unset, .unset, .unset, .unset, .unset, .unset, .unset, .unset, .unset, .unset, .unset, .unset, .unset]) rfl k_) ?_
      refine own_st (B := T4.setTop (mkF m 32 #[.val (.long u0), .second, .val (.long u1), .second, .val (.long u2), .second, .val (.long u3), .second, .val (.long (own_min u0 u1)), .second, .val (.long (own_max u0 u1)), .second, .unset, .unset, .unset, .unset, .unset, .unset, .unset, .unset, .unset, .unset, .unset, .unset, .unset] [(.long u2)])) (fun t_ k_ => XS.lload X4.here hx rfl (hb hby at_30) rfl k_) ?_
      refine own_st (B := T4.setTop (mkF m 34 #[.val (.long u0), .second, .val (.long u1), .second, .val (.long u2), .second, .val (.long u3), .second, .val (.long (own_min u0 u1)), .second, .val (.long (own_max u0 u1)), .second, .unset, .unset, .unset, .unset, .unset, .unset, .unset, .unset, .unset, .unset, .unset, .unset, .unset] [(.long u3), (.long u2)])) (fun t_ k_ => XS.lload X4.here hx rfl (hb hby at_32) rfl k_) ?_
      obtain ⟨_, _, ⟨T5, L5, k5, n5⟩, -, X5, ⟨Lc5, hQ5, l5, y5, z5⟩, st5⟩ := Jvm.LawKit.callS X4 hx (y := (⟨"java/lang/Math", "min", "(JJ)J"⟩ : MethodName)) hown (mvT hZ (hw _ (List.mem_of_getElem? (i := 0) rfl))) (mvT hZ (hw _ (List.mem_of_getElem? (i := 1) rfl))) (mvT hZ (hw _ (List.mem_of_getElem? (i := 2) rfl))) (mvT hZ (hw _ (List.mem_of_getElem? (i := 3) rfl))) (by decide) (backOf (W := 0) (rm1 l Z a0 hw [] u2 u3 h0 n0 Z0 ) hZ (hw _ (List.mem_of_getElem? (i := 3) rfl)) (hw _ (List.mem_of_getElem? (i := 2) rfl)) (by decide) (by decide)) (g := (mkF m 34 #[.val (.long u0), .second, .val (.long u1), .second, .val (.long u2), .second, .val (.long u3), .second, .val (.long (own_min u0 u1)), .second, .val (.long (own_max u0 u1)), .second, .unset, .unset, .unset, .unset, .unset, .unset, .unset, .unset, .unset, .unset, .unset, .unset, .unset] [(.long u3), (.long u2)])) rfl (by rw [hml]; rfl) (argsL := [(.long u2), (.long u3)]) (rest := []) (lenOf own_pd1 rfl) rfl (by show 2 * 0 + _ ≤ _; exact Nat.le_of_eq rfl) (hb hby at_34) (fun _ _ => ⟨rfl, eh4, (by decide : 0 + 0 ≤ _), (by decide : 0 + 0 ≤ _)⟩)
      dsimp only [Pt.U, Pt.locs, Pt.cells, Pt.slots] at X5 l5 y5 z5 st5 hQ5
      subst l5 y5 z5
      obtain ⟨rfl, N5q, eh5⟩ := hQ5
      have N5 := Fr.app N4 N5q
      refine own_st (B := T5.setTop (mkF m 37 #[.val (.long u0), .second, .val (.long u1), .second, .val (.long u2), .second, .val (.long u3), .second, .val (.long (own_min u0 u1)), .second, .val (.long (own_max u0 u1)), .second, .unset, .unset, .unset, .unset, .unset, .unset, .unset, .unset, .unset, .unset, .unset, .unset, .unset] [(.long (own_min u2 u3))])) st5 ?_
      refine own_st (B := T5.setTop (mkF m 39 #[.val (.long u0), .second, .val (.long u1), .second, .val (.long u2), .second, .val (.long u3), .second, .val (.long (own_min u0 u1)), .second, .val (.long (own_max u0 u1)), .second, .val (.long (own_min u2 u3)), .second, .unset, .unset, .unset, .unset, .unset, .unset, .unset, .unset, .unset, .unset, .unset] [])) (fun t_ k_ => XS.lstore X5.here hx rfl (hb hby at_37) rfl (l' := #[.val (.long u0), .second, .val (.long u1), .second, .val (.long u2), .second, .val (.long u3), .second, .val (.long (own_min u0 u1)), .second, .val (.long (own_max u0 u1)), .second, .val (.long (own_min u2 u3)), .second, .unset, .unset, .unset, .unset, .unset, .unset, .unset, .unset, .unset, .unset, .unset]) rfl k_) ?_
      refine own_st (B := T5.setTop (mkF m 41 #[.val (.long u0), .second, .val (.long u1), .second, .val (.long u2), .second, .val (.long u3), .second, .val (.long (own_min u0 u1)), .second, .val (.long (own_max u0 u1)), .second, .val (.long (own_min u2 u3)), .second, .unset, .unset, .unset, .unset, .unset, .unset, .unset, .unset, .unset, .unset, .unset] [(.long u2)])) (fun t_ k_ => XS.lload X5.here hx rfl (hb hby at_39) rfl k_) ?_
      refine own_st (B := T5.setTop (mkF m 43 #[.val (.long u0), .second, .val (.long u1), .second, .val (.long u2), .second, .val (.long u3), .second, .val (.long (own_min u0 u1)), .second, .val (.long (own_max u0 u1)), .second, .val (.long (own_min u2 u3)), .second, .unset, .unset, .unset, .unset, .unset, .unset, .unset, .unset, .unset, .unset, .unset] [(.long u3), (.long u2)])) (fun t_ k_ => XS.lload X5.here hx rfl (hb hby at_41) rfl k_) ?_
      obtain ⟨_, _, ⟨T6, L6, k6, n6⟩, -, X6, ⟨Lc6, hQ6, l6, y6, z6⟩, st6⟩ := Jvm.LawKit.callS X5 hx (y := (⟨"java/lang/Math", "max", "(JJ)J"⟩ : MethodName)) hown (mvT hZ (hw _ (List.mem_of_getElem? (i := 4) rfl))) (mvT hZ (hw _ (List.mem_of_getElem? (i := 5) rfl))) (mvT hZ (hw _ (List.mem_of_getElem? (i := 2) rfl))) (mvT hZ (hw _ (List.mem_of_getElem? (i := 6) rfl))) (by decide) (backOf (W := 0) (rm2 l Z a0 hw [] u2 u3 h0 n0 Z0 ) hZ (hw _ (List.mem_of_getElem? (i := 6) rfl)) (hw _ (List.mem_of_getElem? (i := 2) rfl)) (by decide) (by decide)) (g := (mkF m 43 #[.val (.long u0), .second, .val (.long u1), .second, .val (.long u2), .second, .val (.long u3), .second, .val (.long (own_min u0 u1)), .second, .val (.long (own_max u0 u1)), .second, .val (.long (own_min u2 u3)), .second, .unset, .unset, .unset, .unset, .unset, .unset, .unset, .unset, .unset, .unset, .unset] [(.long u3), (.long u2)])) rfl (by rw [hml]; rfl) (argsL := [(.long u2), (.long u3)]) (rest := []) (lenOf own_pd1 rfl) rfl (by show 2 * 0 + _ ≤ _; exact Nat.le_of_eq rfl) (hb hby at_43) (fun _ _ => ⟨rfl, eh5, (by decide : 0 + 0 ≤ _), (by decide : 0 + 0 ≤ _)⟩)
      dsimp only [Pt.U, Pt.locs, Pt.cells, Pt.slots] at X6 l6 y6 z6 st6 hQ6
      subst l6 y6 z6
      obtain ⟨rfl, N6q, eh6⟩ := hQ6
      have N6 := Fr.app N5 N6q
      refine own_st (B := T6.setTop (mkF m 46 #[.val (.long u0), .second, .val (.long u1), .second, .val (.long u2), .second, .val (.long u3), .second, .val (.long (own_min u0 u1)), .second, .val (.long (own_max u0 u1)), .second, .val (.long (own_min u2 u3)), .second, .unset, .unset, .unset, .unset, .unset, .unset, .unset, .unset, .unset, .unset, .unset] [(.long (own_max u2 u3))])) st6 ?_
      refine own_st (B := T6.setTop (mkF m 48 #[.val (.long u0), .second, .val (.long u1), .second, .val (.long u2), .second, .val (.long u3), .second, .val (.long (own_min u0 u1)), .second, .val (.long (own_max u0 u1)), .second, .val (.long (own_min u2 u3)), .second, .val (.long (own_max u2 u3)), .second, .unset, .unset, .unset, .unset, .unset, .unset, .unset, .unset, .unset] [])) (fun t_ k_ => XS.lstore X6.here hx rfl (hb hby at_46) rfl (l' := #[.val (.long u0), .second, .val (.long u1), .second, .val (.long u2), .second, .val (.long u3), .second, .val (.long (own_min u0 u1)), .second, .val (.long (own_max u0 u1)), .second, .val (.long (own_min u2 u3)), .second, .val (.long (own_max u2 u3)), .second, .unset, .unset, .unset, .unset, .unset, .unset, .unset, .unset, .unset]) rfl k_) ?_
      obtain ⟨T7, h7, X7, e7, E7, A7, D7, -, st7⟩ := newO X6 hx hZ hown (hw _ (List.mem_of_getElem? (i := 7) rfl)) (hw _ (List.mem_of_getElem? (i := 8) rfl)) (hw _ (List.mem_of_getElem? (i := 9) rfl)) eh6 (g := (mkF m 48 #[.val (.long u0), .second, .val (.long u1), .second, .val (.long u2), .second, .val (.long u3), .second, .val (.long (own_min u0 u1)), .second, .val (.long (own_max u0 u1)), .second, .val (.long (own_min u2 u3)), .second, .val (.long (own_max u2 u3)), .second, .unset, .unset, .unset, .unset, .unset, .unset, .unset, .unset, .unset] [])) rfl (hb hby at_48) (by decide) (by decide)
      obtain ⟨b7, g7⟩ : ∃ z, z = h0.size := ⟨_, rfl⟩
      rw [← g7] at A7 D7 st7
      have g8 : n0 ≤ b7 := Nat.le_trans Z0 (Nat.le_of_eq g7.symm)
      have Z9 := Nat.le_trans Z0 E7.1
      have F7_startMillis : Fld Z h7 b7 "com/example/briareus/briareus/model/Interval" "startMillis" "J" (.long (0 : Int64)) := D7 (Or.inr (hw _ (List.mem_of_getElem? (i := 22) rfl))) (ty := .long) (by decide)
      have F7_endMillis : Fld Z h7 b7 "com/example/briareus/briareus/model/Interval" "endMillis" "J" (.long (0 : Int64)) := D7 (Or.inr (hw _ (List.mem_of_getElem? (i := 24) rfl))) (ty := .long) (by decide)
      refine own_st (B := T7.setTop (mkF m 51 #[.val (.long u0), .second, .val (.long u1), .second, .val (.long u2), .second, .val (.long u3), .second, .val (.long (own_min u0 u1)), .second, .val (.long (own_max u0 u1)), .second, .val (.long (own_min u2 u3)), .second, .val (.long (own_max u2 u3)), .second, .unset, .unset, .unset, .unset, .unset, .unset, .unset, .unset, .unset] [(.ref b7)])) st7 ?_
      refine own_st (B := T7.setTop (mkF m 52 #[.val (.long u0), .second, .val (.long u1), .second, .val (.long u2), .second, .val (.long u3), .second, .val (.long (own_min u0 u1)), .second, .val (.long (own_max u0 u1)), .second, .val (.long (own_min u2 u3)), .second, .val (.long (own_max u2 u3)), .second, .unset, .unset, .unset, .unset, .unset, .unset, .unset, .unset, .unset] [(.ref b7), (.ref b7)])) (fun t_ k_ => XS.dup X7.here hx rfl (hb hby at_51) rfl rfl k_) ?_
      refine own_st (B := T7.setTop (mkF m 54 #[.val (.long u0), .second, .val (.long u1), .second, .val (.long u2), .second, .val (.long u3), .second, .val (.long (own_min u0 u1)), .second, .val (.long (own_max u0 u1)), .second, .val (.long (own_min u2 u3)), .second, .val (.long (own_max u2 u3)), .second, .unset, .unset, .unset, .unset, .unset, .unset, .unset, .unset, .unset] [(.long (own_min u0 u1)), (.ref b7), (.ref b7)])) (fun t_ k_ => XS.lload X7.here hx rfl (hb hby at_52) rfl k_) ?_
      refine own_st (B := T7.setTop (mkF m 56 #[.val (.long u0), .second, .val (.long u1), .second, .val (.long u2), .second, .val (.long u3), .second, .val (.long (own_min u0 u1)), .second, .val (.long (own_max u0 u1)), .second, .val (.long (own_min u2 u3)), .second, .val (.long (own_max u2 u3)), .second, .unset, .unset, .unset, .unset, .unset, .unset, .unset, .unset, .unset] [(.long (own_max u0 u1)), (.long (own_min u0 u1)), (.ref b7), (.ref b7)])) (fun t_ k_ => XS.lload X7.here hx rfl (hb hby at_54) rfl k_) ?_
      obtain ⟨_, _, ⟨T10, L10, k10, n10⟩, -, X10, ⟨Lc10, hQ10, l10, y10, z10⟩, st10⟩ := X7.specialBack hx (y := (⟨"com/example/briareus/briareus/model/Interval", "<init>", "(JJ)V"⟩ : MethodName)) rfl hown (mvT hZ (hw _ (List.mem_of_getElem? (i := 10) rfl))) (mvT hZ (hw _ (List.mem_of_getElem? (i := 11) rfl))) (mvT hZ (hw _ (List.mem_of_getElem? (i := 12) rfl))) (by decide) (backOf (W := 1) (rm3 l Z a0 hw [] b7 (own_min u0 u1) (own_max u0 u1) h7 n0 Z9 A7 F7_startMillis F7_endMillis g8 (own_mm hc1)) hZ (hw _ (List.mem_of_getElem? (i := 12) rfl)) (hw _ (List.mem_of_getElem? (i := 9) rfl)) (by decide) (by decide)) (g := (mkF m 56 #[.val (.long u0), .second, .val (.long u1), .second, .val (.long u2), .second, .val (.long u3), .second, .val (.long (own_min u0 u1)), .second, .val (.long (own_max u0 u1)), .second, .val (.long (own_min u2 u3)), .second, .val (.long (own_max u2 u3)), .second, .unset, .unset, .unset, .unset, .unset, .unset, .unset, .unset, .unset] [(.long (own_max u0 u1)), (.long (own_min u0 u1)), (.ref b7), (.ref b7)])) rfl (by rw [hml]; rfl) (Steps.refl _) (a := b7) (argsL := [(.long (own_min u0 u1)), (.long (own_max u0 u1))]) (rest := [(.ref b7)]) (lenOf own_pd2 rfl) rfl (by show 2 * 0 + _ ≤ _; exact Nat.le_of_eq rfl) (hb hby at_56) (fun _ _ => ⟨rfl, e7, (by decide : 1 + 0 ≤ _), (by decide : 2 + 0 ≤ _)⟩)
      dsimp only [Pt.U, Pt.locs, Pt.cells, Pt.slots] at X10 l10 y10 z10 st10 hQ10
      subst l10 y10 z10
      obtain ⟨rfl, N10q, K10, Fc10_0, Fc10_1⟩ := hQ10
      have N10 := Fr.app N6 N10q
      have Z11 := Nat.le_trans Z9 K10.1
      refine own_st (B := T10.setTop (mkF m 59 #[.val (.long u0), .second, .val (.long u1), .second, .val (.long u2), .second, .val (.long u3), .second, .val (.long (own_min u0 u1)), .second, .val (.long (own_max u0 u1)), .second, .val (.long (own_min u2 u3)), .second, .val (.long (own_max u2 u3)), .second, .unset, .unset, .unset, .unset, .unset, .unset, .unset, .unset, .unset] [(.ref b7)])) (fun t_ k_ => st10.trans k_) ?_
      refine own_st (B := T10.setTop (mkF m 61 #[.val (.long u0), .second, .val (.long u1), .second, .val (.long u2), .second, .val (.long u3), .second, .val (.long (own_min u0 u1)), .second, .val (.long (own_max u0 u1)), .second, .val (.long (own_min u2 u3)), .second, .val (.long (own_max u2 u3)), .second, .val (.ref b7), .unset, .unset, .unset, .unset, .unset, .unset, .unset, .unset] [])) (fun t_ k_ => XS.astore X10.here hx rfl (hb hby at_59) rfl rfl (l' := #[.val (.long u0), .second, .val (.long u1), .second, .val (.long u2), .second, .val (.long u3), .second, .val (.long (own_min u0 u1)), .second, .val (.long (own_max u0 u1)), .second, .val (.long (own_min u2 u3)), .second, .val (.long (own_max u2 u3)), .second, .val (.ref b7), .unset, .unset, .unset, .unset, .unset, .unset, .unset, .unset]) rfl k_) ?_
      obtain ⟨T12, h12, X12, e12, E12, A12, D12, -, st12⟩ := newO X10 hx hZ hown (hw _ (List.mem_of_getElem? (i := 7) rfl)) (hw _ (List.mem_of_getElem? (i := 8) rfl)) (hw _ (List.mem_of_getElem? (i := 9) rfl)) rfl (g := (mkF m 61 #[.val (.long u0), .second, .val (.long u1), .second, .val (.long u2), .second, .val (.long u3), .second, .val (.long (own_min u0 u1)), .second, .val (.long (own_max u0 u1)), .second, .val (.long (own_min u2 u3)), .second, .val (.long (own_max u2 u3)), .second, .val (.ref b7), .unset, .unset, .unset, .unset, .unset, .unset, .unset, .unset] [])) rfl (hb hby at_61) (by decide) (by decide)
      obtain ⟨b12, g12⟩ : ∃ z, z = T10.heap.size := ⟨_, rfl⟩
      rw [← g12] at A12 D12 st12
      have u13 := A7.keep K10
      have ne14 : b7 ≠ b12 := Nat.ne_of_lt (Nat.lt_of_lt_of_le u13.lt (Nat.le_of_eq g12.symm))
      have g15 : n0 ≤ b12 := Nat.le_trans Z11 (Nat.le_of_eq g12.symm)
      have Z16 := Nat.le_trans Z11 E12.1
      have F12_startMillis : Fld Z h12 b12 "com/example/briareus/briareus/model/Interval" "startMillis" "J" (.long (0 : Int64)) := D12 (Or.inr (hw _ (List.mem_of_getElem? (i := 22) rfl))) (ty := .long) (by decide)
      have F12_endMillis : Fld Z h12 b12 "com/example/briareus/briareus/model/Interval" "endMillis" "J" (.long (0 : Int64)) := D12 (Or.inr (hw _ (List.mem_of_getElem? (i := 24) rfl))) (ty := .long) (by decide)
      refine own_st (B := T12.setTop (mkF m 64 #[.val (.long u0), .second, .val (.long u1), .second, .val (.long u2), .second, .val (.long u3), .second, .val (.long (own_min u0 u1)), .second, .val (.long (own_max u0 u1)), .second, .val (.long (own_min u2 u3)), .second, .val (.long (own_max u2 u3)), .second, .val (.ref b7), .unset, .unset, .unset, .unset, .unset, .unset, .unset, .unset] [(.ref b12)])) st12 ?_
      refine own_st (B := T12.setTop (mkF m 65 #[.val (.long u0), .second, .val (.long u1), .second, .val (.long u2), .second, .val (.long u3), .second, .val (.long (own_min u0 u1)), .second, .val (.long (own_max u0 u1)), .second, .val (.long (own_min u2 u3)), .second, .val (.long (own_max u2 u3)), .second, .val (.ref b7), .unset, .unset, .unset, .unset, .unset, .unset, .unset, .unset] [(.ref b12), (.ref b12)])) (fun t_ k_ => XS.dup X12.here hx rfl (hb hby at_64) rfl rfl k_) ?_
      refine own_st (B := T12.setTop (mkF m 67 #[.val (.long u0), .second, .val (.long u1), .second, .val (.long u2), .second, .val (.long u3), .second, .val (.long (own_min u0 u1)), .second, .val (.long (own_max u0 u1)), .second, .val (.long (own_min u2 u3)), .second, .val (.long (own_max u2 u3)), .second, .val (.ref b7), .unset, .unset, .unset, .unset, .unset, .unset, .unset, .unset] [(.long (own_min u2 u3)), (.ref b12), (.ref b12)])) (fun t_ k_ => XS.lload X12.here hx rfl (hb hby at_65) rfl k_) ?_
      refine own_st (B := T12.setTop (mkF m 69 #[.val (.long u0), .second, .val (.long u1), .second, .val (.long u2), .second, .val (.long u3), .second, .val (.long (own_min u0 u1)), .second, .val (.long (own_max u0 u1)), .second, .val (.long (own_min u2 u3)), .second, .val (.long (own_max u2 u3)), .second, .val (.ref b7), .unset, .unset, .unset, .unset, .unset, .unset, .unset, .unset] [(.long (own_max u2 u3)), (.long (own_min u2 u3)), (.ref b12), (.ref b12)])) (fun t_ k_ => XS.lload X12.here hx rfl (hb hby at_67) rfl k_) ?_
      obtain ⟨_, _, ⟨T17, L17, k17, n17⟩, -, X17, ⟨Lc17, hQ17, l17, y17, z17⟩, st17⟩ := X12.specialBack hx (y := (⟨"com/example/briareus/briareus/model/Interval", "<init>", "(JJ)V"⟩ : MethodName)) rfl hown (mvT hZ (hw _ (List.mem_of_getElem? (i := 10) rfl))) (mvT hZ (hw _ (List.mem_of_getElem? (i := 11) rfl))) (mvT hZ (hw _ (List.mem_of_getElem? (i := 12) rfl))) (by decide) (backOf (W := 1) (rm3 l Z a0 hw [] b12 (own_min u2 u3) (own_max u2 u3) h12 n0 Z16 A12 F12_startMillis F12_endMillis g15 (own_mm hc2)) hZ (hw _ (List.mem_of_getElem? (i := 12) rfl)) (hw _ (List.mem_of_getElem? (i := 9) rfl)) (by decide) (by decide)) (g := (mkF m 69 #[.val (.long u0), .second, .val (.long u1), .second, .val (.long u2), .second, .val (.long u3), .second, .val (.long (own_min u0 u1)), .second, .val (.long (own_max u0 u1)), .second, .val (.long (own_min u2 u3)), .second, .val (.long (own_max u2 u3)), .second, .val (.ref b7), .unset, .unset, .unset, .unset, .unset, .unset, .unset, .unset] [(.long (own_max u2 u3)), (.long (own_min u2 u3)), (.ref b12), (.ref b12)])) rfl (by rw [hml]; rfl) (Steps.refl _) (a := b12) (argsL := [(.long (own_min u2 u3)), (.long (own_max u2 u3))]) (rest := [(.ref b12)]) (lenOf own_pd2 rfl) rfl (by show 2 * 0 + _ ≤ _; exact Nat.le_of_eq rfl) (hb hby at_69) (fun _ _ => ⟨rfl, e12, (by decide : 2 + 0 ≤ _), (by decide : 4 + 0 ≤ _)⟩)
      dsimp only [Pt.U, Pt.locs, Pt.cells, Pt.slots] at X17 l17 y17 z17 st17 hQ17
      subst l17 y17 z17
      obtain ⟨rfl, N17q, K17, Fc17_0, Fc17_1⟩ := hQ17
      have N17 := Fr.app N10 N17q
      have Z18 := Nat.le_trans Z16 K17.1
      refine own_st (B := T17.setTop (mkF m 72 #[.val (.long u0), .second, .val (.long u1), .second, .val (.long u2), .second, .val (.long u3), .second, .val (.long (own_min u0 u1)), .second, .val (.long (own_max u0 u1)), .second, .val (.long (own_min u2 u3)), .second, .val (.long (own_max u2 u3)), .second, .val (.ref b7), .unset, .unset, .unset, .unset, .unset, .unset, .unset, .unset] [(.ref b12)])) (fun t_ k_ => st17.trans k_) ?_
      refine own_st (B := T17.setTop (mkF m 74 #[.val (.long u0), .second, .val (.long u1), .second, .val (.long u2), .second, .val (.long u3), .second, .val (.long (own_min u0 u1)), .second, .val (.long (own_max u0 u1)), .second, .val (.long (own_min u2 u3)), .second, .val (.long (own_max u2 u3)), .second, .val (.ref b7), .val (.ref b12), .unset, .unset, .unset, .unset, .unset, .unset, .unset] [])) (fun t_ k_ => XS.astore X17.here hx rfl (hb hby at_72) rfl rfl (l' := #[.val (.long u0), .second, .val (.long u1), .second, .val (.long u2), .second, .val (.long u3), .second, .val (.long (own_min u0 u1)), .second, .val (.long (own_max u0 u1)), .second, .val (.long (own_min u2 u3)), .second, .val (.long (own_max u2 u3)), .second, .val (.ref b7), .val (.ref b12), .unset, .unset, .unset, .unset, .unset, .unset, .unset]) rfl k_) ?_
      refine own_st (B := T17.setTop (mkF m 76 #[.val (.long u0), .second, .val (.long u1), .second, .val (.long u2), .second, .val (.long u3), .second, .val (.long (own_min u0 u1)), .second, .val (.long (own_max u0 u1)), .second, .val (.long (own_min u2 u3)), .second, .val (.long (own_max u2 u3)), .second, .val (.ref b7), .val (.ref b12), .unset, .unset, .unset, .unset, .unset, .unset, .unset] [(.long (own_min u2 u3))])) (fun t_ k_ => XS.lload X17.here hx rfl (hb hby at_74) rfl k_) ?_
      refine own_st (B := T17.setTop (mkF m 78 #[.val (.long u0), .second, .val (.long u1), .second, .val (.long u2), .second, .val (.long u3), .second, .val (.long (own_min u0 u1)), .second, .val (.long (own_max u0 u1)), .second, .val (.long (own_min u2 u3)), .second, .val (.long (own_max u2 u3)), .second, .val (.ref b7), .val (.ref b12), .val (.long (own_min u2 u3)), .second, .unset, .unset, .unset, .unset, .unset] [])) (fun t_ k_ => XS.lstore X17.here hx rfl (hb hby at_76) rfl (l' := #[.val (.long u0), .second, .val (.long u1), .second, .val (.long u2), .second, .val (.long u3), .second, .val (.long (own_min u0 u1)), .second, .val (.long (own_max u0 u1)), .second, .val (.long (own_min u2 u3)), .second, .val (.long (own_max u2 u3)), .second, .val (.ref b7), .val (.ref b12), .val (.long (own_min u2 u3)), .second, .unset, .unset, .unset, .unset, .unset]) rfl k_) ?_
      refine own_st (B := T17.setTop (mkF m 80 #[.val (.long u0), .second, .val (.long u1), .second, .val (.long u2), .second, .val (.long u3), .second, .val (.long (own_min u0 u1)), .second, .val (.long (own_max u0 u1)), .second, .val (.long (own_min u2 u3)), .second, .val (.long (own_max u2 u3)), .second, .val (.ref b7), .val (.ref b12), .val (.long (own_min u2 u3)), .second, .unset, .unset, .unset, .unset, .unset] [(.long (own_max u2 u3))])) (fun t_ k_ => XS.lload X17.here hx rfl (hb hby at_78) rfl k_) ?_
      refine own_st (B := T17.setTop (mkF m 81 #[.val (.long u0), .second, .val (.long u1), .second, .val (.long u2), .second, .val (.long u3), .second, .val (.long (own_min u0 u1)), .second, .val (.long (own_max u0 u1)), .second, .val (.long (own_min u2 u3)), .second, .val (.long (own_max u2 u3)), .second, .val (.ref b7), .val (.ref b12), .val (.long (own_min u2 u3)), .second, .unset, .unset, .unset, .unset, .unset] [(.long (1 : Int64)), (.long (own_max u2 u3))])) (fun t_ k_ => XS.lconst X17.here hx rfl (hb hby at_80) k_) ?_
      refine own_st (B := T17.setTop (mkF m 82 #[.val (.long u0), .second, .val (.long u1), .second, .val (.long u2), .second, .val (.long u3), .second, .val (.long (own_min u0 u1)), .second, .val (.long (own_max u0 u1)), .second, .val (.long (own_min u2 u3)), .second, .val (.long (own_max u2 u3)), .second, .val (.ref b7), .val (.ref b12), .val (.long (own_min u2 u3)), .second, .unset, .unset, .unset, .unset, .unset] [(.long ((own_max u2 u3) - (1 : Int64)))])) (fun t_ k_ => XS.lsub X17.here hx rfl (hb hby at_81) rfl k_) ?_
      refine own_st (B := T17.setTop (mkF m 84 #[.val (.long u0), .second, .val (.long u1), .second, .val (.long u2), .second, .val (.long u3), .second, .val (.long (own_min u0 u1)), .second, .val (.long (own_max u0 u1)), .second, .val (.long (own_min u2 u3)), .second, .val (.long (own_max u2 u3)), .second, .val (.ref b7), .val (.ref b12), .val (.long (own_min u2 u3)), .second, .val (.long ((own_max u2 u3) - (1 : Int64))), .second, .unset, .unset, .unset] [])) (fun t_ k_ => XS.lstore X17.here hx rfl (hb hby at_82) rfl (l' := #[.val (.long u0), .second, .val (.long u1), .second, .val (.long u2), .second, .val (.long u3), .second, .val (.long (own_min u0 u1)), .second, .val (.long (own_max u0 u1)), .second, .val (.long (own_min u2 u3)), .second, .val (.long (own_max u2 u3)), .second, .val (.ref b7), .val (.ref b12), .val (.long (own_min u2 u3)), .second, .val (.long ((own_max u2 u3) - (1 : Int64))), .second, .unset, .unset, .unset]) rfl k_) ?_
      refine own_st (B := T17.setTop (mkF m 86 #[.val (.long u0), .second, .val (.long u1), .second, .val (.long u2), .second, .val (.long u3), .second, .val (.long (own_min u0 u1)), .second, .val (.long (own_max u0 u1)), .second, .val (.long (own_min u2 u3)), .second, .val (.long (own_max u2 u3)), .second, .val (.ref b7), .val (.ref b12), .val (.long (own_min u2 u3)), .second, .val (.long ((own_max u2 u3) - (1 : Int64))), .second, .unset, .unset, .unset] [(.long (own_min u0 u1))])) (fun t_ k_ => XS.lload X17.here hx rfl (hb hby at_84) rfl k_) ?_
      refine own_st (B := T17.setTop (mkF m 88 #[.val (.long u0), .second, .val (.long u1), .second, .val (.long u2), .second, .val (.long u3), .second, .val (.long (own_min u0 u1)), .second, .val (.long (own_max u0 u1)), .second, .val (.long (own_min u2 u3)), .second, .val (.long (own_max u2 u3)), .second, .val (.ref b7), .val (.ref b12), .val (.long (own_min u2 u3)), .second, .val (.long ((own_max u2 u3) - (1 : Int64))), .second, .unset, .unset, .unset] [(.long (own_max u0 u1)), (.long (own_min u0 u1))])) (fun t_ k_ => XS.lload X17.here hx rfl (hb hby at_86) rfl k_) ?_
      refine own_st (B := T17.setTop (mkF m 90 #[.val (.long u0), .second, .val (.long u1), .second, .val (.long u2), .second, .val (.long u3), .second, .val (.long (own_min u0 u1)), .second, .val (.long (own_max u0 u1)), .second, .val (.long (own_min u2 u3)), .second, .val (.long (own_max u2 u3)), .second, .val (.ref b7), .val (.ref b12), .val (.long (own_min u2 u3)), .second, .val (.long ((own_max u2 u3) - (1 : Int64))), .second, .unset, .unset, .unset] [(.long (own_min u2 u3)), (.long (own_max u0 u1)), (.long (own_min u0 u1))])) (fun t_ k_ => XS.lload X17.here hx rfl (hb hby at_88) rfl k_) ?_
      obtain ⟨_, _, ⟨T19, L19, k19, n19⟩, -, X19, ⟨Lc19, hQ19, l19, y19, z19⟩, st19⟩ := Jvm.LawKit.callS X17 hx (y := (⟨"com/example/briareus/briareus/model/IntervalEnclosesPinLaw", "inside", "(JJJ)Z"⟩ : MethodName)) hown (mvT hZ (hw _ (List.mem_of_getElem? (i := 25) rfl))) (mvT hZ (hw _ (List.mem_of_getElem? (i := 26) rfl))) (mvT hZ (hw _ (List.mem_of_getElem? (i := 27) rfl))) (mvT hZ (hw _ (List.mem_of_getElem? (i := 28) rfl))) (by decide) (backOf (W := 0) (rm6 l Z a0 hw [] (own_min u0 u1) (own_max u0 u1) (own_min u2 u3) T17.heap n0 Z18 ) hZ (hw _ (List.mem_of_getElem? (i := 28) rfl)) (hw _ (List.mem_of_getElem? (i := 27) rfl)) (by decide) (by decide)) (g := (mkF m 90 #[.val (.long u0), .second, .val (.long u1), .second, .val (.long u2), .second, .val (.long u3), .second, .val (.long (own_min u0 u1)), .second, .val (.long (own_max u0 u1)), .second, .val (.long (own_min u2 u3)), .second, .val (.long (own_max u2 u3)), .second, .val (.ref b7), .val (.ref b12), .val (.long (own_min u2 u3)), .second, .val (.long ((own_max u2 u3) - (1 : Int64))), .second, .unset, .unset, .unset] [(.long (own_min u2 u3)), (.long (own_max u0 u1)), (.long (own_min u0 u1))])) rfl (by rw [hml]; rfl) (argsL := [(.long (own_min u0 u1)), (.long (own_max u0 u1)), (.long (own_min u2 u3))]) (rest := []) (lenOf own_pd3 rfl) rfl (by show 2 * 0 + _ ≤ _; exact Nat.le_of_eq rfl) (hb hby at_90) (fun _ _ => ⟨rfl, rfl, (by decide : 2 + 0 ≤ _), (by decide : 4 + 0 ≤ _)⟩)
      dsimp only [Pt.U, Pt.locs, Pt.cells, Pt.slots] at X19 l19 y19 z19 st19 hQ19
      subst l19 y19 z19
      obtain ⟨rfl, N19q, eh19⟩ := hQ19
      have N19 := Fr.app N17 N19q
      refine own_st (B := T19.setTop (mkF m 93 #[.val (.long u0), .second, .val (.long u1), .second, .val (.long u2), .second, .val (.long u3), .second, .val (.long (own_min u0 u1)), .second, .val (.long (own_max u0 u1)), .second, .val (.long (own_min u2 u3)), .second, .val (.long (own_max u2 u3)), .second, .val (.ref b7), .val (.ref b12), .val (.long (own_min u2 u3)), .second, .val (.long ((own_max u2 u3) - (1 : Int64))), .second, .unset, .unset, .unset] [(.int (own_b (own_ins (own_min u0 u1) (own_max u0 u1) (own_min u2 u3))))])) st19 ?_
      by_cases hc20 : (own_ins (own_min u0 u1) (own_max u0 u1) (own_min u2 u3)) = false
      · refine own_st (B := T19.setTop (mkF m 112 #[.val (.long u0), .second, .val (.long u1), .second, .val (.long u2), .second, .val (.long u3), .second, .val (.long (own_min u0 u1)), .second, .val (.long (own_max u0 u1)), .second, .val (.long (own_min u2 u3)), .second, .val (.long (own_max u2 u3)), .second, .val (.ref b7), .val (.ref b12), .val (.long (own_min u2 u3)), .second, .val (.long ((own_max u2 u3) - (1 : Int64))), .second, .unset, .unset, .unset] [])) (fun t_ k_ => XS.ifYes X19.here hx rfl (pc0 := 93) (pc' := 112) rfl (hb hby at_93) rfl ((if0 _ _).trans (teq (own_b0.mpr hc20)).1) (by decide) (by decide) k_) ?_
        refine own_st (B := T19.setTop (mkF m 113 #[.val (.long u0), .second, .val (.long u1), .second, .val (.long u2), .second, .val (.long u3), .second, .val (.long (own_min u0 u1)), .second, .val (.long (own_max u0 u1)), .second, .val (.long (own_min u2 u3)), .second, .val (.long (own_max u2 u3)), .second, .val (.ref b7), .val (.ref b12), .val (.long (own_min u2 u3)), .second, .val (.long ((own_max u2 u3) - (1 : Int64))), .second, .unset, .unset, .unset] [(.int (0 : Int32))])) (fun t_ k_ => XS.iconst X19.here hx rfl (hb hby at_112) k_) ?_
        refine own_st (B := T19.setTop (mkF m 115 #[.val (.long u0), .second, .val (.long u1), .second, .val (.long u2), .second, .val (.long u3), .second, .val (.long (own_min u0 u1)), .second, .val (.long (own_max u0 u1)), .second, .val (.long (own_min u2 u3)), .second, .val (.long (own_max u2 u3)), .second, .val (.ref b7), .val (.ref b12), .val (.long (own_min u2 u3)), .second, .val (.long ((own_max u2 u3) - (1 : Int64))), .second, .val (.int (0 : Int32)), .unset, .unset] [])) (fun t_ k_ => XS.istore X19.here hx rfl (hb hby at_113) rfl (l' := #[.val (.long u0), .second, .val (.long u1), .second, .val (.long u2), .second, .val (.long u3), .second, .val (.long (own_min u0 u1)), .second, .val (.long (own_max u0 u1)), .second, .val (.long (own_min u2 u3)), .second, .val (.long (own_max u2 u3)), .second, .val (.ref b7), .val (.ref b12), .val (.long (own_min u2 u3)), .second, .val (.long ((own_max u2 u3) - (1 : Int64))), .second, .val (.int (0 : Int32)), .unset, .unset]) rfl k_) ?_
        refine own_st (B := T19.setTop (mkF m 117 #[.val (.long u0), .second, .val (.long u1), .second, .val (.long u2), .second, .val (.long u3), .second, .val (.long (own_min u0 u1)), .second, .val (.long (own_max u0 u1)), .second, .val (.long (own_min u2 u3)), .second, .val (.long (own_max u2 u3)), .second, .val (.ref b7), .val (.ref b12), .val (.long (own_min u2 u3)), .second, .val (.long ((own_max u2 u3) - (1 : Int64))), .second, .val (.int (0 : Int32)), .unset, .unset] [(.ref b7)])) (fun t_ k_ => XS.aload X19.here hx rfl (hb hby at_115) rfl rfl k_) ?_
        refine own_st (B := T19.setTop (mkF m 119 #[.val (.long u0), .second, .val (.long u1), .second, .val (.long u2), .second, .val (.long u3), .second, .val (.long (own_min u0 u1)), .second, .val (.long (own_max u0 u1)), .second, .val (.long (own_min u2 u3)), .second, .val (.long (own_max u2 u3)), .second, .val (.ref b7), .val (.ref b12), .val (.long (own_min u2 u3)), .second, .val (.long ((own_max u2 u3) - (1 : Int64))), .second, .val (.int (0 : Int32)), .unset, .unset] [(.ref b12), (.ref b7)])) (fun t_ k_ => XS.aload X19.here hx rfl (hb hby at_117) rfl rfl k_) ?_
        have u22 := Fc10_0.ext E12
        have u23 := u22.keep K17 (ninS ne14 nin0)
        have u24 := Fc10_1.ext E12
        have u25 := u24.keep K17 (ninS ne14 nin0)
        have u26 := u13.ext E12
        have u27 := u26.keep K17
        obtain ⟨cq21, kq21, q21a, q21b, q21c⟩ := isOf hZ eh19 u27
        obtain ⟨_, _, ⟨T21, L21, k21, n21⟩, -, X21, ⟨Lc21, hQ21, l21, y21, z21⟩, st21⟩ := X19.virtualBack hx (y := (⟨"com/example/briareus/briareus/model/Interval", "encloses", "(Lcom/example/briareus/briareus/model/Interval;)Z"⟩ : MethodName)) (z := (⟨"com/example/briareus/briareus/model/Interval", "encloses", "(Lcom/example/briareus/briareus/model/Interval;)Z"⟩ : MethodName)) hown (mvT hZ (hw _ (List.mem_of_getElem? (i := 29) rfl))) (mvT hZ (hw _ (List.mem_of_getElem? (i := 30) rfl))) (notFace_of_selects (args := #[]) (mvT hZ (hw _ (List.mem_of_getElem? (i := 32) rfl)))) (mvT hZ (hw _ (List.mem_of_getElem? (i := 32) rfl))) (mvT hZ (hw _ (List.mem_of_getElem? (i := 31) rfl))) (by decide) (backOf (W := 0) (rm7 l Z a0 hw [] b7 b12 (own_min u0 u1) (own_max u0 u1) (own_min u2 u3) (own_max u2 u3) T17.heap n0 Z18 u23 u25 Fc17_0 Fc17_1) hZ (hw _ (List.mem_of_getElem? (i := 33) rfl)) (hw _ (List.mem_of_getElem? (i := 9) rfl)) (by decide) (by decide)) q21a q21c (g := (mkF m 119 #[.val (.long u0), .second, .val (.long u1), .second, .val (.long u2), .second, .val (.long u3), .second, .val (.long (own_min u0 u1)), .second, .val (.long (own_max u0 u1)), .second, .val (.long (own_min u2 u3)), .second, .val (.long (own_max u2 u3)), .second, .val (.ref b7), .val (.ref b12), .val (.long (own_min u2 u3)), .second, .val (.long ((own_max u2 u3) - (1 : Int64))), .second, .val (.int (0 : Int32)), .unset, .unset] [(.ref b12), (.ref b7)])) rfl (by rw [hml]; rfl) (Steps.refl _) (argsL := [(.ref b12)]) (rest := []) (lenOf own_pd4 rfl) rfl (by show 2 * 0 + _ ≤ _; exact Nat.le_of_eq rfl) (hb hby at_119) (fun _ _ => ⟨rfl, eh19, (by decide : 2 + 0 ≤ _), (by decide : 4 + 0 ≤ _)⟩)
        dsimp only [Pt.U, Pt.locs, Pt.cells, Pt.slots] at X21 l21 y21 z21 st21 hQ21
        subst l21 y21 z21
        obtain ⟨rfl, N21q, eh21⟩ := hQ21
        have N21 := Fr.app N19 N21q
        refine own_st (B := T21.setTop (mkF m 122 #[.val (.long u0), .second, .val (.long u1), .second, .val (.long u2), .second, .val (.long u3), .second, .val (.long (own_min u0 u1)), .second, .val (.long (own_max u0 u1)), .second, .val (.long (own_min u2 u3)), .second, .val (.long (own_max u2 u3)), .second, .val (.ref b7), .val (.ref b12), .val (.long (own_min u2 u3)), .second, .val (.long ((own_max u2 u3) - (1 : Int64))), .second, .val (.int (0 : Int32)), .unset, .unset] [(.int (own_b (own_enc (own_min u0 u1) (own_max u0 u1) (own_min u2 u3) (own_max u2 u3))))])) (fun t_ k_ => st21.trans k_) ?_
        refine own_st (B := T21.setTop (mkF m 124 #[.val (.long u0), .second, .val (.long u1), .second, .val (.long u2), .second, .val (.long u3), .second, .val (.long (own_min u0 u1)), .second, .val (.long (own_max u0 u1)), .second, .val (.long (own_min u2 u3)), .second, .val (.long (own_max u2 u3)), .second, .val (.ref b7), .val (.ref b12), .val (.long (own_min u2 u3)), .second, .val (.long ((own_max u2 u3) - (1 : Int64))), .second, .val (.int (0 : Int32)), .val (.int (own_b (own_enc (own_min u0 u1) (own_max u0 u1) (own_min u2 u3) (own_max u2 u3)))), .unset] [])) (fun t_ k_ => XS.istore X21.here hx rfl (hb hby at_122) rfl (l' := #[.val (.long u0), .second, .val (.long u1), .second, .val (.long u2), .second, .val (.long u3), .second, .val (.long (own_min u0 u1)), .second, .val (.long (own_max u0 u1)), .second, .val (.long (own_min u2 u3)), .second, .val (.long (own_max u2 u3)), .second, .val (.ref b7), .val (.ref b12), .val (.long (own_min u2 u3)), .second, .val (.long ((own_max u2 u3) - (1 : Int64))), .second, .val (.int (0 : Int32)), .val (.int (own_b (own_enc (own_min u0 u1) (own_max u0 u1) (own_min u2 u3) (own_max u2 u3)))), .unset]) rfl k_) ?_
        refine own_st (B := T21.setTop (mkF m 126 #[.val (.long u0), .second, .val (.long u1), .second, .val (.long u2), .second, .val (.long u3), .second, .val (.long (own_min u0 u1)), .second, .val (.long (own_max u0 u1)), .second, .val (.long (own_min u2 u3)), .second, .val (.long (own_max u2 u3)), .second, .val (.ref b7), .val (.ref b12), .val (.long (own_min u2 u3)), .second, .val (.long ((own_max u2 u3) - (1 : Int64))), .second, .val (.int (0 : Int32)), .val (.int (own_b (own_enc (own_min u0 u1) (own_max u0 u1) (own_min u2 u3) (own_max u2 u3)))), .unset] [(.ref b7)])) (fun t_ k_ => XS.aload X21.here hx rfl (hb hby at_124) rfl rfl k_) ?_
        refine own_st (B := T21.setTop (mkF m 128 #[.val (.long u0), .second, .val (.long u1), .second, .val (.long u2), .second, .val (.long u3), .second, .val (.long (own_min u0 u1)), .second, .val (.long (own_max u0 u1)), .second, .val (.long (own_min u2 u3)), .second, .val (.long (own_max u2 u3)), .second, .val (.ref b7), .val (.ref b12), .val (.long (own_min u2 u3)), .second, .val (.long ((own_max u2 u3) - (1 : Int64))), .second, .val (.int (0 : Int32)), .val (.int (own_b (own_enc (own_min u0 u1) (own_max u0 u1) (own_min u2 u3) (own_max u2 u3)))), .unset] [(.ref b7), (.ref b7)])) (fun t_ k_ => XS.aload X21.here hx rfl (hb hby at_126) rfl rfl k_) ?_
        obtain ⟨cq28, kq28, q28a, q28b, q28c⟩ := isOf hZ eh21 u27
        obtain ⟨_, _, ⟨T28, L28, k28, n28⟩, -, X28, ⟨Lc28, hQ28, l28, y28, z28⟩, st28⟩ := X21.virtualBack hx (y := (⟨"com/example/briareus/briareus/model/Interval", "encloses", "(Lcom/example/briareus/briareus/model/Interval;)Z"⟩ : MethodName)) (z := (⟨"com/example/briareus/briareus/model/Interval", "encloses", "(Lcom/example/briareus/briareus/model/Interval;)Z"⟩ : MethodName)) hown (mvT hZ (hw _ (List.mem_of_getElem? (i := 29) rfl))) (mvT hZ (hw _ (List.mem_of_getElem? (i := 30) rfl))) (notFace_of_selects (args := #[]) (mvT hZ (hw _ (List.mem_of_getElem? (i := 32) rfl)))) (mvT hZ (hw _ (List.mem_of_getElem? (i := 32) rfl))) (mvT hZ (hw _ (List.mem_of_getElem? (i := 31) rfl))) (by decide) (backOf (W := 0) (rm7 l Z a0 hw [] b7 b7 (own_min u0 u1) (own_max u0 u1) (own_min u0 u1) (own_max u0 u1) T17.heap n0 Z18 u23 u25 u23 u25) hZ (hw _ (List.mem_of_getElem? (i := 33) rfl)) (hw _ (List.mem_of_getElem? (i := 9) rfl)) (by decide) (by decide)) q28a q28c (g := (mkF m 128 #[.val (.long u0), .second, .val (.long u1), .second, .val (.long u2), .second, .val (.long u3), .second, .val (.long (own_min u0 u1)), .second, .val (.long (own_max u0 u1)), .second, .val (.long (own_min u2 u3)), .second, .val (.long (own_max u2 u3)), .second, .val (.ref b7), .val (.ref b12), .val (.long (own_min u2 u3)), .second, .val (.long ((own_max u2 u3) - (1 : Int64))), .second, .val (.int (0 : Int32)), .val (.int (own_b (own_enc (own_min u0 u1) (own_max u0 u1) (own_min u2 u3) (own_max u2 u3)))), .unset] [(.ref b7), (.ref b7)])) rfl (by rw [hml]; rfl) (Steps.refl _) (argsL := [(.ref b7)]) (rest := []) (lenOf own_pd4 rfl) rfl (by show 2 * 0 + _ ≤ _; exact Nat.le_of_eq rfl) (hb hby at_128) (fun _ _ => ⟨rfl, eh21, (by decide : 2 + 0 ≤ _), (by decide : 4 + 0 ≤ _)⟩)
        dsimp only [Pt.U, Pt.locs, Pt.cells, Pt.slots] at X28 l28 y28 z28 st28 hQ28
        subst l28 y28 z28
        obtain ⟨rfl, N28q, eh28⟩ := hQ28
        have N28 := Fr.app N21 N28q
        refine own_st (B := T28.setTop (mkF m 131 #[.val (.long u0), .second, .val (.long u1), .second, .val (.long u2), .second, .val (.long u3), .second, .val (.long (own_min u0 u1)), .second, .val (.long (own_max u0 u1)), .second, .val (.long (own_min u2 u3)), .second, .val (.long (own_max u2 u3)), .second, .val (.ref b7), .val (.ref b12), .val (.long (own_min u2 u3)), .second, .val (.long ((own_max u2 u3) - (1 : Int64))), .second, .val (.int (0 : Int32)), .val (.int (own_b (own_enc (own_min u0 u1) (own_max u0 u1) (own_min u2 u3) (own_max u2 u3)))), .unset] [(.int (own_b (own_enc (own_min u0 u1) (own_max u0 u1) (own_min u0 u1) (own_max u0 u1))))])) (fun t_ k_ => st28.trans k_) ?_
        refine own_st (B := T28.setTop (mkF m 133 #[.val (.long u0), .second, .val (.long u1), .second, .val (.long u2), .second, .val (.long u3), .second, .val (.long (own_min u0 u1)), .second, .val (.long (own_max u0 u1)), .second, .val (.long (own_min u2 u3)), .second, .val (.long (own_max u2 u3)), .second, .val (.ref b7), .val (.ref b12), .val (.long (own_min u2 u3)), .second, .val (.long ((own_max u2 u3) - (1 : Int64))), .second, .val (.int (0 : Int32)), .val (.int (own_b (own_enc (own_min u0 u1) (own_max u0 u1) (own_min u2 u3) (own_max u2 u3)))), .val (.int (own_b (own_enc (own_min u0 u1) (own_max u0 u1) (own_min u0 u1) (own_max u0 u1))))] [])) (fun t_ k_ => XS.istore X28.here hx rfl (hb hby at_131) rfl (l' := #[.val (.long u0), .second, .val (.long u1), .second, .val (.long u2), .second, .val (.long u3), .second, .val (.long (own_min u0 u1)), .second, .val (.long (own_max u0 u1)), .second, .val (.long (own_min u2 u3)), .second, .val (.long (own_max u2 u3)), .second, .val (.ref b7), .val (.ref b12), .val (.long (own_min u2 u3)), .second, .val (.long ((own_max u2 u3) - (1 : Int64))), .second, .val (.int (0 : Int32)), .val (.int (own_b (own_enc (own_min u0 u1) (own_max u0 u1) (own_min u2 u3) (own_max u2 u3)))), .val (.int (own_b (own_enc (own_min u0 u1) (own_max u0 u1) (own_min u0 u1) (own_max u0 u1))))]) rfl k_) ?_
        refine own_st (B := T28.setTop (mkF m 135 #[.val (.long u0), .second, .val (.long u1), .second, .val (.long u2), .second, .val (.long u3), .second, .val (.long (own_min u0 u1)), .second, .val (.long (own_max u0 u1)), .second, .val (.long (own_min u2 u3)), .second, .val (.long (own_max u2 u3)), .second, .val (.ref b7), .val (.ref b12), .val (.long (own_min u2 u3)), .second, .val (.long ((own_max u2 u3) - (1 : Int64))), .second, .val (.int (0 : Int32)), .val (.int (own_b (own_enc (own_min u0 u1) (own_max u0 u1) (own_min u2 u3) (own_max u2 u3)))), .val (.int (own_b (own_enc (own_min u0 u1) (own_max u0 u1) (own_min u0 u1) (own_max u0 u1))))] [(.int (own_b (own_enc (own_min u0 u1) (own_max u0 u1) (own_min u2 u3) (own_max u2 u3))))])) (fun t_ k_ => XS.iload X28.here hx rfl (hb hby at_133) rfl k_) ?_
        refine own_st (B := T28.setTop (mkF m 137 #[.val (.long u0), .second, .val (.long u1), .second, .val (.long u2), .second, .val (.long u3), .second, .val (.long (own_min u0 u1)), .second, .val (.long (own_max u0 u1)), .second, .val (.long (own_min u2 u3)), .second, .val (.long (own_max u2 u3)), .second, .val (.ref b7), .val (.ref b12), .val (.long (own_min u2 u3)), .second, .val (.long ((own_max u2 u3) - (1 : Int64))), .second, .val (.int (0 : Int32)), .val (.int (own_b (own_enc (own_min u0 u1) (own_max u0 u1) (own_min u2 u3) (own_max u2 u3)))), .val (.int (own_b (own_enc (own_min u0 u1) (own_max u0 u1) (own_min u0 u1) (own_max u0 u1))))] [(.int (0 : Int32)), (.int (own_b (own_enc (own_min u0 u1) (own_max u0 u1) (own_min u2 u3) (own_max u2 u3))))])) (fun t_ k_ => XS.iload X28.here hx rfl (hb hby at_135) rfl k_) ?_
        have hc29 : (own_b (own_enc (own_min u0 u1) (own_max u0 u1) (own_min u2 u3) (own_max u2 u3))) = (0 : Int32) := (own_key _ _ _ _ (own_mm hc2)).trans (by simp [hc20])
        have hd29 := own_eq32 hc29
        rw [show (0 : Int32).toInt = 0 from rfl] at hd29
        refine own_st (B := T28.setTop (mkF m 140 #[.val (.long u0), .second, .val (.long u1), .second, .val (.long u2), .second, .val (.long u3), .second, .val (.long (own_min u0 u1)), .second, .val (.long (own_max u0 u1)), .second, .val (.long (own_min u2 u3)), .second, .val (.long (own_max u2 u3)), .second, .val (.ref b7), .val (.ref b12), .val (.long (own_min u2 u3)), .second, .val (.long ((own_max u2 u3) - (1 : Int64))), .second, .val (.int (0 : Int32)), .val (.int (own_b (own_enc (own_min u0 u1) (own_max u0 u1) (own_min u2 u3) (own_max u2 u3)))), .val (.int (own_b (own_enc (own_min u0 u1) (own_max u0 u1) (own_min u0 u1) (own_max u0 u1))))] [])) (fun t_ k_ => XS.icmpNo X28.here hx rfl (hb hby at_137) rfl (teq hc29).2 k_) ?_
        refine own_st (B := T28.setTop (mkF m 142 #[.val (.long u0), .second, .val (.long u1), .second, .val (.long u2), .second, .val (.long u3), .second, .val (.long (own_min u0 u1)), .second, .val (.long (own_max u0 u1)), .second, .val (.long (own_min u2 u3)), .second, .val (.long (own_max u2 u3)), .second, .val (.ref b7), .val (.ref b12), .val (.long (own_min u2 u3)), .second, .val (.long ((own_max u2 u3) - (1 : Int64))), .second, .val (.int (0 : Int32)), .val (.int (own_b (own_enc (own_min u0 u1) (own_max u0 u1) (own_min u2 u3) (own_max u2 u3)))), .val (.int (own_b (own_enc (own_min u0 u1) (own_max u0 u1) (own_min u0 u1) (own_max u0 u1))))] [(.int (own_b (own_enc (own_min u0 u1) (own_max u0 u1) (own_min u0 u1) (own_max u0 u1))))])) (fun t_ k_ => XS.iload X28.here hx rfl (hb hby at_140) rfl k_) ?_
        have hc30 : ¬ ((own_enc (own_min u0 u1) (own_max u0 u1) (own_min u0 u1) (own_max u0 u1)) = false) := (by rw [own_refl]; decide)
        refine own_st (B := T28.setTop (mkF m 145 #[.val (.long u0), .second, .val (.long u1), .second, .val (.long u2), .second, .val (.long u3), .second, .val (.long (own_min u0 u1)), .second, .val (.long (own_max u0 u1)), .second, .val (.long (own_min u2 u3)), .second, .val (.long (own_max u2 u3)), .second, .val (.ref b7), .val (.ref b12), .val (.long (own_min u2 u3)), .second, .val (.long ((own_max u2 u3) - (1 : Int64))), .second, .val (.int (0 : Int32)), .val (.int (own_b (own_enc (own_min u0 u1) (own_max u0 u1) (own_min u2 u3) (own_max u2 u3)))), .val (.int (own_b (own_enc (own_min u0 u1) (own_max u0 u1) (own_min u0 u1) (own_max u0 u1))))] [])) (fun t_ k_ => XS.ifNo X28.here hx rfl (hb hby at_142) rfl ((if0 _ _).trans (feq (fun q => hc30 (own_b0.mp q))).1) k_) ?_
        refine own_st (B := T28.setTop (mkF m 146 #[.val (.long u0), .second, .val (.long u1), .second, .val (.long u2), .second, .val (.long u3), .second, .val (.long (own_min u0 u1)), .second, .val (.long (own_max u0 u1)), .second, .val (.long (own_min u2 u3)), .second, .val (.long (own_max u2 u3)), .second, .val (.ref b7), .val (.ref b12), .val (.long (own_min u2 u3)), .second, .val (.long ((own_max u2 u3) - (1 : Int64))), .second, .val (.int (0 : Int32)), .val (.int (own_b (own_enc (own_min u0 u1) (own_max u0 u1) (own_min u2 u3) (own_max u2 u3)))), .val (.int (own_b (own_enc (own_min u0 u1) (own_max u0 u1) (own_min u0 u1) (own_max u0 u1))))] [(.int (1 : Int32))])) (fun t_ k_ => XS.iconst X28.here hx rfl (hb hby at_145) k_) ?_
        refine own_st (B := T28.setTop (mkF m 150 #[.val (.long u0), .second, .val (.long u1), .second, .val (.long u2), .second, .val (.long u3), .second, .val (.long (own_min u0 u1)), .second, .val (.long (own_max u0 u1)), .second, .val (.long (own_min u2 u3)), .second, .val (.long (own_max u2 u3)), .second, .val (.ref b7), .val (.ref b12), .val (.long (own_min u2 u3)), .second, .val (.long ((own_max u2 u3) - (1 : Int64))), .second, .val (.int (0 : Int32)), .val (.int (own_b (own_enc (own_min u0 u1) (own_max u0 u1) (own_min u2 u3) (own_max u2 u3)))), .val (.int (own_b (own_enc (own_min u0 u1) (own_max u0 u1) (own_min u0 u1) (own_max u0 u1))))] [(.int (1 : Int32))])) (fun t_ k_ => XS.goto X28.here hx rfl (pc0 := 146) (pc' := 150) rfl (hb hby at_146) (by decide) (by decide) k_) ?_
        refine own_retN X28 hx (t := .boolean) Bd.returns (by simp) hlk (hb hby at_150) (z' := (1 : Int32)) (by first | rfl | exact own_nb _ | exact own_nbb _) (by decide) (by decide) ?_
        show Q0 Z u0 u1 u2 u3 h0 n0 _ T28.heap _
        rw [eh28]
        exact ⟨rfl, N28⟩
      · refine own_st (B := T19.setTop (mkF m 96 #[.val (.long u0), .second, .val (.long u1), .second, .val (.long u2), .second, .val (.long u3), .second, .val (.long (own_min u0 u1)), .second, .val (.long (own_max u0 u1)), .second, .val (.long (own_min u2 u3)), .second, .val (.long (own_max u2 u3)), .second, .val (.ref b7), .val (.ref b12), .val (.long (own_min u2 u3)), .second, .val (.long ((own_max u2 u3) - (1 : Int64))), .second, .unset, .unset, .unset] [])) (fun t_ k_ => XS.ifNo X19.here hx rfl (hb hby at_93) rfl ((if0 _ _).trans (feq (fun q => hc20 (own_b0.mp q))).1) k_) ?_
        refine own_st (B := T19.setTop (mkF m 98 #[.val (.long u0), .second, .val (.long u1), .second, .val (.long u2), .second, .val (.long u3), .second, .val (.long (own_min u0 u1)), .second, .val (.long (own_max u0 u1)), .second, .val (.long (own_min u2 u3)), .second, .val (.long (own_max u2 u3)), .second, .val (.ref b7), .val (.ref b12), .val (.long (own_min u2 u3)), .second, .val (.long ((own_max u2 u3) - (1 : Int64))), .second, .unset, .unset, .unset] [(.long (own_min u0 u1))])) (fun t_ k_ => XS.lload X19.here hx rfl (hb hby at_96) rfl k_) ?_
        refine own_st (B := T19.setTop (mkF m 100 #[.val (.long u0), .second, .val (.long u1), .second, .val (.long u2), .second, .val (.long u3), .second, .val (.long (own_min u0 u1)), .second, .val (.long (own_max u0 u1)), .second, .val (.long (own_min u2 u3)), .second, .val (.long (own_max u2 u3)), .second, .val (.ref b7), .val (.ref b12), .val (.long (own_min u2 u3)), .second, .val (.long ((own_max u2 u3) - (1 : Int64))), .second, .unset, .unset, .unset] [(.long (own_max u0 u1)), (.long (own_min u0 u1))])) (fun t_ k_ => XS.lload X19.here hx rfl (hb hby at_98) rfl k_) ?_
        refine own_st (B := T19.setTop (mkF m 102 #[.val (.long u0), .second, .val (.long u1), .second, .val (.long u2), .second, .val (.long u3), .second, .val (.long (own_min u0 u1)), .second, .val (.long (own_max u0 u1)), .second, .val (.long (own_min u2 u3)), .second, .val (.long (own_max u2 u3)), .second, .val (.ref b7), .val (.ref b12), .val (.long (own_min u2 u3)), .second, .val (.long ((own_max u2 u3) - (1 : Int64))), .second, .unset, .unset, .unset] [(.long ((own_max u2 u3) - (1 : Int64))), (.long (own_max u0 u1)), (.long (own_min u0 u1))])) (fun t_ k_ => XS.lload X19.here hx rfl (hb hby at_100) rfl k_) ?_
        obtain ⟨_, _, ⟨T31, L31, k31, n31⟩, -, X31, ⟨Lc31, hQ31, l31, y31, z31⟩, st31⟩ := Jvm.LawKit.callS X19 hx (y := (⟨"com/example/briareus/briareus/model/IntervalEnclosesPinLaw", "inside", "(JJJ)Z"⟩ : MethodName)) hown (mvT hZ (hw _ (List.mem_of_getElem? (i := 25) rfl))) (mvT hZ (hw _ (List.mem_of_getElem? (i := 26) rfl))) (mvT hZ (hw _ (List.mem_of_getElem? (i := 27) rfl))) (mvT hZ (hw _ (List.mem_of_getElem? (i := 28) rfl))) (by decide) (backOf (W := 0) (rm6 l Z a0 hw [] (own_min u0 u1) (own_max u0 u1) ((own_max u2 u3) - (1 : Int64)) T17.heap n0 Z18 ) hZ (hw _ (List.mem_of_getElem? (i := 28) rfl)) (hw _ (List.mem_of_getElem? (i := 27) rfl)) (by decide) (by decide)) (g := (mkF m 102 #[.val (.long u0), .second, .val (.long u1), .second, .val (.long u2), .second, .val (.long u3), .second, .val (.long (own_min u0 u1)), .second, .val (.long (own_max u0 u1)), .second, .val (.long (own_min u2 u3)), .second, .val (.long (own_max u2 u3)), .second, .val (.ref b7), .val (.ref b12), .val (.long (own_min u2 u3)), .second, .val (.long ((own_max u2 u3) - (1 : Int64))), .second, .unset, .unset, .unset] [(.long ((own_max u2 u3) - (1 : Int64))), (.long (own_max u0 u1)), (.long (own_min u0 u1))])) rfl (by rw [hml]; rfl) (argsL := [(.long (own_min u0 u1)), (.long (own_max u0 u1)), (.long ((own_max u2 u3) - (1 : Int64)))]) (rest := []) (lenOf own_pd3 rfl) rfl (by show 2 * 0 + _ ≤ _; exact Nat.le_of_eq rfl) (hb hby at_102) (fun _ _ => ⟨rfl, eh19, (by decide : 2 + 0 ≤ _), (by decide : 4 + 0 ≤ _)⟩)
        dsimp only [Pt.U, Pt.locs, Pt.cells, Pt.slots] at X31 l31 y31 z31 st31 hQ31
        subst l31 y31 z31
        obtain ⟨rfl, N31q, eh31⟩ := hQ31
        have N31 := Fr.app N19 N31q
        refine own_st (B := T31.setTop (mkF m 105 #[.val (.long u0), .second, .val (.long u1), .second, .val (.long u2), .second, .val (.long u3), .second, .val (.long (own_min u0 u1)), .second, .val (.long (own_max u0 u1)), .second, .val (.long (own_min u2 u3)), .second, .val (.long (own_max u2 u3)), .second, .val (.ref b7), .val (.ref b12), .val (.long (own_min u2 u3)), .second, .val (.long ((own_max u2 u3) - (1 : Int64))), .second, .unset, .unset, .unset] [(.int (own_b (own_ins (own_min u0 u1) (own_max u0 u1) ((own_max u2 u3) - (1 : Int64)))))])) st31 ?_
        by_cases hc32 : (own_ins (own_min u0 u1) (own_max u0 u1) ((own_max u2 u3) - (1 : Int64))) = false
        · refine own_st (B := T31.setTop (mkF m 112 #[.val (.long u0), .second, .val (.long u1), .second, .val (.long u2), .second, .val (.long u3), .second, .val (.long (own_min u0 u1)), .second, .val (.long (own_max u0 u1)), .second, .val (.long (own_min u2 u3)), .second, .val (.long (own_max u2 u3)), .second, .val (.ref b7), .val (.ref b12), .val (.long (own_min u2 u3)), .second, .val (.long ((own_max u2 u3) - (1 : Int64))), .second, .unset, .unset, .unset] [])) (fun t_ k_ => XS.ifYes X31.here hx rfl (pc0 := 105) (pc' := 112) rfl (hb hby at_105) rfl ((if0 _ _).trans (teq (own_b0.mpr hc32)).1) (by decide) (by decide) k_) ?_
          refine own_st (B := T31.setTop (mkF m 113 #[.val (.long u0), .second, .val (.long u1), .second, .val (.long u2), .second, .val (.long u3), .second, .val (.long (own_min u0 u1)), .second, .val (.long (own_max u0 u1)), .second, .val (.long (own_min u2 u3)), .second, .val (.long (own_max u2 u3)), .second, .val (.ref b7), .val (.ref b12), .val (.long (own_min u2 u3)), .second, .val (.long ((own_max u2 u3) - (1 : Int64))), .second, .unset, .unset, .unset] [(.int (0 : Int32))])) (fun t_ k_ => XS.iconst X31.here hx rfl (hb hby at_112) k_) ?_
          refine own_st (B := T31.setTop (mkF m 115 #[.val (.long u0), .second, .val (.long u1), .second, .val (.long u2), .second, .val (.long u3), .second, .val (.long (own_min u0 u1)), .second, .val (.long (own_max u0 u1)), .second, .val (.long (own_min u2 u3)), .second, .val (.long (own_max u2 u3)), .second, .val (.ref b7), .val (.ref b12), .val (.long (own_min u2 u3)), .second, .val (.long ((own_max u2 u3) - (1 : Int64))), .second, .val (.int (0 : Int32)), .unset, .unset] [])) (fun t_ k_ => XS.istore X31.here hx rfl (hb hby at_113) rfl (l' := #[.val (.long u0), .second, .val (.long u1), .second, .val (.long u2), .second, .val (.long u3), .second, .val (.long (own_min u0 u1)), .second, .val (.long (own_max u0 u1)), .second, .val (.long (own_min u2 u3)), .second, .val (.long (own_max u2 u3)), .second, .val (.ref b7), .val (.ref b12), .val (.long (own_min u2 u3)), .second, .val (.long ((own_max u2 u3) - (1 : Int64))), .second, .val (.int (0 : Int32)), .unset, .unset]) rfl k_) ?_
          refine own_st (B := T31.setTop (mkF m 117 #[.val (.long u0), .second, .val (.long u1), .second, .val (.long u2), .second, .val (.long u3), .second, .val (.long (own_min u0 u1)), .second, .val (.long (own_max u0 u1)), .second, .val (.long (own_min u2 u3)), .second, .val (.long (own_max u2 u3)), .second, .val (.ref b7), .val (.ref b12), .val (.long (own_min u2 u3)), .second, .val (.long ((own_max u2 u3) - (1 : Int64))), .second, .val (.int (0 : Int32)), .unset, .unset] [(.ref b7)])) (fun t_ k_ => XS.aload X31.here hx rfl (hb hby at_115) rfl rfl k_) ?_
          refine own_st (B := T31.setTop (mkF m 119 #[.val (.long u0), .second, .val (.long u1), .second, .val (.long u2), .second, .val (.long u3), .second, .val (.long (own_min u0 u1)), .second, .val (.long (own_max u0 u1)), .second, .val (.long (own_min u2 u3)), .second, .val (.long (own_max u2 u3)), .second, .val (.ref b7), .val (.ref b12), .val (.long (own_min u2 u3)), .second, .val (.long ((own_max u2 u3) - (1 : Int64))), .second, .val (.int (0 : Int32)), .unset, .unset] [(.ref b12), (.ref b7)])) (fun t_ k_ => XS.aload X31.here hx rfl (hb hby at_117) rfl rfl k_) ?_
          have u34 := Fc10_0.ext E12
          have u35 := u34.keep K17 (ninS ne14 nin0)
          have u36 := Fc10_1.ext E12
          have u37 := u36.keep K17 (ninS ne14 nin0)
          have u38 := u13.ext E12
          have u39 := u38.keep K17
          obtain ⟨cq33, kq33, q33a, q33b, q33c⟩ := isOf hZ eh31 u39
          obtain ⟨_, _, ⟨T33, L33, k33, n33⟩, -, X33, ⟨Lc33, hQ33, l33, y33, z33⟩, st33⟩ := X31.virtualBack hx (y := (⟨"com/example/briareus/briareus/model/Interval", "encloses", "(Lcom/example/briareus/briareus/model/Interval;)Z"⟩ : MethodName)) (z := (⟨"com/example/briareus/briareus/model/Interval", "encloses", "(Lcom/example/briareus/briareus/model/Interval;)Z"⟩ : MethodName)) hown (mvT hZ (hw _ (List.mem_of_getElem? (i := 29) rfl))) (mvT hZ (hw _ (List.mem_of_getElem? (i := 30) rfl))) (notFace_of_selects (args := #[]) (mvT hZ (hw _ (List.mem_of_getElem? (i := 32) rfl)))) (mvT hZ (hw _ (List.mem_of_getElem? (i := 32) rfl))) (mvT hZ (hw _ (List.mem_of_getElem? (i := 31) rfl))) (by decide) (backOf (W := 0) (rm7 l Z a0 hw [] b7 b12 (own_min u0 u1) (own_max u0 u1) (own_min u2 u3) (own_max u2 u3) T17.heap n0 Z18 u35 u37 Fc17_0 Fc17_1) hZ (hw _ (List.mem_of_getElem? (i := 33) rfl)) (hw _ (List.mem_of_getElem? (i := 9) rfl)) (by decide) (by decide)) q33a q33c (g := (mkF m 119 #[.val (.long u0), .second, .val (.long u1), .second, .val (.long u2), .second, .val (.long u3), .second, .val (.long (own_min u0 u1)), .second, .val (.long (own_max u0 u1)), .second, .val (.long (own_min u2 u3)), .second, .val (.long (own_max u2 u3)), .second, .val (.ref b7), .val (.ref b12), .val (.long (own_min u2 u3)), .second, .val (.long ((own_max u2 u3) - (1 : Int64))), .second, .val (.int (0 : Int32)), .unset, .unset] [(.ref b12), (.ref b7)])) rfl (by rw [hml]; rfl) (Steps.refl _) (argsL := [(.ref b12)]) (rest := []) (lenOf own_pd4 rfl) rfl (by show 2 * 0 + _ ≤ _; exact Nat.le_of_eq rfl) (hb hby at_119) (fun _ _ => ⟨rfl, eh31, (by decide : 2 + 0 ≤ _), (by decide : 4 + 0 ≤ _)⟩)
          dsimp only [Pt.U, Pt.locs, Pt.cells, Pt.slots] at X33 l33 y33 z33 st33 hQ33
          subst l33 y33 z33
          obtain ⟨rfl, N33q, eh33⟩ := hQ33
          have N33 := Fr.app N31 N33q
          refine own_st (B := T33.setTop (mkF m 122 #[.val (.long u0), .second, .val (.long u1), .second, .val (.long u2), .second, .val (.long u3), .second, .val (.long (own_min u0 u1)), .second, .val (.long (own_max u0 u1)), .second, .val (.long (own_min u2 u3)), .second, .val (.long (own_max u2 u3)), .second, .val (.ref b7), .val (.ref b12), .val (.long (own_min u2 u3)), .second, .val (.long ((own_max u2 u3) - (1 : Int64))), .second, .val (.int (0 : Int32)), .unset, .unset] [(.int (own_b (own_enc (own_min u0 u1) (own_max u0 u1) (own_min u2 u3) (own_max u2 u3))))])) (fun t_ k_ => st33.trans k_) ?_
          refine own_st (B := T33.setTop (mkF m 124 #[.val (.long u0), .second, .val (.long u1), .second, .val (.long u2), .second, .val (.long u3), .second, .val (.long (own_min u0 u1)), .second, .val (.long (own_max u0 u1)), .second, .val (.long (own_min u2 u3)), .second, .val (.long (own_max u2 u3)), .second, .val (.ref b7), .val (.ref b12), .val (.long (own_min u2 u3)), .second, .val (.long ((own_max u2 u3) - (1 : Int64))), .second, .val (.int (0 : Int32)), .val (.int (own_b (own_enc (own_min u0 u1) (own_max u0 u1) (own_min u2 u3) (own_max u2 u3)))), .unset] [])) (fun t_ k_ => XS.istore X33.here hx rfl (hb hby at_122) rfl (l' := #[.val (.long u0), .second, .val (.long u1), .second, .val (.long u2), .second, .val (.long u3), .second, .val (.long (own_min u0 u1)), .second, .val (.long (own_max u0 u1)), .second, .val (.long (own_min u2 u3)), .second, .val (.long (own_max u2 u3)), .second, .val (.ref b7), .val (.ref b12), .val (.long (own_min u2 u3)), .second, .val (.long ((own_max u2 u3) - (1 : Int64))), .second, .val (.int (0 : Int32)), .val (.int (own_b (own_enc (own_min u0 u1) (own_max u0 u1) (own_min u2 u3) (own_max u2 u3)))), .unset]) rfl k_) ?_
          refine own_st (B := T33.setTop (mkF m 126 #[.val (.long u0), .second, .val (.long u1), .second, .val (.long u2), .second, .val (.long u3), .second, .val (.long (own_min u0 u1)), .second, .val (.long (own_max u0 u1)), .second, .val (.long (own_min u2 u3)), .second, .val (.long (own_max u2 u3)), .second, .val (.ref b7), .val (.ref b12), .val (.long (own_min u2 u3)), .second, .val (.long ((own_max u2 u3) - (1 : Int64))), .second, .val (.int (0 : Int32)), .val (.int (own_b (own_enc (own_min u0 u1) (own_max u0 u1) (own_min u2 u3) (own_max u2 u3)))), .unset] [(.ref b7)])) (fun t_ k_ => XS.aload X33.here hx rfl (hb hby at_124) rfl rfl k_) ?_
          refine own_st (B := T33.setTop (mkF m 128 #[.val (.long u0), .second, .val (.long u1), .second, .val (.long u2), .second, .val (.long u3), .second, .val (.long (own_min u0 u1)), .second, .val (.long (own_max u0 u1)), .second, .val (.long (own_min u2 u3)), .second, .val (.long (own_max u2 u3)), .second, .val (.ref b7), .val (.ref b12), .val (.long (own_min u2 u3)), .second, .val (.long ((own_max u2 u3) - (1 : Int64))), .second, .val (.int (0 : Int32)), .val (.int (own_b (own_enc (own_min u0 u1) (own_max u0 u1) (own_min u2 u3) (own_max u2 u3)))), .unset] [(.ref b7), (.ref b7)])) (fun t_ k_ => XS.aload X33.here hx rfl (hb hby at_126) rfl rfl k_) ?_
          obtain ⟨cq40, kq40, q40a, q40b, q40c⟩ := isOf hZ eh33 u39
          obtain ⟨_, _, ⟨T40, L40, k40, n40⟩, -, X40, ⟨Lc40, hQ40, l40, y40, z40⟩, st40⟩ := X33.virtualBack hx (y := (⟨"com/example/briareus/briareus/model/Interval", "encloses", "(Lcom/example/briareus/briareus/model/Interval;)Z"⟩ : MethodName)) (z := (⟨"com/example/briareus/briareus/model/Interval", "encloses", "(Lcom/example/briareus/briareus/model/Interval;)Z"⟩ : MethodName)) hown (mvT hZ (hw _ (List.mem_of_getElem? (i := 29) rfl))) (mvT hZ (hw _ (List.mem_of_getElem? (i := 30) rfl))) (notFace_of_selects (args := #[]) (mvT hZ (hw _ (List.mem_of_getElem? (i := 32) rfl)))) (mvT hZ (hw _ (List.mem_of_getElem? (i := 32) rfl))) (mvT hZ (hw _ (List.mem_of_getElem? (i := 31) rfl))) (by decide) (backOf (W := 0) (rm7 l Z a0 hw [] b7 b7 (own_min u0 u1) (own_max u0 u1) (own_min u0 u1) (own_max u0 u1) T17.heap n0 Z18 u35 u37 u35 u37) hZ (hw _ (List.mem_of_getElem? (i := 33) rfl)) (hw _ (List.mem_of_getElem? (i := 9) rfl)) (by decide) (by decide)) q40a q40c (g := (mkF m 128 #[.val (.long u0), .second, .val (.long u1), .second, .val (.long u2), .second, .val (.long u3), .second, .val (.long (own_min u0 u1)), .second, .val (.long (own_max u0 u1)), .second, .val (.long (own_min u2 u3)), .second, .val (.long (own_max u2 u3)), .second, .val (.ref b7), .val (.ref b12), .val (.long (own_min u2 u3)), .second, .val (.long ((own_max u2 u3) - (1 : Int64))), .second, .val (.int (0 : Int32)), .val (.int (own_b (own_enc (own_min u0 u1) (own_max u0 u1) (own_min u2 u3) (own_max u2 u3)))), .unset] [(.ref b7), (.ref b7)])) rfl (by rw [hml]; rfl) (Steps.refl _) (argsL := [(.ref b7)]) (rest := []) (lenOf own_pd4 rfl) rfl (by show 2 * 0 + _ ≤ _; exact Nat.le_of_eq rfl) (hb hby at_128) (fun _ _ => ⟨rfl, eh33, (by decide : 2 + 0 ≤ _), (by decide : 4 + 0 ≤ _)⟩)
          dsimp only [Pt.U, Pt.locs, Pt.cells, Pt.slots] at X40 l40 y40 z40 st40 hQ40
          subst l40 y40 z40
          obtain ⟨rfl, N40q, eh40⟩ := hQ40
          have N40 := Fr.app N33 N40q
          refine own_st (B := T40.setTop (mkF m 131 #[.val (.long u0), .second, .val (.long u1), .second, .val (.long u2), .second, .val (.long u3), .second, .val (.long (own_min u0 u1)), .second, .val (.long (own_max u0 u1)), .second, .val (.long (own_min u2 u3)), .second, .val (.long (own_max u2 u3)), .second, .val (.ref b7), .val (.ref b12), .val (.long (own_min u2 u3)), .second, .val (.long ((own_max u2 u3) - (1 : Int64))), .second, .val (.int (0 : Int32)), .val (.int (own_b (own_enc (own_min u0 u1) (own_max u0 u1) (own_min u2 u3) (own_max u2 u3)))), .unset] [(.int (own_b (own_enc (own_min u0 u1) (own_max u0 u1) (own_min u0 u1) (own_max u0 u1))))])) (fun t_ k_ => st40.trans k_) ?_
          refine own_st (B := T40.setTop (mkF m 133 #[.val (.long u0), .second, .val (.long u1), .second, .val (.long u2), .second, .val (.long u3), .second, .val (.long (own_min u0 u1)), .second, .val (.long (own_max u0 u1)), .second, .val (.long (own_min u2 u3)), .second, .val (.long (own_max u2 u3)), .second, .val (.ref b7), .val (.ref b12), .val (.long (own_min u2 u3)), .second, .val (.long ((own_max u2 u3) - (1 : Int64))), .second, .val (.int (0 : Int32)), .val (.int (own_b (own_enc (own_min u0 u1) (own_max u0 u1) (own_min u2 u3) (own_max u2 u3)))), .val (.int (own_b (own_enc (own_min u0 u1) (own_max u0 u1) (own_min u0 u1) (own_max u0 u1))))] [])) (fun t_ k_ => XS.istore X40.here hx rfl (hb hby at_131) rfl (l' := #[.val (.long u0), .second, .val (.long u1), .second, .val (.long u2), .second, .val (.long u3), .second, .val (.long (own_min u0 u1)), .second, .val (.long (own_max u0 u1)), .second, .val (.long (own_min u2 u3)), .second, .val (.long (own_max u2 u3)), .second, .val (.ref b7), .val (.ref b12), .val (.long (own_min u2 u3)), .second, .val (.long ((own_max u2 u3) - (1 : Int64))), .second, .val (.int (0 : Int32)), .val (.int (own_b (own_enc (own_min u0 u1) (own_max u0 u1) (own_min u2 u3) (own_max u2 u3)))), .val (.int (own_b (own_enc (own_min u0 u1) (own_max u0 u1) (own_min u0 u1) (own_max u0 u1))))]) rfl k_) ?_
          refine own_st (B := T40.setTop (mkF m 135 #[.val (.long u0), .second, .val (.long u1), .second, .val (.long u2), .second, .val (.long u3), .second, .val (.long (own_min u0 u1)), .second, .val (.long (own_max u0 u1)), .second, .val (.long (own_min u2 u3)), .second, .val (.long (own_max u2 u3)), .second, .val (.ref b7), .val (.ref b12), .val (.long (own_min u2 u3)), .second, .val (.long ((own_max u2 u3) - (1 : Int64))), .second, .val (.int (0 : Int32)), .val (.int (own_b (own_enc (own_min u0 u1) (own_max u0 u1) (own_min u2 u3) (own_max u2 u3)))), .val (.int (own_b (own_enc (own_min u0 u1) (own_max u0 u1) (own_min u0 u1) (own_max u0 u1))))] [(.int (own_b (own_enc (own_min u0 u1) (own_max u0 u1) (own_min u2 u3) (own_max u2 u3))))])) (fun t_ k_ => XS.iload X40.here hx rfl (hb hby at_133) rfl k_) ?_
          refine own_st (B := T40.setTop (mkF m 137 #[.val (.long u0), .second, .val (.long u1), .second, .val (.long u2), .second, .val (.long u3), .second, .val (.long (own_min u0 u1)), .second, .val (.long (own_max u0 u1)), .second, .val (.long (own_min u2 u3)), .second, .val (.long (own_max u2 u3)), .second, .val (.ref b7), .val (.ref b12), .val (.long (own_min u2 u3)), .second, .val (.long ((own_max u2 u3) - (1 : Int64))), .second, .val (.int (0 : Int32)), .val (.int (own_b (own_enc (own_min u0 u1) (own_max u0 u1) (own_min u2 u3) (own_max u2 u3)))), .val (.int (own_b (own_enc (own_min u0 u1) (own_max u0 u1) (own_min u0 u1) (own_max u0 u1))))] [(.int (0 : Int32)), (.int (own_b (own_enc (own_min u0 u1) (own_max u0 u1) (own_min u2 u3) (own_max u2 u3))))])) (fun t_ k_ => XS.iload X40.here hx rfl (hb hby at_135) rfl k_) ?_
          have hc41 : (own_b (own_enc (own_min u0 u1) (own_max u0 u1) (own_min u2 u3) (own_max u2 u3))) = (0 : Int32) := (own_key _ _ _ _ (own_mm hc2)).trans (by simp [hc20, hc32])
          have hd41 := own_eq32 hc41
          rw [show (0 : Int32).toInt = 0 from rfl] at hd41
          refine own_st (B := T40.setTop (mkF m 140 #[.val (.long u0), .second, .val (.long u1), .second, .val (.long u2), .second, .val (.long u3), .second, .val (.long (own_min u0 u1)), .second, .val (.long (own_max u0 u1)), .second, .val (.long (own_min u2 u3)), .second, .val (.long (own_max u2 u3)), .second, .val (.ref b7), .val (.ref b12), .val (.long (own_min u2 u3)), .second, .val (.long ((own_max u2 u3) - (1 : Int64))), .second, .val (.int (0 : Int32)), .val (.int (own_b (own_enc (own_min u0 u1) (own_max u0 u1) (own_min u2 u3) (own_max u2 u3)))), .val (.int (own_b (own_enc (own_min u0 u1) (own_max u0 u1) (own_min u0 u1) (own_max u0 u1))))] [])) (fun t_ k_ => XS.icmpNo X40.here hx rfl (hb hby at_137) rfl (teq hc41).2 k_) ?_
          refine own_st (B := T40.setTop (mkF m 142 #[.val (.long u0), .second, .val (.long u1), .second, .val (.long u2), .second, .val (.long u3), .second, .val (.long (own_min u0 u1)), .second, .val (.long (own_max u0 u1)), .second, .val (.long (own_min u2 u3)), .second, .val (.long (own_max u2 u3)), .second, .val (.ref b7), .val (.ref b12), .val (.long (own_min u2 u3)), .second, .val (.long ((own_max u2 u3) - (1 : Int64))), .second, .val (.int (0 : Int32)), .val (.int (own_b (own_enc (own_min u0 u1) (own_max u0 u1) (own_min u2 u3) (own_max u2 u3)))), .val (.int (own_b (own_enc (own_min u0 u1) (own_max u0 u1) (own_min u0 u1) (own_max u0 u1))))] [(.int (own_b (own_enc (own_min u0 u1) (own_max u0 u1) (own_min u0 u1) (own_max u0 u1))))])) (fun t_ k_ => XS.iload X40.here hx rfl (hb hby at_140) rfl k_) ?_
          have hc42 : ¬ ((own_enc (own_min u0 u1) (own_max u0 u1) (own_min u0 u1) (own_max u0 u1)) = false) := (by rw [own_refl]; decide)
          refine own_st (B := T40.setTop (mkF m 145 #[.val (.long u0), .second, .val (.long u1), .second, .val (.long u2), .second, .val (.long u3), .second, .val (.long (own_min u0 u1)), .second, .val (.long (own_max u0 u1)), .second, .val (.long (own_min u2 u3)), .second, .val (.long (own_max u2 u3)), .second, .val (.ref b7), .val (.ref b12), .val (.long (own_min u2 u3)), .second, .val (.long ((own_max u2 u3) - (1 : Int64))), .second, .val (.int (0 : Int32)), .val (.int (own_b (own_enc (own_min u0 u1) (own_max u0 u1) (own_min u2 u3) (own_max u2 u3)))), .val (.int (own_b (own_enc (own_min u0 u1) (own_max u0 u1) (own_min u0 u1) (own_max u0 u1))))] [])) (fun t_ k_ => XS.ifNo X40.here hx rfl (hb hby at_142) rfl ((if0 _ _).trans (feq (fun q => hc42 (own_b0.mp q))).1) k_) ?_
          refine own_st (B := T40.setTop (mkF m 146 #[.val (.long u0), .second, .val (.long u1), .second, .val (.long u2), .second, .val (.long u3), .second, .val (.long (own_min u0 u1)), .second, .val (.long (own_max u0 u1)), .second, .val (.long (own_min u2 u3)), .second, .val (.long (own_max u2 u3)), .second, .val (.ref b7), .val (.ref b12), .val (.long (own_min u2 u3)), .second, .val (.long ((own_max u2 u3) - (1 : Int64))), .second, .val (.int (0 : Int32)), .val (.int (own_b (own_enc (own_min u0 u1) (own_max u0 u1) (own_min u2 u3) (own_max u2 u3)))), .val (.int (own_b (own_enc (own_min u0 u1) (own_max u0 u1) (own_min u0 u1) (own_max u0 u1))))] [(.int (1 : Int32))])) (fun t_ k_ => XS.iconst X40.here hx rfl (hb hby at_145) k_) ?_
          refine own_st (B := T40.setTop (mkF m 150 #[.val (.long u0), .second, .val (.long u1), .second, .val (.long u2), .second, .val (.long u3), .second, .val (.long (own_min u0 u1)), .second, .val (.long (own_max u0 u1)), .second, .val (.long (own_min u2 u3)), .second, .val (.long (own_max u2 u3)), .second, .val (.ref b7), .val (.ref b12), .val (.long (own_min u2 u3)), .second, .val (.long ((own_max u2 u3) - (1 : Int64))), .second, .val (.int (0 : Int32)), .val (.int (own_b (own_enc (own_min u0 u1) (own_max u0 u1) (own_min u2 u3) (own_max u2 u3)))), .val (.int (own_b (own_enc (own_min u0 u1) (own_max u0 u1) (own_min u0 u1) (own_max u0 u1))))] [(.int (1 : Int32))])) (fun t_ k_ => XS.goto X40.here hx rfl (pc0 := 146) (pc' := 150) rfl (hb hby at_146) (by decide) (by decide) k_) ?_
          refine own_retN X40 hx (t := .boolean) Bd.returns (by simp) hlk (hb hby at_150) (z' := (1 : Int32)) (by first | rfl | exact own_nb _ | exact own_nbb _) (by decide) (by decide) ?_
          show Q0 Z u0 u1 u2 u3 h0 n0 _ T40.heap _
          rw [eh40]
          exact ⟨rfl, N40⟩
        · refine own_st (B := T31.setTop (mkF m 108 #[.val (.long u0), .second, .val (.long u1), .second, .val (.long u2), .second, .val (.long u3), .second, .val (.long (own_min u0 u1)), .second, .val (.long (own_max u0 u1)), .second, .val (.long (own_min u2 u3)), .second, .val (.long (own_max u2 u3)), .second, .val (.ref b7), .val (.ref b12), .val (.long (own_min u2 u3)), .second, .val (.long ((own_max u2 u3) - (1 : Int64))), .second, .unset, .unset, .unset] [])) (fun t_ k_ => XS.ifNo X31.here hx rfl (hb hby at_105) rfl ((if0 _ _).trans (feq (fun q => hc32 (own_b0.mp q))).1) k_) ?_
          refine own_st (B := T31.setTop (mkF m 109 #[.val (.long u0), .second, .val (.long u1), .second, .val (.long u2), .second, .val (.long u3), .second, .val (.long (own_min u0 u1)), .second, .val (.long (own_max u0 u1)), .second, .val (.long (own_min u2 u3)), .second, .val (.long (own_max u2 u3)), .second, .val (.ref b7), .val (.ref b12), .val (.long (own_min u2 u3)), .second, .val (.long ((own_max u2 u3) - (1 : Int64))), .second, .unset, .unset, .unset] [(.int (1 : Int32))])) (fun t_ k_ => XS.iconst X31.here hx rfl (hb hby at_108) k_) ?_
          refine own_st (B := T31.setTop (mkF m 113 #[.val (.long u0), .second, .val (.long u1), .second, .val (.long u2), .second, .val (.long u3), .second, .val (.long (own_min u0 u1)), .second, .val (.long (own_max u0 u1)), .second, .val (.long (own_min u2 u3)), .second, .val (.long (own_max u2 u3)), .second, .val (.ref b7), .val (.ref b12), .val (.long (own_min u2 u3)), .second, .val (.long ((own_max u2 u3) - (1 : Int64))), .second, .unset, .unset, .unset] [(.int (1 : Int32))])) (fun t_ k_ => XS.goto X31.here hx rfl (pc0 := 109) (pc' := 113) rfl (hb hby at_109) (by decide) (by decide) k_) ?_
          refine own_st (B := T31.setTop (mkF m 115 #[.val (.long u0), .second, .val (.long u1), .second, .val (.long u2), .second, .val (.long u3), .second, .val (.long (own_min u0 u1)), .second, .val (.long (own_max u0 u1)), .second, .val (.long (own_min u2 u3)), .second, .val (.long (own_max u2 u3)), .second, .val (.ref b7), .val (.ref b12), .val (.long (own_min u2 u3)), .second, .val (.long ((own_max u2 u3) - (1 : Int64))), .second, .val (.int (1 : Int32)), .unset, .unset] [])) (fun t_ k_ => XS.istore X31.here hx rfl (hb hby at_113) rfl (l' := #[.val (.long u0), .second, .val (.long u1), .second, .val (.long u2), .second, .val (.long u3), .second, .val (.long (own_min u0 u1)), .second, .val (.long (own_max u0 u1)), .second, .val (.long (own_min u2 u3)), .second, .val (.long (own_max u2 u3)), .second, .val (.ref b7), .val (.ref b12), .val (.long (own_min u2 u3)), .second, .val (.long ((own_max u2 u3) - (1 : Int64))), .second, .val (.int (1 : Int32)), .unset, .unset]) rfl k_) ?_
          refine own_st (B := T31.setTop (mkF m 117 #[.val (.long u0), .second, .val (.long u1), .second, .val (.long u2), .second, .val (.long u3), .second, .val (.long (own_min u0 u1)), .second, .val (.long (own_max u0 u1)), .second, .val (.long (own_min u2 u3)), .second, .val (.long (own_max u2 u3)), .second, .val (.ref b7), .val (.ref b12), .val (.long (own_min u2 u3)), .second, .val (.long ((own_max u2 u3) - (1 : Int64))), .second, .val (.int (1 : Int32)), .unset, .unset] [(.ref b7)])) (fun t_ k_ => XS.aload X31.here hx rfl (hb hby at_115) rfl rfl k_) ?_
          refine own_st (B := T31.setTop (mkF m 119 #[.val (.long u0), .second, .val (.long u1), .second, .val (.long u2), .second, .val (.long u3), .second, .val (.long (own_min u0 u1)), .second, .val (.long (own_max u0 u1)), .second, .val (.long (own_min u2 u3)), .second, .val (.long (own_max u2 u3)), .second, .val (.ref b7), .val (.ref b12), .val (.long (own_min u2 u3)), .second, .val (.long ((own_max u2 u3) - (1 : Int64))), .second, .val (.int (1 : Int32)), .unset, .unset] [(.ref b12), (.ref b7)])) (fun t_ k_ => XS.aload X31.here hx rfl (hb hby at_117) rfl rfl k_) ?_
          have u44 := Fc10_0.ext E12
          have u45 := u44.keep K17 (ninS ne14 nin0)
          have u46 := Fc10_1.ext E12
          have u47 := u46.keep K17 (ninS ne14 nin0)
          have u48 := u13.ext E12
          have u49 := u48.keep K17
          obtain ⟨cq43, kq43, q43a, q43b, q43c⟩ := isOf hZ eh31 u49
          obtain ⟨_, _, ⟨T43, L43, k43, n43⟩, -, X43, ⟨Lc43, hQ43, l43, y43, z43⟩, st43⟩ := X31.virtualBack hx (y := (⟨"com/example/briareus/briareus/model/Interval", "encloses", "(Lcom/example/briareus/briareus/model/Interval;)Z"⟩ : MethodName)) (z := (⟨"com/example/briareus/briareus/model/Interval", "encloses", "(Lcom/example/briareus/briareus/model/Interval;)Z"⟩ : MethodName)) hown (mvT hZ (hw _ (List.mem_of_getElem? (i := 29) rfl))) (mvT hZ (hw _ (List.mem_of_getElem? (i := 30) rfl))) (notFace_of_selects (args := #[]) (mvT hZ (hw _ (List.mem_of_getElem? (i := 32) rfl)))) (mvT hZ (hw _ (List.mem_of_getElem? (i := 32) rfl))) (mvT hZ (hw _ (List.mem_of_getElem? (i := 31) rfl))) (by decide) (backOf (W := 0) (rm7 l Z a0 hw [] b7 b12 (own_min u0 u1) (own_max u0 u1) (own_min u2 u3) (own_max u2 u3) T17.heap n0 Z18 u45 u47 Fc17_0 Fc17_1) hZ (hw _ (List.mem_of_getElem? (i := 33) rfl)) (hw _ (List.mem_of_getElem? (i := 9) rfl)) (by decide) (by decide)) q43a q43c (g := (mkF m 119 #[.val (.long u0), .second, .val (.long u1), .second, .val (.long u2), .second, .val (.long u3), .second, .val (.long (own_min u0 u1)), .second, .val (.long (own_max u0 u1)), .second, .val (.long (own_min u2 u3)), .second, .val (.long (own_max u2 u3)), .second, .val (.ref b7), .val (.ref b12), .val (.long (own_min u2 u3)), .second, .val (.long ((own_max u2 u3) - (1 : Int64))), .second, .val (.int (1 : Int32)), .unset, .unset] [(.ref b12), (.ref b7)])) rfl (by rw [hml]; rfl) (Steps.refl _) (argsL := [(.ref b12)]) (rest := []) (lenOf own_pd4 rfl) rfl (by show 2 * 0 + _ ≤ _; exact Nat.le_of_eq rfl) (hb hby at_119) (fun _ _ => ⟨rfl, eh31, (by decide : 2 + 0 ≤ _), (by decide : 4 + 0 ≤ _)⟩)
          dsimp only [Pt.U, Pt.locs, Pt.cells, Pt.slots] at X43 l43 y43 z43 st43 hQ43
          subst l43 y43 z43
          obtain ⟨rfl, N43q, eh43⟩ := hQ43
          have N43 := Fr.app N31 N43q
          refine own_st (B := T43.setTop (mkF m 122 #[.val (.long u0), .second, .val (.long u1), .second, .val (.long u2), .second, .val (.long u3), .second, .val (.long (own_min u0 u1)), .second, .val (.long (own_max u0 u1)), .second, .val (.long (own_min u2 u3)), .second, .val (.long (own_max u2 u3)), .second, .val (.ref b7), .val (.ref b12), .val (.long (own_min u2 u3)), .second, .val (.long ((own_max u2 u3) - (1 : Int64))), .second, .val (.int (1 : Int32)), .unset, .unset] [(.int (own_b (own_enc (own_min u0 u1) (own_max u0 u1) (own_min u2 u3) (own_max u2 u3))))])) (fun t_ k_ => st43.trans k_) ?_
          refine own_st (B := T43.setTop (mkF m 124 #[.val (.long u0), .second, .val (.long u1), .second, .val (.long u2), .second, .val (.long u3), .second, .val (.long (own_min u0 u1)), .second, .val (.long (own_max u0 u1)), .second, .val (.long (own_min u2 u3)), .second, .val (.long (own_max u2 u3)), .second, .val (.ref b7), .val (.ref b12), .val (.long (own_min u2 u3)), .second, .val (.long ((own_max u2 u3) - (1 : Int64))), .second, .val (.int (1 : Int32)), .val (.int (own_b (own_enc (own_min u0 u1) (own_max u0 u1) (own_min u2 u3) (own_max u2 u3)))), .unset] [])) (fun t_ k_ => XS.istore X43.here hx rfl (hb hby at_122) rfl (l' := #[.val (.long u0), .second, .val (.long u1), .second, .val (.long u2), .second, .val (.long u3), .second, .val (.long (own_min u0 u1)), .second, .val (.long (own_max u0 u1)), .second, .val (.long (own_min u2 u3)), .second, .val (.long (own_max u2 u3)), .second, .val (.ref b7), .val (.ref b12), .val (.long (own_min u2 u3)), .second, .val (.long ((own_max u2 u3) - (1 : Int64))), .second, .val (.int (1 : Int32)), .val (.int (own_b (own_enc (own_min u0 u1) (own_max u0 u1) (own_min u2 u3) (own_max u2 u3)))), .unset]) rfl k_) ?_
          refine own_st (B := T43.setTop (mkF m 126 #[.val (.long u0), .second, .val (.long u1), .second, .val (.long u2), .second, .val (.long u3), .second, .val (.long (own_min u0 u1)), .second, .val (.long (own_max u0 u1)), .second, .val (.long (own_min u2 u3)), .second, .val (.long (own_max u2 u3)), .second, .val (.ref b7), .val (.ref b12), .val (.long (own_min u2 u3)), .second, .val (.long ((own_max u2 u3) - (1 : Int64))), .second, .val (.int (1 : Int32)), .val (.int (own_b (own_enc (own_min u0 u1) (own_max u0 u1) (own_min u2 u3) (own_max u2 u3)))), .unset] [(.ref b7)])) (fun t_ k_ => XS.aload X43.here hx rfl (hb hby at_124) rfl rfl k_) ?_
          refine own_st (B := T43.setTop (mkF m 128 #[.val (.long u0), .second, .val (.long u1), .second, .val (.long u2), .second, .val (.long u3), .second, .val (.long (own_min u0 u1)), .second, .val (.long (own_max u0 u1)), .second, .val (.long (own_min u2 u3)), .second, .val (.long (own_max u2 u3)), .second, .val (.ref b7), .val (.ref b12), .val (.long (own_min u2 u3)), .second, .val (.long ((own_max u2 u3) - (1 : Int64))), .second, .val (.int (1 : Int32)), .val (.int (own_b (own_enc (own_min u0 u1) (own_max u0 u1) (own_min u2 u3) (own_max u2 u3)))), .unset] [(.ref b7), (.ref b7)])) (fun t_ k_ => XS.aload X43.here hx rfl (hb hby at_126) rfl rfl k_) ?_
          obtain ⟨cq50, kq50, q50a, q50b, q50c⟩ := isOf hZ eh43 u49
          obtain ⟨_, _, ⟨T50, L50, k50, n50⟩, -, X50, ⟨Lc50, hQ50, l50, y50, z50⟩, st50⟩ := X43.virtualBack hx (y := (⟨"com/example/briareus/briareus/model/Interval", "encloses", "(Lcom/example/briareus/briareus/model/Interval;)Z"⟩ : MethodName)) (z := (⟨"com/example/briareus/briareus/model/Interval", "encloses", "(Lcom/example/briareus/briareus/model/Interval;)Z"⟩ : MethodName)) hown (mvT hZ (hw _ (List.mem_of_getElem? (i := 29) rfl))) (mvT hZ (hw _ (List.mem_of_getElem? (i := 30) rfl))) (notFace_of_selects (args := #[]) (mvT hZ (hw _ (List.mem_of_getElem? (i := 32) rfl)))) (mvT hZ (hw _ (List.mem_of_getElem? (i := 32) rfl))) (mvT hZ (hw _ (List.mem_of_getElem? (i := 31) rfl))) (by decide) (backOf (W := 0) (rm7 l Z a0 hw [] b7 b7 (own_min u0 u1) (own_max u0 u1) (own_min u0 u1) (own_max u0 u1) T17.heap n0 Z18 u45 u47 u45 u47) hZ (hw _ (List.mem_of_getElem? (i := 33) rfl)) (hw _ (List.mem_of_getElem? (i := 9) rfl)) (by decide) (by decide)) q50a q50c (g := (mkF m 128 #[.val (.long u0), .second, .val (.long u1), .second, .val (.long u2), .second, .val (.long u3), .second, .val (.long (own_min u0 u1)), .second, .val (.long (own_max u0 u1)), .second, .val (.long (own_min u2 u3)), .second, .val (.long (own_max u2 u3)), .second, .val (.ref b7), .val (.ref b12), .val (.long (own_min u2 u3)), .second, .val (.long ((own_max u2 u3) - (1 : Int64))), .second, .val (.int (1 : Int32)), .val (.int (own_b (own_enc (own_min u0 u1) (own_max u0 u1) (own_min u2 u3) (own_max u2 u3)))), .unset] [(.ref b7), (.ref b7)])) rfl (by rw [hml]; rfl) (Steps.refl _) (argsL := [(.ref b7)]) (rest := []) (lenOf own_pd4 rfl) rfl (by show 2 * 0 + _ ≤ _; exact Nat.le_of_eq rfl) (hb hby at_128) (fun _ _ => ⟨rfl, eh43, (by decide : 2 + 0 ≤ _), (by decide : 4 + 0 ≤ _)⟩)
          dsimp only [Pt.U, Pt.locs, Pt.cells, Pt.slots] at X50 l50 y50 z50 st50 hQ50
          subst l50 y50 z50
          obtain ⟨rfl, N50q, eh50⟩ := hQ50
          have N50 := Fr.app N43 N50q
          refine own_st (B := T50.setTop (mkF m 131 #[.val (.long u0), .second, .val (.long u1), .second, .val (.long u2), .second, .val (.long u3), .second, .val (.long (own_min u0 u1)), .second, .val (.long (own_max u0 u1)), .second, .val (.long (own_min u2 u3)), .second, .val (.long (own_max u2 u3)), .second, .val (.ref b7), .val (.ref b12), .val (.long (own_min u2 u3)), .second, .val (.long ((own_max u2 u3) - (1 : Int64))), .second, .val (.int (1 : Int32)), .val (.int (own_b (own_enc (own_min u0 u1) (own_max u0 u1) (own_min u2 u3) (own_max u2 u3)))), .unset] [(.int (own_b (own_enc (own_min u0 u1) (own_max u0 u1) (own_min u0 u1) (own_max u0 u1))))])) (fun t_ k_ => st50.trans k_) ?_
          refine own_st (B := T50.setTop (mkF m 133 #[.val (.long u0), .second, .val (.long u1), .second, .val (.long u2), .second, .val (.long u3), .second, .val (.long (own_min u0 u1)), .second, .val (.long (own_max u0 u1)), .second, .val (.long (own_min u2 u3)), .second, .val (.long (own_max u2 u3)), .second, .val (.ref b7), .val (.ref b12), .val (.long (own_min u2 u3)), .second, .val (.long ((own_max u2 u3) - (1 : Int64))), .second, .val (.int (1 : Int32)), .val (.int (own_b (own_enc (own_min u0 u1) (own_max u0 u1) (own_min u2 u3) (own_max u2 u3)))), .val (.int (own_b (own_enc (own_min u0 u1) (own_max u0 u1) (own_min u0 u1) (own_max u0 u1))))] [])) (fun t_ k_ => XS.istore X50.here hx rfl (hb hby at_131) rfl (l' := #[.val (.long u0), .second, .val (.long u1), .second, .val (.long u2), .second, .val (.long u3), .second, .val (.long (own_min u0 u1)), .second, .val (.long (own_max u0 u1)), .second, .val (.long (own_min u2 u3)), .second, .val (.long (own_max u2 u3)), .second, .val (.ref b7), .val (.ref b12), .val (.long (own_min u2 u3)), .second, .val (.long ((own_max u2 u3) - (1 : Int64))), .second, .val (.int (1 : Int32)), .val (.int (own_b (own_enc (own_min u0 u1) (own_max u0 u1) (own_min u2 u3) (own_max u2 u3)))), .val (.int (own_b (own_enc (own_min u0 u1) (own_max u0 u1) (own_min u0 u1) (own_max u0 u1))))]) rfl k_) ?_
          refine own_st (B := T50.setTop (mkF m 135 #[.val (.long u0), .second, .val (.long u1), .second, .val (.long u2), .second, .val (.long u3), .second, .val (.long (own_min u0 u1)), .second, .val (.long (own_max u0 u1)), .second, .val (.long (own_min u2 u3)), .second, .val (.long (own_max u2 u3)), .second, .val (.ref b7), .val (.ref b12), .val (.long (own_min u2 u3)), .second, .val (.long ((own_max u2 u3) - (1 : Int64))), .second, .val (.int (1 : Int32)), .val (.int (own_b (own_enc (own_min u0 u1) (own_max u0 u1) (own_min u2 u3) (own_max u2 u3)))), .val (.int (own_b (own_enc (own_min u0 u1) (own_max u0 u1) (own_min u0 u1) (own_max u0 u1))))] [(.int (own_b (own_enc (own_min u0 u1) (own_max u0 u1) (own_min u2 u3) (own_max u2 u3))))])) (fun t_ k_ => XS.iload X50.here hx rfl (hb hby at_133) rfl k_) ?_
          refine own_st (B := T50.setTop (mkF m 137 #[.val (.long u0), .second, .val (.long u1), .second, .val (.long u2), .second, .val (.long u3), .second, .val (.long (own_min u0 u1)), .second, .val (.long (own_max u0 u1)), .second, .val (.long (own_min u2 u3)), .second, .val (.long (own_max u2 u3)), .second, .val (.ref b7), .val (.ref b12), .val (.long (own_min u2 u3)), .second, .val (.long ((own_max u2 u3) - (1 : Int64))), .second, .val (.int (1 : Int32)), .val (.int (own_b (own_enc (own_min u0 u1) (own_max u0 u1) (own_min u2 u3) (own_max u2 u3)))), .val (.int (own_b (own_enc (own_min u0 u1) (own_max u0 u1) (own_min u0 u1) (own_max u0 u1))))] [(.int (1 : Int32)), (.int (own_b (own_enc (own_min u0 u1) (own_max u0 u1) (own_min u2 u3) (own_max u2 u3))))])) (fun t_ k_ => XS.iload X50.here hx rfl (hb hby at_135) rfl k_) ?_
          have hc51 : (own_b (own_enc (own_min u0 u1) (own_max u0 u1) (own_min u2 u3) (own_max u2 u3))) = (1 : Int32) := (own_key _ _ _ _ (own_mm hc2)).trans (by simp [hc20, hc32])
          have hd51 := own_eq32 hc51
          rw [show (1 : Int32).toInt = 1 from rfl] at hd51
          refine own_st (B := T50.setTop (mkF m 140 #[.val (.long u0), .second, .val (.long u1), .second, .val (.long u2), .second, .val (.long u3), .second, .val (.long (own_min u0 u1)), .second, .val (.long (own_max u0 u1)), .second, .val (.long (own_min u2 u3)), .second, .val (.long (own_max u2 u3)), .second, .val (.ref b7), .val (.ref b12), .val (.long (own_min u2 u3)), .second, .val (.long ((own_max u2 u3) - (1 : Int64))), .second, .val (.int (1 : Int32)), .val (.int (own_b (own_enc (own_min u0 u1) (own_max u0 u1) (own_min u2 u3) (own_max u2 u3)))), .val (.int (own_b (own_enc (own_min u0 u1) (own_max u0 u1) (own_min u0 u1) (own_max u0 u1))))] [])) (fun t_ k_ => XS.icmpNo X50.here hx rfl (hb hby at_137) rfl (teq hc51).2 k_) ?_
          refine own_st (B := T50.setTop (mkF m 142 #[.val (.long u0), .second, .val (.long u1), .second, .val (.long u2), .second, .val (.long u3), .second, .val (.long (own_min u0 u1)), .second, .val (.long (own_max u0 u1)), .second, .val (.long (own_min u2 u3)), .second, .val (.long (own_max u2 u3)), .second, .val (.ref b7), .val (.ref b12), .val (.long (own_min u2 u3)), .second, .val (.long ((own_max u2 u3) - (1 : Int64))), .second, .val (.int (1 : Int32)), .val (.int (own_b (own_enc (own_min u0 u1) (own_max u0 u1) (own_min u2 u3) (own_max u2 u3)))), .val (.int (own_b (own_enc (own_min u0 u1) (own_max u0 u1) (own_min u0 u1) (own_max u0 u1))))] [(.int (own_b (own_enc (own_min u0 u1) (own_max u0 u1) (own_min u0 u1) (own_max u0 u1))))])) (fun t_ k_ => XS.iload X50.here hx rfl (hb hby at_140) rfl k_) ?_
          have hc52 : ¬ ((own_enc (own_min u0 u1) (own_max u0 u1) (own_min u0 u1) (own_max u0 u1)) = false) := (by rw [own_refl]; decide)
          refine own_st (B := T50.setTop (mkF m 145 #[.val (.long u0), .second, .val (.long u1), .second, .val (.long u2), .second, .val (.long u3), .second, .val (.long (own_min u0 u1)), .second, .val (.long (own_max u0 u1)), .second, .val (.long (own_min u2 u3)), .second, .val (.long (own_max u2 u3)), .second, .val (.ref b7), .val (.ref b12), .val (.long (own_min u2 u3)), .second, .val (.long ((own_max u2 u3) - (1 : Int64))), .second, .val (.int (1 : Int32)), .val (.int (own_b (own_enc (own_min u0 u1) (own_max u0 u1) (own_min u2 u3) (own_max u2 u3)))), .val (.int (own_b (own_enc (own_min u0 u1) (own_max u0 u1) (own_min u0 u1) (own_max u0 u1))))] [])) (fun t_ k_ => XS.ifNo X50.here hx rfl (hb hby at_142) rfl ((if0 _ _).trans (feq (fun q => hc52 (own_b0.mp q))).1) k_) ?_
          refine own_st (B := T50.setTop (mkF m 146 #[.val (.long u0), .second, .val (.long u1), .second, .val (.long u2), .second, .val (.long u3), .second, .val (.long (own_min u0 u1)), .second, .val (.long (own_max u0 u1)), .second, .val (.long (own_min u2 u3)), .second, .val (.long (own_max u2 u3)), .second, .val (.ref b7), .val (.ref b12), .val (.long (own_min u2 u3)), .second, .val (.long ((own_max u2 u3) - (1 : Int64))), .second, .val (.int (1 : Int32)), .val (.int (own_b (own_enc (own_min u0 u1) (own_max u0 u1) (own_min u2 u3) (own_max u2 u3)))), .val (.int (own_b (own_enc (own_min u0 u1) (own_max u0 u1) (own_min u0 u1) (own_max u0 u1))))] [(.int (1 : Int32))])) (fun t_ k_ => XS.iconst X50.here hx rfl (hb hby at_145) k_) ?_
          refine own_st (B := T50.setTop (mkF m 150 #[.val (.long u0), .second, .val (.long u1), .second, .val (.long u2), .second, .val (.long u3), .second, .val (.long (own_min u0 u1)), .second, .val (.long (own_max u0 u1)), .second, .val (.long (own_min u2 u3)), .second, .val (.long (own_max u2 u3)), .second, .val (.ref b7), .val (.ref b12), .val (.long (own_min u2 u3)), .second, .val (.long ((own_max u2 u3) - (1 : Int64))), .second, .val (.int (1 : Int32)), .val (.int (own_b (own_enc (own_min u0 u1) (own_max u0 u1) (own_min u2 u3) (own_max u2 u3)))), .val (.int (own_b (own_enc (own_min u0 u1) (own_max u0 u1) (own_min u0 u1) (own_max u0 u1))))] [(.int (1 : Int32))])) (fun t_ k_ => XS.goto X50.here hx rfl (pc0 := 146) (pc' := 150) rfl (hb hby at_146) (by decide) (by decide) k_) ?_
          refine own_retN X50 hx (t := .boolean) Bd.returns (by simp) hlk (hb hby at_150) (z' := (1 : Int32)) (by first | rfl | exact own_nb _ | exact own_nbb _) (by decide) (by decide) ?_
          show Q0 Z u0 u1 u2 u3 h0 n0 _ T50.heap _
          rw [eh50]
          exact ⟨rfl, N50⟩
set_option maxRecDepth 65536 in
set_option maxHeartbeats 40000000 in
theorem comes_1 {Post : Tables → Env → Array Value → State → Outcome → State → Prop} (hpost : ∀ tb e args s v u, (limb_1_1.after args s (.returned v) u = true ∧ limb_1_2.after args s (.returned v) u = true ∧ True) → FrameEnd s (.returned v) u (Jvm.fieldLocs frame_1_writes args s ++ Jvm.arrayLocs frame_1_arrays args s ++ Jvm.staticLocs frame_1_statics s) 16 128 → Post tb e args s (.returned v) u) :
    ArmFor flags0 classFile x code maxLocals ret World_1 tables_1 room_1 Calls_1 rest_1 Pre_1 Post := by
  intro l hfl _ _ p e ha hc hk s m args below hf hA hF happ hP
  obtain ⟨hcalls, hrest, hpre⟩ := hP
  obtain ⟨-, -, -, hnamed, -, -, -, hat⟩ := (Spec.applies_iff hf).mp happ
  obtain ⟨hg, hn⟩ := and_e (Cond.before_iff.mp (show (Jvm.Cond.and given_1 narrow_1).before args s = true from hpre))
  obtain ⟨gg1, gg2⟩ := and_e hg
  obtain ⟨gg3, gg4⟩ := and_e gg2
  obtain ⟨gg5, gg6⟩ := and_e gg4
  obtain ⟨gg7, gg8⟩ := and_e gg6
  obtain ⟨w0, w1, w2, w3, rfl⟩ : ∃ w0 w1 w2 w3 : Value, args = #[w0, w1, w2, w3] := by
    have hs : args.size = 4 := by simpa [Cond.value, given_1] using gg1
    obtain ⟨L⟩ := args
    match L, hs with
    | [w0, w1, w2, w3], _ => exact ⟨w0, w1, w2, w3, rfl⟩
  have hw := fun d (hd : d ∈ tables_1) => atoms_spec (ws := Jvm.Cond.code x code maxLocals ret :: tables_1) hat d (List.mem_cons_of_mem _ hd)
  have hfit : Fit s := fun {y c} hc i hi => by
    obtain ⟨ha, rfl⟩ := Array.getElem?_eq_some_iff.mp hc
    have q := List.all_eq_true.mp ((Array.all_eq_true_iff_forall_mem.mp hF) _ (Array.getElem_mem ha)) i (List.mem_range.mpr hi)
    simpa [Array.getElem?_eq_getElem hi] using q
  obtain ⟨i0, ei0⟩ := isL_v gg3
  obtain rfl : w0 = (.long i0) := Option.some.inj ei0
  obtain ⟨i1, ei1⟩ := isL_v gg5
  obtain rfl : w1 = (.long i1) := Option.some.inj ei1
  obtain ⟨i2, ei2⟩ := isL_v gg7
  obtain rfl : w2 = (.long i2) := Option.some.inj ei2
  obtain ⟨i3, ei3⟩ := isL_v gg8
  obtain rfl : w3 = (.long i3) := Option.some.inj ei3
  obtain ⟨n, o, h1, h2, h3, _, L, rfl, ⟨rfl, N⟩, hq⟩ := rm0 l s _ hw tables_1 i0 i1 i2 i3 s.heap s.heap.size (Nat.le_refl _)  p e ha hc hk s m _ below hf ((Spec.applies_iff_loose hf).mp happ).1 ⟨rfl, State.Warmed39.refl s, rfl⟩ trivial
  refine ⟨n, _, h1, h2, h3, hpost _ _ _ _ _ _ ⟨Cond.after_iff.mpr rfl, Cond.after_iff.mpr (eq_i res_at (Term.int_eval (1)) rfl), trivial⟩ ⟨hq.1, hq.2.1, (hq.2.2.sift fun y hy => Or.inr (N y hy)).mono (by decide) (by decide)⟩⟩
theorem main_1_1 : Claimed_1_1 := comes_1 fun _ _ _ _ _ _ h hF => ⟨h.1, hF⟩
theorem main_1_2 : Claimed_1_2 := comes_1 fun _ _ _ _ _ _ h hF => ⟨h.2.1, hF⟩
end Jvm.Pilot.@@N@@
namespace Jvm.Pilot.@@N@@
open Jvm Jvm.ClassFile Sem Op Lib Jvm.Free Jvm.Stand Jvm.Pilot.@@N@@.Jvm.D
/-! MADE BY PROGRAM (witnessworld.py) out of the Statement's table words and the real class files: 11 classes; the members and pool entries that the words name. The judged class is class 1, her method 2. -/
namespace start1
open Jvm.ClassFile
def u (s : String) : CpInfo := .utf8 (stringToUtf16 s)
/-- a pool by its gaps: so many unusable entries, then the entry; so many at the end -/
def gap : Nat → List CpInfo → List CpInfo
  | 0, r => r
  | n + 1, r => .unusable :: gap n r
def poolList (es : List (Nat × CpInfo)) (last : Nat) : List CpInfo := es.foldr (fun e r => gap e.1 (e.2 :: r)) (gap last [])
def pool (es : List (Nat × CpInfo)) (last : Nat) : Array CpInfo := ⟨poolList es last⟩
def fileOf (pool : Array CpInfo) (this : Nat) (attrs : Array Attribute := #[]) (ms : Array MethodInfo := #[]) (fl : Nat := 33) (sup : Nat := 0) (ifs : Array Nat := #[]) (fds : Array FieldInfo := #[]) : ClassFile where
  minorVersion := 0
  majorVersion := 65
  constantPool := pool
  accessFlags := fl
  thisClass := this
  superClass := sup
  interfaces := ifs
  fields := fds
  methods := ms
  attributes := attrs
def plain (name : String) (sup : Option ClassId) : Class where
  name := name
  kind := .ordinary
  loader := none
  accessFlags := 33
  super := sup
  interfaces := #[]
  cf := none
  fields := #[]
  methods := #[]
  instanceTypes := #[]
  staticTypes := #[]
  resolved := #[]
  callSites := []
  init := .initialized
  statics := none
  mirror := none

def pool0 : Array CpInfo := pool [(5, u "<init>"), (0, u "()V"), (1, .class_ 10), (1, u "java/lang/Object")] 113

def k0c0 : Code := { maxStack := 0, maxLocals := 1, code := object_method_1_code, exceptionTable := #[], attributes := #[] }
def k0m0 : Method := { name := "<init>", desc := "()V", sig := { parameters := [], returnType := none }, accessFlags := 1, code := some k0c0 }
/-- java/lang/Object -/
def k0 : Class := { plain "java/lang/Object" none with
  accessFlags := 33
  interfaces := #[]
  cf := some (fileOf pool0 8 #[] #[{ accessFlags := 1, nameIndex := 5, descriptorIndex := 6, attributes := #[] }] 33 0 #[] #[])
  fields := #[]
  methods := #[k0m0]
  instanceTypes := #[]
  staticTypes := #[]
  resolved := Array.replicate 124 none
  statics := none }

def pool1 : Array CpInfo := pool [(2, .class_ 4), (1, u "java/lang/Object"), (0, u "<init>"), (0, u "()V"), (0, .methodref 8 9), (0, .class_ 10), (0, .nameAndType 11 12), (0, u "java/lang/Math"), (0, u "min"), (0, u "(JJ)J"), (0, .methodref 8 14), (0, .nameAndType 15 12), (0, u "max"), (0, .class_ 17), (0, u "com/example/briareus/briareus/model/Interval"), (0, .methodref 16 19), (0, .nameAndType 5 20), (0, u "(JJ)V"), (0, .methodref 22 23), (0, .class_ 24), (0, .nameAndType 25 26), (0, u "com/example/briareus/briareus/model/IntervalEnclosesPinLaw"), (0, u "inside"), (0, u "(JJJ)Z"), (0, .methodref 16 28), (0, .nameAndType 29 30), (0, u "encloses"), (0, u "(Lcom/example/briareus/briareus/model/Interval;)Z"), (3, u "law"), (0, u "(JJJJ)Z")] 2

def k1m0 : Method := { name := "<init>", desc := "()V", sig := { parameters := [], returnType := none }, accessFlags := 2, code := none }
def k1c1 : Code := { maxStack := 4, maxLocals := 6, code := method_2_code, exceptionTable := #[], attributes := #[] }
def k1m1 : Method := { name := "inside", desc := "(JJJ)Z", sig := { parameters := [.long, .long, .long], returnType := some .boolean }, accessFlags := 10, code := some k1c1 }
def k1c2 : Code := { maxStack := 6, maxLocals := 25, code := code, exceptionTable := #[], attributes := #[] }
def k1m2 : Method := { name := "law", desc := "(JJJJ)Z", sig := { parameters := [.long, .long, .long, .long], returnType := some .boolean }, accessFlags := 9, code := some k1c2 }
/-- com/example/briareus/briareus/model/IntervalEnclosesPinLaw -/
def k1 : Class := { plain "com/example/briareus/briareus/model/IntervalEnclosesPinLaw" (some 0) with
  accessFlags := 49
  interfaces := #[]
  cf := some (fileOf pool1 22 #[] #[{ accessFlags := 2, nameIndex := 5, descriptorIndex := 6, attributes := #[] }, { accessFlags := 10, nameIndex := 25, descriptorIndex := 26, attributes := #[] }, { accessFlags := 9, nameIndex := 34, descriptorIndex := 35, attributes := #[] }] 49 2 #[] #[])
  fields := #[]
  methods := #[k1m0, k1m1, k1m2]
  instanceTypes := #[]
  staticTypes := #[]
  resolved := Array.replicate 38 none
  statics := none }

def pool2 : Array CpInfo := pool [(1, .class_ 2), (0, u "java/lang/Math"), (1, .class_ 6), (1, u "java/lang/Object"), (0, u "<init>"), (0, u "()V"), (89, .class_ 100), (1, u "java/lang/Math$RandomNumberGeneratorHolder"), (20, u "(JJ)J"), (50, u "negativeZeroFloatBits"), (0, u "J"), (2, u "negativeZeroDoubleBits"), (21, u "max"), (2, u "min"), (43, u "$assertionsDisabled"), (0, u "Z"), (91, u "twoToTheDoubleScaleDown"), (0, u "D"), (4, u "twoToTheDoubleScaleUp"), (9, u "E"), (3, u "PI"), (2, u "TAU"), (2, u "DEGREES_TO_RADIANS"), (0, u "RADIANS_TO_DEGREES")] 94

def k2m0 : Method := { name := "<init>", desc := "()V", sig := { parameters := [], returnType := none }, accessFlags := 2, code := none }
def k2c1 : Code := { maxStack := 4, maxLocals := 4, code := jdk_29_method_66_code, exceptionTable := #[], attributes := #[] }
def k2m1 : Method := { name := "max", desc := "(JJ)J", sig := { parameters := [.long, .long], returnType := some .long }, accessFlags := 9, code := some k2c1 }
def k2c2 : Code := { maxStack := 4, maxLocals := 4, code := jdk_29_method_70_code, exceptionTable := #[], attributes := #[] }
def k2m2 : Method := { name := "min", desc := "(JJ)J", sig := { parameters := [.long, .long], returnType := some .long }, accessFlags := 9, code := some k2c2 }
/-- java/lang/Math -/
def k2 : Class := { plain "java/lang/Math" (some 0) with
  accessFlags := 49
  interfaces := #[]
  cf := some (fileOf pool2 1 #[.nestMembers #[98]] #[{ accessFlags := 2, nameIndex := 7, descriptorIndex := 8, attributes := #[] }, { accessFlags := 9, nameIndex := 198, descriptorIndex := 121, attributes := #[] }, { accessFlags := 9, nameIndex := 201, descriptorIndex := 121, attributes := #[] }] 49 4 #[] #[{ accessFlags := 25, nameIndex := 354, descriptorIndex := 339, attributes := #[] }, { accessFlags := 25, nameIndex := 358, descriptorIndex := 339, attributes := #[] }, { accessFlags := 25, nameIndex := 361, descriptorIndex := 339, attributes := #[] }, { accessFlags := 26, nameIndex := 364, descriptorIndex := 339, attributes := #[] }, { accessFlags := 26, nameIndex := 365, descriptorIndex := 339, attributes := #[] }, { accessFlags := 26, nameIndex := 172, descriptorIndex := 173, attributes := #[] }, { accessFlags := 26, nameIndex := 176, descriptorIndex := 173, attributes := #[] }, { accessFlags := 8, nameIndex := 344, descriptorIndex := 339, attributes := #[] }, { accessFlags := 8, nameIndex := 338, descriptorIndex := 339, attributes := #[] }, { accessFlags := 4120, nameIndex := 245, descriptorIndex := 246, attributes := #[] }])
  fields := #[{ name := "E", type := .double, accessFlags := 25, slot := 0, constantValue := 0 }, { name := "PI", type := .double, accessFlags := 25, slot := 1, constantValue := 0 }, { name := "TAU", type := .double, accessFlags := 25, slot := 2, constantValue := 0 }, { name := "DEGREES_TO_RADIANS", type := .double, accessFlags := 26, slot := 3, constantValue := 0 }, { name := "RADIANS_TO_DEGREES", type := .double, accessFlags := 26, slot := 4, constantValue := 0 }, { name := "negativeZeroFloatBits", type := .long, accessFlags := 26, slot := 5, constantValue := 0 }, { name := "negativeZeroDoubleBits", type := .long, accessFlags := 26, slot := 6, constantValue := 0 }, { name := "twoToTheDoubleScaleUp", type := .double, accessFlags := 8, slot := 7, constantValue := 0 }, { name := "twoToTheDoubleScaleDown", type := .double, accessFlags := 8, slot := 8, constantValue := 0 }, { name := "$assertionsDisabled", type := .boolean, accessFlags := 4120, slot := 9, constantValue := 0 }]
  methods := #[k2m0, k2m1, k2m2]
  instanceTypes := #[]
  staticTypes := #[.double, .double, .double, .double, .double, .long, .long, .double, .double, .boolean]
  resolved := Array.replicate 460 none
  statics := none }

def pool3 : Array CpInfo := pool [(1, .methodref 2 3), (0, .class_ 4), (0, .nameAndType 5 6), (0, u "java/lang/Object"), (0, u "<init>"), (0, u "()V"), (0, .class_ 8), (0, u "java/lang/Record")] 13

def k3c0 : Code := { maxStack := 1, maxLocals := 1, code := jdk_30_method_1_code, exceptionTable := #[], attributes := #[] }
def k3m0 : Method := { name := "<init>", desc := "()V", sig := { parameters := [], returnType := none }, accessFlags := 4, code := some k3c0 }
/-- java/lang/Record -/
def k3 : Class := { plain "java/lang/Record" (some 0) with
  accessFlags := 1057
  interfaces := #[]
  cf := some (fileOf pool3 7 #[] #[{ accessFlags := 4, nameIndex := 5, descriptorIndex := 6, attributes := #[] }] 1057 2 #[] #[])
  fields := #[]
  methods := #[k3m0]
  instanceTypes := #[]
  staticTypes := #[]
  resolved := Array.replicate 22 none
  statics := none }

def pool4 : Array CpInfo := pool [(1, .methodref 2 3), (0, .class_ 4), (0, .nameAndType 5 6), (0, u "java/lang/Record"), (0, u "<init>"), (0, u "()V"), (3, .class_ 12), (1, u "com/example/briareus/briareus/model/Interval"), (9, .fieldref 10 23), (0, .nameAndType 24 25), (0, u "startMillis"), (0, u "J"), (0, .fieldref 10 27), (0, .nameAndType 28 25), (0, u "endMillis"), (20, u "(JJ)V"), (52, u "NANOS_PER_MILLI"), (0, u "I"), (9, u "(Lcom/example/briareus/briareus/model/Interval;)Z"), (0, u "encloses")] 35

def k4c0 : Code := { maxStack := 6, maxLocals := 5, code := prog_9_method_1_code, exceptionTable := #[], attributes := #[] }
def k4m0 : Method := { name := "<init>", desc := "(JJ)V", sig := { parameters := [.long, .long], returnType := none }, accessFlags := 1, code := some k4c0 }
def k4c1 : Code := { maxStack := 4, maxLocals := 2, code := prog_9_method_5_code, exceptionTable := #[], attributes := #[] }
def k4m1 : Method := { name := "encloses", desc := "(Lcom/example/briareus/briareus/model/Interval;)Z", sig := { parameters := [(.object "com/example/briareus/briareus/model/Interval")], returnType := some .boolean }, accessFlags := 1, code := some k4c1 }
/-- com/example/briareus/briareus/model/Interval -/
def k4 : Class := { plain "com/example/briareus/briareus/model/Interval" (some 3) with
  accessFlags := 49
  interfaces := #[]
  cf := some (fileOf pool4 10 #[] #[{ accessFlags := 1, nameIndex := 5, descriptorIndex := 49, attributes := #[] }, { accessFlags := 1, nameIndex := 114, descriptorIndex := 113, attributes := #[] }] 49 2 #[] #[{ accessFlags := 18, nameIndex := 24, descriptorIndex := 25, attributes := #[] }, { accessFlags := 18, nameIndex := 28, descriptorIndex := 25, attributes := #[] }, { accessFlags := 26, nameIndex := 102, descriptorIndex := 103, attributes := #[] }])
  fields := #[{ name := "startMillis", type := .long, accessFlags := 18, slot := 0, constantValue := 0 }, { name := "endMillis", type := .long, accessFlags := 18, slot := 1, constantValue := 0 }, { name := "NANOS_PER_MILLI", type := .int, accessFlags := 26, slot := 0, constantValue := 0 }]
  methods := #[k4m0, k4m1]
  instanceTypes := #[.long, .long]
  staticTypes := #[.int]
  resolved := Array.replicate 150 none
  statics := none }

def pool5 : Array CpInfo := pool [(1, u "java/lang/Cloneable"), (0, .class_ 1), (0, u "java/lang/Object"), (0, .class_ 3)] 3

/-- java/lang/Cloneable -/
def k5 : Class := { plain "java/lang/Cloneable" (some 0) with
  accessFlags := 1537
  interfaces := #[]
  cf := some (fileOf pool5 2 #[] #[] 1537 4 #[] #[])
  fields := #[]
  methods := #[]
  instanceTypes := #[]
  staticTypes := #[]
  resolved := Array.replicate 8 none
  statics := none }

def pool6 : Array CpInfo := pool [(1, u "java/io/Serializable"), (0, .class_ 1), (0, u "java/lang/Object"), (0, .class_ 3)] 3

/-- java/io/Serializable -/
def k6 : Class := { plain "java/io/Serializable" (some 0) with
  accessFlags := 1537
  interfaces := #[]
  cf := some (fileOf pool6 2 #[] #[] 1537 4 #[] #[])
  fields := #[]
  methods := #[]
  instanceTypes := #[]
  staticTypes := #[]
  resolved := Array.replicate 8 none
  statics := none }

/-- the primitive byte -/
def k7 : Class := { plain "byte" none with kind := .primitive 'B', accessFlags := 0x411 }
/-- [B -/
def k8 : Class := { plain "[B" (some 0) with kind := .array 7 .byte, interfaces := #[5, 6], accessFlags := 1041 }

/-- the primitive int -/
def k9 : Class := { plain "int" none with kind := .primitive 'I', accessFlags := 0x411 }
/-- [I -/
def k10 : Class := { plain "[I" (some 0) with kind := .array 9 .int, interfaces := #[5, 6], accessFlags := 1041 }

def heap : Heap := #[]
def classes : Array Class := #[k0, k1, k2, k3, k4, k5, k6, k7, k8, k9, k10]
def interned : List (Array UInt16 × Addr) := []
def slotsUsed : Nat := 0
def theMethod : MethodId := ⟨1, 2⟩
def args0 : Array Value := #[.long 5, .long 6, .long 7, .long 8]
def aboutOver (below : List Frame) : State where
  vm := { classes := classes, interned := interned.toArray }
  heap := heap
  slotsUsed := slotsUsed
  threads := #[{ frames := .invoking theMethod args0 :: below }]
def below0 : List Frame := [.native { method := ⟨0, 0⟩, args := #[] }]
def about1 : State := aboutOver below0
def p0 : Program := .bare "" "" ""
def e0 : Env := launch0.env 0 0 0
theorem w_frames : about1.frames = Frame.invoking theMethod args0 :: below0 := rfl
set_option maxRecDepth 65536 in
theorem w_args : argsFit about1.vm theMethod args0 = true := by decide +kernel
set_option maxRecDepth 65536 in
theorem w_heap : heapFits about1 = true := by decide +kernel
set_option maxRecDepth 65536 in
theorem w_runnable : about1.curStatus? = some .runnable := by decide +kernel
set_option maxRecDepth 65536 in
theorem w_alone : about1.alone = true := by decide +kernel
set_option maxRecDepth 65536 in
theorem w_named : about1.methodNamed? x = some theMethod := by decide +kernel
set_option maxRecDepth 65536 in
theorem w_hears : about1.hears theMethod below0 = true := by decide +kernel
set_option maxRecDepth 65536 in
theorem w_ripe : about1.ripe theMethod args0 below0 = true := by decide +kernel
theorem w_running : about1.status = .running := rfl
set_option maxRecDepth 65536 in
theorem w_room : about1.hasRoom e0.platform room_1 = true :=
  launch0.hasRoom_least _ room_1 (by decide +kernel) (by decide +kernel) (by decide +kernel) (by decide +kernel) (by decide +kernel) (by decide +kernel)
theorem allAtoms_all (ts : List Jvm.Cond) (a : Array Jvm.Value) (st : Jvm.State) : (allAtoms ts).before a st = ts.all (fun c => c.before a st) := by
  induction ts with
  | nil => rfl
  | cons c t ih =>
    show (Jvm.Cond.and c (allAtoms t)).before a st = _
    rw [Jvm.Cond.before_and, ih, List.all_cons]
def words1 : List Jvm.Cond := Jvm.Cond.code x code maxLocals ret :: tables_1
/-- a 'code' word, met by the world's own term for the bytes: nothing is compared byte by byte -/
theorem code_word {y : MethodName} {bytes : ByteArray} {mx : Nat} {rt : Option FieldType} {a : Array Value} {s : State} {m : MethodId} {meth : Method} {c : Code} (h1 : s.methodNamed? y = some m) (h2 : s.vm.method? m = some meth) (h3 : meth.code = some c) (h4 : c.code = bytes)
    (h5 : (c.maxLocals == mx && c.exceptionTable.isEmpty && decide (c.maxStack ≤ mostOperands) && decide (meth.sig.returnType = rt) && !meth.locks && decide (parseMethodDescriptor y.desc = some meth.sig)) = true) : (Jvm.Cond.code y bytes mx rt).before a s = true := by
  simp only [Bool.and_eq_true, beq_iff_eq, Bool.not_eq_true', decide_eq_true_eq] at h5
  obtain ⟨⟨⟨⟨⟨g1, g2⟩, g3⟩, g4⟩, g5⟩, g6⟩ := h5
  simp [Cond.before, Cond.holds, Cond.value, h1, h2, h3, h4, g1, g2, g3, g4, g5, g6]
def isCode : Jvm.Cond → Bool
  | .code _ _ _ _ => true
  | _ => false
theorem all_split {L : List Jvm.Cond} {P : Jvm.Cond → Bool} (h1 : L.all (fun c => isCode c || P c) = true) (h2 : ∀ c ∈ L.filter isCode, P c = true) : L.all P = true := by
  refine List.all_eq_true.mpr fun c hc => ?_
  have h := List.all_eq_true.mp h1 c hc
  rcases Bool.eq_false_or_eq_true (isCode c) with hi | hi
  · exact h2 c (List.mem_filter.mpr ⟨hc, hi⟩)
  · simpa [hi] using h
set_option maxRecDepth 65536 in
theorem w_c0 : (Jvm.Cond.code x code maxLocals ret).before args0 about1 = true := code_word (m := ⟨1, 2⟩) (meth := k1m2) (c := k1c2) (by decide +kernel) rfl rfl rfl (by decide +kernel)
set_option maxRecDepth 65536 in
theorem w_c1 : (Jvm.Cond.code ({ cls := "java/lang/Math", name := "min", desc := "(JJ)J" } : Jvm.MethodName) jdk_29_method_70_code (4 : Nat) (Option.some Jvm.ClassFile.FieldType.long)).before args0 about1 = true := code_word (m := ⟨2, 2⟩) (meth := k2m2) (c := k2c2) (by decide +kernel) rfl rfl rfl (by decide +kernel)
set_option maxRecDepth 65536 in
theorem w_c2 : (Jvm.Cond.code ({ cls := "java/lang/Math", name := "max", desc := "(JJ)J" } : Jvm.MethodName) jdk_29_method_66_code (4 : Nat) (Option.some Jvm.ClassFile.FieldType.long)).before args0 about1 = true := code_word (m := ⟨2, 1⟩) (meth := k2m1) (c := k2c1) (by decide +kernel) rfl rfl rfl (by decide +kernel)
set_option maxRecDepth 65536 in
theorem w_c3 : (Jvm.Cond.code ({ cls := "com/example/briareus/briareus/model/Interval", name := "<init>", desc := "(JJ)V" } : Jvm.MethodName) prog_9_method_1_code (5 : Nat) (Option.none : Option Jvm.ClassFile.FieldType)).before args0 about1 = true := code_word (m := ⟨4, 0⟩) (meth := k4m0) (c := k4c0) (by decide +kernel) rfl rfl rfl (by decide +kernel)
set_option maxRecDepth 65536 in
theorem w_c4 : (Jvm.Cond.code ({ cls := "java/lang/Record", name := "<init>", desc := "()V" } : Jvm.MethodName) jdk_30_method_1_code (1 : Nat) (Option.none : Option Jvm.ClassFile.FieldType)).before args0 about1 = true := code_word (m := ⟨3, 0⟩) (meth := k3m0) (c := k3c0) (by decide +kernel) rfl rfl rfl (by decide +kernel)
set_option maxRecDepth 65536 in
theorem w_c5 : (Jvm.Cond.code ({ cls := "java/lang/Object", name := "<init>", desc := "()V" } : Jvm.MethodName) object_method_1_code (1 : Nat) (Option.none : Option Jvm.ClassFile.FieldType)).before args0 about1 = true := code_word (m := ⟨0, 0⟩) (meth := k0m0) (c := k0c0) (by decide +kernel) rfl rfl rfl (by decide +kernel)
set_option maxRecDepth 65536 in
theorem w_c6 : (Jvm.Cond.code ({ cls := "com/example/briareus/briareus/model/IntervalEnclosesPinLaw", name := "inside", desc := "(JJJ)Z" } : Jvm.MethodName) method_2_code (6 : Nat) (Option.some Jvm.ClassFile.FieldType.boolean)).before args0 about1 = true := code_word (m := ⟨1, 1⟩) (meth := k1m1) (c := k1c1) (by decide +kernel) rfl rfl rfl (by decide +kernel)
set_option maxRecDepth 65536 in
theorem w_c7 : (Jvm.Cond.code ({ cls := "com/example/briareus/briareus/model/Interval", name := "encloses", desc := "(Lcom/example/briareus/briareus/model/Interval;)Z" } : Jvm.MethodName) prog_9_method_5_code (2 : Nat) (Option.some Jvm.ClassFile.FieldType.boolean)).before args0 about1 = true := code_word (m := ⟨4, 1⟩) (meth := k4m1) (c := k4c1) (by decide +kernel) rfl rfl rfl (by decide +kernel)
def codes1 : List Jvm.Cond := [Jvm.Cond.code x code maxLocals ret, Jvm.Cond.code ({ cls := "java/lang/Math", name := "min", desc := "(JJ)J" } : Jvm.MethodName) jdk_29_method_70_code (4 : Nat) (Option.some Jvm.ClassFile.FieldType.long), Jvm.Cond.code ({ cls := "java/lang/Math", name := "max", desc := "(JJ)J" } : Jvm.MethodName) jdk_29_method_66_code (4 : Nat) (Option.some Jvm.ClassFile.FieldType.long), Jvm.Cond.code ({ cls := "com/example/briareus/briareus/model/Interval", name := "<init>", desc := "(JJ)V" } : Jvm.MethodName) prog_9_method_1_code (5 : Nat) (Option.none : Option Jvm.ClassFile.FieldType), Jvm.Cond.code ({ cls := "java/lang/Record", name := "<init>", desc := "()V" } : Jvm.MethodName) jdk_30_method_1_code (1 : Nat) (Option.none : Option Jvm.ClassFile.FieldType), Jvm.Cond.code ({ cls := "java/lang/Object", name := "<init>", desc := "()V" } : Jvm.MethodName) object_method_1_code (1 : Nat) (Option.none : Option Jvm.ClassFile.FieldType), Jvm.Cond.code ({ cls := "com/example/briareus/briareus/model/IntervalEnclosesPinLaw", name := "inside", desc := "(JJJ)Z" } : Jvm.MethodName) method_2_code (6 : Nat) (Option.some Jvm.ClassFile.FieldType.boolean), Jvm.Cond.code ({ cls := "com/example/briareus/briareus/model/Interval", name := "encloses", desc := "(Lcom/example/briareus/briareus/model/Interval;)Z" } : Jvm.MethodName) prog_9_method_5_code (2 : Nat) (Option.some Jvm.ClassFile.FieldType.boolean)]
set_option maxRecDepth 65536 in
theorem codes_eq : words1.filter isCode = codes1 := rfl
theorem w_codes : ∀ c ∈ words1.filter isCode, c.before args0 about1 = true := by
  rw [codes_eq]
  intro c hc
  simp only [codes1, List.mem_cons, List.not_mem_nil, or_false] at hc
  rcases hc with rfl | rfl | rfl | rfl | rfl | rfl | rfl | rfl
  · exact w_c0
  · exact w_c1
  · exact w_c2
  · exact w_c3
  · exact w_c4
  · exact w_c5
  · exact w_c6
  · exact w_c7
set_option maxRecDepth 65536 in
theorem w_t1 : (words1.take 24).all (fun c => isCode c || c.before args0 about1) = true := by decide +kernel
set_option maxRecDepth 65536 in
theorem w_t2 : (words1.drop 24).all (fun c => isCode c || c.before args0 about1) = true := by decide +kernel
theorem w_tables : (allAtoms (Jvm.Cond.code x code maxLocals ret :: tables_1)).before args0 about1 = true := by
  rw [allAtoms_all]
  show words1.all (fun c => c.before args0 about1) = true
  refine all_split ?_ w_codes
  rw [← List.take_append_drop 24 words1, List.all_append, w_t1, w_t2]
  rfl
set_option maxRecDepth 65536 in
theorem w_case : (Jvm.Cond.and given_1 narrow_1).before args0 about1 = true := by decide +kernel
theorem w_applies : (headSpec (Jvm.Cond.code x code maxLocals ret :: tables_1) room_1).applies x e0.platform about1 = true :=
  (Spec.applies_iff w_frames).mpr ⟨w_running, w_runnable, w_alone, w_named, w_hears, w_ripe, w_room, w_tables⟩
theorem atStart : AtStart classFile x code maxLocals ret World_1 tables_1 room_1 Calls_1 rest_1 Pre_1 launch0 p0 e0 about1 theMethod args0 below0 :=
  ⟨lists_1, trivial, launch0.admits_env _ _ _, launch0.least_env, fairChoices_fair.cas, fairChoices_fair.clock, w_frames, w_args, w_heap, w_applies, trivial, trivial, w_case⟩
end start1
theorem witness_1 : WitnessClaimed_1 := ⟨start1.p0, start1.e0, start1.about1, start1.theMethod, start1.args0, start1.below0, start1.atStart⟩
end Jvm.Pilot.@@N@@
