import JvmDerived
import JvmDerived.Pilot.@@N@@Statement
import JvmDerived.Pilot.@@N@@Code
set_option linter.unusedVariables false
set_option linter.unusedSimpArgs false

namespace Jvm.Pilot.@@N@@
open Jvm Jvm.ClassFile Sem Op Lib Jvm.Free Jvm.Stand Jvm.LawKit Jvm.RoadKit Bundle Jvm.Pilot.@@N@@.Jvm.D
section Own
variable {p : Program} {l : Launch} {e : Env} {R : Room} {s : State} {m : MethodId} {args : Array Value} {below : List Frame} {meth : Method} {c : Code} {T : State} {locs : List Loc} {cells slots : Nat} {Z : State} {h h' : Heap}
/-- the run from A comes to the method's end as Q says, with at most kc new cells and ks new slots -/
def own_E (p : Program) (e : Env) (below : List Frame) (s : State) (Q : Option Value → Heap → List Loc → Prop) (kc ks : Nat) (A : State) : Prop :=
  ∃ s₂ o, Steps p.tables e below A s₂ ∧ s₂.status = .running ∧ Ended s₂ below o ∧ ∃ v L, o = .returned v ∧ Q v s₂.heap L ∧ FrameEnd s o s₂ L kc ks
variable {Q : Option Value → Heap → List Loc → Prop} {kc ks : Nat} {A B : State}
theorem own_st (k : ∀ t, Steps p.tables e below B t → Steps p.tables e below A t) (h : own_E p e below s Q kc ks B) : own_E p e below s Q kc ks A := by
  obtain ⟨t, o, h1, h2⟩ := h
  exact ⟨t, o, k t h1, h2⟩
theorem own_end (X : Stand p l e R s m args below meth c T locs cells slots) {v : Option Value} (hv : meth.sig.returnType = none → v = none) (hlk : meth.locks = false)
    (hk : ∀ fs, (∀ (f : JFrame) (acts : List Action), f.method = m → f.locked = none → f.entered = [] → (doReturn e (T.setTop f) acts v).1 = T.setFrames fs) → Steps p.tables e below A (T.setFrames fs)) (hc : cells ≤ kc) (hs : slots ≤ ks) (hQ : Q v T.heap locs) : own_E p e below s Q kc ks A := by
  obtain ⟨fs, hr, hrun, hended, hW, hsame⟩ := X.leave (v := v) hv hlk
  exact ⟨_, _, hk fs hr, hrun, hended, _, _, rfl, hQ, ⟨_, rfl⟩, hW, hsame.mono hc hs⟩
theorem own_retN (X : Stand p l e R s m args below meth c T locs cells slots) (hx : p.tables.exec = Jvm.exec) {pc : Nat} {Ls : Array Slot} {z z' : Int32} {t : FieldType} {rest : List Value} (hret : meth.sig.returnType = some t) (ht : t = .boolean ∨ t = .byte ∨ t = .char ∨ t = .short) (hlk : meth.locks = false)
    (hd : decode c.code pc = .ok (.ireturn, 1)) (hz : nar t z = z') (hc : cells ≤ kc) (hs : slots ≤ ks) (hQ : Q (some (.int z')) T.heap locs) : own_E p e below s Q kc ks (T.setTop (mkF m pc Ls (.int z :: rest))) := by
  subst hz
  exact own_end X (fun q => by rw [hret] at q; cases q) hlk (fun fs hr => retN X hx hret ht hd hr) hc hs hQ
theorem own_retI (X : Stand p l e R s m args below meth c T locs cells slots) (hx : p.tables.exec = Jvm.exec) {pc : Nat} {Ls : Array Slot} {z : Int32} {rest : List Value} (hret : meth.sig.returnType = some .int) (hlk : meth.locks = false)
    (hd : decode c.code pc = .ok (.ireturn, 1)) (hc : cells ≤ kc) (hs : slots ≤ ks) (hQ : Q (some (.int z)) T.heap locs) : own_E p e below s Q kc ks (T.setTop (mkF m pc Ls (.int z :: rest))) := by
  refine own_end X (fun q => by rw [hret] at q; cases q) hlk (fun fs hr => ?_) hc hs hQ
  have hm' : T.vm.method? m = some meth := X.method'
  have hn : narrow .int (.int z) = .int z := rfl
  show Steps p.tables e below (T.setTop { method := m, pc := pc, locals := Ls, stack := _ :: rest, locked := none }) _
  jvm_step X.here [X.here.top, hx, hd, hm', hret, hn]
  first | (intro acts; rw [hr _ acts rfl rfl rfl]) | rw [hr _ _ rfl rfl rfl]
  exact Steps.refl _
theorem own_retJ (X : Stand p l e R s m args below meth c T locs cells slots) (hx : p.tables.exec = Jvm.exec) {pc : Nat} {Ls : Array Slot} {z : Int64} (hret : meth.sig.returnType = some .long) (hlk : meth.locks = false)
    (hd : decode c.code pc = .ok (.lreturn, 1)) (hc : cells ≤ kc) (hs : slots ≤ ks) (hQ : Q (some (.long z)) T.heap locs) : own_E p e below s Q kc ks (T.setTop (mkF m pc Ls [.long z])) :=
  own_end X (fun q => by rw [hret] at q; cases q) hlk (fun fs hr => X.lreturnOut hx hret hd hr) hc hs hQ
theorem own_retR (X : Stand p l e R s m args below meth c T locs cells slots) (hx : p.tables.exec = Jvm.exec) {pc : Nat} {Ls : Array Slot} {w : Value} {t : FieldType} (hw : w.isRef = true) (hret : meth.sig.returnType = some t) (ht : t.isReference = true) (hlk : meth.locks = false)
    (hd : decode c.code pc = .ok (.areturn, 1)) (hc : cells ≤ kc) (hs : slots ≤ ks) (hQ : Q (some w) T.heap locs) : own_E p e below s Q kc ks (T.setTop (mkF m pc Ls [w])) :=
  own_end X (fun q => by rw [hret] at q; cases q) hlk (fun fs hr => X.areturnOut hx hw hret ht hd hr) hc hs hQ
theorem own_retV (X : Stand p l e R s m args below meth c T locs cells slots) (hx : p.tables.exec = Jvm.exec) {pc : Nat} {Ls : Array Slot} (hret : meth.sig.returnType = none) (hlk : meth.locks = false)
    (hd : decode c.code pc = .ok (.return_, 1)) (hc : cells ≤ kc) (hs : slots ≤ ks) (hQ : Q none T.heap locs) : own_E p e below s Q kc ks (T.setTop (mkF m pc Ls [])) :=
  own_end X (fun _ => rfl) hlk (fun fs hr => X.returnOut hx hret hd hr) hc hs hQ
/-- a boolean as the machine holds it -/
def own_b (b : Bool) : Int32 := if b then 1 else 0
theorem own_b1 {P : Prop} [Decidable P] (h : P) : own_b (decide P) = 1 := by simp [own_b, h]
theorem own_bz {P : Prop} [Decidable P] (h : ¬ P) : own_b (decide P) = 0 := by simp [own_b, h]
theorem own_lt32 {x y : Int32} (h : x < y) : x.toInt < y.toInt := Int32.lt_iff_toInt_lt.mp h
theorem own_nlt32 {x y : Int32} (h : ¬ x < y) : ¬ x.toInt < y.toInt := fun q => h (Int32.lt_iff_toInt_lt.mpr q)
theorem own_eq32 {x y : Int32} (h : x = y) : x.toInt = y.toInt := congrArg _ h
theorem own_neq32 {x y : Int32} (h : ¬ x = y) : ¬ x.toInt = y.toInt := fun q => h (Int32.toInt_inj.mp q)
theorem own_lt64 {x y : Int64} (h : x < y) : x.toInt < y.toInt := Int64.lt_iff_toInt_lt.mp h
theorem own_nlt64 {x y : Int64} (h : ¬ x < y) : ¬ x.toInt < y.toInt := fun q => h (Int64.lt_iff_toInt_lt.mpr q)
theorem own_eq64 {x y : Int64} (h : x = y) : x.toInt = y.toInt := congrArg _ h
theorem own_neq64 {x y : Int64} (h : ¬ x = y) : ¬ x.toInt = y.toInt := fun q => h (Int64.toInt_inj.mp q)
theorem own_b0 {b : Bool} : own_b b = 0 ↔ b = false := by cases b <;> decide
theorem own_nb (b : Bool) : nar .boolean (own_b b) = own_b b := by cases b <;> rfl
theorem own_nbb (x : Int32) : nar .byte (x.toInt8.toInt32) = x.toInt8.toInt32 := by
  show x.toInt8.toInt32.toInt8.toInt32 = x.toInt8.toInt32
  rw [Int8.toInt8_toInt32]
theorem own_stV {l : Array Slot} {i : Nat} {v : Value} {o : Slot} (hold : l[i]? = some o) (ho : o = .unset ∨ ∃ w, o = .val w ∧ w.category = 1) (hv : v.category = 1) : storeLocals l i v = some (l.setIfInBounds i (.val v)) := XS.store1 hold ho hv
theorem own_narV {ty : FieldType} {v : Value} (hv : v.isRef = true) : narrow ty v = v := by
  rcases ref_cases hv with rfl | ⟨a, rfl⟩ <;> cases ty <;> rfl
theorem own_fitV {ty : FieldType} {v : Value} (ht : ty.isReference = true) (hv : v.isRef = true) : fits ty v = true := by
  rcases ref_cases hv with rfl | ⟨a, rfl⟩ <;> cases ty <;> first | rfl | (cases ht; done)
/-- an array of n places, whose place j holds f j -/
def own_A (Z : State) (h : Heap) (a : Addr) (ty : FieldType) (n : Nat) (f : Nat → Int32) : Prop := ∃ c : Cell, Arr Z h a c ty ∧ c.slots.size = n ∧ n < 2 ^ 31 ∧ (∀ j, j < n → c.slots[j]? = some (.int (f j))) ∧ ∀ j, j < n → fits ty (.int (f j)) = true
def own_up (f : Nat → Int32) (i : Nat) (v : Int32) (k : Nat) : Int32 := if k = i then v else f k
theorem own_up_same (f : Nat → Int32) (i : Nat) (v : Int32) : own_up f i v i = v := if_pos rfl
theorem own_up_ne (f : Nat → Int32) {i k : Nat} (v : Int32) (h : ¬ k = i) : own_up f i v k = f k := if_neg h
theorem own_catV {v : Value} (h : v.isRef = true) : v.category = 1 := by rcases ref_cases h with rfl | ⟨a, rfl⟩ <;> rfl
abbrev own_ix (j : Int32) (i : Nat) : Prop := ¬ j < 0 ∧ j.toNatClampNeg = i
variable {a b : Addr} {ty : FieldType} {n i : Nat} {f : Nat → Int32} {j x : Int32} {pc : Nat} {Ls : Array Slot} {rest : List Value} {sl : Nat} {v : Value} {ws : List Addr}
theorem own_A.lt (F : own_A Z h a ty n f) : a < h.size := by obtain ⟨c, A, -⟩ := F; exact A.lt
theorem own_A.ext (F : own_A Z h a ty n f) (E : Ext h h') : own_A Z h' a ty n f := by obtain ⟨c, A, r⟩ := F; exact ⟨c, A.ext E, r⟩
theorem own_A.other (F : own_A Z h b ty n f) (W : Wr h h' a sl v) (q : b ≠ a) : own_A Z h' b ty n f := by obtain ⟨c, A, r⟩ := F; exact ⟨c, A.other W q, r⟩
theorem own_A.keep (F : own_A Z h a ty n f) (K : Keep h h' ws) (q : a ∉ ws) : own_A Z h' a ty n f := by obtain ⟨c, A, r⟩ := F; exact ⟨c, ⟨K.2.1 a c A.1 q, A.2⟩, r⟩
theorem own_A.congr {g : Nat → Int32} (F : own_A Z h a ty n f) (q : ∀ j, j < n → f j = g j) : own_A Z h a ty n g := by obtain ⟨c, A, r1, r2, r3, r4⟩ := F; exact ⟨c, A, r1, r2, fun j hj => by rw [← q j hj]; exact r3 j hj, fun j hj => by rw [← q j hj]; exact r4 j hj⟩
theorem own_A.new {k : ClassId} {z : Int32} (A : Arr Z h a (newA k ty z) ty) (q : ¬ z < 0) (hz : z.toNatClampNeg = n) (hd : defaultValue ty = .int 0 := by rfl) : own_A Z h a ty n (fun _ => 0) := by
  subst hz
  exact ⟨_, A, sz_new _ _ _, (back32 q).2, fun j hj => by simp [newA, hj, hd], fun j hj => by rw [← hd]; cases ty <;> rfl⟩
theorem own_A.set (F : own_A Z h a ty n f) (hj : own_ix j i) (W : Wr h h' a j.toNatClampNeg (.int x)) (hf : fits ty (.int x) = true) : own_A Z h' a ty n (own_up f i x) := by
  obtain ⟨c, A, r1, r2, r3, r4⟩ := F
  obtain ⟨hj1, rfl⟩ := hj
  refine ⟨_, A.same W, by rw [sz_set]; exact r1, r2, fun k hk => ?_, fun k hk => ?_⟩ <;> by_cases q : k = j.toNatClampNeg
  · subst q; simp [Cell.setSlot, own_up, r1, hk]
  · simp only [Cell.setSlot, own_up, if_neg q]; rw [Array.getElem?_setIfInBounds_ne (Ne.symm q)]; exact r3 k hk
  · simp only [own_up, if_pos q]; exact hf
  · simp only [own_up, if_neg q]; exact r4 k hk
theorem own_in (hj : own_ix j i) (hi : i < n) {c : Cell} (hc : c.slots.size = n) : ¬ (j < 0 ∨ c.slots.size ≤ j.toNatClampNeg) := by
  rintro (q | q)
  · exact hj.1 q
  · rw [hj.2, hc] at q; omega
theorem own_stB (X : Stand p l e R s m args below meth c T locs cells slots) (hx : p.tables.exec = Jvm.exec) (hZ : Z.Warmed39 s.vm) (eT : T.heap = h) (A : own_A Z h a .byte n f) (hj : own_ix j i) (hi : i < n) (hd : decode c.code pc = .ok (.bastore, 1)) :
    ∃ T' h', Stand p l e R s m args below meth c T' (locs ++ [⟨a, j.toNatClampNeg⟩]) cells slots ∧ T'.heap = h' ∧ Wr h h' a j.toNatClampNeg (.int (nar .byte x)) ∧ own_A Z h' a .byte n (own_up f i (nar .byte x)) ∧ ∀ t, Steps p.tables e below (T'.setTop (mkF m (pc + 1) Ls rest)) t → Steps p.tables e below (T.setTop (mkF m pc Ls (.int x :: .int j :: .ref a :: rest))) t := by
  have A0 := A
  obtain ⟨cl, A1, r1, r2, r3, r4⟩ := A
  obtain ⟨T', h', X', e', W, st⟩ := stB X hx hZ eT A1 (j := j) (x := x) (own_in hj hi r1) (g := mkF m pc Ls (.int x :: .int j :: .ref a :: rest)) rfl rfl hd
  exact ⟨T', h', X', e', W, A0.set hj W (fits_nar_byte x), st⟩
theorem own_stI (X : Stand p l e R s m args below meth c T locs cells slots) (hx : p.tables.exec = Jvm.exec) (hZ : Z.Warmed39 s.vm) (eT : T.heap = h) (A : own_A Z h a .int n f) (hj : own_ix j i) (hi : i < n) (hd : decode c.code pc = .ok (.iastore, 1)) :
    ∃ T' h', Stand p l e R s m args below meth c T' (locs ++ [⟨a, j.toNatClampNeg⟩]) cells slots ∧ T'.heap = h' ∧ Wr h h' a j.toNatClampNeg (.int x) ∧ own_A Z h' a .int n (own_up f i x) ∧ ∀ t, Steps p.tables e below (T'.setTop (mkF m (pc + 1) Ls rest)) t → Steps p.tables e below (T.setTop (mkF m pc Ls (.int x :: .int j :: .ref a :: rest))) t := by
  have A0 := A
  obtain ⟨cl, A1, r1, r2, r3, r4⟩ := A
  obtain ⟨T', h', X', e', W, st⟩ := stI X hx hZ eT A1 (j := j) (x := x) (own_in hj hi r1) (g := mkF m pc Ls (.int x :: .int j :: .ref a :: rest)) rfl rfl hd
  exact ⟨T', h', X', e', W, A0.set hj W rfl, st⟩
theorem own_ldB (X : Stand p l e R s m args below meth c T locs cells slots) (hx : p.tables.exec = Jvm.exec) (hZ : Z.Warmed39 s.vm) (eT : T.heap = h) (A : own_A Z h a .byte n f) (hj : own_ix j i) (hi : i < n) (hd : decode c.code pc = .ok (.baload, 1)) (t : State)
    (k : Steps p.tables e below (T.setTop (mkF m (pc + 1) Ls (.int (f i) :: rest))) t) : Steps p.tables e below (T.setTop (mkF m pc Ls (.int j :: .ref a :: rest))) t := by
  obtain ⟨cl, A1, r1, r2, r3, r4⟩ := A
  exact X.baloadBytes hx (j := j) (v := .int (f i)) (by rw [eT]; exact A1.1) (State.isArrayOf_alike hZ.alike A1.2.1) A1.2.2 (own_in hj hi r1) (by rw [hj.2]; exact r3 i hi) (g := mkF m pc Ls (.int j :: .ref a :: rest)) rfl rfl hd t k
theorem own_ldI (X : Stand p l e R s m args below meth c T locs cells slots) (hx : p.tables.exec = Jvm.exec) (hZ : Z.Warmed39 s.vm) (eT : T.heap = h) (A : own_A Z h a .int n f) (hj : own_ix j i) (hi : i < n) (hd : decode c.code pc = .ok (.iaload, 1)) (t : State)
    (k : Steps p.tables e below (T.setTop (mkF m (pc + 1) Ls (.int (f i) :: rest))) t) : Steps p.tables e below (T.setTop (mkF m pc Ls (.int j :: .ref a :: rest))) t := by
  obtain ⟨cl, A1, r1, r2, r3, r4⟩ := A
  exact X.iaload hx (j := j) (v := .int (f i)) (by rw [eT]; exact A1.1) (State.isArrayOf_alike hZ.alike A1.2.1) A1.2.2 (own_in hj hi r1) (by rw [hj.2]; exact r3 i hi) (g := mkF m pc Ls (.int j :: .ref a :: rest)) rfl rfl hd t k
theorem own_len {z : Int32} (X : Stand p l e R s m args below meth c T locs cells slots) (hx : p.tables.exec = Jvm.exec) (hZ : Z.Warmed39 s.vm) (eT : T.heap = h) (A : own_A Z h a ty n f) (hz : n.toInt32 = z) (hd : decode c.code pc = .ok (.arraylength, 1)) (t : State)
    (k : Steps p.tables e below (T.setTop (mkF m (pc + 1) Ls (.int z :: rest))) t) : Steps p.tables e below (T.setTop (mkF m pc Ls (.ref a :: rest))) t := by
  obtain ⟨cl, A1, r1, r2, r3, r4⟩ := A
  subst hz
  refine X.arraylength hx (by rw [eT]; exact A1.1) (State.isArrayOf_alike hZ.alike A1.2.1) (g := mkF m pc Ls (.ref a :: rest)) rfl rfl hd t ?_
  rw [r1]; exact k
theorem own_clone (X : Stand p l e R s m args below meth c T locs cells slots) (hx : p.tables.exec = Jvm.exec) (hZ : Z.Warmed39 s.vm) {a0 : Array Value} {own ad : String} {index : Nat} (hown : s.vm.findClass own = some m.cls)
    (w1 : (Cond.methodLink own index ⟨ad, "clone", "()Ljava/lang/Object;"⟩).before a0 Z = true) (w2 : (Cond.sameMethod ad "java/lang/Object" "clone" "()Ljava/lang/Object;").before a0 Z = true) (w3 : (Cond.native ⟨"java/lang/Object", "clone", "()Ljava/lang/Object;"⟩).before a0 Z = true)
    (w4 : (Cond.instanceMethod ⟨"java/lang/Object", "clone", "()Ljava/lang/Object;"⟩).before a0 Z = true) (w5 : (Cond.selects ad ⟨ad, "clone", "()Ljava/lang/Object;"⟩ ⟨"java/lang/Object", "clone", "()Ljava/lang/Object;"⟩).before a0 Z = true) (w6 : (Cond.castable ad "java/lang/Cloneable").before a0 Z = true)
    (eT : T.heap = h) (A : own_A Z h a ty n f) (E : Exa Z h a ad) (hsize : Ls.size = c.maxLocals) (hd : decode c.code pc = .ok (.invokevirtual index, 3))
    (hf : 1 ≤ R.frames) {W cap : Nat} (hW : 2 * 0 + (rest.map fun v => v.category).sum ≤ W) (hl : W + 14 ≤ R.locals) (hcap : n ≤ cap) (hc : cells + 1 ≤ R.cells) (hsl : slots + cap ≤ R.slots) :
    ∃ T' h', Stand p l e R s m args below meth c T' locs (cells + 1) (slots + cap) ∧ T'.heap = h' ∧ Ext h h' ∧ own_A Z h' h.size ty n f ∧ Exa Z h' h.size ad ∧
      ∀ t, Steps p.tables e below (T'.setTop (mkF m (pc + 3) Ls (.ref h.size :: rest))) t → Steps p.tables e below (T.setTop (mkF m pc Ls (.ref a :: rest))) t := by
  obtain ⟨cl, A1, r1, r2, r3, r4⟩ := A
  have FC : FitC Z cl := fitC_of A1 fun i hi v hv => by rw [r1] at hi; rw [r3 i hi] at hv; cases hv; exact r4 i hi
  obtain ⟨T', h', X', e', ex, A', E', st⟩ := cloneA X hx hZ hown w1 w2 w3 w4 w5 w6 eT A1 E FC (g := mkF m pc Ls (.ref a :: rest)) rfl hsize rfl hd hf hW hl (by rw [r1]; exact hcap) hc hsl
  exact ⟨T', h', X', e', ex, ⟨cloneOf cl, A', r1, r2, r3, r4⟩, E', st⟩
theorem own_selP {s : State} {args : Array Value} {y : MethodName} {n : Nat} (hin : (Cond.instantiable y.cls n).before args s = true) (hpriv : s.PrivateAt y) (hinst : (Cond.instanceMethod y).before args s = true) (hy : y.cls ≠ "java/lang/invoke/MethodHandle" ∧ y.cls ≠ "java/lang/invoke/VarHandle") : (Cond.selects y.cls y y).before args s = true := by
  obtain ⟨c, k, h1, h2, -, h4, -⟩ := Cond.instantiable_spec hin
  exact selects_self_of_private h1 h2 (Bool.or_eq_false_iff.mp h4).1 hpriv hinst hy
theorem own_ixa (h : own_ix j i) (k : Nat) (hi : i + k < 2 ^ 31) : own_ix (j + Int32.ofNat k) (i + k) := by
  obtain ⟨h1, h2⟩ := h
  have e0 : (0 : Int32).toInt = 0 := rfl
  have e1 : (Int32.ofNat k).toInt = k := Int32.toInt_ofNat_of_lt (by omega)
  rw [Int32.lt_iff_toInt_lt, e0] at h1
  simp only [Int32.toNatClampNeg] at h2
  have h3 := c_iadd j (Int32.ofNat k); have h4 := rng32 (j + Int32.ofNat k)
  rw [e1] at h3
  refine ⟨by rw [Int32.lt_iff_toInt_lt, e0]; omega, ?_⟩
  simp only [Int32.toNatClampNeg]; omega
theorem own_ixI (h : own_ix j i) : j.toInt = i := by
  obtain ⟨h1, h2⟩ := h
  have e0 : (0 : Int32).toInt = 0 := rfl
  rw [Int32.lt_iff_toInt_lt, e0] at h1
  simp only [Int32.toNatClampNeg] at h2; omega
theorem own_ixof (h : j.toInt = i) : own_ix j i := by
  have e0 : (0 : Int32).toInt = 0 := rfl
  refine ⟨by rw [Int32.lt_iff_toInt_lt, e0]; omega, ?_⟩
  simp only [Int32.toNatClampNeg]; omega
theorem own_ixs (h : ¬ j < 0) : own_ix j j.toNatClampNeg := ⟨h, rfl⟩
theorem own_and3 (x : Int32) (k : Nat) (hk : k < 2 ^ 31) : ¬ (x &&& Int32.ofNat k) < 0 ∧ (x &&& Int32.ofNat k).toNatClampNeg ≤ k := by
  have h0 : 0 ≤ (Int32.ofNat k).toInt := by rw [Int32.toInt_ofNat_of_lt hk]; omega
  have h1 := (c_andS x (Int32.ofNat k)).2.2 h0
  have e0 : (0 : Int32).toInt = 0 := rfl
  refine ⟨by rw [Int32.lt_iff_toInt_lt, e0]; omega, ?_⟩
  have hb : (x &&& Int32.ofNat k).toBitVec.toNat ≤ k := by
    have : (x &&& Int32.ofNat k).toBitVec.toNat = x.toBitVec.toNat &&& (Int32.ofNat k).toBitVec.toNat := by rw [Int32.toBitVec_and, BitVec.toNat_and]
    rw [this]
    refine Nat.le_trans Nat.and_le_right ?_
    show (BitVec.ofNat 32 k).toNat ≤ k
    rw [BitVec.toNat_ofNat]; exact Nat.mod_le _ _
  have e : (x &&& Int32.ofNat k).toInt = ((x &&& Int32.ofNat k).toBitVec.toNat : Int) := by
    show (x &&& Int32.ofNat k).toBitVec.toInt = _
    rw [BitVec.toInt_eq_toNat_cond]; split
    · rfl
    · omega
  simp only [Int32.toNatClampNeg, e]; omega
end Own

def own_min (x y : Int64) : Int64 := if y < x then y else x
def own_max (x y : Int64) : Int64 := if x < y then y else x
theorem own_mmI (x y : Int64) : (own_min x y).toInt = min x.toInt y.toInt ∧ (own_max x y).toInt = max x.toInt y.toInt := by
  unfold own_min own_max
  constructor <;> split <;> rename_i q <;> rw [Int64.lt_iff_toInt_lt] at q <;> omega
theorem own_mm {x y : Int64} (h : ¬ x = y) : own_min x y < own_max x y := by
  have h2 := own_neq64 h; have := own_mmI x y
  rw [Int64.lt_iff_toInt_lt]; omega
theorem own_mm' {x y : Int64} (h : ¬ own_min x y = own_max x y) : own_min x y < own_max x y := by
  have h2 := own_neq64 h; have := own_mmI x y
  rw [Int64.lt_iff_toInt_lt]; omega
theorem own_b1_d0 : decode jdk_29_method_70_code 0 = .ok (.lload_n 0, 1) := by decide +kernel
theorem own_b1_d1 : decode jdk_29_method_70_code 1 = .ok (.lload_n 2, 1) := by decide +kernel
theorem own_b1_d2 : decode jdk_29_method_70_code 2 = .ok (.lcmp, 1) := by decide +kernel
theorem own_b1_d3 : decode jdk_29_method_70_code 3 = .ok (.ifCond .gt 7, 3) := by decide +kernel
theorem own_b1_d6 : decode jdk_29_method_70_code 6 = .ok (.lload_n 0, 1) := by decide +kernel
theorem own_b1_d7 : decode jdk_29_method_70_code 7 = .ok (.goto 4, 3) := by decide +kernel
theorem own_b1_d10 : decode jdk_29_method_70_code 10 = .ok (.lload_n 2, 1) := by decide +kernel
theorem own_b1_d11 : decode jdk_29_method_70_code 11 = .ok (.lreturn, 1) := by decide +kernel
theorem own_ef_rm1 (m : MethodId) (x0 : Int64) (x1 : Int64) : entryFrame m #[(.long x0), (.long x1)] 4 = mkF m 0 #[.val (.long x0), .second, .val (.long x1), .second] [] := by first | (simp [entryFrame, mkF, argsToLocals, Value.category]; done) | rfl
def Q1 (Z : State) (x0 : Int64) (x1 : Int64) (h0 : Heap) (n0 : Nat) (v : Option Value) (h : Heap) (L : List Loc) : Prop := v = some (.long (own_min x0 x1)) ∧ Fr n0 L ∧ h = h0
set_option maxRecDepth 65536 in
set_option maxHeartbeats 40000000 in
theorem rm1 (l : Launch) (Z : State) (a0 : Array Value) (hw : ∀ d ∈ tables_1, d.before a0 Z = true) (ws : List Jvm.Cond) (x0 : Int64) (x1 : Int64) (h0 : Heap) (n0 : Nat) (Z0 : n0 ≤ h0.size) :
    MetFree l (⟨"java/lang/Math", "min", "(JJ)J"⟩ : MethodName) (head1 (Jvm.Cond.code (⟨"java/lang/Math", "min", "(JJ)J"⟩ : MethodName) jdk_29_method_70_code 4 (some .long) :: ws) ({ frames := 0, cells := 0, slots := 0, locals := 0 } : Room)) (fun aa_ U_ => aa_ = #[(.long x0), (.long x1)] ∧ Z.Warmed39 U_.vm ∧ U_.heap = h0) (fun _ _ _ _ _ => True) (fun _ U_ o_ U1_ => ∃ v_ L_, o_ = .returned v_ ∧ Q1 Z x0 x1 h0 n0 v_ U1_.heap L_ ∧ FrameEnd U_ o_ U1_ L_ ({ frames := 0, cells := 0, slots := 0, locals := 0 } : Room).cells ({ frames := 0, cells := 0, slots := 0, locals := 0 } : Room).slots) := by
  refine MetFree.of_bodySF (Jvm.Free.JP.mathPlain rfl (by decide +kernel)) hisR ?_
  intro p e s m args below meth c s₁ Bd hml0 hP hK
  obtain ⟨rfl, hZ, hh⟩ := hP
  have hx := Bd.exec
  have hby := Bd.bytes
  have hlk := Bd.notSynchronized
  have hml : c.maxLocals = 4 := hml0
  have hown : s.vm.findClass "java/lang/Math" = some m.cls := findClass_of_methodNamed Bd.named
  have hnm := (name_of_methodNamed Bd.named Bd.method).1
  have X0 : Stand p l e ({ frames := 0, cells := 0, slots := 0, locals := 0 } : Room) s m #[(.long x0), (.long x1)] below meth c s₁ [] 0 0 := Stand.of_body Bd
  have e0 : s₁.heap = h0 := by rw [← hh, Bd.state]; rfl
  have N0 := Fr.nil n0
  show own_E p e below s (Q1 Z x0 x1 h0 n0) ({ frames := 0, cells := 0, slots := 0, locals := 0 } : Room).cells ({ frames := 0, cells := 0, slots := 0, locals := 0 } : Room).slots (s₁.setTop (entryFrame m #[(.long x0), (.long x1)] 4))
  refine own_st (B := s₁.setTop (mkF m 0 #[.val (.long x0), .second, .val (.long x1), .second] [])) (fun t_ k_ => castTop (own_ef_rm1 m x0 x1) k_) ?_
  refine own_st (B := s₁.setTop (mkF m 1 #[.val (.long x0), .second, .val (.long x1), .second] [(.long x0)])) (fun t_ k_ => XS.lloadN X0.here hx rfl (hb hby own_b1_d0) rfl k_) ?_
  refine own_st (B := s₁.setTop (mkF m 2 #[.val (.long x0), .second, .val (.long x1), .second] [(.long x1), (.long x0)])) (fun t_ k_ => XS.lloadN X0.here hx rfl (hb hby own_b1_d1) rfl k_) ?_
  refine own_st (B := s₁.setTop (mkF m 3 #[.val (.long x0), .second, .val (.long x1), .second] [(.int (lcmpW x0 x1))])) (fun t_ k_ => XS.lcmp X0.here hx rfl (hb hby own_b1_d2) rfl k_) ?_
  by_cases hc1 : x1 < x0
  · have hd1 := own_lt64 hc1
    refine own_st (B := s₁.setTop (mkF m 10 #[.val (.long x0), .second, .val (.long x1), .second] [])) (fun t_ k_ => XS.ifYes X0.here hx rfl (pc0 := 3) (pc' := 10) rfl (hb hby own_b1_d3) rfl ((if0 _ _).trans (tlt ((lw_gt _ _).mpr hc1)).2.2.1) (by decide) (by decide) k_) ?_
    refine own_st (B := s₁.setTop (mkF m 11 #[.val (.long x0), .second, .val (.long x1), .second] [(.long x1)])) (fun t_ k_ => XS.lloadN X0.here hx rfl (hb hby own_b1_d10) rfl k_) ?_
    refine own_retJ X0 hx Bd.returns hlk (hb hby own_b1_d11) (by decide) (by decide) ?_
    show Q1 Z x0 x1 h0 n0 _ s₁.heap _
    rw [e0]
    exact ⟨by simp [own_min, hc1], N0, rfl⟩
  · have hd1 := own_nlt64 hc1
    refine own_st (B := s₁.setTop (mkF m 6 #[.val (.long x0), .second, .val (.long x1), .second] [])) (fun t_ k_ => XS.ifNo X0.here hx rfl (hb hby own_b1_d3) rfl ((if0 _ _).trans (flt (fun q => hc1 ((lw_gt _ _).mp q))).2.2.1) k_) ?_
    refine own_st (B := s₁.setTop (mkF m 7 #[.val (.long x0), .second, .val (.long x1), .second] [(.long x0)])) (fun t_ k_ => XS.lloadN X0.here hx rfl (hb hby own_b1_d6) rfl k_) ?_
    refine own_st (B := s₁.setTop (mkF m 11 #[.val (.long x0), .second, .val (.long x1), .second] [(.long x0)])) (fun t_ k_ => XS.goto X0.here hx rfl (pc0 := 7) (pc' := 11) rfl (hb hby own_b1_d7) (by decide) (by decide) k_) ?_
    refine own_retJ X0 hx Bd.returns hlk (hb hby own_b1_d11) (by decide) (by decide) ?_
    show Q1 Z x0 x1 h0 n0 _ s₁.heap _
    rw [e0]
    exact ⟨by simp [own_min, hc1], N0, rfl⟩
theorem own_b2_d0 : decode jdk_29_method_66_code 0 = .ok (.lload_n 0, 1) := by decide +kernel
theorem own_b2_d1 : decode jdk_29_method_66_code 1 = .ok (.lload_n 2, 1) := by decide +kernel
theorem own_b2_d2 : decode jdk_29_method_66_code 2 = .ok (.lcmp, 1) := by decide +kernel
theorem own_b2_d3 : decode jdk_29_method_66_code 3 = .ok (.ifCond .lt 7, 3) := by decide +kernel
theorem own_b2_d6 : decode jdk_29_method_66_code 6 = .ok (.lload_n 0, 1) := by decide +kernel
theorem own_b2_d7 : decode jdk_29_method_66_code 7 = .ok (.goto 4, 3) := by decide +kernel
theorem own_b2_d10 : decode jdk_29_method_66_code 10 = .ok (.lload_n 2, 1) := by decide +kernel
theorem own_b2_d11 : decode jdk_29_method_66_code 11 = .ok (.lreturn, 1) := by decide +kernel
theorem own_ef_rm2 (m : MethodId) (x0 : Int64) (x1 : Int64) : entryFrame m #[(.long x0), (.long x1)] 4 = mkF m 0 #[.val (.long x0), .second, .val (.long x1), .second] [] := by first | (simp [entryFrame, mkF, argsToLocals, Value.category]; done) | rfl
def Q2 (Z : State) (x0 : Int64) (x1 : Int64) (h0 : Heap) (n0 : Nat) (v : Option Value) (h : Heap) (L : List Loc) : Prop := v = some (.long (own_max x0 x1)) ∧ Fr n0 L ∧ h = h0
set_option maxRecDepth 65536 in
set_option maxHeartbeats 40000000 in
theorem rm2 (l : Launch) (Z : State) (a0 : Array Value) (hw : ∀ d ∈ tables_1, d.before a0 Z = true) (ws : List Jvm.Cond) (x0 : Int64) (x1 : Int64) (h0 : Heap) (n0 : Nat) (Z0 : n0 ≤ h0.size) :
    MetFree l (⟨"java/lang/Math", "max", "(JJ)J"⟩ : MethodName) (head1 (Jvm.Cond.code (⟨"java/lang/Math", "max", "(JJ)J"⟩ : MethodName) jdk_29_method_66_code 4 (some .long) :: ws) ({ frames := 0, cells := 0, slots := 0, locals := 0 } : Room)) (fun aa_ U_ => aa_ = #[(.long x0), (.long x1)] ∧ Z.Warmed39 U_.vm ∧ U_.heap = h0) (fun _ _ _ _ _ => True) (fun _ U_ o_ U1_ => ∃ v_ L_, o_ = .returned v_ ∧ Q2 Z x0 x1 h0 n0 v_ U1_.heap L_ ∧ FrameEnd U_ o_ U1_ L_ ({ frames := 0, cells := 0, slots := 0, locals := 0 } : Room).cells ({ frames := 0, cells := 0, slots := 0, locals := 0 } : Room).slots) := by
  refine MetFree.of_bodySF (Jvm.Free.JP.mathPlain rfl (by decide +kernel)) hisR ?_
  intro p e s m args below meth c s₁ Bd hml0 hP hK
  obtain ⟨rfl, hZ, hh⟩ := hP
  have hx := Bd.exec
  have hby := Bd.bytes
  have hlk := Bd.notSynchronized
  have hml : c.maxLocals = 4 := hml0
  have hown : s.vm.findClass "java/lang/Math" = some m.cls := findClass_of_methodNamed Bd.named
  have hnm := (name_of_methodNamed Bd.named Bd.method).1
  have X0 : Stand p l e ({ frames := 0, cells := 0, slots := 0, locals := 0 } : Room) s m #[(.long x0), (.long x1)] below meth c s₁ [] 0 0 := Stand.of_body Bd
  have e0 : s₁.heap = h0 := by rw [← hh, Bd.state]; rfl
  have N0 := Fr.nil n0
  show own_E p e below s (Q2 Z x0 x1 h0 n0) ({ frames := 0, cells := 0, slots := 0, locals := 0 } : Room).cells ({ frames := 0, cells := 0, slots := 0, locals := 0 } : Room).slots (s₁.setTop (entryFrame m #[(.long x0), (.long x1)] 4))
  refine own_st (B := s₁.setTop (mkF m 0 #[.val (.long x0), .second, .val (.long x1), .second] [])) (fun t_ k_ => castTop (own_ef_rm2 m x0 x1) k_) ?_
  refine own_st (B := s₁.setTop (mkF m 1 #[.val (.long x0), .second, .val (.long x1), .second] [(.long x0)])) (fun t_ k_ => XS.lloadN X0.here hx rfl (hb hby own_b2_d0) rfl k_) ?_
  refine own_st (B := s₁.setTop (mkF m 2 #[.val (.long x0), .second, .val (.long x1), .second] [(.long x1), (.long x0)])) (fun t_ k_ => XS.lloadN X0.here hx rfl (hb hby own_b2_d1) rfl k_) ?_
  refine own_st (B := s₁.setTop (mkF m 3 #[.val (.long x0), .second, .val (.long x1), .second] [(.int (lcmpW x0 x1))])) (fun t_ k_ => XS.lcmp X0.here hx rfl (hb hby own_b2_d2) rfl k_) ?_
  by_cases hc1 : x0 < x1
  · have hd1 := own_lt64 hc1
    refine own_st (B := s₁.setTop (mkF m 10 #[.val (.long x0), .second, .val (.long x1), .second] [])) (fun t_ k_ => XS.ifYes X0.here hx rfl (pc0 := 3) (pc' := 10) rfl (hb hby own_b2_d3) rfl ((if0 _ _).trans (tlt ((lw_lt _ _).mpr hc1)).1) (by decide) (by decide) k_) ?_
    refine own_st (B := s₁.setTop (mkF m 11 #[.val (.long x0), .second, .val (.long x1), .second] [(.long x1)])) (fun t_ k_ => XS.lloadN X0.here hx rfl (hb hby own_b2_d10) rfl k_) ?_
    refine own_retJ X0 hx Bd.returns hlk (hb hby own_b2_d11) (by decide) (by decide) ?_
    show Q2 Z x0 x1 h0 n0 _ s₁.heap _
    rw [e0]
    exact ⟨by simp [own_max, hc1], N0, rfl⟩
  · have hd1 := own_nlt64 hc1
    refine own_st (B := s₁.setTop (mkF m 6 #[.val (.long x0), .second, .val (.long x1), .second] [])) (fun t_ k_ => XS.ifNo X0.here hx rfl (hb hby own_b2_d3) rfl ((if0 _ _).trans (flt (fun q => hc1 ((lw_lt _ _).mp q))).1) k_) ?_
    refine own_st (B := s₁.setTop (mkF m 7 #[.val (.long x0), .second, .val (.long x1), .second] [(.long x0)])) (fun t_ k_ => XS.lloadN X0.here hx rfl (hb hby own_b2_d6) rfl k_) ?_
    refine own_st (B := s₁.setTop (mkF m 11 #[.val (.long x0), .second, .val (.long x1), .second] [(.long x0)])) (fun t_ k_ => XS.goto X0.here hx rfl (pc0 := 7) (pc' := 11) rfl (hb hby own_b2_d7) (by decide) (by decide) k_) ?_
    refine own_retJ X0 hx Bd.returns hlk (hb hby own_b2_d11) (by decide) (by decide) ?_
    show Q2 Z x0 x1 h0 n0 _ s₁.heap _
    rw [e0]
    exact ⟨by simp [own_max, hc1], N0, rfl⟩
theorem own_b4_d0 : decode jdk_30_method_1_code 0 = .ok (.aload_n 0, 1) := by decide +kernel
theorem own_b4_d1 : decode jdk_30_method_1_code 1 = .ok (.invokespecial 1, 3) := by decide +kernel
theorem own_b4_d4 : decode jdk_30_method_1_code 4 = .ok (.return_, 1) := by decide +kernel
theorem own_pn0 : plainName "java/lang/Record" = true := by first | (simp [plainName, overriddenIn]; done) | decide +kernel
theorem own_ef_rm4 (m : MethodId) (x0 : Addr) : entryFrame m #[(.ref x0)] 1 = mkF m 0 #[.val (.ref x0)] [] := by first | (simp [entryFrame, mkF, argsToLocals, Value.category]; done) | rfl
def Q4 (Z : State) (a : Addr) (h0 : Heap) (n0 : Nat) (v : Option Value) (h : Heap) (L : List Loc) : Prop := v = none ∧ Fr n0 L ∧ h = h0
set_option maxRecDepth 65536 in
set_option maxHeartbeats 40000000 in
theorem rm4 (l : Launch) (Z : State) (a0 : Array Value) (hw : ∀ d ∈ tables_1, d.before a0 Z = true) (ws : List Jvm.Cond) (a : Addr) (h0 : Heap) (n0 : Nat) (Z0 : n0 ≤ h0.size) :
    MetFree l (⟨"java/lang/Record", "<init>", "()V"⟩ : MethodName) (head1 (Jvm.Cond.code (⟨"java/lang/Record", "<init>", "()V"⟩ : MethodName) jdk_30_method_1_code 1 none :: ws) ({ frames := 1, cells := 0, slots := 0, locals := 12 } : Room)) (fun aa_ U_ => aa_ = #[(.ref a)] ∧ Z.Warmed39 U_.vm ∧ U_.heap = h0) (fun _ _ _ _ _ => True) (fun _ U_ o_ U1_ => ∃ v_ L_, o_ = .returned v_ ∧ Q4 Z a h0 n0 v_ U1_.heap L_ ∧ FrameEnd U_ o_ U1_ L_ ({ frames := 1, cells := 0, slots := 0, locals := 12 } : Room).cells ({ frames := 1, cells := 0, slots := 0, locals := 12 } : Room).slots) := by
  refine MetFree.of_bodySF (plainFor_of_name own_pn0) hisR ?_
  intro p e s m args below meth c s₁ Bd hml0 hP hK
  obtain ⟨rfl, hZ, hh⟩ := hP
  have hx := Bd.exec
  have hby := Bd.bytes
  have hlk := Bd.notSynchronized
  have hml : c.maxLocals = 1 := hml0
  have hown : s.vm.findClass "java/lang/Record" = some m.cls := findClass_of_methodNamed Bd.named
  have hnm := (name_of_methodNamed Bd.named Bd.method).1
  have X0 : Stand p l e ({ frames := 1, cells := 0, slots := 0, locals := 12 } : Room) s m #[(.ref a)] below meth c s₁ [] 0 0 := Stand.of_body Bd
  have e0 : s₁.heap = h0 := by rw [← hh, Bd.state]; rfl
  have N0 := Fr.nil n0
  show own_E p e below s (Q4 Z a h0 n0) ({ frames := 1, cells := 0, slots := 0, locals := 12 } : Room).cells ({ frames := 1, cells := 0, slots := 0, locals := 12 } : Room).slots (s₁.setTop (entryFrame m #[(.ref a)] 1))
  refine own_st (B := s₁.setTop (mkF m 0 #[.val (.ref a)] [])) (fun t_ k_ => castTop (own_ef_rm4 m a) k_) ?_
  refine own_st (B := s₁.setTop (mkF m 1 #[.val (.ref a)] [(.ref a)])) (fun t_ k_ => XS.aloadN X0.here hx rfl (hb hby own_b4_d0) rfl rfl k_) ?_
  obtain ⟨T1, X1, e1, st1⟩ := initO X0 hx hZ hown (hw _ (List.mem_of_getElem? (i := 18) rfl)) (hw _ (List.mem_of_getElem? (i := 19) rfl)) (hw _ (List.mem_of_getElem? (i := 20) rfl)) e0 (g := (mkF m 1 #[.val (.ref a)] [(.ref a)])) rfl (by rw [hml]; rfl) rfl (hb hby own_b4_d1) (by decide) (W := 0) (by show 2 * 0 + _ ≤ _; exact Nat.le_of_eq rfl) (by decide)
  refine own_st (B := T1.setTop (mkF m 4 #[.val (.ref a)] [])) st1 ?_
  refine own_retV X1 hx Bd.returns hlk (hb hby own_b4_d4) (by decide) (by decide) ?_
  show Q4 Z a h0 n0 _ T1.heap _
  rw [e1]
  exact ⟨rfl, N0, rfl⟩
theorem own_pd0 : parseMethodDescriptor "()V" = some ⟨[], none⟩ := by decide +kernel
theorem own_b3_d0 : decode prog_9_method_1_code 0 = .ok (.aload_n 0, 1) := by decide +kernel
theorem own_b3_d1 : decode prog_9_method_1_code 1 = .ok (.invokespecial 1, 3) := by decide +kernel
theorem own_b3_d4 : decode prog_9_method_1_code 4 = .ok (.lload_n 3, 1) := by decide +kernel
theorem own_b3_d5 : decode prog_9_method_1_code 5 = .ok (.lload_n 1, 1) := by decide +kernel
theorem own_b3_d6 : decode prog_9_method_1_code 6 = .ok (.lcmp, 1) := by decide +kernel
theorem own_b3_d7 : decode prog_9_method_1_code 7 = .ok (.ifCond .gt 21, 3) := by decide +kernel
theorem own_b3_d28 : decode prog_9_method_1_code 28 = .ok (.aload_n 0, 1) := by decide +kernel
theorem own_b3_d29 : decode prog_9_method_1_code 29 = .ok (.lload_n 1, 1) := by decide +kernel
theorem own_b3_d30 : decode prog_9_method_1_code 30 = .ok (.putfield 22, 3) := by decide +kernel
theorem own_b3_d33 : decode prog_9_method_1_code 33 = .ok (.aload_n 0, 1) := by decide +kernel
theorem own_b3_d34 : decode prog_9_method_1_code 34 = .ok (.lload_n 3, 1) := by decide +kernel
theorem own_b3_d35 : decode prog_9_method_1_code 35 = .ok (.putfield 26, 3) := by decide +kernel
theorem own_b3_d38 : decode prog_9_method_1_code 38 = .ok (.return_, 1) := by decide +kernel
theorem own_pn1 : plainName "com/example/briareus/briareus/model/Interval" = true := by first | (simp [plainName, overriddenIn]; done) | decide +kernel
theorem own_ef_rm3 (m : MethodId) (x0 : Addr) (x1 : Int64) (x2 : Int64) : entryFrame m #[(.ref x0), (.long x1), (.long x2)] 5 = mkF m 0 #[.val (.ref x0), .val (.long x1), .second, .val (.long x2), .second] [] := by first | (simp [entryFrame, mkF, argsToLocals, Value.category]; done) | rfl
def Q3 (Z : State) (a : Addr) (x0 : Int64) (x1 : Int64) (h0 : Heap) (n0 : Nat) (v : Option Value) (h : Heap) (L : List Loc) : Prop := v = none ∧ Fr n0 L ∧ Keep h0 h [a] ∧ Fld Z h a "com/example/briareus/briareus/model/Interval" "startMillis" "J" (.long x0) ∧ Fld Z h a "com/example/briareus/briareus/model/Interval" "endMillis" "J" (.long x1)
set_option maxRecDepth 65536 in
set_option maxHeartbeats 40000000 in
theorem rm3 (l : Launch) (Z : State) (a0 : Array Value) (hw : ∀ d ∈ tables_1, d.before a0 Z = true) (ws : List Jvm.Cond) (a : Addr) (x0 : Int64) (x1 : Int64) (h0 : Heap) (n0 : Nat) (Z0 : n0 ≤ h0.size) (E : Exa Z h0 a "com/example/briareus/briareus/model/Interval") (F0 : Fld Z h0 a "com/example/briareus/briareus/model/Interval" "startMillis" "J" (.long (0 : Int64))) (F1 : Fld Z h0 a "com/example/briareus/briareus/model/Interval" "endMillis" "J" (.long (0 : Int64))) (ga : n0 ≤ a) (hse : x0 < x1) :
    MetFree l (⟨"com/example/briareus/briareus/model/Interval", "<init>", "(JJ)V"⟩ : MethodName) (head1 (Jvm.Cond.code (⟨"com/example/briareus/briareus/model/Interval", "<init>", "(JJ)V"⟩ : MethodName) prog_9_method_1_code 5 none :: ws) ({ frames := 2, cells := 0, slots := 0, locals := 24 } : Room)) (fun aa_ U_ => aa_ = #[(.ref a), (.long x0), (.long x1)] ∧ Z.Warmed39 U_.vm ∧ U_.heap = h0) (fun _ _ _ _ _ => True) (fun _ U_ o_ U1_ => ∃ v_ L_, o_ = .returned v_ ∧ Q3 Z a x0 x1 h0 n0 v_ U1_.heap L_ ∧ FrameEnd U_ o_ U1_ L_ ({ frames := 2, cells := 0, slots := 0, locals := 24 } : Room).cells ({ frames := 2, cells := 0, slots := 0, locals := 24 } : Room).slots) := by
  refine MetFree.of_bodySF (plainFor_of_name own_pn1) hisR ?_
  intro p e s m args below meth c s₁ Bd hml0 hP hK
  obtain ⟨rfl, hZ, hh⟩ := hP
  have hx := Bd.exec
  have hby := Bd.bytes
  have hlk := Bd.notSynchronized
  have hml : c.maxLocals = 5 := hml0
  have hown : s.vm.findClass "com/example/briareus/briareus/model/Interval" = some m.cls := findClass_of_methodNamed Bd.named
  have hnm := (name_of_methodNamed Bd.named Bd.method).1
  have X0 : Stand p l e ({ frames := 2, cells := 0, slots := 0, locals := 24 } : Room) s m #[(.ref a), (.long x0), (.long x1)] below meth c s₁ [] 0 0 := Stand.of_body Bd
  have e0 : s₁.heap = h0 := by rw [← hh, Bd.state]; rfl
  have N0 := Fr.nil n0
  show own_E p e below s (Q3 Z a x0 x1 h0 n0) ({ frames := 2, cells := 0, slots := 0, locals := 24 } : Room).cells ({ frames := 2, cells := 0, slots := 0, locals := 24 } : Room).slots (s₁.setTop (entryFrame m #[(.ref a), (.long x0), (.long x1)] 5))
  refine own_st (B := s₁.setTop (mkF m 0 #[.val (.ref a), .val (.long x0), .second, .val (.long x1), .second] [])) (fun t_ k_ => castTop (own_ef_rm3 m a x0 x1) k_) ?_
  have K0 : Keep h0 h0 [a] := Keep.refl _ _
  refine own_st (B := s₁.setTop (mkF m 1 #[.val (.ref a), .val (.long x0), .second, .val (.long x1), .second] [(.ref a)])) (fun t_ k_ => XS.aloadN X0.here hx rfl (hb hby own_b3_d0) rfl rfl k_) ?_
  obtain ⟨_, _, ⟨T1, L1, k1, n1⟩, -, X1, ⟨Lc1, hQ1, l1, y1, z1⟩, st1⟩ := X0.specialBack hx (y := (⟨"java/lang/Record", "<init>", "()V"⟩ : MethodName)) rfl hown (mvT hZ (hw _ (List.mem_of_getElem? (i := 13) rfl))) (mvT hZ (hw _ (List.mem_of_getElem? (i := 14) rfl))) (mvT hZ (hw _ (List.mem_of_getElem? (i := 17) rfl))) (by decide) (backOf (W := 0) (rm4 l Z a0 hw [] a h0 n0 Z0 ) hZ (hw _ (List.mem_of_getElem? (i := 17) rfl)) (hw _ (List.mem_of_getElem? (i := 16) rfl)) (by decide) (by decide)) (g := (mkF m 1 #[.val (.ref a), .val (.long x0), .second, .val (.long x1), .second] [(.ref a)])) rfl (by rw [hml]; rfl) (Steps.refl _) (a := a) (argsL := []) (rest := []) (lenOf own_pd0 rfl) rfl (by show 2 * 0 + _ ≤ _; exact Nat.le_of_eq rfl) (hb hby own_b3_d1) (fun _ _ => ⟨rfl, e0, (by decide : 0 + 0 ≤ _), (by decide : 0 + 0 ≤ _)⟩)
  dsimp only [Pt.U, Pt.locs, Pt.cells, Pt.slots] at X1 l1 y1 z1 st1 hQ1
  subst l1 y1 z1
  obtain ⟨rfl, N1q, eh1⟩ := hQ1
  have N1 := Fr.app N0 N1q
  refine own_st (B := T1.setTop (mkF m 4 #[.val (.ref a), .val (.long x0), .second, .val (.long x1), .second] [])) (fun t_ k_ => st1.trans k_) ?_
  refine own_st (B := T1.setTop (mkF m 5 #[.val (.ref a), .val (.long x0), .second, .val (.long x1), .second] [(.long x1)])) (fun t_ k_ => XS.lloadN X1.here hx rfl (hb hby own_b3_d4) rfl k_) ?_
  refine own_st (B := T1.setTop (mkF m 6 #[.val (.ref a), .val (.long x0), .second, .val (.long x1), .second] [(.long x0), (.long x1)])) (fun t_ k_ => XS.lloadN X1.here hx rfl (hb hby own_b3_d5) rfl k_) ?_
  refine own_st (B := T1.setTop (mkF m 7 #[.val (.ref a), .val (.long x0), .second, .val (.long x1), .second] [(.int (lcmpW x1 x0))])) (fun t_ k_ => XS.lcmp X1.here hx rfl (hb hby own_b3_d6) rfl k_) ?_
  have hc2 : x0 < x1 := hse
  have hd2 := own_lt64 hc2
  refine own_st (B := T1.setTop (mkF m 28 #[.val (.ref a), .val (.long x0), .second, .val (.long x1), .second] [])) (fun t_ k_ => XS.ifYes X1.here hx rfl (pc0 := 7) (pc' := 28) rfl (hb hby own_b3_d7) rfl ((if0 _ _).trans (tlt ((lw_gt _ _).mpr hc2)).2.2.1) (by decide) (by decide) k_) ?_
  refine own_st (B := T1.setTop (mkF m 29 #[.val (.ref a), .val (.long x0), .second, .val (.long x1), .second] [(.ref a)])) (fun t_ k_ => XS.aloadN X1.here hx rfl (hb hby own_b3_d28) rfl rfl k_) ?_
  refine own_st (B := T1.setTop (mkF m 30 #[.val (.ref a), .val (.long x0), .second, .val (.long x1), .second] [(.long x0), (.ref a)])) (fun t_ k_ => XS.lloadN X1.here hx rfl (hb hby own_b3_d29) rfl k_) ?_
  obtain ⟨T3, h3, X3, e3, W3, st3⟩ := putF X1 hx hZ hown (host := "") (Or.inl (hw _ (List.mem_of_getElem? (i := 21) rfl))) Via.refl eh1 F0 E (Or.inr ⟨(hw _ (List.mem_of_getElem? (i := 22) rfl)), rfl, hnm⟩) (hw _ (List.mem_of_getElem? (i := 8) rfl)) (ty := .long) (by decide) rfl rfl (g := (mkF m 30 #[.val (.ref a), .val (.long x0), .second, .val (.long x1), .second] [(.long x0), (.ref a)])) rfl rfl (hb hby own_b3_d30)
  have Fw3 := F0.same W3
  have N3 := Fr.snoc X3 N1 ga
  have Z4 := Nat.le_trans Z0 (Keep.of_wr W3).1
  have K5 := K0.wr W3 (Or.inl (List.mem_of_getElem? (i := 0) rfl))
  refine own_st (B := T3.setTop (mkF m 33 #[.val (.ref a), .val (.long x0), .second, .val (.long x1), .second] [])) st3 ?_
  refine own_st (B := T3.setTop (mkF m 34 #[.val (.ref a), .val (.long x0), .second, .val (.long x1), .second] [(.ref a)])) (fun t_ k_ => XS.aloadN X3.here hx rfl (hb hby own_b3_d33) rfl rfl k_) ?_
  refine own_st (B := T3.setTop (mkF m 35 #[.val (.ref a), .val (.long x0), .second, .val (.long x1), .second] [(.long x1), (.ref a)])) (fun t_ k_ => XS.lloadN X3.here hx rfl (hb hby own_b3_d34) rfl k_) ?_
  have u6 := E.wr W3
  have u7 := F1.other W3 (Or.inr (slot_ne (Or.inr (hw _ (List.mem_of_getElem? (i := 24) rfl))) (Or.inr (hw _ (List.mem_of_getElem? (i := 22) rfl))) (by decide) (t := .long) (t' := .long) (by decide) (by decide)))
  obtain ⟨T8, h8, X8, e8, W8, st8⟩ := putF X3 hx hZ hown (host := "") (Or.inl (hw _ (List.mem_of_getElem? (i := 23) rfl))) Via.refl e3 u7 u6 (Or.inr ⟨(hw _ (List.mem_of_getElem? (i := 24) rfl)), rfl, hnm⟩) (hw _ (List.mem_of_getElem? (i := 8) rfl)) (ty := .long) (by decide) rfl rfl (g := (mkF m 35 #[.val (.ref a), .val (.long x0), .second, .val (.long x1), .second] [(.long x1), (.ref a)])) rfl rfl (hb hby own_b3_d35)
  have Fw8 := u7.same W8
  have N8 := Fr.snoc X8 N3 ga
  have Z9 := Nat.le_trans Z4 (Keep.of_wr W8).1
  have K10 := K5.wr W8 (Or.inl (List.mem_of_getElem? (i := 0) rfl))
  refine own_st (B := T8.setTop (mkF m 38 #[.val (.ref a), .val (.long x0), .second, .val (.long x1), .second] [])) st8 ?_
  refine own_retV X8 hx Bd.returns hlk (hb hby own_b3_d38) (by decide) (by decide) ?_
  show Q3 Z a x0 x1 h0 n0 _ T8.heap _
  rw [e8]
  have u11 := Fw3.other W8 (Or.inr (slot_ne (Or.inr (hw _ (List.mem_of_getElem? (i := 22) rfl))) (Or.inr (hw _ (List.mem_of_getElem? (i := 24) rfl))) (by decide) (t := .long) (t' := .long) (by decide) (by decide)))
  exact ⟨rfl, N8, K10, u11, Fw8⟩
def own_ov (x0 x1 x2 x3 : Int64) : Bool := decide (x0.toInt < x3.toInt ∧ x2.toInt < x1.toInt)
theorem own_key (s1 e1 s2 e2 : Int64) (h : s1 < e1) (h' : s2 < e2) : own_b (own_ov s1 e1 s2 e2) = if own_max s1 s2 < own_min e1 e2 then 1 else 0 := by
  have h1 := own_lt64 h; have h2 := own_lt64 h'
  have m1 := own_mmI s1 s2; have m2 := own_mmI e1 e2
  unfold own_ov
  by_cases q : own_max s1 s2 < own_min e1 e2
  · rw [if_pos q]; have q2 := own_lt64 q; exact own_b1 (by omega)
  · rw [if_neg q]; have q2 := own_nlt64 q; exact own_bz (by omega)
theorem own_key' (s1 e1 s2 e2 : Int64) (h : s1 < e1) (h' : s2 < e2) : own_b (own_ov s2 e2 s1 e1) = if own_max s1 s2 < own_min e1 e2 then 1 else 0 := by
  rw [← own_key s1 e1 s2 e2 h h']; unfold own_ov
  by_cases q : s2.toInt < e1.toInt ∧ s1.toInt < e2.toInt
  · rw [own_b1 q, own_b1 (by omega)]
  · rw [own_bz q, own_bz (by omega)]
theorem own_b6_d0 : decode prog_9_method_4_code 0 = .ok (.aload_n 0, 1) := by decide +kernel
theorem own_b6_d1 : decode prog_9_method_4_code 1 = .ok (.getfield 22, 3) := by decide +kernel
theorem own_b6_d4 : decode prog_9_method_4_code 4 = .ok (.aload_n 1, 1) := by decide +kernel
theorem own_b6_d5 : decode prog_9_method_4_code 5 = .ok (.getfield 26, 3) := by decide +kernel
theorem own_b6_d8 : decode prog_9_method_4_code 8 = .ok (.lcmp, 1) := by decide +kernel
theorem own_b6_d9 : decode prog_9_method_4_code 9 = .ok (.ifCond .ge 19, 3) := by decide +kernel
theorem own_b6_d12 : decode prog_9_method_4_code 12 = .ok (.aload_n 1, 1) := by decide +kernel
theorem own_b6_d13 : decode prog_9_method_4_code 13 = .ok (.getfield 22, 3) := by decide +kernel
theorem own_b6_d16 : decode prog_9_method_4_code 16 = .ok (.aload_n 0, 1) := by decide +kernel
theorem own_b6_d17 : decode prog_9_method_4_code 17 = .ok (.getfield 26, 3) := by decide +kernel
theorem own_b6_d20 : decode prog_9_method_4_code 20 = .ok (.lcmp, 1) := by decide +kernel
theorem own_b6_d21 : decode prog_9_method_4_code 21 = .ok (.ifCond .ge 7, 3) := by decide +kernel
theorem own_b6_d24 : decode prog_9_method_4_code 24 = .ok (.iconst 1, 1) := by decide +kernel
theorem own_b6_d25 : decode prog_9_method_4_code 25 = .ok (.goto 4, 3) := by decide +kernel
theorem own_b6_d28 : decode prog_9_method_4_code 28 = .ok (.iconst 0, 1) := by decide +kernel
theorem own_b6_d29 : decode prog_9_method_4_code 29 = .ok (.ireturn, 1) := by decide +kernel
theorem own_ef_rm6 (m : MethodId) (x0 : Addr) (x1 : Addr) : entryFrame m #[(.ref x0), (.ref x1)] 2 = mkF m 0 #[.val (.ref x0), .val (.ref x1)] [] := by first | (simp [entryFrame, mkF, argsToLocals, Value.category]; done) | rfl
def Q6 (Z : State) (a : Addr) (d : Addr) (x0 : Int64) (x1 : Int64) (x2 : Int64) (x3 : Int64) (h0 : Heap) (n0 : Nat) (v : Option Value) (h : Heap) (L : List Loc) : Prop := v = some (.int (own_b (own_ov x0 x1 x2 x3))) ∧ Fr n0 L ∧ h = h0
set_option maxRecDepth 65536 in
set_option maxHeartbeats 40000000 in
theorem rm6 (l : Launch) (Z : State) (a0 : Array Value) (hw : ∀ d ∈ tables_1, d.before a0 Z = true) (ws : List Jvm.Cond) (a : Addr) (d : Addr) (x0 : Int64) (x1 : Int64) (x2 : Int64) (x3 : Int64) (h0 : Heap) (n0 : Nat) (Z0 : n0 ≤ h0.size) (F0 : Fld Z h0 a "com/example/briareus/briareus/model/Interval" "startMillis" "J" (.long x0)) (F1 : Fld Z h0 a "com/example/briareus/briareus/model/Interval" "endMillis" "J" (.long x1)) (F2 : Fld Z h0 d "com/example/briareus/briareus/model/Interval" "startMillis" "J" (.long x2)) (F3 : Fld Z h0 d "com/example/briareus/briareus/model/Interval" "endMillis" "J" (.long x3)) :
    MetFree l (⟨"com/example/briareus/briareus/model/Interval", "overlaps", "(Lcom/example/briareus/briareus/model/Interval;)Z"⟩ : MethodName) (head1 (Jvm.Cond.code (⟨"com/example/briareus/briareus/model/Interval", "overlaps", "(Lcom/example/briareus/briareus/model/Interval;)Z"⟩ : MethodName) prog_9_method_4_code 2 (some .boolean) :: ws) ({ frames := 0, cells := 0, slots := 0, locals := 0 } : Room)) (fun aa_ U_ => aa_ = #[(.ref a), (.ref d)] ∧ Z.Warmed39 U_.vm ∧ U_.heap = h0) (fun _ _ _ _ _ => True) (fun _ U_ o_ U1_ => ∃ v_ L_, o_ = .returned v_ ∧ Q6 Z a d x0 x1 x2 x3 h0 n0 v_ U1_.heap L_ ∧ FrameEnd U_ o_ U1_ L_ ({ frames := 0, cells := 0, slots := 0, locals := 0 } : Room).cells ({ frames := 0, cells := 0, slots := 0, locals := 0 } : Room).slots) := by
  refine MetFree.of_bodySF (plainFor_of_name own_pn1) hisR ?_
  intro p e s m args below meth c s₁ Bd hml0 hP hK
  obtain ⟨rfl, hZ, hh⟩ := hP
  have hx := Bd.exec
  have hby := Bd.bytes
  have hlk := Bd.notSynchronized
  have hml : c.maxLocals = 2 := hml0
  have hown : s.vm.findClass "com/example/briareus/briareus/model/Interval" = some m.cls := findClass_of_methodNamed Bd.named
  have hnm := (name_of_methodNamed Bd.named Bd.method).1
  have X0 : Stand p l e ({ frames := 0, cells := 0, slots := 0, locals := 0 } : Room) s m #[(.ref a), (.ref d)] below meth c s₁ [] 0 0 := Stand.of_body Bd
  have e0 : s₁.heap = h0 := by rw [← hh, Bd.state]; rfl
  have N0 := Fr.nil n0
  show own_E p e below s (Q6 Z a d x0 x1 x2 x3 h0 n0) ({ frames := 0, cells := 0, slots := 0, locals := 0 } : Room).cells ({ frames := 0, cells := 0, slots := 0, locals := 0 } : Room).slots (s₁.setTop (entryFrame m #[(.ref a), (.ref d)] 2))
  refine own_st (B := s₁.setTop (mkF m 0 #[.val (.ref a), .val (.ref d)] [])) (fun t_ k_ => castTop (own_ef_rm6 m a d) k_) ?_
  refine own_st (B := s₁.setTop (mkF m 1 #[.val (.ref a), .val (.ref d)] [(.ref a)])) (fun t_ k_ => XS.aloadN X0.here hx rfl (hb hby own_b6_d0) rfl rfl k_) ?_
  obtain ⟨T1, X1, e1, st1⟩ := getF X0 hx hZ hown (host := "") (Or.inl (hw _ (List.mem_of_getElem? (i := 21) rfl))) Via.refl e0 F0 (g := (mkF m 1 #[.val (.ref a), .val (.ref d)] [(.ref a)])) rfl rfl (hb hby own_b6_d1)
  refine own_st (B := T1.setTop (mkF m 4 #[.val (.ref a), .val (.ref d)] [(.long x0)])) st1 ?_
  refine own_st (B := T1.setTop (mkF m 5 #[.val (.ref a), .val (.ref d)] [(.ref d), (.long x0)])) (fun t_ k_ => XS.aloadN X1.here hx rfl (hb hby own_b6_d4) rfl rfl k_) ?_
  obtain ⟨T2, X2, e2, st2⟩ := getF X1 hx hZ hown (host := "") (Or.inl (hw _ (List.mem_of_getElem? (i := 23) rfl))) Via.refl e1 F3 (g := (mkF m 5 #[.val (.ref a), .val (.ref d)] [(.ref d), (.long x0)])) rfl rfl (hb hby own_b6_d5)
  refine own_st (B := T2.setTop (mkF m 8 #[.val (.ref a), .val (.ref d)] [(.long x3), (.long x0)])) st2 ?_
  refine own_st (B := T2.setTop (mkF m 9 #[.val (.ref a), .val (.ref d)] [(.int (lcmpW x0 x3))])) (fun t_ k_ => XS.lcmp X2.here hx rfl (hb hby own_b6_d8) rfl k_) ?_
  by_cases hc3 : x0 < x3
  · have hd3 := own_lt64 hc3
    refine own_st (B := T2.setTop (mkF m 12 #[.val (.ref a), .val (.ref d)] [])) (fun t_ k_ => XS.ifNo X2.here hx rfl (hb hby own_b6_d9) rfl ((if0 _ _).trans (tlt ((lw_lt _ _).mpr hc3)).2.1) k_) ?_
    refine own_st (B := T2.setTop (mkF m 13 #[.val (.ref a), .val (.ref d)] [(.ref d)])) (fun t_ k_ => XS.aloadN X2.here hx rfl (hb hby own_b6_d12) rfl rfl k_) ?_
    obtain ⟨T4, X4, e4, st4⟩ := getF X2 hx hZ hown (host := "") (Or.inl (hw _ (List.mem_of_getElem? (i := 21) rfl))) Via.refl e2 F2 (g := (mkF m 13 #[.val (.ref a), .val (.ref d)] [(.ref d)])) rfl rfl (hb hby own_b6_d13)
    refine own_st (B := T4.setTop (mkF m 16 #[.val (.ref a), .val (.ref d)] [(.long x2)])) st4 ?_
    refine own_st (B := T4.setTop (mkF m 17 #[.val (.ref a), .val (.ref d)] [(.ref a), (.long x2)])) (fun t_ k_ => XS.aloadN X4.here hx rfl (hb hby own_b6_d16) rfl rfl k_) ?_
    obtain ⟨T5, X5, e5, st5⟩ := getF X4 hx hZ hown (host := "") (Or.inl (hw _ (List.mem_of_getElem? (i := 23) rfl))) Via.refl e4 F1 (g := (mkF m 17 #[.val (.ref a), .val (.ref d)] [(.ref a), (.long x2)])) rfl rfl (hb hby own_b6_d17)
    refine own_st (B := T5.setTop (mkF m 20 #[.val (.ref a), .val (.ref d)] [(.long x1), (.long x2)])) st5 ?_
    refine own_st (B := T5.setTop (mkF m 21 #[.val (.ref a), .val (.ref d)] [(.int (lcmpW x2 x1))])) (fun t_ k_ => XS.lcmp X5.here hx rfl (hb hby own_b6_d20) rfl k_) ?_
    by_cases hc6 : x2 < x1
    · have hd6 := own_lt64 hc6
      refine own_st (B := T5.setTop (mkF m 24 #[.val (.ref a), .val (.ref d)] [])) (fun t_ k_ => XS.ifNo X5.here hx rfl (hb hby own_b6_d21) rfl ((if0 _ _).trans (tlt ((lw_lt _ _).mpr hc6)).2.1) k_) ?_
      refine own_st (B := T5.setTop (mkF m 25 #[.val (.ref a), .val (.ref d)] [(.int (1 : Int32))])) (fun t_ k_ => XS.iconst X5.here hx rfl (hb hby own_b6_d24) k_) ?_
      refine own_st (B := T5.setTop (mkF m 29 #[.val (.ref a), .val (.ref d)] [(.int (1 : Int32))])) (fun t_ k_ => XS.goto X5.here hx rfl (pc0 := 25) (pc' := 29) rfl (hb hby own_b6_d25) (by decide) (by decide) k_) ?_
      refine own_retN X5 hx (t := .boolean) Bd.returns (by simp) hlk (hb hby own_b6_d29) (z' := (1 : Int32)) (by first | rfl | exact own_nb _ | exact own_nbb _) (by decide) (by decide) ?_
      show Q6 Z a d x0 x1 x2 x3 h0 n0 _ T5.heap _
      rw [e5]
      exact ⟨by rw [own_ov, own_b1]; omega, N0, rfl⟩
    · have hd6 := own_nlt64 hc6
      refine own_st (B := T5.setTop (mkF m 28 #[.val (.ref a), .val (.ref d)] [])) (fun t_ k_ => XS.ifYes X5.here hx rfl (pc0 := 21) (pc' := 28) rfl (hb hby own_b6_d21) rfl ((if0 _ _).trans (flt (fun q => hc6 ((lw_lt _ _).mp q))).2.1) (by decide) (by decide) k_) ?_
      refine own_st (B := T5.setTop (mkF m 29 #[.val (.ref a), .val (.ref d)] [(.int (0 : Int32))])) (fun t_ k_ => XS.iconst X5.here hx rfl (hb hby own_b6_d28) k_) ?_
      refine own_retN X5 hx (t := .boolean) Bd.returns (by simp) hlk (hb hby own_b6_d29) (z' := (0 : Int32)) (by first | rfl | exact own_nb _ | exact own_nbb _) (by decide) (by decide) ?_
      show Q6 Z a d x0 x1 x2 x3 h0 n0 _ T5.heap _
      rw [e5]
      exact ⟨by rw [own_ov, own_bz]; omega, N0, rfl⟩
  · have hd3 := own_nlt64 hc3
    refine own_st (B := T2.setTop (mkF m 28 #[.val (.ref a), .val (.ref d)] [])) (fun t_ k_ => XS.ifYes X2.here hx rfl (pc0 := 9) (pc' := 28) rfl (hb hby own_b6_d9) rfl ((if0 _ _).trans (flt (fun q => hc3 ((lw_lt _ _).mp q))).2.1) (by decide) (by decide) k_) ?_
    refine own_st (B := T2.setTop (mkF m 29 #[.val (.ref a), .val (.ref d)] [(.int (0 : Int32))])) (fun t_ k_ => XS.iconst X2.here hx rfl (hb hby own_b6_d28) k_) ?_
    refine own_retN X2 hx (t := .boolean) Bd.returns (by simp) hlk (hb hby own_b6_d29) (z' := (0 : Int32)) (by first | rfl | exact own_nb _ | exact own_nbb _) (by decide) (by decide) ?_
    show Q6 Z a d x0 x1 x2 x3 h0 n0 _ T2.heap _
    rw [e2]
    exact ⟨by rw [own_ov, own_bz]; omega, N0, rfl⟩
theorem own_pd1 : parseMethodDescriptor "(JJ)J" = some ⟨[.long, .long], some .long⟩ := by decide +kernel
theorem own_pd2 : parseMethodDescriptor "(JJ)V" = some ⟨[.long, .long], none⟩ := by decide +kernel
theorem own_pd3 : parseMethodDescriptor "(Lcom/example/briareus/briareus/model/Interval;)Z" = some ⟨[(.object "com/example/briareus/briareus/model/Interval")], some .boolean⟩ := by decide +kernel
theorem own_pn2 : plainName "com/example/briareus/briareus/model/IntervalOverlapsPinLaw" = true := by first | (simp [plainName, overriddenIn]; done) | decide +kernel
theorem own_ef_rm0 (m : MethodId) (x0 : Int64) (x1 : Int64) (x2 : Int64) (x3 : Int64) (x4 : Int32) : entryFrame m #[(.long x0), (.long x1), (.long x2), (.long x3), (.int x4)] maxLocals = mkF m 0 #[.val (.long x0), .second, .val (.long x1), .second, .val (.long x2), .second, .val (.long x3), .second, .val (.int x4), .unset, .unset, .unset, .unset, .unset, .unset, .unset, .unset, .unset, .unset, .unset, .unset, .unset, .unset, .unset, .unset] [] := by first | (simp [entryFrame, mkF, argsToLocals, Value.category, maxLocals]; done) | rfl
def Q0 (Z : State) (u0 : Int64) (u1 : Int64) (u2 : Int64) (u3 : Int64) (u4 : Int32) (h0 : Heap) (n0 : Nat) (v : Option Value) (h : Heap) (L : List Loc) : Prop := v = some (.int 1) ∧ Fr n0 L
set_option maxRecDepth 65536 in
set_option maxHeartbeats 40000000 in
theorem rm0 (l : Launch) (Z : State) (a0 : Array Value) (hw : ∀ d ∈ tables_1, d.before a0 Z = true) (ws : List Jvm.Cond) (u0 : Int64) (u1 : Int64) (u2 : Int64) (u3 : Int64) (u4 : Int32) (h0 : Heap) (n0 : Nat) (Z0 : n0 ≤ h0.size) :
    MetFree l x (head1 (Jvm.Cond.code x code maxLocals ret :: ws) room_1) (fun aa_ U_ => aa_ = #[(.long u0), (.long u1), (.long u2), (.long u3), (.int u4)] ∧ Z.Warmed39 U_.vm ∧ U_.heap = h0) (fun _ _ _ _ _ => True) (fun _ U_ o_ U1_ => ∃ v_ L_, o_ = .returned v_ ∧ Q0 Z u0 u1 u2 u3 u4 h0 n0 v_ U1_.heap L_ ∧ FrameEnd U_ o_ U1_ L_ 2 4) := by
  refine MetFree.of_bodySF (plainFor_of_name own_pn2) hisR ?_
  intro p e s m args below meth c s₁ Bd hml0 hP hK
  obtain ⟨rfl, hZ, hh⟩ := hP
  have hx := Bd.exec
  have hby := Bd.bytes
  have hlk := Bd.notSynchronized
  have hml : c.maxLocals = 25 := hml0
  have hown : s.vm.findClass "com/example/briareus/briareus/model/IntervalOverlapsPinLaw" = some m.cls := findClass_of_methodNamed Bd.named
  have hnm := (name_of_methodNamed Bd.named Bd.method).1
  have X0 : Stand p l e room_1 s m #[(.long u0), (.long u1), (.long u2), (.long u3), (.int u4)] below meth c s₁ [] 0 0 := Stand.of_body Bd
  have e0 : s₁.heap = h0 := by rw [← hh, Bd.state]; rfl
  have N0 := Fr.nil n0
  show own_E p e below s (Q0 Z u0 u1 u2 u3 u4 h0 n0) 2 4 (s₁.setTop (entryFrame m #[(.long u0), (.long u1), (.long u2), (.long u3), (.int u4)] maxLocals))
  refine own_st (B := s₁.setTop (mkF m 0 #[.val (.long u0), .second, .val (.long u1), .second, .val (.long u2), .second, .val (.long u3), .second, .val (.int u4), .unset, .unset, .unset, .unset, .unset, .unset, .unset, .unset, .unset, .unset, .unset, .unset, .unset, .unset, .unset, .unset] [])) (fun t_ k_ => castTop (own_ef_rm0 m u0 u1 u2 u3 u4) k_) ?_
  refine own_st (B := s₁.setTop (mkF m 1 #[.val (.long u0), .second, .val (.long u1), .second, .val (.long u2), .second, .val (.long u3), .second, .val (.int u4), .unset, .unset, .unset, .unset, .unset, .unset, .unset, .unset, .unset, .unset, .unset, .unset, .unset, .unset, .unset, .unset] [(.long u0)])) (fun t_ k_ => XS.lloadN X0.here hx rfl (hb hby at_0) rfl k_) ?_
  refine own_st (B := s₁.setTop (mkF m 2 #[.val (.long u0), .second, .val (.long u1), .second, .val (.long u2), .second, .val (.long u3), .second, .val (.int u4), .unset, .unset, .unset, .unset, .unset, .unset, .unset, .unset, .unset, .unset, .unset, .unset, .unset, .unset, .unset, .unset] [(.long u1), (.long u0)])) (fun t_ k_ => XS.lloadN X0.here hx rfl (hb hby at_1) rfl k_) ?_
  obtain ⟨_, _, ⟨T1, L1, k1, n1⟩, -, X1, ⟨Lc1, hQ1, l1, y1, z1⟩, st1⟩ := Jvm.LawKit.callS X0 hx (y := (⟨"java/lang/Math", "min", "(JJ)J"⟩ : MethodName)) hown (mvT hZ (hw _ (List.mem_of_getElem? (i := 0) rfl))) (mvT hZ (hw _ (List.mem_of_getElem? (i := 1) rfl))) (mvT hZ (hw _ (List.mem_of_getElem? (i := 2) rfl))) (mvT hZ (hw _ (List.mem_of_getElem? (i := 3) rfl))) (by decide) (backOf (W := 0) (rm1 l Z a0 hw [] u0 u1 h0 n0 Z0 ) hZ (hw _ (List.mem_of_getElem? (i := 3) rfl)) (hw _ (List.mem_of_getElem? (i := 2) rfl)) (by decide) (by decide)) (g := (mkF m 2 #[.val (.long u0), .second, .val (.long u1), .second, .val (.long u2), .second, .val (.long u3), .second, .val (.int u4), .unset, .unset, .unset, .unset, .unset, .unset, .unset, .unset, .unset, .unset, .unset, .unset, .unset, .unset, .unset, .unset] [(.long u1), (.long u0)])) rfl (by rw [hml]; rfl) (argsL := [(.long u0), (.long u1)]) (rest := []) (lenOf own_pd1 rfl) rfl (by show 2 * 0 + _ ≤ _; exact Nat.le_of_eq rfl) (hb hby at_2) (fun _ _ => ⟨rfl, e0, (by decide : 0 + 0 ≤ _), (by decide : 0 + 0 ≤ _)⟩)
  dsimp only [Pt.U, Pt.locs, Pt.cells, Pt.slots] at X1 l1 y1 z1 st1 hQ1
  subst l1 y1 z1
  obtain ⟨rfl, N1q, eh1⟩ := hQ1
  have N1 := Fr.app N0 N1q
  refine own_st (B := T1.setTop (mkF m 5 #[.val (.long u0), .second, .val (.long u1), .second, .val (.long u2), .second, .val (.long u3), .second, .val (.int u4), .unset, .unset, .unset, .unset, .unset, .unset, .unset, .unset, .unset, .unset, .unset, .unset, .unset, .unset, .unset, .unset] [(.long (own_min u0 u1))])) st1 ?_
  refine own_st (B := T1.setTop (mkF m 7 #[.val (.long u0), .second, .val (.long u1), .second, .val (.long u2), .second, .val (.long u3), .second, .val (.int u4), .val (.long (own_min u0 u1)), .second, .unset, .unset, .unset, .unset, .unset, .unset, .unset, .unset, .unset, .unset, .unset, .unset, .unset, .unset] [])) (fun t_ k_ => XS.lstore X1.here hx rfl (hb hby at_5) rfl (l' := #[.val (.long u0), .second, .val (.long u1), .second, .val (.long u2), .second, .val (.long u3), .second, .val (.int u4), .val (.long (own_min u0 u1)), .second, .unset, .unset, .unset, .unset, .unset, .unset, .unset, .unset, .unset, .unset, .unset, .unset, .unset, .unset]) rfl k_) ?_
  refine own_st (B := T1.setTop (mkF m 8 #[.val (.long u0), .second, .val (.long u1), .second, .val (.long u2), .second, .val (.long u3), .second, .val (.int u4), .val (.long (own_min u0 u1)), .second, .unset, .unset, .unset, .unset, .unset, .unset, .unset, .unset, .unset, .unset, .unset, .unset, .unset, .unset] [(.long u0)])) (fun t_ k_ => XS.lloadN X1.here hx rfl (hb hby at_7) rfl k_) ?_
  refine own_st (B := T1.setTop (mkF m 9 #[.val (.long u0), .second, .val (.long u1), .second, .val (.long u2), .second, .val (.long u3), .second, .val (.int u4), .val (.long (own_min u0 u1)), .second, .unset, .unset, .unset, .unset, .unset, .unset, .unset, .unset, .unset, .unset, .unset, .unset, .unset, .unset] [(.long u1), (.long u0)])) (fun t_ k_ => XS.lloadN X1.here hx rfl (hb hby at_8) rfl k_) ?_
  obtain ⟨_, _, ⟨T2, L2, k2, n2⟩, -, X2, ⟨Lc2, hQ2, l2, y2, z2⟩, st2⟩ := Jvm.LawKit.callS X1 hx (y := (⟨"java/lang/Math", "max", "(JJ)J"⟩ : MethodName)) hown (mvT hZ (hw _ (List.mem_of_getElem? (i := 4) rfl))) (mvT hZ (hw _ (List.mem_of_getElem? (i := 5) rfl))) (mvT hZ (hw _ (List.mem_of_getElem? (i := 2) rfl))) (mvT hZ (hw _ (List.mem_of_getElem? (i := 6) rfl))) (by decide) (backOf (W := 0) (rm2 l Z a0 hw [] u0 u1 h0 n0 Z0 ) hZ (hw _ (List.mem_of_getElem? (i := 6) rfl)) (hw _ (List.mem_of_getElem? (i := 2) rfl)) (by decide) (by decide)) (g := (mkF m 9 #[.val (.long u0), .second, .val (.long u1), .second, .val (.long u2), .second, .val (.long u3), .second, .val (.int u4), .val (.long (own_min u0 u1)), .second, .unset, .unset, .unset, .unset, .unset, .unset, .unset, .unset, .unset, .unset, .unset, .unset, .unset, .unset] [(.long u1), (.long u0)])) rfl (by rw [hml]; rfl) (argsL := [(.long u0), (.long u1)]) (rest := []) (lenOf own_pd1 rfl) rfl (by show 2 * 0 + _ ≤ _; exact Nat.le_of_eq rfl) (hb hby at_9) (fun _ _ => ⟨rfl, eh1, (by decide : 0 + 0 ≤ _), (by decide : 0 + 0 ≤ _)⟩)
  dsimp only [Pt.U, Pt.locs, Pt.cells, Pt.slots] at X2 l2 y2 z2 st2 hQ2
  subst l2 y2 z2
  obtain ⟨rfl, N2q, eh2⟩ := hQ2
  have N2 := Fr.app N1 N2q
  refine own_st (B := T2.setTop (mkF m 12 #[.val (.long u0), .second, .val (.long u1), .second, .val (.long u2), .second, .val (.long u3), .second, .val (.int u4), .val (.long (own_min u0 u1)), .second, .unset, .unset, .unset, .unset, .unset, .unset, .unset, .unset, .unset, .unset, .unset, .unset, .unset, .unset] [(.long (own_max u0 u1))])) st2 ?_
  refine own_st (B := T2.setTop (mkF m 14 #[.val (.long u0), .second, .val (.long u1), .second, .val (.long u2), .second, .val (.long u3), .second, .val (.int u4), .val (.long (own_min u0 u1)), .second, .val (.long (own_max u0 u1)), .second, .unset, .unset, .unset, .unset, .unset, .unset, .unset, .unset, .unset, .unset, .unset, .unset] [])) (fun t_ k_ => XS.lstore X2.here hx rfl (hb hby at_12) rfl (l' := #[.val (.long u0), .second, .val (.long u1), .second, .val (.long u2), .second, .val (.long u3), .second, .val (.int u4), .val (.long (own_min u0 u1)), .second, .val (.long (own_max u0 u1)), .second, .unset, .unset, .unset, .unset, .unset, .unset, .unset, .unset, .unset, .unset, .unset, .unset]) rfl k_) ?_
  refine own_st (B := T2.setTop (mkF m 16 #[.val (.long u0), .second, .val (.long u1), .second, .val (.long u2), .second, .val (.long u3), .second, .val (.int u4), .val (.long (own_min u0 u1)), .second, .val (.long (own_max u0 u1)), .second, .unset, .unset, .unset, .unset, .unset, .unset, .unset, .unset, .unset, .unset, .unset, .unset] [(.long (own_min u0 u1))])) (fun t_ k_ => XS.lload X2.here hx rfl (hb hby at_14) rfl k_) ?_
  refine own_st (B := T2.setTop (mkF m 18 #[.val (.long u0), .second, .val (.long u1), .second, .val (.long u2), .second, .val (.long u3), .second, .val (.int u4), .val (.long (own_min u0 u1)), .second, .val (.long (own_max u0 u1)), .second, .unset, .unset, .unset, .unset, .unset, .unset, .unset, .unset, .unset, .unset, .unset, .unset] [(.long (own_max u0 u1)), (.long (own_min u0 u1))])) (fun t_ k_ => XS.lload X2.here hx rfl (hb hby at_16) rfl k_) ?_
  refine own_st (B := T2.setTop (mkF m 19 #[.val (.long u0), .second, .val (.long u1), .second, .val (.long u2), .second, .val (.long u3), .second, .val (.int u4), .val (.long (own_min u0 u1)), .second, .val (.long (own_max u0 u1)), .second, .unset, .unset, .unset, .unset, .unset, .unset, .unset, .unset, .unset, .unset, .unset, .unset] [(.int (lcmpW (own_min u0 u1) (own_max u0 u1)))])) (fun t_ k_ => XS.lcmp X2.here hx rfl (hb hby at_18) rfl k_) ?_
  by_cases hc3 : (own_min u0 u1) = (own_max u0 u1)
  · have hd3 := own_eq64 hc3
    refine own_st (B := T2.setTop (mkF m 22 #[.val (.long u0), .second, .val (.long u1), .second, .val (.long u2), .second, .val (.long u3), .second, .val (.int u4), .val (.long (own_min u0 u1)), .second, .val (.long (own_max u0 u1)), .second, .unset, .unset, .unset, .unset, .unset, .unset, .unset, .unset, .unset, .unset, .unset, .unset] [])) (fun t_ k_ => XS.ifNo X2.here hx rfl (hb hby at_19) rfl ((if0 _ _).trans (teq ((lw_eq _ _).mpr hc3)).2) k_) ?_
    refine own_st (B := T2.setTop (mkF m 23 #[.val (.long u0), .second, .val (.long u1), .second, .val (.long u2), .second, .val (.long u3), .second, .val (.int u4), .val (.long (own_min u0 u1)), .second, .val (.long (own_max u0 u1)), .second, .unset, .unset, .unset, .unset, .unset, .unset, .unset, .unset, .unset, .unset, .unset, .unset] [(.int (1 : Int32))])) (fun t_ k_ => XS.iconst X2.here hx rfl (hb hby at_22) k_) ?_
    refine own_retN X2 hx (t := .boolean) Bd.returns (by simp) hlk (hb hby at_23) (z' := (1 : Int32)) (by first | rfl | exact own_nb _ | exact own_nbb _) (by decide) (by decide) ?_
    show Q0 Z u0 u1 u2 u3 u4 h0 n0 _ T2.heap _
    rw [eh2]
    exact ⟨rfl, N2⟩
  · have hd3 := own_neq64 hc3
    refine own_st (B := T2.setTop (mkF m 24 #[.val (.long u0), .second, .val (.long u1), .second, .val (.long u2), .second, .val (.long u3), .second, .val (.int u4), .val (.long (own_min u0 u1)), .second, .val (.long (own_max u0 u1)), .second, .unset, .unset, .unset, .unset, .unset, .unset, .unset, .unset, .unset, .unset, .unset, .unset] [])) (fun t_ k_ => XS.ifYes X2.here hx rfl (pc0 := 19) (pc' := 24) rfl (hb hby at_19) rfl ((if0 _ _).trans (feq (fun q => hc3 ((lw_eq _ _).mp q))).2) (by decide) (by decide) k_) ?_
    refine own_st (B := T2.setTop (mkF m 26 #[.val (.long u0), .second, .val (.long u1), .second, .val (.long u2), .second, .val (.long u3), .second, .val (.int u4), .val (.long (own_min u0 u1)), .second, .val (.long (own_max u0 u1)), .second, .unset, .unset, .unset, .unset, .unset, .unset, .unset, .unset, .unset, .unset, .unset, .unset] [(.int u4)])) (fun t_ k_ => XS.iload X2.here hx rfl (hb hby at_24) rfl k_) ?_
    refine own_st (B := T2.setTop (mkF m 27 #[.val (.long u0), .second, .val (.long u1), .second, .val (.long u2), .second, .val (.long u3), .second, .val (.int u4), .val (.long (own_min u0 u1)), .second, .val (.long (own_max u0 u1)), .second, .unset, .unset, .unset, .unset, .unset, .unset, .unset, .unset, .unset, .unset, .unset, .unset] [(.int (3 : Int32)), (.int u4)])) (fun t_ k_ => XS.iconst X2.here hx rfl (hb hby at_26) k_) ?_
    refine own_st (B := T2.setTop (mkF m 28 #[.val (.long u0), .second, .val (.long u1), .second, .val (.long u2), .second, .val (.long u3), .second, .val (.int u4), .val (.long (own_min u0 u1)), .second, .val (.long (own_max u0 u1)), .second, .unset, .unset, .unset, .unset, .unset, .unset, .unset, .unset, .unset, .unset, .unset, .unset] [(.int (u4 &&& (3 : Int32)))])) (fun t_ k_ => XS.iand X2.here hx rfl (hb hby at_27) rfl k_) ?_
    refine own_st (B := T2.setTop (mkF m 30 #[.val (.long u0), .second, .val (.long u1), .second, .val (.long u2), .second, .val (.long u3), .second, .val (.int u4), .val (.long (own_min u0 u1)), .second, .val (.long (own_max u0 u1)), .second, .val (.int (u4 &&& (3 : Int32))), .unset, .unset, .unset, .unset, .unset, .unset, .unset, .unset, .unset, .unset, .unset] [])) (fun t_ k_ => XS.istore X2.here hx rfl (hb hby at_28) rfl (l' := #[.val (.long u0), .second, .val (.long u1), .second, .val (.long u2), .second, .val (.long u3), .second, .val (.int u4), .val (.long (own_min u0 u1)), .second, .val (.long (own_max u0 u1)), .second, .val (.int (u4 &&& (3 : Int32))), .unset, .unset, .unset, .unset, .unset, .unset, .unset, .unset, .unset, .unset, .unset]) rfl k_) ?_
    refine own_st (B := T2.setTop (mkF m 32 #[.val (.long u0), .second, .val (.long u1), .second, .val (.long u2), .second, .val (.long u3), .second, .val (.int u4), .val (.long (own_min u0 u1)), .second, .val (.long (own_max u0 u1)), .second, .val (.int (u4 &&& (3 : Int32))), .unset, .unset, .unset, .unset, .unset, .unset, .unset, .unset, .unset, .unset, .unset] [(.long u2)])) (fun t_ k_ => XS.lload X2.here hx rfl (hb hby at_30) rfl k_) ?_
    refine own_st (B := T2.setTop (mkF m 34 #[.val (.long u0), .second, .val (.long u1), .second, .val (.long u2), .second, .val (.long u3), .second, .val (.int u4), .val (.long (own_min u0 u1)), .second, .val (.long (own_max u0 u1)), .second, .val (.int (u4 &&& (3 : Int32))), .val (.long u2), .second, .unset, .unset, .unset, .unset, .unset, .unset, .unset, .unset, .unset] [])) (fun t_ k_ => XS.lstore X2.here hx rfl (hb hby at_32) rfl (l' := #[.val (.long u0), .second, .val (.long u1), .second, .val (.long u2), .second, .val (.long u3), .second, .val (.int u4), .val (.long (own_min u0 u1)), .second, .val (.long (own_max u0 u1)), .second, .val (.int (u4 &&& (3 : Int32))), .val (.long u2), .second, .unset, .unset, .unset, .unset, .unset, .unset, .unset, .unset, .unset]) rfl k_) ?_
    refine own_st (B := T2.setTop (mkF m 36 #[.val (.long u0), .second, .val (.long u1), .second, .val (.long u2), .second, .val (.long u3), .second, .val (.int u4), .val (.long (own_min u0 u1)), .second, .val (.long (own_max u0 u1)), .second, .val (.int (u4 &&& (3 : Int32))), .val (.long u2), .second, .unset, .unset, .unset, .unset, .unset, .unset, .unset, .unset, .unset] [(.long u3)])) (fun t_ k_ => XS.lload X2.here hx rfl (hb hby at_34) rfl k_) ?_
    refine own_st (B := T2.setTop (mkF m 38 #[.val (.long u0), .second, .val (.long u1), .second, .val (.long u2), .second, .val (.long u3), .second, .val (.int u4), .val (.long (own_min u0 u1)), .second, .val (.long (own_max u0 u1)), .second, .val (.int (u4 &&& (3 : Int32))), .val (.long u2), .second, .val (.long u3), .second, .unset, .unset, .unset, .unset, .unset, .unset, .unset] [])) (fun t_ k_ => XS.lstore X2.here hx rfl (hb hby at_36) rfl (l' := #[.val (.long u0), .second, .val (.long u1), .second, .val (.long u2), .second, .val (.long u3), .second, .val (.int u4), .val (.long (own_min u0 u1)), .second, .val (.long (own_max u0 u1)), .second, .val (.int (u4 &&& (3 : Int32))), .val (.long u2), .second, .val (.long u3), .second, .unset, .unset, .unset, .unset, .unset, .unset, .unset]) rfl k_) ?_
    have J4 : ∀  (y14 : Int64) (y16 : Int64), own_E p e below s (Q0 Z u0 u1 u2 u3 u4 h0 n0) 2 4 (T2.setTop (mkF m 78 #[.val (.long u0), .second, .val (.long u1), .second, .val (.long u2), .second, .val (.long u3), .second, .val (.int u4), .val (.long (own_min u0 u1)), .second, .val (.long (own_max u0 u1)), .second, .val (.int (u4 &&& (3 : Int32))), .val (.long y14), .second, .val (.long y16), .second, .unset, .unset, .unset, .unset, .unset, .unset, .unset] [])) := by
      intro y14 y16
      refine own_st (B := T2.setTop (mkF m 80 #[.val (.long u0), .second, .val (.long u1), .second, .val (.long u2), .second, .val (.long u3), .second, .val (.int u4), .val (.long (own_min u0 u1)), .second, .val (.long (own_max u0 u1)), .second, .val (.int (u4 &&& (3 : Int32))), .val (.long y14), .second, .val (.long y16), .second, .unset, .unset, .unset, .unset, .unset, .unset, .unset] [(.long y14)])) (fun t_ k_ => XS.lload X2.here hx rfl (hb hby at_78) rfl k_) ?_
      refine own_st (B := T2.setTop (mkF m 82 #[.val (.long u0), .second, .val (.long u1), .second, .val (.long u2), .second, .val (.long u3), .second, .val (.int u4), .val (.long (own_min u0 u1)), .second, .val (.long (own_max u0 u1)), .second, .val (.int (u4 &&& (3 : Int32))), .val (.long y14), .second, .val (.long y16), .second, .unset, .unset, .unset, .unset, .unset, .unset, .unset] [(.long y16), (.long y14)])) (fun t_ k_ => XS.lload X2.here hx rfl (hb hby at_80) rfl k_) ?_
      obtain ⟨_, _, ⟨T5, L5, k5, n5⟩, -, X5, ⟨Lc5, hQ5, l5, y5, z5⟩, st5⟩ := Jvm.LawKit.callS X2 hx (y := (⟨"java/lang/Math", "min", "(JJ)J"⟩ : MethodName)) hown (mvT hZ (hw _ (List.mem_of_getElem? (i := 0) rfl))) (mvT hZ (hw _ (List.mem_of_getElem? (i := 1) rfl))) (mvT hZ (hw _ (List.mem_of_getElem? (i := 2) rfl))) (mvT hZ (hw _ (List.mem_of_getElem? (i := 3) rfl))) (by decide) (backOf (W := 0) (rm1 l Z a0 hw [] y14 y16 h0 n0 Z0 ) hZ (hw _ (List.mem_of_getElem? (i := 3) rfl)) (hw _ (List.mem_of_getElem? (i := 2) rfl)) (by decide) (by decide)) (g := (mkF m 82 #[.val (.long u0), .second, .val (.long u1), .second, .val (.long u2), .second, .val (.long u3), .second, .val (.int u4), .val (.long (own_min u0 u1)), .second, .val (.long (own_max u0 u1)), .second, .val (.int (u4 &&& (3 : Int32))), .val (.long y14), .second, .val (.long y16), .second, .unset, .unset, .unset, .unset, .unset, .unset, .unset] [(.long y16), (.long y14)])) rfl (by rw [hml]; rfl) (argsL := [(.long y14), (.long y16)]) (rest := []) (lenOf own_pd1 rfl) rfl (by show 2 * 0 + _ ≤ _; exact Nat.le_of_eq rfl) (hb hby at_82) (fun _ _ => ⟨rfl, eh2, (by decide : 0 + 0 ≤ _), (by decide : 0 + 0 ≤ _)⟩)
      dsimp only [Pt.U, Pt.locs, Pt.cells, Pt.slots] at X5 l5 y5 z5 st5 hQ5
      subst l5 y5 z5
      obtain ⟨rfl, N5q, eh5⟩ := hQ5
      have N5 := Fr.app N2 N5q
      refine own_st (B := T5.setTop (mkF m 85 #[.val (.long u0), .second, .val (.long u1), .second, .val (.long u2), .second, .val (.long u3), .second, .val (.int u4), .val (.long (own_min u0 u1)), .second, .val (.long (own_max u0 u1)), .second, .val (.int (u4 &&& (3 : Int32))), .val (.long y14), .second, .val (.long y16), .second, .unset, .unset, .unset, .unset, .unset, .unset, .unset] [(.long (own_min y14 y16))])) st5 ?_
      refine own_st (B := T5.setTop (mkF m 87 #[.val (.long u0), .second, .val (.long u1), .second, .val (.long u2), .second, .val (.long u3), .second, .val (.int u4), .val (.long (own_min u0 u1)), .second, .val (.long (own_max u0 u1)), .second, .val (.int (u4 &&& (3 : Int32))), .val (.long y14), .second, .val (.long y16), .second, .val (.long (own_min y14 y16)), .second, .unset, .unset, .unset, .unset, .unset] [])) (fun t_ k_ => XS.lstore X5.here hx rfl (hb hby at_85) rfl (l' := #[.val (.long u0), .second, .val (.long u1), .second, .val (.long u2), .second, .val (.long u3), .second, .val (.int u4), .val (.long (own_min u0 u1)), .second, .val (.long (own_max u0 u1)), .second, .val (.int (u4 &&& (3 : Int32))), .val (.long y14), .second, .val (.long y16), .second, .val (.long (own_min y14 y16)), .second, .unset, .unset, .unset, .unset, .unset]) rfl k_) ?_
      refine own_st (B := T5.setTop (mkF m 89 #[.val (.long u0), .second, .val (.long u1), .second, .val (.long u2), .second, .val (.long u3), .second, .val (.int u4), .val (.long (own_min u0 u1)), .second, .val (.long (own_max u0 u1)), .second, .val (.int (u4 &&& (3 : Int32))), .val (.long y14), .second, .val (.long y16), .second, .val (.long (own_min y14 y16)), .second, .unset, .unset, .unset, .unset, .unset] [(.long y14)])) (fun t_ k_ => XS.lload X5.here hx rfl (hb hby at_87) rfl k_) ?_
      refine own_st (B := T5.setTop (mkF m 91 #[.val (.long u0), .second, .val (.long u1), .second, .val (.long u2), .second, .val (.long u3), .second, .val (.int u4), .val (.long (own_min u0 u1)), .second, .val (.long (own_max u0 u1)), .second, .val (.int (u4 &&& (3 : Int32))), .val (.long y14), .second, .val (.long y16), .second, .val (.long (own_min y14 y16)), .second, .unset, .unset, .unset, .unset, .unset] [(.long y16), (.long y14)])) (fun t_ k_ => XS.lload X5.here hx rfl (hb hby at_89) rfl k_) ?_
      obtain ⟨_, _, ⟨T6, L6, k6, n6⟩, -, X6, ⟨Lc6, hQ6, l6, y6, z6⟩, st6⟩ := Jvm.LawKit.callS X5 hx (y := (⟨"java/lang/Math", "max", "(JJ)J"⟩ : MethodName)) hown (mvT hZ (hw _ (List.mem_of_getElem? (i := 4) rfl))) (mvT hZ (hw _ (List.mem_of_getElem? (i := 5) rfl))) (mvT hZ (hw _ (List.mem_of_getElem? (i := 2) rfl))) (mvT hZ (hw _ (List.mem_of_getElem? (i := 6) rfl))) (by decide) (backOf (W := 0) (rm2 l Z a0 hw [] y14 y16 h0 n0 Z0 ) hZ (hw _ (List.mem_of_getElem? (i := 6) rfl)) (hw _ (List.mem_of_getElem? (i := 2) rfl)) (by decide) (by decide)) (g := (mkF m 91 #[.val (.long u0), .second, .val (.long u1), .second, .val (.long u2), .second, .val (.long u3), .second, .val (.int u4), .val (.long (own_min u0 u1)), .second, .val (.long (own_max u0 u1)), .second, .val (.int (u4 &&& (3 : Int32))), .val (.long y14), .second, .val (.long y16), .second, .val (.long (own_min y14 y16)), .second, .unset, .unset, .unset, .unset, .unset] [(.long y16), (.long y14)])) rfl (by rw [hml]; rfl) (argsL := [(.long y14), (.long y16)]) (rest := []) (lenOf own_pd1 rfl) rfl (by show 2 * 0 + _ ≤ _; exact Nat.le_of_eq rfl) (hb hby at_91) (fun _ _ => ⟨rfl, eh5, (by decide : 0 + 0 ≤ _), (by decide : 0 + 0 ≤ _)⟩)
      dsimp only [Pt.U, Pt.locs, Pt.cells, Pt.slots] at X6 l6 y6 z6 st6 hQ6
      subst l6 y6 z6
      obtain ⟨rfl, N6q, eh6⟩ := hQ6
      have N6 := Fr.app N5 N6q
      refine own_st (B := T6.setTop (mkF m 94 #[.val (.long u0), .second, .val (.long u1), .second, .val (.long u2), .second, .val (.long u3), .second, .val (.int u4), .val (.long (own_min u0 u1)), .second, .val (.long (own_max u0 u1)), .second, .val (.int (u4 &&& (3 : Int32))), .val (.long y14), .second, .val (.long y16), .second, .val (.long (own_min y14 y16)), .second, .unset, .unset, .unset, .unset, .unset] [(.long (own_max y14 y16))])) st6 ?_
      refine own_st (B := T6.setTop (mkF m 96 #[.val (.long u0), .second, .val (.long u1), .second, .val (.long u2), .second, .val (.long u3), .second, .val (.int u4), .val (.long (own_min u0 u1)), .second, .val (.long (own_max u0 u1)), .second, .val (.int (u4 &&& (3 : Int32))), .val (.long y14), .second, .val (.long y16), .second, .val (.long (own_min y14 y16)), .second, .val (.long (own_max y14 y16)), .second, .unset, .unset, .unset] [])) (fun t_ k_ => XS.lstore X6.here hx rfl (hb hby at_94) rfl (l' := #[.val (.long u0), .second, .val (.long u1), .second, .val (.long u2), .second, .val (.long u3), .second, .val (.int u4), .val (.long (own_min u0 u1)), .second, .val (.long (own_max u0 u1)), .second, .val (.int (u4 &&& (3 : Int32))), .val (.long y14), .second, .val (.long y16), .second, .val (.long (own_min y14 y16)), .second, .val (.long (own_max y14 y16)), .second, .unset, .unset, .unset]) rfl k_) ?_
      refine own_st (B := T6.setTop (mkF m 98 #[.val (.long u0), .second, .val (.long u1), .second, .val (.long u2), .second, .val (.long u3), .second, .val (.int u4), .val (.long (own_min u0 u1)), .second, .val (.long (own_max u0 u1)), .second, .val (.int (u4 &&& (3 : Int32))), .val (.long y14), .second, .val (.long y16), .second, .val (.long (own_min y14 y16)), .second, .val (.long (own_max y14 y16)), .second, .unset, .unset, .unset] [(.long (own_min y14 y16))])) (fun t_ k_ => XS.lload X6.here hx rfl (hb hby at_96) rfl k_) ?_
      refine own_st (B := T6.setTop (mkF m 100 #[.val (.long u0), .second, .val (.long u1), .second, .val (.long u2), .second, .val (.long u3), .second, .val (.int u4), .val (.long (own_min u0 u1)), .second, .val (.long (own_max u0 u1)), .second, .val (.int (u4 &&& (3 : Int32))), .val (.long y14), .second, .val (.long y16), .second, .val (.long (own_min y14 y16)), .second, .val (.long (own_max y14 y16)), .second, .unset, .unset, .unset] [(.long (own_max y14 y16)), (.long (own_min y14 y16))])) (fun t_ k_ => XS.lload X6.here hx rfl (hb hby at_98) rfl k_) ?_
      refine own_st (B := T6.setTop (mkF m 101 #[.val (.long u0), .second, .val (.long u1), .second, .val (.long u2), .second, .val (.long u3), .second, .val (.int u4), .val (.long (own_min u0 u1)), .second, .val (.long (own_max u0 u1)), .second, .val (.int (u4 &&& (3 : Int32))), .val (.long y14), .second, .val (.long y16), .second, .val (.long (own_min y14 y16)), .second, .val (.long (own_max y14 y16)), .second, .unset, .unset, .unset] [(.int (lcmpW (own_min y14 y16) (own_max y14 y16)))])) (fun t_ k_ => XS.lcmp X6.here hx rfl (hb hby at_100) rfl k_) ?_
      by_cases hc7 : (own_min y14 y16) = (own_max y14 y16)
      · have hd7 := own_eq64 hc7
        refine own_st (B := T6.setTop (mkF m 104 #[.val (.long u0), .second, .val (.long u1), .second, .val (.long u2), .second, .val (.long u3), .second, .val (.int u4), .val (.long (own_min u0 u1)), .second, .val (.long (own_max u0 u1)), .second, .val (.int (u4 &&& (3 : Int32))), .val (.long y14), .second, .val (.long y16), .second, .val (.long (own_min y14 y16)), .second, .val (.long (own_max y14 y16)), .second, .unset, .unset, .unset] [])) (fun t_ k_ => XS.ifNo X6.here hx rfl (hb hby at_101) rfl ((if0 _ _).trans (teq ((lw_eq _ _).mpr hc7)).2) k_) ?_
        refine own_st (B := T6.setTop (mkF m 105 #[.val (.long u0), .second, .val (.long u1), .second, .val (.long u2), .second, .val (.long u3), .second, .val (.int u4), .val (.long (own_min u0 u1)), .second, .val (.long (own_max u0 u1)), .second, .val (.int (u4 &&& (3 : Int32))), .val (.long y14), .second, .val (.long y16), .second, .val (.long (own_min y14 y16)), .second, .val (.long (own_max y14 y16)), .second, .unset, .unset, .unset] [(.int (1 : Int32))])) (fun t_ k_ => XS.iconst X6.here hx rfl (hb hby at_104) k_) ?_
        refine own_retN X6 hx (t := .boolean) Bd.returns (by simp) hlk (hb hby at_105) (z' := (1 : Int32)) (by first | rfl | exact own_nb _ | exact own_nbb _) (by decide) (by decide) ?_
        show Q0 Z u0 u1 u2 u3 u4 h0 n0 _ T6.heap _
        rw [eh6]
        exact ⟨rfl, N6⟩
      · have hd7 := own_neq64 hc7
        refine own_st (B := T6.setTop (mkF m 106 #[.val (.long u0), .second, .val (.long u1), .second, .val (.long u2), .second, .val (.long u3), .second, .val (.int u4), .val (.long (own_min u0 u1)), .second, .val (.long (own_max u0 u1)), .second, .val (.int (u4 &&& (3 : Int32))), .val (.long y14), .second, .val (.long y16), .second, .val (.long (own_min y14 y16)), .second, .val (.long (own_max y14 y16)), .second, .unset, .unset, .unset] [])) (fun t_ k_ => XS.ifYes X6.here hx rfl (pc0 := 101) (pc' := 106) rfl (hb hby at_101) rfl ((if0 _ _).trans (feq (fun q => hc7 ((lw_eq _ _).mp q))).2) (by decide) (by decide) k_) ?_
        obtain ⟨T8, h8, X8, e8, E8, A8, D8, -, st8⟩ := newO X6 hx hZ hown (hw _ (List.mem_of_getElem? (i := 7) rfl)) (hw _ (List.mem_of_getElem? (i := 8) rfl)) (hw _ (List.mem_of_getElem? (i := 9) rfl)) eh6 (g := (mkF m 106 #[.val (.long u0), .second, .val (.long u1), .second, .val (.long u2), .second, .val (.long u3), .second, .val (.int u4), .val (.long (own_min u0 u1)), .second, .val (.long (own_max u0 u1)), .second, .val (.int (u4 &&& (3 : Int32))), .val (.long y14), .second, .val (.long y16), .second, .val (.long (own_min y14 y16)), .second, .val (.long (own_max y14 y16)), .second, .unset, .unset, .unset] [])) rfl (hb hby at_106) (by decide) (by decide)
        obtain ⟨b8, g8⟩ : ∃ z, z = h0.size := ⟨_, rfl⟩
        rw [← g8] at A8 D8 st8
        have g9 : n0 ≤ b8 := Nat.le_trans Z0 (Nat.le_of_eq g8.symm)
        have Z10 := Nat.le_trans Z0 E8.1
        have F8_startMillis : Fld Z h8 b8 "com/example/briareus/briareus/model/Interval" "startMillis" "J" (.long (0 : Int64)) := D8 (Or.inr (hw _ (List.mem_of_getElem? (i := 22) rfl))) (ty := .long) (by decide)
        have F8_endMillis : Fld Z h8 b8 "com/example/briareus/briareus/model/Interval" "endMillis" "J" (.long (0 : Int64)) := D8 (Or.inr (hw _ (List.mem_of_getElem? (i := 24) rfl))) (ty := .long) (by decide)
        refine own_st (B := T8.setTop (mkF m 109 #[.val (.long u0), .second, .val (.long u1), .second, .val (.long u2), .second, .val (.long u3), .second, .val (.int u4), .val (.long (own_min u0 u1)), .second, .val (.long (own_max u0 u1)), .second, .val (.int (u4 &&& (3 : Int32))), .val (.long y14), .second, .val (.long y16), .second, .val (.long (own_min y14 y16)), .second, .val (.long (own_max y14 y16)), .second, .unset, .unset, .unset] [(.ref b8)])) st8 ?_
        refine own_st (B := T8.setTop (mkF m 110 #[.val (.long u0), .second, .val (.long u1), .second, .val (.long u2), .second, .val (.long u3), .second, .val (.int u4), .val (.long (own_min u0 u1)), .second, .val (.long (own_max u0 u1)), .second, .val (.int (u4 &&& (3 : Int32))), .val (.long y14), .second, .val (.long y16), .second, .val (.long (own_min y14 y16)), .second, .val (.long (own_max y14 y16)), .second, .unset, .unset, .unset] [(.ref b8), (.ref b8)])) (fun t_ k_ => XS.dup X8.here hx rfl (hb hby at_109) rfl rfl k_) ?_
        refine own_st (B := T8.setTop (mkF m 112 #[.val (.long u0), .second, .val (.long u1), .second, .val (.long u2), .second, .val (.long u3), .second, .val (.int u4), .val (.long (own_min u0 u1)), .second, .val (.long (own_max u0 u1)), .second, .val (.int (u4 &&& (3 : Int32))), .val (.long y14), .second, .val (.long y16), .second, .val (.long (own_min y14 y16)), .second, .val (.long (own_max y14 y16)), .second, .unset, .unset, .unset] [(.long (own_min u0 u1)), (.ref b8), (.ref b8)])) (fun t_ k_ => XS.lload X8.here hx rfl (hb hby at_110) rfl k_) ?_
        refine own_st (B := T8.setTop (mkF m 114 #[.val (.long u0), .second, .val (.long u1), .second, .val (.long u2), .second, .val (.long u3), .second, .val (.int u4), .val (.long (own_min u0 u1)), .second, .val (.long (own_max u0 u1)), .second, .val (.int (u4 &&& (3 : Int32))), .val (.long y14), .second, .val (.long y16), .second, .val (.long (own_min y14 y16)), .second, .val (.long (own_max y14 y16)), .second, .unset, .unset, .unset] [(.long (own_max u0 u1)), (.long (own_min u0 u1)), (.ref b8), (.ref b8)])) (fun t_ k_ => XS.lload X8.here hx rfl (hb hby at_112) rfl k_) ?_
        obtain ⟨_, _, ⟨T11, L11, k11, n11⟩, -, X11, ⟨Lc11, hQ11, l11, y11, z11⟩, st11⟩ := X8.specialBack hx (y := (⟨"com/example/briareus/briareus/model/Interval", "<init>", "(JJ)V"⟩ : MethodName)) rfl hown (mvT hZ (hw _ (List.mem_of_getElem? (i := 10) rfl))) (mvT hZ (hw _ (List.mem_of_getElem? (i := 11) rfl))) (mvT hZ (hw _ (List.mem_of_getElem? (i := 12) rfl))) (by decide) (backOf (W := 1) (rm3 l Z a0 hw [] b8 (own_min u0 u1) (own_max u0 u1) h8 n0 Z10 A8 F8_startMillis F8_endMillis g9 (own_mm' hc3)) hZ (hw _ (List.mem_of_getElem? (i := 12) rfl)) (hw _ (List.mem_of_getElem? (i := 9) rfl)) (by decide) (by decide)) (g := (mkF m 114 #[.val (.long u0), .second, .val (.long u1), .second, .val (.long u2), .second, .val (.long u3), .second, .val (.int u4), .val (.long (own_min u0 u1)), .second, .val (.long (own_max u0 u1)), .second, .val (.int (u4 &&& (3 : Int32))), .val (.long y14), .second, .val (.long y16), .second, .val (.long (own_min y14 y16)), .second, .val (.long (own_max y14 y16)), .second, .unset, .unset, .unset] [(.long (own_max u0 u1)), (.long (own_min u0 u1)), (.ref b8), (.ref b8)])) rfl (by rw [hml]; rfl) (Steps.refl _) (a := b8) (argsL := [(.long (own_min u0 u1)), (.long (own_max u0 u1))]) (rest := [(.ref b8)]) (lenOf own_pd2 rfl) rfl (by show 2 * 0 + _ ≤ _; exact Nat.le_of_eq rfl) (hb hby at_114) (fun _ _ => ⟨rfl, e8, (by decide : 1 + 0 ≤ _), (by decide : 2 + 0 ≤ _)⟩)
        dsimp only [Pt.U, Pt.locs, Pt.cells, Pt.slots] at X11 l11 y11 z11 st11 hQ11
        subst l11 y11 z11
        obtain ⟨rfl, N11q, K11, Fc11_0, Fc11_1⟩ := hQ11
        have N11 := Fr.app N6 N11q
        have Z12 := Nat.le_trans Z10 K11.1
        refine own_st (B := T11.setTop (mkF m 117 #[.val (.long u0), .second, .val (.long u1), .second, .val (.long u2), .second, .val (.long u3), .second, .val (.int u4), .val (.long (own_min u0 u1)), .second, .val (.long (own_max u0 u1)), .second, .val (.int (u4 &&& (3 : Int32))), .val (.long y14), .second, .val (.long y16), .second, .val (.long (own_min y14 y16)), .second, .val (.long (own_max y14 y16)), .second, .unset, .unset, .unset] [(.ref b8)])) (fun t_ k_ => st11.trans k_) ?_
        refine own_st (B := T11.setTop (mkF m 119 #[.val (.long u0), .second, .val (.long u1), .second, .val (.long u2), .second, .val (.long u3), .second, .val (.int u4), .val (.long (own_min u0 u1)), .second, .val (.long (own_max u0 u1)), .second, .val (.int (u4 &&& (3 : Int32))), .val (.long y14), .second, .val (.long y16), .second, .val (.long (own_min y14 y16)), .second, .val (.long (own_max y14 y16)), .second, .val (.ref b8), .unset, .unset] [])) (fun t_ k_ => XS.astore X11.here hx rfl (hb hby at_117) rfl rfl (l' := #[.val (.long u0), .second, .val (.long u1), .second, .val (.long u2), .second, .val (.long u3), .second, .val (.int u4), .val (.long (own_min u0 u1)), .second, .val (.long (own_max u0 u1)), .second, .val (.int (u4 &&& (3 : Int32))), .val (.long y14), .second, .val (.long y16), .second, .val (.long (own_min y14 y16)), .second, .val (.long (own_max y14 y16)), .second, .val (.ref b8), .unset, .unset]) rfl k_) ?_
        obtain ⟨T13, h13, X13, e13, E13, A13, D13, -, st13⟩ := newO X11 hx hZ hown (hw _ (List.mem_of_getElem? (i := 7) rfl)) (hw _ (List.mem_of_getElem? (i := 8) rfl)) (hw _ (List.mem_of_getElem? (i := 9) rfl)) rfl (g := (mkF m 119 #[.val (.long u0), .second, .val (.long u1), .second, .val (.long u2), .second, .val (.long u3), .second, .val (.int u4), .val (.long (own_min u0 u1)), .second, .val (.long (own_max u0 u1)), .second, .val (.int (u4 &&& (3 : Int32))), .val (.long y14), .second, .val (.long y16), .second, .val (.long (own_min y14 y16)), .second, .val (.long (own_max y14 y16)), .second, .val (.ref b8), .unset, .unset] [])) rfl (hb hby at_119) (by decide) (by decide)
        obtain ⟨b13, g13⟩ : ∃ z, z = T11.heap.size := ⟨_, rfl⟩
        rw [← g13] at A13 D13 st13
        have u14 := A8.keep K11
        have ne15 : b8 ≠ b13 := Nat.ne_of_lt (Nat.lt_of_lt_of_le u14.lt (Nat.le_of_eq g13.symm))
        have g16 : n0 ≤ b13 := Nat.le_trans Z12 (Nat.le_of_eq g13.symm)
        have Z17 := Nat.le_trans Z12 E13.1
        have F13_startMillis : Fld Z h13 b13 "com/example/briareus/briareus/model/Interval" "startMillis" "J" (.long (0 : Int64)) := D13 (Or.inr (hw _ (List.mem_of_getElem? (i := 22) rfl))) (ty := .long) (by decide)
        have F13_endMillis : Fld Z h13 b13 "com/example/briareus/briareus/model/Interval" "endMillis" "J" (.long (0 : Int64)) := D13 (Or.inr (hw _ (List.mem_of_getElem? (i := 24) rfl))) (ty := .long) (by decide)
        refine own_st (B := T13.setTop (mkF m 122 #[.val (.long u0), .second, .val (.long u1), .second, .val (.long u2), .second, .val (.long u3), .second, .val (.int u4), .val (.long (own_min u0 u1)), .second, .val (.long (own_max u0 u1)), .second, .val (.int (u4 &&& (3 : Int32))), .val (.long y14), .second, .val (.long y16), .second, .val (.long (own_min y14 y16)), .second, .val (.long (own_max y14 y16)), .second, .val (.ref b8), .unset, .unset] [(.ref b13)])) st13 ?_
        refine own_st (B := T13.setTop (mkF m 123 #[.val (.long u0), .second, .val (.long u1), .second, .val (.long u2), .second, .val (.long u3), .second, .val (.int u4), .val (.long (own_min u0 u1)), .second, .val (.long (own_max u0 u1)), .second, .val (.int (u4 &&& (3 : Int32))), .val (.long y14), .second, .val (.long y16), .second, .val (.long (own_min y14 y16)), .second, .val (.long (own_max y14 y16)), .second, .val (.ref b8), .unset, .unset] [(.ref b13), (.ref b13)])) (fun t_ k_ => XS.dup X13.here hx rfl (hb hby at_122) rfl rfl k_) ?_
        refine own_st (B := T13.setTop (mkF m 125 #[.val (.long u0), .second, .val (.long u1), .second, .val (.long u2), .second, .val (.long u3), .second, .val (.int u4), .val (.long (own_min u0 u1)), .second, .val (.long (own_max u0 u1)), .second, .val (.int (u4 &&& (3 : Int32))), .val (.long y14), .second, .val (.long y16), .second, .val (.long (own_min y14 y16)), .second, .val (.long (own_max y14 y16)), .second, .val (.ref b8), .unset, .unset] [(.long (own_min y14 y16)), (.ref b13), (.ref b13)])) (fun t_ k_ => XS.lload X13.here hx rfl (hb hby at_123) rfl k_) ?_
        refine own_st (B := T13.setTop (mkF m 127 #[.val (.long u0), .second, .val (.long u1), .second, .val (.long u2), .second, .val (.long u3), .second, .val (.int u4), .val (.long (own_min u0 u1)), .second, .val (.long (own_max u0 u1)), .second, .val (.int (u4 &&& (3 : Int32))), .val (.long y14), .second, .val (.long y16), .second, .val (.long (own_min y14 y16)), .second, .val (.long (own_max y14 y16)), .second, .val (.ref b8), .unset, .unset] [(.long (own_max y14 y16)), (.long (own_min y14 y16)), (.ref b13), (.ref b13)])) (fun t_ k_ => XS.lload X13.here hx rfl (hb hby at_125) rfl k_) ?_
        obtain ⟨_, _, ⟨T18, L18, k18, n18⟩, -, X18, ⟨Lc18, hQ18, l18, y18, z18⟩, st18⟩ := X13.specialBack hx (y := (⟨"com/example/briareus/briareus/model/Interval", "<init>", "(JJ)V"⟩ : MethodName)) rfl hown (mvT hZ (hw _ (List.mem_of_getElem? (i := 10) rfl))) (mvT hZ (hw _ (List.mem_of_getElem? (i := 11) rfl))) (mvT hZ (hw _ (List.mem_of_getElem? (i := 12) rfl))) (by decide) (backOf (W := 1) (rm3 l Z a0 hw [] b13 (own_min y14 y16) (own_max y14 y16) h13 n0 Z17 A13 F13_startMillis F13_endMillis g16 (own_mm' hc7)) hZ (hw _ (List.mem_of_getElem? (i := 12) rfl)) (hw _ (List.mem_of_getElem? (i := 9) rfl)) (by decide) (by decide)) (g := (mkF m 127 #[.val (.long u0), .second, .val (.long u1), .second, .val (.long u2), .second, .val (.long u3), .second, .val (.int u4), .val (.long (own_min u0 u1)), .second, .val (.long (own_max u0 u1)), .second, .val (.int (u4 &&& (3 : Int32))), .val (.long y14), .second, .val (.long y16), .second, .val (.long (own_min y14 y16)), .second, .val (.long (own_max y14 y16)), .second, .val (.ref b8), .unset, .unset] [(.long (own_max y14 y16)), (.long (own_min y14 y16)), (.ref b13), (.ref b13)])) rfl (by rw [hml]; rfl) (Steps.refl _) (a := b13) (argsL := [(.long (own_min y14 y16)), (.long (own_max y14 y16))]) (rest := [(.ref b13)]) (lenOf own_pd2 rfl) rfl (by show 2 * 0 + _ ≤ _; exact Nat.le_of_eq rfl) (hb hby at_127) (fun _ _ => ⟨rfl, e13, (by decide : 2 + 0 ≤ _), (by decide : 4 + 0 ≤ _)⟩)
        dsimp only [Pt.U, Pt.locs, Pt.cells, Pt.slots] at X18 l18 y18 z18 st18 hQ18
        subst l18 y18 z18
        obtain ⟨rfl, N18q, K18, Fc18_0, Fc18_1⟩ := hQ18
        have N18 := Fr.app N11 N18q
        have Z19 := Nat.le_trans Z17 K18.1
        refine own_st (B := T18.setTop (mkF m 130 #[.val (.long u0), .second, .val (.long u1), .second, .val (.long u2), .second, .val (.long u3), .second, .val (.int u4), .val (.long (own_min u0 u1)), .second, .val (.long (own_max u0 u1)), .second, .val (.int (u4 &&& (3 : Int32))), .val (.long y14), .second, .val (.long y16), .second, .val (.long (own_min y14 y16)), .second, .val (.long (own_max y14 y16)), .second, .val (.ref b8), .unset, .unset] [(.ref b13)])) (fun t_ k_ => st18.trans k_) ?_
        refine own_st (B := T18.setTop (mkF m 132 #[.val (.long u0), .second, .val (.long u1), .second, .val (.long u2), .second, .val (.long u3), .second, .val (.int u4), .val (.long (own_min u0 u1)), .second, .val (.long (own_max u0 u1)), .second, .val (.int (u4 &&& (3 : Int32))), .val (.long y14), .second, .val (.long y16), .second, .val (.long (own_min y14 y16)), .second, .val (.long (own_max y14 y16)), .second, .val (.ref b8), .val (.ref b13), .unset] [])) (fun t_ k_ => XS.astore X18.here hx rfl (hb hby at_130) rfl rfl (l' := #[.val (.long u0), .second, .val (.long u1), .second, .val (.long u2), .second, .val (.long u3), .second, .val (.int u4), .val (.long (own_min u0 u1)), .second, .val (.long (own_max u0 u1)), .second, .val (.int (u4 &&& (3 : Int32))), .val (.long y14), .second, .val (.long y16), .second, .val (.long (own_min y14 y16)), .second, .val (.long (own_max y14 y16)), .second, .val (.ref b8), .val (.ref b13), .unset]) rfl k_) ?_
        refine own_st (B := T18.setTop (mkF m 134 #[.val (.long u0), .second, .val (.long u1), .second, .val (.long u2), .second, .val (.long u3), .second, .val (.int u4), .val (.long (own_min u0 u1)), .second, .val (.long (own_max u0 u1)), .second, .val (.int (u4 &&& (3 : Int32))), .val (.long y14), .second, .val (.long y16), .second, .val (.long (own_min y14 y16)), .second, .val (.long (own_max y14 y16)), .second, .val (.ref b8), .val (.ref b13), .unset] [(.long (own_min u0 u1))])) (fun t_ k_ => XS.lload X18.here hx rfl (hb hby at_132) rfl k_) ?_
        refine own_st (B := T18.setTop (mkF m 136 #[.val (.long u0), .second, .val (.long u1), .second, .val (.long u2), .second, .val (.long u3), .second, .val (.int u4), .val (.long (own_min u0 u1)), .second, .val (.long (own_max u0 u1)), .second, .val (.int (u4 &&& (3 : Int32))), .val (.long y14), .second, .val (.long y16), .second, .val (.long (own_min y14 y16)), .second, .val (.long (own_max y14 y16)), .second, .val (.ref b8), .val (.ref b13), .unset] [(.long (own_min y14 y16)), (.long (own_min u0 u1))])) (fun t_ k_ => XS.lload X18.here hx rfl (hb hby at_134) rfl k_) ?_
        obtain ⟨_, _, ⟨T20, L20, k20, n20⟩, -, X20, ⟨Lc20, hQ20, l20, y20, z20⟩, st20⟩ := Jvm.LawKit.callS X18 hx (y := (⟨"java/lang/Math", "max", "(JJ)J"⟩ : MethodName)) hown (mvT hZ (hw _ (List.mem_of_getElem? (i := 4) rfl))) (mvT hZ (hw _ (List.mem_of_getElem? (i := 5) rfl))) (mvT hZ (hw _ (List.mem_of_getElem? (i := 2) rfl))) (mvT hZ (hw _ (List.mem_of_getElem? (i := 6) rfl))) (by decide) (backOf (W := 0) (rm2 l Z a0 hw [] (own_min u0 u1) (own_min y14 y16) T18.heap n0 Z19 ) hZ (hw _ (List.mem_of_getElem? (i := 6) rfl)) (hw _ (List.mem_of_getElem? (i := 2) rfl)) (by decide) (by decide)) (g := (mkF m 136 #[.val (.long u0), .second, .val (.long u1), .second, .val (.long u2), .second, .val (.long u3), .second, .val (.int u4), .val (.long (own_min u0 u1)), .second, .val (.long (own_max u0 u1)), .second, .val (.int (u4 &&& (3 : Int32))), .val (.long y14), .second, .val (.long y16), .second, .val (.long (own_min y14 y16)), .second, .val (.long (own_max y14 y16)), .second, .val (.ref b8), .val (.ref b13), .unset] [(.long (own_min y14 y16)), (.long (own_min u0 u1))])) rfl (by rw [hml]; rfl) (argsL := [(.long (own_min u0 u1)), (.long (own_min y14 y16))]) (rest := []) (lenOf own_pd1 rfl) rfl (by show 2 * 0 + _ ≤ _; exact Nat.le_of_eq rfl) (hb hby at_136) (fun _ _ => ⟨rfl, rfl, (by decide : 2 + 0 ≤ _), (by decide : 4 + 0 ≤ _)⟩)
        dsimp only [Pt.U, Pt.locs, Pt.cells, Pt.slots] at X20 l20 y20 z20 st20 hQ20
        subst l20 y20 z20
        obtain ⟨rfl, N20q, eh20⟩ := hQ20
        have N20 := Fr.app N18 N20q
        refine own_st (B := T20.setTop (mkF m 139 #[.val (.long u0), .second, .val (.long u1), .second, .val (.long u2), .second, .val (.long u3), .second, .val (.int u4), .val (.long (own_min u0 u1)), .second, .val (.long (own_max u0 u1)), .second, .val (.int (u4 &&& (3 : Int32))), .val (.long y14), .second, .val (.long y16), .second, .val (.long (own_min y14 y16)), .second, .val (.long (own_max y14 y16)), .second, .val (.ref b8), .val (.ref b13), .unset] [(.long (own_max (own_min u0 u1) (own_min y14 y16)))])) st20 ?_
        refine own_st (B := T20.setTop (mkF m 141 #[.val (.long u0), .second, .val (.long u1), .second, .val (.long u2), .second, .val (.long u3), .second, .val (.int u4), .val (.long (own_min u0 u1)), .second, .val (.long (own_max u0 u1)), .second, .val (.int (u4 &&& (3 : Int32))), .val (.long y14), .second, .val (.long y16), .second, .val (.long (own_min y14 y16)), .second, .val (.long (own_max y14 y16)), .second, .val (.ref b8), .val (.ref b13), .unset] [(.long (own_max u0 u1)), (.long (own_max (own_min u0 u1) (own_min y14 y16)))])) (fun t_ k_ => XS.lload X20.here hx rfl (hb hby at_139) rfl k_) ?_
        refine own_st (B := T20.setTop (mkF m 143 #[.val (.long u0), .second, .val (.long u1), .second, .val (.long u2), .second, .val (.long u3), .second, .val (.int u4), .val (.long (own_min u0 u1)), .second, .val (.long (own_max u0 u1)), .second, .val (.int (u4 &&& (3 : Int32))), .val (.long y14), .second, .val (.long y16), .second, .val (.long (own_min y14 y16)), .second, .val (.long (own_max y14 y16)), .second, .val (.ref b8), .val (.ref b13), .unset] [(.long (own_max y14 y16)), (.long (own_max u0 u1)), (.long (own_max (own_min u0 u1) (own_min y14 y16)))])) (fun t_ k_ => XS.lload X20.here hx rfl (hb hby at_141) rfl k_) ?_
        obtain ⟨_, _, ⟨T21, L21, k21, n21⟩, -, X21, ⟨Lc21, hQ21, l21, y21, z21⟩, st21⟩ := Jvm.LawKit.callS X20 hx (y := (⟨"java/lang/Math", "min", "(JJ)J"⟩ : MethodName)) hown (mvT hZ (hw _ (List.mem_of_getElem? (i := 0) rfl))) (mvT hZ (hw _ (List.mem_of_getElem? (i := 1) rfl))) (mvT hZ (hw _ (List.mem_of_getElem? (i := 2) rfl))) (mvT hZ (hw _ (List.mem_of_getElem? (i := 3) rfl))) (by decide) (backOf (W := 2) (rm1 l Z a0 hw [] (own_max u0 u1) (own_max y14 y16) T18.heap n0 Z19 ) hZ (hw _ (List.mem_of_getElem? (i := 3) rfl)) (hw _ (List.mem_of_getElem? (i := 2) rfl)) (by decide) (by decide)) (g := (mkF m 143 #[.val (.long u0), .second, .val (.long u1), .second, .val (.long u2), .second, .val (.long u3), .second, .val (.int u4), .val (.long (own_min u0 u1)), .second, .val (.long (own_max u0 u1)), .second, .val (.int (u4 &&& (3 : Int32))), .val (.long y14), .second, .val (.long y16), .second, .val (.long (own_min y14 y16)), .second, .val (.long (own_max y14 y16)), .second, .val (.ref b8), .val (.ref b13), .unset] [(.long (own_max y14 y16)), (.long (own_max u0 u1)), (.long (own_max (own_min u0 u1) (own_min y14 y16)))])) rfl (by rw [hml]; rfl) (argsL := [(.long (own_max u0 u1)), (.long (own_max y14 y16))]) (rest := [(.long (own_max (own_min u0 u1) (own_min y14 y16)))]) (lenOf own_pd1 rfl) rfl (by show 2 * 0 + _ ≤ _; exact Nat.le_of_eq rfl) (hb hby at_143) (fun _ _ => ⟨rfl, eh20, (by decide : 2 + 0 ≤ _), (by decide : 4 + 0 ≤ _)⟩)
        dsimp only [Pt.U, Pt.locs, Pt.cells, Pt.slots] at X21 l21 y21 z21 st21 hQ21
        subst l21 y21 z21
        obtain ⟨rfl, N21q, eh21⟩ := hQ21
        have N21 := Fr.app N20 N21q
        refine own_st (B := T21.setTop (mkF m 146 #[.val (.long u0), .second, .val (.long u1), .second, .val (.long u2), .second, .val (.long u3), .second, .val (.int u4), .val (.long (own_min u0 u1)), .second, .val (.long (own_max u0 u1)), .second, .val (.int (u4 &&& (3 : Int32))), .val (.long y14), .second, .val (.long y16), .second, .val (.long (own_min y14 y16)), .second, .val (.long (own_max y14 y16)), .second, .val (.ref b8), .val (.ref b13), .unset] [(.long (own_min (own_max u0 u1) (own_max y14 y16))), (.long (own_max (own_min u0 u1) (own_min y14 y16)))])) st21 ?_
        refine own_st (B := T21.setTop (mkF m 147 #[.val (.long u0), .second, .val (.long u1), .second, .val (.long u2), .second, .val (.long u3), .second, .val (.int u4), .val (.long (own_min u0 u1)), .second, .val (.long (own_max u0 u1)), .second, .val (.int (u4 &&& (3 : Int32))), .val (.long y14), .second, .val (.long y16), .second, .val (.long (own_min y14 y16)), .second, .val (.long (own_max y14 y16)), .second, .val (.ref b8), .val (.ref b13), .unset] [(.int (lcmpW (own_max (own_min u0 u1) (own_min y14 y16)) (own_min (own_max u0 u1) (own_max y14 y16))))])) (fun t_ k_ => XS.lcmp X21.here hx rfl (hb hby at_146) rfl k_) ?_
        by_cases hc22 : (own_max (own_min u0 u1) (own_min y14 y16)) < (own_min (own_max u0 u1) (own_max y14 y16))
        · have hd22 := own_lt64 hc22
          refine own_st (B := T21.setTop (mkF m 150 #[.val (.long u0), .second, .val (.long u1), .second, .val (.long u2), .second, .val (.long u3), .second, .val (.int u4), .val (.long (own_min u0 u1)), .second, .val (.long (own_max u0 u1)), .second, .val (.int (u4 &&& (3 : Int32))), .val (.long y14), .second, .val (.long y16), .second, .val (.long (own_min y14 y16)), .second, .val (.long (own_max y14 y16)), .second, .val (.ref b8), .val (.ref b13), .unset] [])) (fun t_ k_ => XS.ifNo X21.here hx rfl (hb hby at_147) rfl ((if0 _ _).trans (tlt ((lw_lt _ _).mpr hc22)).2.1) k_) ?_
          refine own_st (B := T21.setTop (mkF m 151 #[.val (.long u0), .second, .val (.long u1), .second, .val (.long u2), .second, .val (.long u3), .second, .val (.int u4), .val (.long (own_min u0 u1)), .second, .val (.long (own_max u0 u1)), .second, .val (.int (u4 &&& (3 : Int32))), .val (.long y14), .second, .val (.long y16), .second, .val (.long (own_min y14 y16)), .second, .val (.long (own_max y14 y16)), .second, .val (.ref b8), .val (.ref b13), .unset] [(.int (1 : Int32))])) (fun t_ k_ => XS.iconst X21.here hx rfl (hb hby at_150) k_) ?_
          refine own_st (B := T21.setTop (mkF m 155 #[.val (.long u0), .second, .val (.long u1), .second, .val (.long u2), .second, .val (.long u3), .second, .val (.int u4), .val (.long (own_min u0 u1)), .second, .val (.long (own_max u0 u1)), .second, .val (.int (u4 &&& (3 : Int32))), .val (.long y14), .second, .val (.long y16), .second, .val (.long (own_min y14 y16)), .second, .val (.long (own_max y14 y16)), .second, .val (.ref b8), .val (.ref b13), .unset] [(.int (1 : Int32))])) (fun t_ k_ => XS.goto X21.here hx rfl (pc0 := 151) (pc' := 155) rfl (hb hby at_151) (by decide) (by decide) k_) ?_
          refine own_st (B := T21.setTop (mkF m 157 #[.val (.long u0), .second, .val (.long u1), .second, .val (.long u2), .second, .val (.long u3), .second, .val (.int u4), .val (.long (own_min u0 u1)), .second, .val (.long (own_max u0 u1)), .second, .val (.int (u4 &&& (3 : Int32))), .val (.long y14), .second, .val (.long y16), .second, .val (.long (own_min y14 y16)), .second, .val (.long (own_max y14 y16)), .second, .val (.ref b8), .val (.ref b13), .val (.int (1 : Int32))] [])) (fun t_ k_ => XS.istore X21.here hx rfl (hb hby at_155) rfl (l' := #[.val (.long u0), .second, .val (.long u1), .second, .val (.long u2), .second, .val (.long u3), .second, .val (.int u4), .val (.long (own_min u0 u1)), .second, .val (.long (own_max u0 u1)), .second, .val (.int (u4 &&& (3 : Int32))), .val (.long y14), .second, .val (.long y16), .second, .val (.long (own_min y14 y16)), .second, .val (.long (own_max y14 y16)), .second, .val (.ref b8), .val (.ref b13), .val (.int (1 : Int32))]) rfl k_) ?_
          refine own_st (B := T21.setTop (mkF m 159 #[.val (.long u0), .second, .val (.long u1), .second, .val (.long u2), .second, .val (.long u3), .second, .val (.int u4), .val (.long (own_min u0 u1)), .second, .val (.long (own_max u0 u1)), .second, .val (.int (u4 &&& (3 : Int32))), .val (.long y14), .second, .val (.long y16), .second, .val (.long (own_min y14 y16)), .second, .val (.long (own_max y14 y16)), .second, .val (.ref b8), .val (.ref b13), .val (.int (1 : Int32))] [(.ref b8)])) (fun t_ k_ => XS.aload X21.here hx rfl (hb hby at_157) rfl rfl k_) ?_
          refine own_st (B := T21.setTop (mkF m 161 #[.val (.long u0), .second, .val (.long u1), .second, .val (.long u2), .second, .val (.long u3), .second, .val (.int u4), .val (.long (own_min u0 u1)), .second, .val (.long (own_max u0 u1)), .second, .val (.int (u4 &&& (3 : Int32))), .val (.long y14), .second, .val (.long y16), .second, .val (.long (own_min y14 y16)), .second, .val (.long (own_max y14 y16)), .second, .val (.ref b8), .val (.ref b13), .val (.int (1 : Int32))] [(.ref b13), (.ref b8)])) (fun t_ k_ => XS.aload X21.here hx rfl (hb hby at_159) rfl rfl k_) ?_
          have u24 := Fc11_0.ext E13
          have u25 := u24.keep K18 (ninS ne15 nin0)
          have u26 := Fc11_1.ext E13
          have u27 := u26.keep K18 (ninS ne15 nin0)
          have u28 := u14.ext E13
          have u29 := u28.keep K18
          obtain ⟨cq23, kq23, q23a, q23b, q23c⟩ := isOf hZ eh21 u29
          obtain ⟨_, _, ⟨T23, L23, k23, n23⟩, -, X23, ⟨Lc23, hQ23, l23, y23, z23⟩, st23⟩ := X21.virtualBack hx (y := (⟨"com/example/briareus/briareus/model/Interval", "overlaps", "(Lcom/example/briareus/briareus/model/Interval;)Z"⟩ : MethodName)) (z := (⟨"com/example/briareus/briareus/model/Interval", "overlaps", "(Lcom/example/briareus/briareus/model/Interval;)Z"⟩ : MethodName)) hown (mvT hZ (hw _ (List.mem_of_getElem? (i := 25) rfl))) (mvT hZ (hw _ (List.mem_of_getElem? (i := 26) rfl))) (notFace_of_selects (args := #[]) (mvT hZ (hw _ (List.mem_of_getElem? (i := 28) rfl)))) (mvT hZ (hw _ (List.mem_of_getElem? (i := 28) rfl))) (mvT hZ (hw _ (List.mem_of_getElem? (i := 27) rfl))) (by decide) (backOf (W := 0) (rm6 l Z a0 hw [] b8 b13 (own_min u0 u1) (own_max u0 u1) (own_min y14 y16) (own_max y14 y16) T18.heap n0 Z19 u25 u27 Fc18_0 Fc18_1) hZ (hw _ (List.mem_of_getElem? (i := 29) rfl)) (hw _ (List.mem_of_getElem? (i := 9) rfl)) (by decide) (by decide)) q23a q23c (g := (mkF m 161 #[.val (.long u0), .second, .val (.long u1), .second, .val (.long u2), .second, .val (.long u3), .second, .val (.int u4), .val (.long (own_min u0 u1)), .second, .val (.long (own_max u0 u1)), .second, .val (.int (u4 &&& (3 : Int32))), .val (.long y14), .second, .val (.long y16), .second, .val (.long (own_min y14 y16)), .second, .val (.long (own_max y14 y16)), .second, .val (.ref b8), .val (.ref b13), .val (.int (1 : Int32))] [(.ref b13), (.ref b8)])) rfl (by rw [hml]; rfl) (Steps.refl _) (argsL := [(.ref b13)]) (rest := []) (lenOf own_pd3 rfl) rfl (by show 2 * 0 + _ ≤ _; exact Nat.le_of_eq rfl) (hb hby at_161) (fun _ _ => ⟨rfl, eh21, (by decide : 2 + 0 ≤ _), (by decide : 4 + 0 ≤ _)⟩)
          dsimp only [Pt.U, Pt.locs, Pt.cells, Pt.slots] at X23 l23 y23 z23 st23 hQ23
          subst l23 y23 z23
          obtain ⟨rfl, N23q, eh23⟩ := hQ23
          have N23 := Fr.app N21 N23q
          refine own_st (B := T23.setTop (mkF m 164 #[.val (.long u0), .second, .val (.long u1), .second, .val (.long u2), .second, .val (.long u3), .second, .val (.int u4), .val (.long (own_min u0 u1)), .second, .val (.long (own_max u0 u1)), .second, .val (.int (u4 &&& (3 : Int32))), .val (.long y14), .second, .val (.long y16), .second, .val (.long (own_min y14 y16)), .second, .val (.long (own_max y14 y16)), .second, .val (.ref b8), .val (.ref b13), .val (.int (1 : Int32))] [(.int (own_b (own_ov (own_min u0 u1) (own_max u0 u1) (own_min y14 y16) (own_max y14 y16))))])) (fun t_ k_ => st23.trans k_) ?_
          refine own_st (B := T23.setTop (mkF m 166 #[.val (.long u0), .second, .val (.long u1), .second, .val (.long u2), .second, .val (.long u3), .second, .val (.int u4), .val (.long (own_min u0 u1)), .second, .val (.long (own_max u0 u1)), .second, .val (.int (u4 &&& (3 : Int32))), .val (.long y14), .second, .val (.long y16), .second, .val (.long (own_min y14 y16)), .second, .val (.long (own_max y14 y16)), .second, .val (.ref b8), .val (.ref b13), .val (.int (1 : Int32))] [(.int (1 : Int32)), (.int (own_b (own_ov (own_min u0 u1) (own_max u0 u1) (own_min y14 y16) (own_max y14 y16))))])) (fun t_ k_ => XS.iload X23.here hx rfl (hb hby at_164) rfl k_) ?_
          have hc30 : (own_b (own_ov (own_min u0 u1) (own_max u0 u1) (own_min y14 y16) (own_max y14 y16))) = (1 : Int32) := (own_key _ _ _ _ (own_mm' hc3) (own_mm' hc7)).trans (by simp [hc22])
          have hd30 := own_eq32 hc30
          rw [show (1 : Int32).toInt = 1 from rfl] at hd30
          refine own_st (B := T23.setTop (mkF m 169 #[.val (.long u0), .second, .val (.long u1), .second, .val (.long u2), .second, .val (.long u3), .second, .val (.int u4), .val (.long (own_min u0 u1)), .second, .val (.long (own_max u0 u1)), .second, .val (.int (u4 &&& (3 : Int32))), .val (.long y14), .second, .val (.long y16), .second, .val (.long (own_min y14 y16)), .second, .val (.long (own_max y14 y16)), .second, .val (.ref b8), .val (.ref b13), .val (.int (1 : Int32))] [])) (fun t_ k_ => XS.icmpNo X23.here hx rfl (hb hby at_166) rfl (teq hc30).2 k_) ?_
          refine own_st (B := T23.setTop (mkF m 171 #[.val (.long u0), .second, .val (.long u1), .second, .val (.long u2), .second, .val (.long u3), .second, .val (.int u4), .val (.long (own_min u0 u1)), .second, .val (.long (own_max u0 u1)), .second, .val (.int (u4 &&& (3 : Int32))), .val (.long y14), .second, .val (.long y16), .second, .val (.long (own_min y14 y16)), .second, .val (.long (own_max y14 y16)), .second, .val (.ref b8), .val (.ref b13), .val (.int (1 : Int32))] [(.ref b13)])) (fun t_ k_ => XS.aload X23.here hx rfl (hb hby at_169) rfl rfl k_) ?_
          refine own_st (B := T23.setTop (mkF m 173 #[.val (.long u0), .second, .val (.long u1), .second, .val (.long u2), .second, .val (.long u3), .second, .val (.int u4), .val (.long (own_min u0 u1)), .second, .val (.long (own_max u0 u1)), .second, .val (.int (u4 &&& (3 : Int32))), .val (.long y14), .second, .val (.long y16), .second, .val (.long (own_min y14 y16)), .second, .val (.long (own_max y14 y16)), .second, .val (.ref b8), .val (.ref b13), .val (.int (1 : Int32))] [(.ref b8), (.ref b13)])) (fun t_ k_ => XS.aload X23.here hx rfl (hb hby at_171) rfl rfl k_) ?_
          have u32 := A13.keep K18
          obtain ⟨cq31, kq31, q31a, q31b, q31c⟩ := isOf hZ eh23 u32
          obtain ⟨_, _, ⟨T31, L31, k31, n31⟩, -, X31, ⟨Lc31, hQ31, l31, y31, z31⟩, st31⟩ := X23.virtualBack hx (y := (⟨"com/example/briareus/briareus/model/Interval", "overlaps", "(Lcom/example/briareus/briareus/model/Interval;)Z"⟩ : MethodName)) (z := (⟨"com/example/briareus/briareus/model/Interval", "overlaps", "(Lcom/example/briareus/briareus/model/Interval;)Z"⟩ : MethodName)) hown (mvT hZ (hw _ (List.mem_of_getElem? (i := 25) rfl))) (mvT hZ (hw _ (List.mem_of_getElem? (i := 26) rfl))) (notFace_of_selects (args := #[]) (mvT hZ (hw _ (List.mem_of_getElem? (i := 28) rfl)))) (mvT hZ (hw _ (List.mem_of_getElem? (i := 28) rfl))) (mvT hZ (hw _ (List.mem_of_getElem? (i := 27) rfl))) (by decide) (backOf (W := 0) (rm6 l Z a0 hw [] b13 b8 (own_min y14 y16) (own_max y14 y16) (own_min u0 u1) (own_max u0 u1) T18.heap n0 Z19 Fc18_0 Fc18_1 u25 u27) hZ (hw _ (List.mem_of_getElem? (i := 29) rfl)) (hw _ (List.mem_of_getElem? (i := 9) rfl)) (by decide) (by decide)) q31a q31c (g := (mkF m 173 #[.val (.long u0), .second, .val (.long u1), .second, .val (.long u2), .second, .val (.long u3), .second, .val (.int u4), .val (.long (own_min u0 u1)), .second, .val (.long (own_max u0 u1)), .second, .val (.int (u4 &&& (3 : Int32))), .val (.long y14), .second, .val (.long y16), .second, .val (.long (own_min y14 y16)), .second, .val (.long (own_max y14 y16)), .second, .val (.ref b8), .val (.ref b13), .val (.int (1 : Int32))] [(.ref b8), (.ref b13)])) rfl (by rw [hml]; rfl) (Steps.refl _) (argsL := [(.ref b8)]) (rest := []) (lenOf own_pd3 rfl) rfl (by show 2 * 0 + _ ≤ _; exact Nat.le_of_eq rfl) (hb hby at_173) (fun _ _ => ⟨rfl, eh23, (by decide : 2 + 0 ≤ _), (by decide : 4 + 0 ≤ _)⟩)
          dsimp only [Pt.U, Pt.locs, Pt.cells, Pt.slots] at X31 l31 y31 z31 st31 hQ31
          subst l31 y31 z31
          obtain ⟨rfl, N31q, eh31⟩ := hQ31
          have N31 := Fr.app N23 N31q
          refine own_st (B := T31.setTop (mkF m 176 #[.val (.long u0), .second, .val (.long u1), .second, .val (.long u2), .second, .val (.long u3), .second, .val (.int u4), .val (.long (own_min u0 u1)), .second, .val (.long (own_max u0 u1)), .second, .val (.int (u4 &&& (3 : Int32))), .val (.long y14), .second, .val (.long y16), .second, .val (.long (own_min y14 y16)), .second, .val (.long (own_max y14 y16)), .second, .val (.ref b8), .val (.ref b13), .val (.int (1 : Int32))] [(.int (own_b (own_ov (own_min y14 y16) (own_max y14 y16) (own_min u0 u1) (own_max u0 u1))))])) (fun t_ k_ => st31.trans k_) ?_
          refine own_st (B := T31.setTop (mkF m 178 #[.val (.long u0), .second, .val (.long u1), .second, .val (.long u2), .second, .val (.long u3), .second, .val (.int u4), .val (.long (own_min u0 u1)), .second, .val (.long (own_max u0 u1)), .second, .val (.int (u4 &&& (3 : Int32))), .val (.long y14), .second, .val (.long y16), .second, .val (.long (own_min y14 y16)), .second, .val (.long (own_max y14 y16)), .second, .val (.ref b8), .val (.ref b13), .val (.int (1 : Int32))] [(.int (1 : Int32)), (.int (own_b (own_ov (own_min y14 y16) (own_max y14 y16) (own_min u0 u1) (own_max u0 u1))))])) (fun t_ k_ => XS.iload X31.here hx rfl (hb hby at_176) rfl k_) ?_
          have hc33 : (own_b (own_ov (own_min y14 y16) (own_max y14 y16) (own_min u0 u1) (own_max u0 u1))) = (1 : Int32) := (own_key' _ _ _ _ (own_mm' hc3) (own_mm' hc7)).trans (by simp [hc22])
          have hd33 := own_eq32 hc33
          rw [show (1 : Int32).toInt = 1 from rfl] at hd33
          refine own_st (B := T31.setTop (mkF m 181 #[.val (.long u0), .second, .val (.long u1), .second, .val (.long u2), .second, .val (.long u3), .second, .val (.int u4), .val (.long (own_min u0 u1)), .second, .val (.long (own_max u0 u1)), .second, .val (.int (u4 &&& (3 : Int32))), .val (.long y14), .second, .val (.long y16), .second, .val (.long (own_min y14 y16)), .second, .val (.long (own_max y14 y16)), .second, .val (.ref b8), .val (.ref b13), .val (.int (1 : Int32))] [])) (fun t_ k_ => XS.icmpNo X31.here hx rfl (hb hby at_178) rfl (teq hc33).2 k_) ?_
          refine own_st (B := T31.setTop (mkF m 182 #[.val (.long u0), .second, .val (.long u1), .second, .val (.long u2), .second, .val (.long u3), .second, .val (.int u4), .val (.long (own_min u0 u1)), .second, .val (.long (own_max u0 u1)), .second, .val (.int (u4 &&& (3 : Int32))), .val (.long y14), .second, .val (.long y16), .second, .val (.long (own_min y14 y16)), .second, .val (.long (own_max y14 y16)), .second, .val (.ref b8), .val (.ref b13), .val (.int (1 : Int32))] [(.int (1 : Int32))])) (fun t_ k_ => XS.iconst X31.here hx rfl (hb hby at_181) k_) ?_
          refine own_st (B := T31.setTop (mkF m 186 #[.val (.long u0), .second, .val (.long u1), .second, .val (.long u2), .second, .val (.long u3), .second, .val (.int u4), .val (.long (own_min u0 u1)), .second, .val (.long (own_max u0 u1)), .second, .val (.int (u4 &&& (3 : Int32))), .val (.long y14), .second, .val (.long y16), .second, .val (.long (own_min y14 y16)), .second, .val (.long (own_max y14 y16)), .second, .val (.ref b8), .val (.ref b13), .val (.int (1 : Int32))] [(.int (1 : Int32))])) (fun t_ k_ => XS.goto X31.here hx rfl (pc0 := 182) (pc' := 186) rfl (hb hby at_182) (by decide) (by decide) k_) ?_
          refine own_retN X31 hx (t := .boolean) Bd.returns (by simp) hlk (hb hby at_186) (z' := (1 : Int32)) (by first | rfl | exact own_nb _ | exact own_nbb _) (by decide) (by decide) ?_
          show Q0 Z u0 u1 u2 u3 u4 h0 n0 _ T31.heap _
          rw [eh31]
          exact ⟨rfl, N31⟩
        · have hd22 := own_nlt64 hc22
          refine own_st (B := T21.setTop (mkF m 154 #[.val (.long u0), .second, .val (.long u1), .second, .val (.long u2), .second, .val (.long u3), .second, .val (.int u4), .val (.long (own_min u0 u1)), .second, .val (.long (own_max u0 u1)), .second, .val (.int (u4 &&& (3 : Int32))), .val (.long y14), .second, .val (.long y16), .second, .val (.long (own_min y14 y16)), .second, .val (.long (own_max y14 y16)), .second, .val (.ref b8), .val (.ref b13), .unset] [])) (fun t_ k_ => XS.ifYes X21.here hx rfl (pc0 := 147) (pc' := 154) rfl (hb hby at_147) rfl ((if0 _ _).trans (flt (fun q => hc22 ((lw_lt _ _).mp q))).2.1) (by decide) (by decide) k_) ?_
          refine own_st (B := T21.setTop (mkF m 155 #[.val (.long u0), .second, .val (.long u1), .second, .val (.long u2), .second, .val (.long u3), .second, .val (.int u4), .val (.long (own_min u0 u1)), .second, .val (.long (own_max u0 u1)), .second, .val (.int (u4 &&& (3 : Int32))), .val (.long y14), .second, .val (.long y16), .second, .val (.long (own_min y14 y16)), .second, .val (.long (own_max y14 y16)), .second, .val (.ref b8), .val (.ref b13), .unset] [(.int (0 : Int32))])) (fun t_ k_ => XS.iconst X21.here hx rfl (hb hby at_154) k_) ?_
          refine own_st (B := T21.setTop (mkF m 157 #[.val (.long u0), .second, .val (.long u1), .second, .val (.long u2), .second, .val (.long u3), .second, .val (.int u4), .val (.long (own_min u0 u1)), .second, .val (.long (own_max u0 u1)), .second, .val (.int (u4 &&& (3 : Int32))), .val (.long y14), .second, .val (.long y16), .second, .val (.long (own_min y14 y16)), .second, .val (.long (own_max y14 y16)), .second, .val (.ref b8), .val (.ref b13), .val (.int (0 : Int32))] [])) (fun t_ k_ => XS.istore X21.here hx rfl (hb hby at_155) rfl (l' := #[.val (.long u0), .second, .val (.long u1), .second, .val (.long u2), .second, .val (.long u3), .second, .val (.int u4), .val (.long (own_min u0 u1)), .second, .val (.long (own_max u0 u1)), .second, .val (.int (u4 &&& (3 : Int32))), .val (.long y14), .second, .val (.long y16), .second, .val (.long (own_min y14 y16)), .second, .val (.long (own_max y14 y16)), .second, .val (.ref b8), .val (.ref b13), .val (.int (0 : Int32))]) rfl k_) ?_
          refine own_st (B := T21.setTop (mkF m 159 #[.val (.long u0), .second, .val (.long u1), .second, .val (.long u2), .second, .val (.long u3), .second, .val (.int u4), .val (.long (own_min u0 u1)), .second, .val (.long (own_max u0 u1)), .second, .val (.int (u4 &&& (3 : Int32))), .val (.long y14), .second, .val (.long y16), .second, .val (.long (own_min y14 y16)), .second, .val (.long (own_max y14 y16)), .second, .val (.ref b8), .val (.ref b13), .val (.int (0 : Int32))] [(.ref b8)])) (fun t_ k_ => XS.aload X21.here hx rfl (hb hby at_157) rfl rfl k_) ?_
          refine own_st (B := T21.setTop (mkF m 161 #[.val (.long u0), .second, .val (.long u1), .second, .val (.long u2), .second, .val (.long u3), .second, .val (.int u4), .val (.long (own_min u0 u1)), .second, .val (.long (own_max u0 u1)), .second, .val (.int (u4 &&& (3 : Int32))), .val (.long y14), .second, .val (.long y16), .second, .val (.long (own_min y14 y16)), .second, .val (.long (own_max y14 y16)), .second, .val (.ref b8), .val (.ref b13), .val (.int (0 : Int32))] [(.ref b13), (.ref b8)])) (fun t_ k_ => XS.aload X21.here hx rfl (hb hby at_159) rfl rfl k_) ?_
          have u35 := Fc11_0.ext E13
          have u36 := u35.keep K18 (ninS ne15 nin0)
          have u37 := Fc11_1.ext E13
          have u38 := u37.keep K18 (ninS ne15 nin0)
          have u39 := u14.ext E13
          have u40 := u39.keep K18
          obtain ⟨cq34, kq34, q34a, q34b, q34c⟩ := isOf hZ eh21 u40
          obtain ⟨_, _, ⟨T34, L34, k34, n34⟩, -, X34, ⟨Lc34, hQ34, l34, y34, z34⟩, st34⟩ := X21.virtualBack hx (y := (⟨"com/example/briareus/briareus/model/Interval", "overlaps", "(Lcom/example/briareus/briareus/model/Interval;)Z"⟩ : MethodName)) (z := (⟨"com/example/briareus/briareus/model/Interval", "overlaps", "(Lcom/example/briareus/briareus/model/Interval;)Z"⟩ : MethodName)) hown (mvT hZ (hw _ (List.mem_of_getElem? (i := 25) rfl))) (mvT hZ (hw _ (List.mem_of_getElem? (i := 26) rfl))) (notFace_of_selects (args := #[]) (mvT hZ (hw _ (List.mem_of_getElem? (i := 28) rfl)))) (mvT hZ (hw _ (List.mem_of_getElem? (i := 28) rfl))) (mvT hZ (hw _ (List.mem_of_getElem? (i := 27) rfl))) (by decide) (backOf (W := 0) (rm6 l Z a0 hw [] b8 b13 (own_min u0 u1) (own_max u0 u1) (own_min y14 y16) (own_max y14 y16) T18.heap n0 Z19 u36 u38 Fc18_0 Fc18_1) hZ (hw _ (List.mem_of_getElem? (i := 29) rfl)) (hw _ (List.mem_of_getElem? (i := 9) rfl)) (by decide) (by decide)) q34a q34c (g := (mkF m 161 #[.val (.long u0), .second, .val (.long u1), .second, .val (.long u2), .second, .val (.long u3), .second, .val (.int u4), .val (.long (own_min u0 u1)), .second, .val (.long (own_max u0 u1)), .second, .val (.int (u4 &&& (3 : Int32))), .val (.long y14), .second, .val (.long y16), .second, .val (.long (own_min y14 y16)), .second, .val (.long (own_max y14 y16)), .second, .val (.ref b8), .val (.ref b13), .val (.int (0 : Int32))] [(.ref b13), (.ref b8)])) rfl (by rw [hml]; rfl) (Steps.refl _) (argsL := [(.ref b13)]) (rest := []) (lenOf own_pd3 rfl) rfl (by show 2 * 0 + _ ≤ _; exact Nat.le_of_eq rfl) (hb hby at_161) (fun _ _ => ⟨rfl, eh21, (by decide : 2 + 0 ≤ _), (by decide : 4 + 0 ≤ _)⟩)
          dsimp only [Pt.U, Pt.locs, Pt.cells, Pt.slots] at X34 l34 y34 z34 st34 hQ34
          subst l34 y34 z34
          obtain ⟨rfl, N34q, eh34⟩ := hQ34
          have N34 := Fr.app N21 N34q
          refine own_st (B := T34.setTop (mkF m 164 #[.val (.long u0), .second, .val (.long u1), .second, .val (.long u2), .second, .val (.long u3), .second, .val (.int u4), .val (.long (own_min u0 u1)), .second, .val (.long (own_max u0 u1)), .second, .val (.int (u4 &&& (3 : Int32))), .val (.long y14), .second, .val (.long y16), .second, .val (.long (own_min y14 y16)), .second, .val (.long (own_max y14 y16)), .second, .val (.ref b8), .val (.ref b13), .val (.int (0 : Int32))] [(.int (own_b (own_ov (own_min u0 u1) (own_max u0 u1) (own_min y14 y16) (own_max y14 y16))))])) (fun t_ k_ => st34.trans k_) ?_
          refine own_st (B := T34.setTop (mkF m 166 #[.val (.long u0), .second, .val (.long u1), .second, .val (.long u2), .second, .val (.long u3), .second, .val (.int u4), .val (.long (own_min u0 u1)), .second, .val (.long (own_max u0 u1)), .second, .val (.int (u4 &&& (3 : Int32))), .val (.long y14), .second, .val (.long y16), .second, .val (.long (own_min y14 y16)), .second, .val (.long (own_max y14 y16)), .second, .val (.ref b8), .val (.ref b13), .val (.int (0 : Int32))] [(.int (0 : Int32)), (.int (own_b (own_ov (own_min u0 u1) (own_max u0 u1) (own_min y14 y16) (own_max y14 y16))))])) (fun t_ k_ => XS.iload X34.here hx rfl (hb hby at_164) rfl k_) ?_
          have hc41 : (own_b (own_ov (own_min u0 u1) (own_max u0 u1) (own_min y14 y16) (own_max y14 y16))) = (0 : Int32) := (own_key _ _ _ _ (own_mm' hc3) (own_mm' hc7)).trans (by simp [hc22])
          have hd41 := own_eq32 hc41
          rw [show (0 : Int32).toInt = 0 from rfl] at hd41
          refine own_st (B := T34.setTop (mkF m 169 #[.val (.long u0), .second, .val (.long u1), .second, .val (.long u2), .second, .val (.long u3), .second, .val (.int u4), .val (.long (own_min u0 u1)), .second, .val (.long (own_max u0 u1)), .second, .val (.int (u4 &&& (3 : Int32))), .val (.long y14), .second, .val (.long y16), .second, .val (.long (own_min y14 y16)), .second, .val (.long (own_max y14 y16)), .second, .val (.ref b8), .val (.ref b13), .val (.int (0 : Int32))] [])) (fun t_ k_ => XS.icmpNo X34.here hx rfl (hb hby at_166) rfl (teq hc41).2 k_) ?_
          refine own_st (B := T34.setTop (mkF m 171 #[.val (.long u0), .second, .val (.long u1), .second, .val (.long u2), .second, .val (.long u3), .second, .val (.int u4), .val (.long (own_min u0 u1)), .second, .val (.long (own_max u0 u1)), .second, .val (.int (u4 &&& (3 : Int32))), .val (.long y14), .second, .val (.long y16), .second, .val (.long (own_min y14 y16)), .second, .val (.long (own_max y14 y16)), .second, .val (.ref b8), .val (.ref b13), .val (.int (0 : Int32))] [(.ref b13)])) (fun t_ k_ => XS.aload X34.here hx rfl (hb hby at_169) rfl rfl k_) ?_
          refine own_st (B := T34.setTop (mkF m 173 #[.val (.long u0), .second, .val (.long u1), .second, .val (.long u2), .second, .val (.long u3), .second, .val (.int u4), .val (.long (own_min u0 u1)), .second, .val (.long (own_max u0 u1)), .second, .val (.int (u4 &&& (3 : Int32))), .val (.long y14), .second, .val (.long y16), .second, .val (.long (own_min y14 y16)), .second, .val (.long (own_max y14 y16)), .second, .val (.ref b8), .val (.ref b13), .val (.int (0 : Int32))] [(.ref b8), (.ref b13)])) (fun t_ k_ => XS.aload X34.here hx rfl (hb hby at_171) rfl rfl k_) ?_
          have u43 := A13.keep K18
          obtain ⟨cq42, kq42, q42a, q42b, q42c⟩ := isOf hZ eh34 u43
          obtain ⟨_, _, ⟨T42, L42, k42, n42⟩, -, X42, ⟨Lc42, hQ42, l42, y42, z42⟩, st42⟩ := X34.virtualBack hx (y := (⟨"com/example/briareus/briareus/model/Interval", "overlaps", "(Lcom/example/briareus/briareus/model/Interval;)Z"⟩ : MethodName)) (z := (⟨"com/example/briareus/briareus/model/Interval", "overlaps", "(Lcom/example/briareus/briareus/model/Interval;)Z"⟩ : MethodName)) hown (mvT hZ (hw _ (List.mem_of_getElem? (i := 25) rfl))) (mvT hZ (hw _ (List.mem_of_getElem? (i := 26) rfl))) (notFace_of_selects (args := #[]) (mvT hZ (hw _ (List.mem_of_getElem? (i := 28) rfl)))) (mvT hZ (hw _ (List.mem_of_getElem? (i := 28) rfl))) (mvT hZ (hw _ (List.mem_of_getElem? (i := 27) rfl))) (by decide) (backOf (W := 0) (rm6 l Z a0 hw [] b13 b8 (own_min y14 y16) (own_max y14 y16) (own_min u0 u1) (own_max u0 u1) T18.heap n0 Z19 Fc18_0 Fc18_1 u36 u38) hZ (hw _ (List.mem_of_getElem? (i := 29) rfl)) (hw _ (List.mem_of_getElem? (i := 9) rfl)) (by decide) (by decide)) q42a q42c (g := (mkF m 173 #[.val (.long u0), .second, .val (.long u1), .second, .val (.long u2), .second, .val (.long u3), .second, .val (.int u4), .val (.long (own_min u0 u1)), .second, .val (.long (own_max u0 u1)), .second, .val (.int (u4 &&& (3 : Int32))), .val (.long y14), .second, .val (.long y16), .second, .val (.long (own_min y14 y16)), .second, .val (.long (own_max y14 y16)), .second, .val (.ref b8), .val (.ref b13), .val (.int (0 : Int32))] [(.ref b8), (.ref b13)])) rfl (by rw [hml]; rfl) (Steps.refl _) (argsL := [(.ref b8)]) (rest := []) (lenOf own_pd3 rfl) rfl (by show 2 * 0 + _ ≤ _; exact Nat.le_of_eq rfl) (hb hby at_173) (fun _ _ => ⟨rfl, eh34, (by decide : 2 + 0 ≤ _), (by decide : 4 + 0 ≤ _)⟩)
          dsimp only [Pt.U, Pt.locs, Pt.cells, Pt.slots] at X42 l42 y42 z42 st42 hQ42
          subst l42 y42 z42
          obtain ⟨rfl, N42q, eh42⟩ := hQ42
          have N42 := Fr.app N34 N42q
          refine own_st (B := T42.setTop (mkF m 176 #[.val (.long u0), .second, .val (.long u1), .second, .val (.long u2), .second, .val (.long u3), .second, .val (.int u4), .val (.long (own_min u0 u1)), .second, .val (.long (own_max u0 u1)), .second, .val (.int (u4 &&& (3 : Int32))), .val (.long y14), .second, .val (.long y16), .second, .val (.long (own_min y14 y16)), .second, .val (.long (own_max y14 y16)), .second, .val (.ref b8), .val (.ref b13), .val (.int (0 : Int32))] [(.int (own_b (own_ov (own_min y14 y16) (own_max y14 y16) (own_min u0 u1) (own_max u0 u1))))])) (fun t_ k_ => st42.trans k_) ?_
          refine own_st (B := T42.setTop (mkF m 178 #[.val (.long u0), .second, .val (.long u1), .second, .val (.long u2), .second, .val (.long u3), .second, .val (.int u4), .val (.long (own_min u0 u1)), .second, .val (.long (own_max u0 u1)), .second, .val (.int (u4 &&& (3 : Int32))), .val (.long y14), .second, .val (.long y16), .second, .val (.long (own_min y14 y16)), .second, .val (.long (own_max y14 y16)), .second, .val (.ref b8), .val (.ref b13), .val (.int (0 : Int32))] [(.int (0 : Int32)), (.int (own_b (own_ov (own_min y14 y16) (own_max y14 y16) (own_min u0 u1) (own_max u0 u1))))])) (fun t_ k_ => XS.iload X42.here hx rfl (hb hby at_176) rfl k_) ?_
          have hc44 : (own_b (own_ov (own_min y14 y16) (own_max y14 y16) (own_min u0 u1) (own_max u0 u1))) = (0 : Int32) := (own_key' _ _ _ _ (own_mm' hc3) (own_mm' hc7)).trans (by simp [hc22])
          have hd44 := own_eq32 hc44
          rw [show (0 : Int32).toInt = 0 from rfl] at hd44
          refine own_st (B := T42.setTop (mkF m 181 #[.val (.long u0), .second, .val (.long u1), .second, .val (.long u2), .second, .val (.long u3), .second, .val (.int u4), .val (.long (own_min u0 u1)), .second, .val (.long (own_max u0 u1)), .second, .val (.int (u4 &&& (3 : Int32))), .val (.long y14), .second, .val (.long y16), .second, .val (.long (own_min y14 y16)), .second, .val (.long (own_max y14 y16)), .second, .val (.ref b8), .val (.ref b13), .val (.int (0 : Int32))] [])) (fun t_ k_ => XS.icmpNo X42.here hx rfl (hb hby at_178) rfl (teq hc44).2 k_) ?_
          refine own_st (B := T42.setTop (mkF m 182 #[.val (.long u0), .second, .val (.long u1), .second, .val (.long u2), .second, .val (.long u3), .second, .val (.int u4), .val (.long (own_min u0 u1)), .second, .val (.long (own_max u0 u1)), .second, .val (.int (u4 &&& (3 : Int32))), .val (.long y14), .second, .val (.long y16), .second, .val (.long (own_min y14 y16)), .second, .val (.long (own_max y14 y16)), .second, .val (.ref b8), .val (.ref b13), .val (.int (0 : Int32))] [(.int (1 : Int32))])) (fun t_ k_ => XS.iconst X42.here hx rfl (hb hby at_181) k_) ?_
          refine own_st (B := T42.setTop (mkF m 186 #[.val (.long u0), .second, .val (.long u1), .second, .val (.long u2), .second, .val (.long u3), .second, .val (.int u4), .val (.long (own_min u0 u1)), .second, .val (.long (own_max u0 u1)), .second, .val (.int (u4 &&& (3 : Int32))), .val (.long y14), .second, .val (.long y16), .second, .val (.long (own_min y14 y16)), .second, .val (.long (own_max y14 y16)), .second, .val (.ref b8), .val (.ref b13), .val (.int (0 : Int32))] [(.int (1 : Int32))])) (fun t_ k_ => XS.goto X42.here hx rfl (pc0 := 182) (pc' := 186) rfl (hb hby at_182) (by decide) (by decide) k_) ?_
          refine own_retN X42 hx (t := .boolean) Bd.returns (by simp) hlk (hb hby at_186) (z' := (1 : Int32)) (by first | rfl | exact own_nb _ | exact own_nbb _) (by decide) (by decide) ?_
          show Q0 Z u0 u1 u2 u3 u4 h0 n0 _ T42.heap _
          rw [eh42]
          exact ⟨rfl, N42⟩
    refine own_st (B := T2.setTop (mkF m 40 #[.val (.long u0), .second, .val (.long u1), .second, .val (.long u2), .second, .val (.long u3), .second, .val (.int u4), .val (.long (own_min u0 u1)), .second, .val (.long (own_max u0 u1)), .second, .val (.int (u4 &&& (3 : Int32))), .val (.long u2), .second, .val (.long u3), .second, .unset, .unset, .unset, .unset, .unset, .unset, .unset] [(.int (u4 &&& (3 : Int32)))])) (fun t_ k_ => XS.iload X2.here hx rfl (hb hby at_38) rfl k_) ?_
    refine own_st (B := T2.setTop (mkF m 41 #[.val (.long u0), .second, .val (.long u1), .second, .val (.long u2), .second, .val (.long u3), .second, .val (.int u4), .val (.long (own_min u0 u1)), .second, .val (.long (own_max u0 u1)), .second, .val (.int (u4 &&& (3 : Int32))), .val (.long u2), .second, .val (.long u3), .second, .unset, .unset, .unset, .unset, .unset, .unset, .unset] [(.int (1 : Int32)), (.int (u4 &&& (3 : Int32)))])) (fun t_ k_ => XS.iconst X2.here hx rfl (hb hby at_40) k_) ?_
    by_cases hc45 : (u4 &&& (3 : Int32)) = (1 : Int32)
    · have hd45 := own_eq32 hc45
      rw [show (1 : Int32).toInt = 1 from rfl] at hd45
      refine own_st (B := T2.setTop (mkF m 44 #[.val (.long u0), .second, .val (.long u1), .second, .val (.long u2), .second, .val (.long u3), .second, .val (.int u4), .val (.long (own_min u0 u1)), .second, .val (.long (own_max u0 u1)), .second, .val (.int (u4 &&& (3 : Int32))), .val (.long u2), .second, .val (.long u3), .second, .unset, .unset, .unset, .unset, .unset, .unset, .unset] [])) (fun t_ k_ => XS.icmpNo X2.here hx rfl (hb hby at_41) rfl (teq hc45).2 k_) ?_
      refine own_st (B := T2.setTop (mkF m 46 #[.val (.long u0), .second, .val (.long u1), .second, .val (.long u2), .second, .val (.long u3), .second, .val (.int u4), .val (.long (own_min u0 u1)), .second, .val (.long (own_max u0 u1)), .second, .val (.int (u4 &&& (3 : Int32))), .val (.long u2), .second, .val (.long u3), .second, .unset, .unset, .unset, .unset, .unset, .unset, .unset] [(.long (own_max u0 u1))])) (fun t_ k_ => XS.lload X2.here hx rfl (hb hby at_44) rfl k_) ?_
      refine own_st (B := T2.setTop (mkF m 48 #[.val (.long u0), .second, .val (.long u1), .second, .val (.long u2), .second, .val (.long u3), .second, .val (.int u4), .val (.long (own_min u0 u1)), .second, .val (.long (own_max u0 u1)), .second, .val (.int (u4 &&& (3 : Int32))), .val (.long (own_max u0 u1)), .second, .val (.long u3), .second, .unset, .unset, .unset, .unset, .unset, .unset, .unset] [])) (fun t_ k_ => XS.lstore X2.here hx rfl (hb hby at_46) rfl (l' := #[.val (.long u0), .second, .val (.long u1), .second, .val (.long u2), .second, .val (.long u3), .second, .val (.int u4), .val (.long (own_min u0 u1)), .second, .val (.long (own_max u0 u1)), .second, .val (.int (u4 &&& (3 : Int32))), .val (.long (own_max u0 u1)), .second, .val (.long u3), .second, .unset, .unset, .unset, .unset, .unset, .unset, .unset]) rfl k_) ?_
      refine own_st (B := T2.setTop (mkF m 78 #[.val (.long u0), .second, .val (.long u1), .second, .val (.long u2), .second, .val (.long u3), .second, .val (.int u4), .val (.long (own_min u0 u1)), .second, .val (.long (own_max u0 u1)), .second, .val (.int (u4 &&& (3 : Int32))), .val (.long (own_max u0 u1)), .second, .val (.long u3), .second, .unset, .unset, .unset, .unset, .unset, .unset, .unset] [])) (fun t_ k_ => XS.goto X2.here hx rfl (pc0 := 48) (pc' := 78) rfl (hb hby at_48) (by decide) (by decide) k_) ?_
      exact J4  (own_max u0 u1) u3 
    · have hd45 := own_neq32 hc45
      rw [show (1 : Int32).toInt = 1 from rfl] at hd45
      refine own_st (B := T2.setTop (mkF m 51 #[.val (.long u0), .second, .val (.long u1), .second, .val (.long u2), .second, .val (.long u3), .second, .val (.int u4), .val (.long (own_min u0 u1)), .second, .val (.long (own_max u0 u1)), .second, .val (.int (u4 &&& (3 : Int32))), .val (.long u2), .second, .val (.long u3), .second, .unset, .unset, .unset, .unset, .unset, .unset, .unset] [])) (fun t_ k_ => XS.icmpYes X2.here hx rfl (pc0 := 41) (pc' := 51) rfl (hb hby at_41) rfl (feq hc45).2 (by decide) (by decide) k_) ?_
      refine own_st (B := T2.setTop (mkF m 53 #[.val (.long u0), .second, .val (.long u1), .second, .val (.long u2), .second, .val (.long u3), .second, .val (.int u4), .val (.long (own_min u0 u1)), .second, .val (.long (own_max u0 u1)), .second, .val (.int (u4 &&& (3 : Int32))), .val (.long u2), .second, .val (.long u3), .second, .unset, .unset, .unset, .unset, .unset, .unset, .unset] [(.int (u4 &&& (3 : Int32)))])) (fun t_ k_ => XS.iload X2.here hx rfl (hb hby at_51) rfl k_) ?_
      refine own_st (B := T2.setTop (mkF m 54 #[.val (.long u0), .second, .val (.long u1), .second, .val (.long u2), .second, .val (.long u3), .second, .val (.int u4), .val (.long (own_min u0 u1)), .second, .val (.long (own_max u0 u1)), .second, .val (.int (u4 &&& (3 : Int32))), .val (.long u2), .second, .val (.long u3), .second, .unset, .unset, .unset, .unset, .unset, .unset, .unset] [(.int (2 : Int32)), (.int (u4 &&& (3 : Int32)))])) (fun t_ k_ => XS.iconst X2.here hx rfl (hb hby at_53) k_) ?_
      by_cases hc46 : (u4 &&& (3 : Int32)) = (2 : Int32)
      · have hd46 := own_eq32 hc46
        rw [show (2 : Int32).toInt = 2 from rfl] at hd46
        refine own_st (B := T2.setTop (mkF m 57 #[.val (.long u0), .second, .val (.long u1), .second, .val (.long u2), .second, .val (.long u3), .second, .val (.int u4), .val (.long (own_min u0 u1)), .second, .val (.long (own_max u0 u1)), .second, .val (.int (u4 &&& (3 : Int32))), .val (.long u2), .second, .val (.long u3), .second, .unset, .unset, .unset, .unset, .unset, .unset, .unset] [])) (fun t_ k_ => XS.icmpNo X2.here hx rfl (hb hby at_54) rfl (teq hc46).2 k_) ?_
        refine own_st (B := T2.setTop (mkF m 59 #[.val (.long u0), .second, .val (.long u1), .second, .val (.long u2), .second, .val (.long u3), .second, .val (.int u4), .val (.long (own_min u0 u1)), .second, .val (.long (own_max u0 u1)), .second, .val (.int (u4 &&& (3 : Int32))), .val (.long u2), .second, .val (.long u3), .second, .unset, .unset, .unset, .unset, .unset, .unset, .unset] [(.long (own_min u0 u1))])) (fun t_ k_ => XS.lload X2.here hx rfl (hb hby at_57) rfl k_) ?_
        refine own_st (B := T2.setTop (mkF m 61 #[.val (.long u0), .second, .val (.long u1), .second, .val (.long u2), .second, .val (.long u3), .second, .val (.int u4), .val (.long (own_min u0 u1)), .second, .val (.long (own_max u0 u1)), .second, .val (.int (u4 &&& (3 : Int32))), .val (.long u2), .second, .val (.long (own_min u0 u1)), .second, .unset, .unset, .unset, .unset, .unset, .unset, .unset] [])) (fun t_ k_ => XS.lstore X2.here hx rfl (hb hby at_59) rfl (l' := #[.val (.long u0), .second, .val (.long u1), .second, .val (.long u2), .second, .val (.long u3), .second, .val (.int u4), .val (.long (own_min u0 u1)), .second, .val (.long (own_max u0 u1)), .second, .val (.int (u4 &&& (3 : Int32))), .val (.long u2), .second, .val (.long (own_min u0 u1)), .second, .unset, .unset, .unset, .unset, .unset, .unset, .unset]) rfl k_) ?_
        refine own_st (B := T2.setTop (mkF m 78 #[.val (.long u0), .second, .val (.long u1), .second, .val (.long u2), .second, .val (.long u3), .second, .val (.int u4), .val (.long (own_min u0 u1)), .second, .val (.long (own_max u0 u1)), .second, .val (.int (u4 &&& (3 : Int32))), .val (.long u2), .second, .val (.long (own_min u0 u1)), .second, .unset, .unset, .unset, .unset, .unset, .unset, .unset] [])) (fun t_ k_ => XS.goto X2.here hx rfl (pc0 := 61) (pc' := 78) rfl (hb hby at_61) (by decide) (by decide) k_) ?_
        exact J4  u2 (own_min u0 u1) 
      · have hd46 := own_neq32 hc46
        rw [show (2 : Int32).toInt = 2 from rfl] at hd46
        refine own_st (B := T2.setTop (mkF m 64 #[.val (.long u0), .second, .val (.long u1), .second, .val (.long u2), .second, .val (.long u3), .second, .val (.int u4), .val (.long (own_min u0 u1)), .second, .val (.long (own_max u0 u1)), .second, .val (.int (u4 &&& (3 : Int32))), .val (.long u2), .second, .val (.long u3), .second, .unset, .unset, .unset, .unset, .unset, .unset, .unset] [])) (fun t_ k_ => XS.icmpYes X2.here hx rfl (pc0 := 54) (pc' := 64) rfl (hb hby at_54) rfl (feq hc46).2 (by decide) (by decide) k_) ?_
        refine own_st (B := T2.setTop (mkF m 66 #[.val (.long u0), .second, .val (.long u1), .second, .val (.long u2), .second, .val (.long u3), .second, .val (.int u4), .val (.long (own_min u0 u1)), .second, .val (.long (own_max u0 u1)), .second, .val (.int (u4 &&& (3 : Int32))), .val (.long u2), .second, .val (.long u3), .second, .unset, .unset, .unset, .unset, .unset, .unset, .unset] [(.int (u4 &&& (3 : Int32)))])) (fun t_ k_ => XS.iload X2.here hx rfl (hb hby at_64) rfl k_) ?_
        refine own_st (B := T2.setTop (mkF m 67 #[.val (.long u0), .second, .val (.long u1), .second, .val (.long u2), .second, .val (.long u3), .second, .val (.int u4), .val (.long (own_min u0 u1)), .second, .val (.long (own_max u0 u1)), .second, .val (.int (u4 &&& (3 : Int32))), .val (.long u2), .second, .val (.long u3), .second, .unset, .unset, .unset, .unset, .unset, .unset, .unset] [(.int (3 : Int32)), (.int (u4 &&& (3 : Int32)))])) (fun t_ k_ => XS.iconst X2.here hx rfl (hb hby at_66) k_) ?_
        by_cases hc47 : (u4 &&& (3 : Int32)) = (3 : Int32)
        · have hd47 := own_eq32 hc47
          rw [show (3 : Int32).toInt = 3 from rfl] at hd47
          refine own_st (B := T2.setTop (mkF m 70 #[.val (.long u0), .second, .val (.long u1), .second, .val (.long u2), .second, .val (.long u3), .second, .val (.int u4), .val (.long (own_min u0 u1)), .second, .val (.long (own_max u0 u1)), .second, .val (.int (u4 &&& (3 : Int32))), .val (.long u2), .second, .val (.long u3), .second, .unset, .unset, .unset, .unset, .unset, .unset, .unset] [])) (fun t_ k_ => XS.icmpNo X2.here hx rfl (hb hby at_67) rfl (teq hc47).2 k_) ?_
          refine own_st (B := T2.setTop (mkF m 72 #[.val (.long u0), .second, .val (.long u1), .second, .val (.long u2), .second, .val (.long u3), .second, .val (.int u4), .val (.long (own_min u0 u1)), .second, .val (.long (own_max u0 u1)), .second, .val (.int (u4 &&& (3 : Int32))), .val (.long u2), .second, .val (.long u3), .second, .unset, .unset, .unset, .unset, .unset, .unset, .unset] [(.long (own_min u0 u1))])) (fun t_ k_ => XS.lload X2.here hx rfl (hb hby at_70) rfl k_) ?_
          refine own_st (B := T2.setTop (mkF m 74 #[.val (.long u0), .second, .val (.long u1), .second, .val (.long u2), .second, .val (.long u3), .second, .val (.int u4), .val (.long (own_min u0 u1)), .second, .val (.long (own_max u0 u1)), .second, .val (.int (u4 &&& (3 : Int32))), .val (.long (own_min u0 u1)), .second, .val (.long u3), .second, .unset, .unset, .unset, .unset, .unset, .unset, .unset] [])) (fun t_ k_ => XS.lstore X2.here hx rfl (hb hby at_72) rfl (l' := #[.val (.long u0), .second, .val (.long u1), .second, .val (.long u2), .second, .val (.long u3), .second, .val (.int u4), .val (.long (own_min u0 u1)), .second, .val (.long (own_max u0 u1)), .second, .val (.int (u4 &&& (3 : Int32))), .val (.long (own_min u0 u1)), .second, .val (.long u3), .second, .unset, .unset, .unset, .unset, .unset, .unset, .unset]) rfl k_) ?_
          refine own_st (B := T2.setTop (mkF m 76 #[.val (.long u0), .second, .val (.long u1), .second, .val (.long u2), .second, .val (.long u3), .second, .val (.int u4), .val (.long (own_min u0 u1)), .second, .val (.long (own_max u0 u1)), .second, .val (.int (u4 &&& (3 : Int32))), .val (.long (own_min u0 u1)), .second, .val (.long u3), .second, .unset, .unset, .unset, .unset, .unset, .unset, .unset] [(.long (own_max u0 u1))])) (fun t_ k_ => XS.lload X2.here hx rfl (hb hby at_74) rfl k_) ?_
          refine own_st (B := T2.setTop (mkF m 78 #[.val (.long u0), .second, .val (.long u1), .second, .val (.long u2), .second, .val (.long u3), .second, .val (.int u4), .val (.long (own_min u0 u1)), .second, .val (.long (own_max u0 u1)), .second, .val (.int (u4 &&& (3 : Int32))), .val (.long (own_min u0 u1)), .second, .val (.long (own_max u0 u1)), .second, .unset, .unset, .unset, .unset, .unset, .unset, .unset] [])) (fun t_ k_ => XS.lstore X2.here hx rfl (hb hby at_76) rfl (l' := #[.val (.long u0), .second, .val (.long u1), .second, .val (.long u2), .second, .val (.long u3), .second, .val (.int u4), .val (.long (own_min u0 u1)), .second, .val (.long (own_max u0 u1)), .second, .val (.int (u4 &&& (3 : Int32))), .val (.long (own_min u0 u1)), .second, .val (.long (own_max u0 u1)), .second, .unset, .unset, .unset, .unset, .unset, .unset, .unset]) rfl k_) ?_
          exact J4  (own_min u0 u1) (own_max u0 u1) 
        · have hd47 := own_neq32 hc47
          rw [show (3 : Int32).toInt = 3 from rfl] at hd47
          refine own_st (B := T2.setTop (mkF m 78 #[.val (.long u0), .second, .val (.long u1), .second, .val (.long u2), .second, .val (.long u3), .second, .val (.int u4), .val (.long (own_min u0 u1)), .second, .val (.long (own_max u0 u1)), .second, .val (.int (u4 &&& (3 : Int32))), .val (.long u2), .second, .val (.long u3), .second, .unset, .unset, .unset, .unset, .unset, .unset, .unset] [])) (fun t_ k_ => XS.icmpYes X2.here hx rfl (pc0 := 67) (pc' := 78) rfl (hb hby at_67) rfl (feq hc47).2 (by decide) (by decide) k_) ?_
          exact J4  u2 u3 
set_option maxRecDepth 65536 in
set_option maxHeartbeats 40000000 in
theorem comes_1 {Post : Tables → Env → Array Value → State → Outcome → State → Prop} (hpost : ∀ tb e args s v u, (limb_1_1.after args s (.returned v) u = true ∧ limb_1_2.after args s (.returned v) u = true ∧ True) → FrameEnd s (.returned v) u (Jvm.fieldLocs frame_1_writes args s ++ Jvm.arrayLocs frame_1_arrays args s ++ Jvm.staticLocs frame_1_statics s) 16 128 → Post tb e args s (.returned v) u) :
    ArmFor flags0 classFile x code maxLocals ret World_1 tables_1 room_1 Calls_1 rest_1 Pre_1 Post := by
  intro l hfl _ _ p e ha hc hk s m args below hf hA hF happ hP
  obtain ⟨hcalls, hrest, hpre⟩ := hP
  obtain ⟨-, -, -, hnamed, -, -, -, hat⟩ := (Spec.applies_iff hf).mp happ
  obtain ⟨hg, hn⟩ := and_e (Cond.before_iff.mp (show (Jvm.Cond.and given_1 narrow_1).before args s = true from hpre))
  obtain ⟨gg1, gg2⟩ := and_e hg
  obtain ⟨gg3, gg4⟩ := and_e gg2
  obtain ⟨gg5, gg6⟩ := and_e gg4
  obtain ⟨gg7, gg8⟩ := and_e gg6
  obtain ⟨gg9, gg10⟩ := and_e gg8
  obtain ⟨w0, w1, w2, w3, w4, rfl⟩ : ∃ w0 w1 w2 w3 w4 : Value, args = #[w0, w1, w2, w3, w4] := by
    have hs : args.size = 5 := by simpa [Cond.value, given_1] using gg1
    obtain ⟨L⟩ := args
    match L, hs with
    | [w0, w1, w2, w3, w4], _ => exact ⟨w0, w1, w2, w3, w4, rfl⟩
  have hw := fun d (hd : d ∈ tables_1) => atoms_spec (ws := Jvm.Cond.code x code maxLocals ret :: tables_1) hat d (List.mem_cons_of_mem _ hd)
  have hfit : Fit s := fun {y c} hc i hi => by
    obtain ⟨ha, rfl⟩ := Array.getElem?_eq_some_iff.mp hc
    have q := List.all_eq_true.mp ((Array.all_eq_true_iff_forall_mem.mp hF) _ (Array.getElem_mem ha)) i (List.mem_range.mpr hi)
    simpa [Array.getElem?_eq_getElem hi] using q
  obtain ⟨i0, ei0⟩ := isL_v gg3
  obtain rfl : w0 = (.long i0) := Option.some.inj ei0
  obtain ⟨i1, ei1⟩ := isL_v gg5
  obtain rfl : w1 = (.long i1) := Option.some.inj ei1
  obtain ⟨i2, ei2⟩ := isL_v gg7
  obtain rfl : w2 = (.long i2) := Option.some.inj ei2
  obtain ⟨i3, ei3⟩ := isL_v gg9
  obtain rfl : w3 = (.long i3) := Option.some.inj ei3
  obtain ⟨i4, ei4⟩ := is_v gg10
  obtain rfl : w4 = (.int i4) := Option.some.inj ei4
  obtain ⟨n, o, h1, h2, h3, _, L, rfl, ⟨rfl, N⟩, hq⟩ := rm0 l s _ hw tables_1 i0 i1 i2 i3 i4 s.heap s.heap.size (Nat.le_refl _)  p e ha hc hk s m _ below hf ((Spec.applies_iff_loose hf).mp happ).1 ⟨rfl, State.Warmed39.refl s, rfl⟩ trivial
  refine ⟨n, _, h1, h2, h3, hpost _ _ _ _ _ _ ⟨Cond.after_iff.mpr rfl, Cond.after_iff.mpr (eq_i res_at (Term.int_eval (1)) rfl), trivial⟩ ⟨hq.1, hq.2.1, (hq.2.2.sift fun y hy => Or.inr (N y hy)).mono (by decide) (by decide)⟩⟩
theorem main_1_1 : Claimed_1_1 := comes_1 fun _ _ _ _ _ _ h hF => ⟨h.1, hF⟩
theorem main_1_2 : Claimed_1_2 := comes_1 fun _ _ _ _ _ _ h hF => ⟨h.2.1, hF⟩
end Jvm.Pilot.@@N@@
namespace Jvm.Pilot.@@N@@
open Jvm Jvm.ClassFile Sem Op Lib Jvm.Free Jvm.Stand Jvm.Pilot.@@N@@.Jvm.D
/-! MADE BY PROGRAM (witnessworld.py) out of the Statement's table words and the real class files: 11 classes; the members and pool entries that the words name. The judged class is class 1, her method 1. -/
namespace start1
open Jvm.ClassFile
def u (s : String) : CpInfo := .utf8 (stringToUtf16 s)
/-- a pool by its gaps: so many unusable entries, then the entry; so many at the end -/
def gap : Nat → List CpInfo → List CpInfo
  | 0, r => r
  | n + 1, r => .unusable :: gap n r
def poolList (es : List (Nat × CpInfo)) (last : Nat) : List CpInfo := es.foldr (fun e r => gap e.1 (e.2 :: r)) (gap last [])
def pool (es : List (Nat × CpInfo)) (last : Nat) : Array CpInfo := ⟨poolList es last⟩
def fileOf (pool : Array CpInfo) (this : Nat) (attrs : Array Attribute := #[]) (ms : Array MethodInfo := #[]) (fl : Nat := 33) (sup : Nat := 0) (ifs : Array Nat := #[]) (fds : Array FieldInfo := #[]) : ClassFile where
  minorVersion := 0
  majorVersion := 65
  constantPool := pool
  accessFlags := fl
  thisClass := this
  superClass := sup
  interfaces := ifs
  fields := fds
  methods := ms
  attributes := attrs
def plain (name : String) (sup : Option ClassId) : Class where
  name := name
  kind := .ordinary
  loader := none
  accessFlags := 33
  super := sup
  interfaces := #[]
  cf := none
  fields := #[]
  methods := #[]
  instanceTypes := #[]
  staticTypes := #[]
  resolved := #[]
  callSites := []
  init := .initialized
  statics := none
  mirror := none

def pool0 : Array CpInfo := pool [(5, u "<init>"), (0, u "()V"), (1, .class_ 10), (1, u "java/lang/Object")] 113

def k0c0 : Code := { maxStack := 0, maxLocals := 1, code := object_method_1_code, exceptionTable := #[], attributes := #[] }
def k0m0 : Method := { name := "<init>", desc := "()V", sig := { parameters := [], returnType := none }, accessFlags := 1, code := some k0c0 }
/-- java/lang/Object -/
def k0 : Class := { plain "java/lang/Object" none with
  accessFlags := 33
  interfaces := #[]
  cf := some (fileOf pool0 8 #[] #[{ accessFlags := 1, nameIndex := 5, descriptorIndex := 6, attributes := #[] }] 33 0 #[] #[])
  fields := #[]
  methods := #[k0m0]
  instanceTypes := #[]
  staticTypes := #[]
  resolved := Array.replicate 124 none
  statics := none }

def pool1 : Array CpInfo := pool [(2, .class_ 4), (1, u "java/lang/Object"), (0, u "<init>"), (0, u "()V"), (0, .methodref 8 9), (0, .class_ 10), (0, .nameAndType 11 12), (0, u "java/lang/Math"), (0, u "min"), (0, u "(JJ)J"), (0, .methodref 8 14), (0, .nameAndType 15 12), (0, u "max"), (0, .class_ 17), (0, u "com/example/briareus/briareus/model/Interval"), (0, .methodref 16 19), (0, .nameAndType 5 20), (0, u "(JJ)V"), (0, .methodref 16 22), (0, .nameAndType 23 24), (0, u "overlaps"), (0, u "(Lcom/example/briareus/briareus/model/Interval;)Z"), (0, .class_ 26), (0, u "com/example/briareus/briareus/model/IntervalOverlapsPinLaw"), (2, u "law"), (0, u "(JJJJI)Z")] 3

def k1m0 : Method := { name := "<init>", desc := "()V", sig := { parameters := [], returnType := none }, accessFlags := 2, code := none }
def k1c1 : Code := { maxStack := 6, maxLocals := 25, code := code, exceptionTable := #[], attributes := #[] }
def k1m1 : Method := { name := "law", desc := "(JJJJI)Z", sig := { parameters := [.long, .long, .long, .long, .int], returnType := some .boolean }, accessFlags := 9, code := some k1c1 }
/-- com/example/briareus/briareus/model/IntervalOverlapsPinLaw -/
def k1 : Class := { plain "com/example/briareus/briareus/model/IntervalOverlapsPinLaw" (some 0) with
  accessFlags := 49
  interfaces := #[]
  cf := some (fileOf pool1 25 #[] #[{ accessFlags := 2, nameIndex := 5, descriptorIndex := 6, attributes := #[] }, { accessFlags := 9, nameIndex := 29, descriptorIndex := 30, attributes := #[] }] 49 2 #[] #[])
  fields := #[]
  methods := #[k1m0, k1m1]
  instanceTypes := #[]
  staticTypes := #[]
  resolved := Array.replicate 34 none
  statics := none }

def pool2 : Array CpInfo := pool [(1, .class_ 2), (0, u "java/lang/Math"), (1, .class_ 6), (1, u "java/lang/Object"), (0, u "<init>"), (0, u "()V"), (89, .class_ 100), (1, u "java/lang/Math$RandomNumberGeneratorHolder"), (20, u "(JJ)J"), (50, u "negativeZeroFloatBits"), (0, u "J"), (2, u "negativeZeroDoubleBits"), (21, u "max"), (2, u "min"), (43, u "$assertionsDisabled"), (0, u "Z"), (91, u "twoToTheDoubleScaleDown"), (0, u "D"), (4, u "twoToTheDoubleScaleUp"), (9, u "E"), (3, u "PI"), (2, u "TAU"), (2, u "DEGREES_TO_RADIANS"), (0, u "RADIANS_TO_DEGREES")] 94

def k2m0 : Method := { name := "<init>", desc := "()V", sig := { parameters := [], returnType := none }, accessFlags := 2, code := none }
def k2c1 : Code := { maxStack := 4, maxLocals := 4, code := jdk_29_method_66_code, exceptionTable := #[], attributes := #[] }
def k2m1 : Method := { name := "max", desc := "(JJ)J", sig := { parameters := [.long, .long], returnType := some .long }, accessFlags := 9, code := some k2c1 }
def k2c2 : Code := { maxStack := 4, maxLocals := 4, code := jdk_29_method_70_code, exceptionTable := #[], attributes := #[] }
def k2m2 : Method := { name := "min", desc := "(JJ)J", sig := { parameters := [.long, .long], returnType := some .long }, accessFlags := 9, code := some k2c2 }
/-- java/lang/Math -/
def k2 : Class := { plain "java/lang/Math" (some 0) with
  accessFlags := 49
  interfaces := #[]
  cf := some (fileOf pool2 1 #[.nestMembers #[98]] #[{ accessFlags := 2, nameIndex := 7, descriptorIndex := 8, attributes := #[] }, { accessFlags := 9, nameIndex := 198, descriptorIndex := 121, attributes := #[] }, { accessFlags := 9, nameIndex := 201, descriptorIndex := 121, attributes := #[] }] 49 4 #[] #[{ accessFlags := 25, nameIndex := 354, descriptorIndex := 339, attributes := #[] }, { accessFlags := 25, nameIndex := 358, descriptorIndex := 339, attributes := #[] }, { accessFlags := 25, nameIndex := 361, descriptorIndex := 339, attributes := #[] }, { accessFlags := 26, nameIndex := 364, descriptorIndex := 339, attributes := #[] }, { accessFlags := 26, nameIndex := 365, descriptorIndex := 339, attributes := #[] }, { accessFlags := 26, nameIndex := 172, descriptorIndex := 173, attributes := #[] }, { accessFlags := 26, nameIndex := 176, descriptorIndex := 173, attributes := #[] }, { accessFlags := 8, nameIndex := 344, descriptorIndex := 339, attributes := #[] }, { accessFlags := 8, nameIndex := 338, descriptorIndex := 339, attributes := #[] }, { accessFlags := 4120, nameIndex := 245, descriptorIndex := 246, attributes := #[] }])
  fields := #[{ name := "E", type := .double, accessFlags := 25, slot := 0, constantValue := 0 }, { name := "PI", type := .double, accessFlags := 25, slot := 1, constantValue := 0 }, { name := "TAU", type := .double, accessFlags := 25, slot := 2, constantValue := 0 }, { name := "DEGREES_TO_RADIANS", type := .double, accessFlags := 26, slot := 3, constantValue := 0 }, { name := "RADIANS_TO_DEGREES", type := .double, accessFlags := 26, slot := 4, constantValue := 0 }, { name := "negativeZeroFloatBits", type := .long, accessFlags := 26, slot := 5, constantValue := 0 }, { name := "negativeZeroDoubleBits", type := .long, accessFlags := 26, slot := 6, constantValue := 0 }, { name := "twoToTheDoubleScaleUp", type := .double, accessFlags := 8, slot := 7, constantValue := 0 }, { name := "twoToTheDoubleScaleDown", type := .double, accessFlags := 8, slot := 8, constantValue := 0 }, { name := "$assertionsDisabled", type := .boolean, accessFlags := 4120, slot := 9, constantValue := 0 }]
  methods := #[k2m0, k2m1, k2m2]
  instanceTypes := #[]
  staticTypes := #[.double, .double, .double, .double, .double, .long, .long, .double, .double, .boolean]
  resolved := Array.replicate 460 none
  statics := none }

def pool3 : Array CpInfo := pool [(1, .methodref 2 3), (0, .class_ 4), (0, .nameAndType 5 6), (0, u "java/lang/Object"), (0, u "<init>"), (0, u "()V"), (0, .class_ 8), (0, u "java/lang/Record")] 13

def k3c0 : Code := { maxStack := 1, maxLocals := 1, code := jdk_30_method_1_code, exceptionTable := #[], attributes := #[] }
def k3m0 : Method := { name := "<init>", desc := "()V", sig := { parameters := [], returnType := none }, accessFlags := 4, code := some k3c0 }
/-- java/lang/Record -/
def k3 : Class := { plain "java/lang/Record" (some 0) with
  accessFlags := 1057
  interfaces := #[]
  cf := some (fileOf pool3 7 #[] #[{ accessFlags := 4, nameIndex := 5, descriptorIndex := 6, attributes := #[] }] 1057 2 #[] #[])
  fields := #[]
  methods := #[k3m0]
  instanceTypes := #[]
  staticTypes := #[]
  resolved := Array.replicate 22 none
  statics := none }

def pool4 : Array CpInfo := pool [(1, .methodref 2 3), (0, .class_ 4), (0, .nameAndType 5 6), (0, u "java/lang/Record"), (0, u "<init>"), (0, u "()V"), (3, .class_ 12), (1, u "com/example/briareus/briareus/model/Interval"), (9, .fieldref 10 23), (0, .nameAndType 24 25), (0, u "startMillis"), (0, u "J"), (0, .fieldref 10 27), (0, .nameAndType 28 25), (0, u "endMillis"), (20, u "(JJ)V"), (52, u "NANOS_PER_MILLI"), (0, u "I"), (8, u "overlaps"), (0, u "(Lcom/example/briareus/briareus/model/Interval;)Z")] 36

def k4c0 : Code := { maxStack := 6, maxLocals := 5, code := prog_9_method_1_code, exceptionTable := #[], attributes := #[] }
def k4m0 : Method := { name := "<init>", desc := "(JJ)V", sig := { parameters := [.long, .long], returnType := none }, accessFlags := 1, code := some k4c0 }
def k4c1 : Code := { maxStack := 4, maxLocals := 2, code := prog_9_method_4_code, exceptionTable := #[], attributes := #[] }
def k4m1 : Method := { name := "overlaps", desc := "(Lcom/example/briareus/briareus/model/Interval;)Z", sig := { parameters := [(.object "com/example/briareus/briareus/model/Interval")], returnType := some .boolean }, accessFlags := 1, code := some k4c1 }
/-- com/example/briareus/briareus/model/Interval -/
def k4 : Class := { plain "com/example/briareus/briareus/model/Interval" (some 3) with
  accessFlags := 49
  interfaces := #[]
  cf := some (fileOf pool4 10 #[] #[{ accessFlags := 1, nameIndex := 5, descriptorIndex := 49, attributes := #[] }, { accessFlags := 1, nameIndex := 112, descriptorIndex := 113, attributes := #[] }] 49 2 #[] #[{ accessFlags := 18, nameIndex := 24, descriptorIndex := 25, attributes := #[] }, { accessFlags := 18, nameIndex := 28, descriptorIndex := 25, attributes := #[] }, { accessFlags := 26, nameIndex := 102, descriptorIndex := 103, attributes := #[] }])
  fields := #[{ name := "startMillis", type := .long, accessFlags := 18, slot := 0, constantValue := 0 }, { name := "endMillis", type := .long, accessFlags := 18, slot := 1, constantValue := 0 }, { name := "NANOS_PER_MILLI", type := .int, accessFlags := 26, slot := 0, constantValue := 0 }]
  methods := #[k4m0, k4m1]
  instanceTypes := #[.long, .long]
  staticTypes := #[.int]
  resolved := Array.replicate 150 none
  statics := none }

def pool5 : Array CpInfo := pool [(1, u "java/lang/Cloneable"), (0, .class_ 1), (0, u "java/lang/Object"), (0, .class_ 3)] 3

/-- java/lang/Cloneable -/
def k5 : Class := { plain "java/lang/Cloneable" (some 0) with
  accessFlags := 1537
  interfaces := #[]
  cf := some (fileOf pool5 2 #[] #[] 1537 4 #[] #[])
  fields := #[]
  methods := #[]
  instanceTypes := #[]
  staticTypes := #[]
  resolved := Array.replicate 8 none
  statics := none }

def pool6 : Array CpInfo := pool [(1, u "java/io/Serializable"), (0, .class_ 1), (0, u "java/lang/Object"), (0, .class_ 3)] 3

/-- java/io/Serializable -/
def k6 : Class := { plain "java/io/Serializable" (some 0) with
  accessFlags := 1537
  interfaces := #[]
  cf := some (fileOf pool6 2 #[] #[] 1537 4 #[] #[])
  fields := #[]
  methods := #[]
  instanceTypes := #[]
  staticTypes := #[]
  resolved := Array.replicate 8 none
  statics := none }

/-- the primitive byte -/
def k7 : Class := { plain "byte" none with kind := .primitive 'B', accessFlags := 0x411 }
/-- [B -/
def k8 : Class := { plain "[B" (some 0) with kind := .array 7 .byte, interfaces := #[5, 6], accessFlags := 1041 }

/-- the primitive int -/
def k9 : Class := { plain "int" none with kind := .primitive 'I', accessFlags := 0x411 }
/-- [I -/
def k10 : Class := { plain "[I" (some 0) with kind := .array 9 .int, interfaces := #[5, 6], accessFlags := 1041 }

def heap : Heap := #[]
def classes : Array Class := #[k0, k1, k2, k3, k4, k5, k6, k7, k8, k9, k10]
def interned : List (Array UInt16 × Addr) := []
def slotsUsed : Nat := 0
def theMethod : MethodId := ⟨1, 1⟩
def args0 : Array Value := #[.long 5, .long 6, .long 7, .long 8, .int 1]
def aboutOver (below : List Frame) : State where
  vm := { classes := classes, interned := interned.toArray }
  heap := heap
  slotsUsed := slotsUsed
  threads := #[{ frames := .invoking theMethod args0 :: below }]
def below0 : List Frame := [.native { method := ⟨0, 0⟩, args := #[] }]
def about1 : State := aboutOver below0
def p0 : Program := .bare "" "" ""
def e0 : Env := launch0.env 0 0 0
theorem w_frames : about1.frames = Frame.invoking theMethod args0 :: below0 := rfl
set_option maxRecDepth 65536 in
theorem w_args : argsFit about1.vm theMethod args0 = true := by decide +kernel
set_option maxRecDepth 65536 in
theorem w_heap : heapFits about1 = true := by decide +kernel
set_option maxRecDepth 65536 in
theorem w_runnable : about1.curStatus? = some .runnable := by decide +kernel
set_option maxRecDepth 65536 in
theorem w_alone : about1.alone = true := by decide +kernel
set_option maxRecDepth 65536 in
theorem w_named : about1.methodNamed? x = some theMethod := by decide +kernel
set_option maxRecDepth 65536 in
theorem w_hears : about1.hears theMethod below0 = true := by decide +kernel
set_option maxRecDepth 65536 in
theorem w_ripe : about1.ripe theMethod args0 below0 = true := by decide +kernel
theorem w_running : about1.status = .running := rfl
set_option maxRecDepth 65536 in
theorem w_room : about1.hasRoom e0.platform room_1 = true :=
  launch0.hasRoom_least _ room_1 (by decide +kernel) (by decide +kernel) (by decide +kernel) (by decide +kernel) (by decide +kernel) (by decide +kernel)
theorem allAtoms_all (ts : List Jvm.Cond) (a : Array Jvm.Value) (st : Jvm.State) : (allAtoms ts).before a st = ts.all (fun c => c.before a st) := by
  induction ts with
  | nil => rfl
  | cons c t ih =>
    show (Jvm.Cond.and c (allAtoms t)).before a st = _
    rw [Jvm.Cond.before_and, ih, List.all_cons]
def words1 : List Jvm.Cond := Jvm.Cond.code x code maxLocals ret :: tables_1
/-- a 'code' word, met by the world's own term for the bytes: nothing is compared byte by byte -/
theorem code_word {y : MethodName} {bytes : ByteArray} {mx : Nat} {rt : Option FieldType} {a : Array Value} {s : State} {m : MethodId} {meth : Method} {c : Code} (h1 : s.methodNamed? y = some m) (h2 : s.vm.method? m = some meth) (h3 : meth.code = some c) (h4 : c.code = bytes)
    (h5 : (c.maxLocals == mx && c.exceptionTable.isEmpty && decide (c.maxStack ≤ mostOperands) && decide (meth.sig.returnType = rt) && !meth.locks && decide (parseMethodDescriptor y.desc = some meth.sig)) = true) : (Jvm.Cond.code y bytes mx rt).before a s = true := by
  simp only [Bool.and_eq_true, beq_iff_eq, Bool.not_eq_true', decide_eq_true_eq] at h5
  obtain ⟨⟨⟨⟨⟨g1, g2⟩, g3⟩, g4⟩, g5⟩, g6⟩ := h5
  simp [Cond.before, Cond.holds, Cond.value, h1, h2, h3, h4, g1, g2, g3, g4, g5, g6]
def isCode : Jvm.Cond → Bool
  | .code _ _ _ _ => true
  | _ => false
theorem all_split {L : List Jvm.Cond} {P : Jvm.Cond → Bool} (h1 : L.all (fun c => isCode c || P c) = true) (h2 : ∀ c ∈ L.filter isCode, P c = true) : L.all P = true := by
  refine List.all_eq_true.mpr fun c hc => ?_
  have h := List.all_eq_true.mp h1 c hc
  rcases Bool.eq_false_or_eq_true (isCode c) with hi | hi
  · exact h2 c (List.mem_filter.mpr ⟨hc, hi⟩)
  · simpa [hi] using h
set_option maxRecDepth 65536 in
theorem w_c0 : (Jvm.Cond.code x code maxLocals ret).before args0 about1 = true := code_word (m := ⟨1, 1⟩) (meth := k1m1) (c := k1c1) (by decide +kernel) rfl rfl rfl (by decide +kernel)
set_option maxRecDepth 65536 in
theorem w_c1 : (Jvm.Cond.code ({ cls := "java/lang/Math", name := "min", desc := "(JJ)J" } : Jvm.MethodName) jdk_29_method_70_code (4 : Nat) (Option.some Jvm.ClassFile.FieldType.long)).before args0 about1 = true := code_word (m := ⟨2, 2⟩) (meth := k2m2) (c := k2c2) (by decide +kernel) rfl rfl rfl (by decide +kernel)
set_option maxRecDepth 65536 in
theorem w_c2 : (Jvm.Cond.code ({ cls := "java/lang/Math", name := "max", desc := "(JJ)J" } : Jvm.MethodName) jdk_29_method_66_code (4 : Nat) (Option.some Jvm.ClassFile.FieldType.long)).before args0 about1 = true := code_word (m := ⟨2, 1⟩) (meth := k2m1) (c := k2c1) (by decide +kernel) rfl rfl rfl (by decide +kernel)
set_option maxRecDepth 65536 in
theorem w_c3 : (Jvm.Cond.code ({ cls := "com/example/briareus/briareus/model/Interval", name := "<init>", desc := "(JJ)V" } : Jvm.MethodName) prog_9_method_1_code (5 : Nat) (Option.none : Option Jvm.ClassFile.FieldType)).before args0 about1 = true := code_word (m := ⟨4, 0⟩) (meth := k4m0) (c := k4c0) (by decide +kernel) rfl rfl rfl (by decide +kernel)
set_option maxRecDepth 65536 in
theorem w_c4 : (Jvm.Cond.code ({ cls := "java/lang/Record", name := "<init>", desc := "()V" } : Jvm.MethodName) jdk_30_method_1_code (1 : Nat) (Option.none : Option Jvm.ClassFile.FieldType)).before args0 about1 = true := code_word (m := ⟨3, 0⟩) (meth := k3m0) (c := k3c0) (by decide +kernel) rfl rfl rfl (by decide +kernel)
set_option maxRecDepth 65536 in
theorem w_c5 : (Jvm.Cond.code ({ cls := "java/lang/Object", name := "<init>", desc := "()V" } : Jvm.MethodName) object_method_1_code (1 : Nat) (Option.none : Option Jvm.ClassFile.FieldType)).before args0 about1 = true := code_word (m := ⟨0, 0⟩) (meth := k0m0) (c := k0c0) (by decide +kernel) rfl rfl rfl (by decide +kernel)
set_option maxRecDepth 65536 in
theorem w_c6 : (Jvm.Cond.code ({ cls := "com/example/briareus/briareus/model/Interval", name := "overlaps", desc := "(Lcom/example/briareus/briareus/model/Interval;)Z" } : Jvm.MethodName) prog_9_method_4_code (2 : Nat) (Option.some Jvm.ClassFile.FieldType.boolean)).before args0 about1 = true := code_word (m := ⟨4, 1⟩) (meth := k4m1) (c := k4c1) (by decide +kernel) rfl rfl rfl (by decide +kernel)
def codes1 : List Jvm.Cond := [Jvm.Cond.code x code maxLocals ret, Jvm.Cond.code ({ cls := "java/lang/Math", name := "min", desc := "(JJ)J" } : Jvm.MethodName) jdk_29_method_70_code (4 : Nat) (Option.some Jvm.ClassFile.FieldType.long), Jvm.Cond.code ({ cls := "java/lang/Math", name := "max", desc := "(JJ)J" } : Jvm.MethodName) jdk_29_method_66_code (4 : Nat) (Option.some Jvm.ClassFile.FieldType.long), Jvm.Cond.code ({ cls := "com/example/briareus/briareus/model/Interval", name := "<init>", desc := "(JJ)V" } : Jvm.MethodName) prog_9_method_1_code (5 : Nat) (Option.none : Option Jvm.ClassFile.FieldType), Jvm.Cond.code ({ cls := "java/lang/Record", name := "<init>", desc := "()V" } : Jvm.MethodName) jdk_30_method_1_code (1 : Nat) (Option.none : Option Jvm.ClassFile.FieldType), Jvm.Cond.code ({ cls := "java/lang/Object", name := "<init>", desc := "()V" } : Jvm.MethodName) object_method_1_code (1 : Nat) (Option.none : Option Jvm.ClassFile.FieldType), Jvm.Cond.code ({ cls := "com/example/briareus/briareus/model/Interval", name := "overlaps", desc := "(Lcom/example/briareus/briareus/model/Interval;)Z" } : Jvm.MethodName) prog_9_method_4_code (2 : Nat) (Option.some Jvm.ClassFile.FieldType.boolean)]
set_option maxRecDepth 65536 in
theorem codes_eq : words1.filter isCode = codes1 := rfl
theorem w_codes : ∀ c ∈ words1.filter isCode, c.before args0 about1 = true := by
  rw [codes_eq]
  intro c hc
  simp only [codes1, List.mem_cons, List.not_mem_nil, or_false] at hc
  rcases hc with rfl | rfl | rfl | rfl | rfl | rfl | rfl
  · exact w_c0
  · exact w_c1
  · exact w_c2
  · exact w_c3
  · exact w_c4
  · exact w_c5
  · exact w_c6
set_option maxRecDepth 65536 in
theorem w_t1 : (words1.take 24).all (fun c => isCode c || c.before args0 about1) = true := by decide +kernel
set_option maxRecDepth 65536 in
theorem w_t2 : (words1.drop 24).all (fun c => isCode c || c.before args0 about1) = true := by decide +kernel
theorem w_tables : (allAtoms (Jvm.Cond.code x code maxLocals ret :: tables_1)).before args0 about1 = true := by
  rw [allAtoms_all]
  show words1.all (fun c => c.before args0 about1) = true
  refine all_split ?_ w_codes
  rw [← List.take_append_drop 24 words1, List.all_append, w_t1, w_t2]
  rfl
set_option maxRecDepth 65536 in
theorem w_case : (Jvm.Cond.and given_1 narrow_1).before args0 about1 = true := by decide +kernel
theorem w_applies : (headSpec (Jvm.Cond.code x code maxLocals ret :: tables_1) room_1).applies x e0.platform about1 = true :=
  (Spec.applies_iff w_frames).mpr ⟨w_running, w_runnable, w_alone, w_named, w_hears, w_ripe, w_room, w_tables⟩
theorem atStart : AtStart classFile x code maxLocals ret World_1 tables_1 room_1 Calls_1 rest_1 Pre_1 launch0 p0 e0 about1 theMethod args0 below0 :=
  ⟨lists_1, trivial, launch0.admits_env _ _ _, launch0.least_env, fairChoices_fair.cas, fairChoices_fair.clock, w_frames, w_args, w_heap, w_applies, trivial, trivial, w_case⟩
end start1
theorem witness_1 : WitnessClaimed_1 := ⟨start1.p0, start1.e0, start1.about1, start1.theMethod, start1.args0, start1.below0, start1.atStart⟩
end Jvm.Pilot.@@N@@
