import JvmDerived
import JvmDerived.Pilot.@@N@@Statement
import JvmDerived.Pilot.@@N@@Code
set_option linter.unusedVariables false
set_option linter.unusedSimpArgs false

namespace Jvm.Pilot.@@N@@
open Jvm Jvm.ClassFile Sem Op Lib Jvm.Free Jvm.Stand Jvm.LawKit Jvm.RoadKit Bundle Jvm.Pilot.@@N@@.Jvm.D
section Own
variable {p : Program} {l : Launch} {e : Env} {R : Room} {s : State} {m : MethodId} {args : Array Value} {below : List Frame} {meth : Method} {c : Code} {T : State} {locs : List Loc} {cells slots : Nat} {Z : State} {h h' : Heap}
/-- the run from A comes to the method's end as Q says, with at most kc new cells and ks new slots -/
def own_E (p : Program) (e : Env) (below : List Frame) (s : State) (Q : Option Value → Heap → List Loc → Prop) (kc ks : Nat) (A : State) : Prop :=
  ∃ s₂ o, Steps p.tables e below A s₂ ∧ s₂.status = .running ∧ Ended s₂ below o ∧ ∃ v L, o = .returned v ∧ Q v s₂.heap L ∧ FrameEnd s o s₂ L kc ks
variable {Q : Option Value → Heap → List Loc → Prop} {kc ks : Nat} {A B : State}
theorem own_st (k : ∀ t, Steps p.tables e below B t → Steps p.tables e below A t) (h : own_E p e below s Q kc ks B) : own_E p e below s Q kc ks A := by
  obtain ⟨t, o, h1, h2⟩ := h
  exact ⟨t, o, k t h1, h2⟩
theorem own_end (X : Stand p l e R s m args below meth c T locs cells slots) {v : Option Value} (hv : meth.sig.returnType = none → v = none) (hlk : meth.locks = false)
    (hk : ∀ fs, (∀ (f : JFrame) (acts : List Action), f.method = m → f.locked = none → f.entered = [] → (doReturn e (T.setTop f) acts v).1 = T.setFrames fs) → Steps p.tables e below A (T.setFrames fs)) (hc : cells ≤ kc) (hs : slots ≤ ks) (hQ : Q v T.heap locs) : own_E p e below s Q kc ks A := by
  obtain ⟨fs, hr, hrun, hended, hW, hsame⟩ := X.leave (v := v) hv hlk
  exact ⟨_, _, hk fs hr, hrun, hended, _, _, rfl, hQ, ⟨_, rfl⟩, hW, hsame.mono hc hs⟩
theorem own_retN (X : Stand p l e R s m args below meth c T locs cells slots) (hx : p.tables.exec = Jvm.exec) {pc : Nat} {Ls : Array Slot} {z z' : Int32} {t : FieldType} {rest : List Value} (hret : meth.sig.returnType = some t) (ht : t = .boolean ∨ t = .byte ∨ t = .char ∨ t = .short) (hlk : meth.locks = false)
    (hd : decode c.code pc = .ok (.ireturn, 1)) (hz : nar t z = z') (hc : cells ≤ kc) (hs : slots ≤ ks) (hQ : Q (some (.int z')) T.heap locs) : own_E p e below s Q kc ks (T.setTop (mkF m pc Ls (.int z :: rest))) := by
  subst hz
  exact own_end X (fun q => by rw [hret] at q; cases q) hlk (fun fs hr => retN X hx hret ht hd hr) hc hs hQ
theorem own_retI (X : Stand p l e R s m args below meth c T locs cells slots) (hx : p.tables.exec = Jvm.exec) {pc : Nat} {Ls : Array Slot} {z : Int32} {rest : List Value} (hret : meth.sig.returnType = some .int) (hlk : meth.locks = false)
    (hd : decode c.code pc = .ok (.ireturn, 1)) (hc : cells ≤ kc) (hs : slots ≤ ks) (hQ : Q (some (.int z)) T.heap locs) : own_E p e below s Q kc ks (T.setTop (mkF m pc Ls (.int z :: rest))) := by
  refine own_end X (fun q => by rw [hret] at q; cases q) hlk (fun fs hr => ?_) hc hs hQ
  have hm' : T.vm.method? m = some meth := X.method'
  have hn : narrow .int (.int z) = .int z := rfl
  show Steps p.tables e below (T.setTop { method := m, pc := pc, locals := Ls, stack := _ :: rest, locked := none }) _
  jvm_step X.here [X.here.top, hx, hd, hm', hret, hn]
  first | (intro acts; rw [hr _ acts rfl rfl rfl]) | rw [hr _ _ rfl rfl rfl]
  exact Steps.refl _
theorem own_retJ (X : Stand p l e R s m args below meth c T locs cells slots) (hx : p.tables.exec = Jvm.exec) {pc : Nat} {Ls : Array Slot} {z : Int64} (hret : meth.sig.returnType = some .long) (hlk : meth.locks = false)
    (hd : decode c.code pc = .ok (.lreturn, 1)) (hc : cells ≤ kc) (hs : slots ≤ ks) (hQ : Q (some (.long z)) T.heap locs) : own_E p e below s Q kc ks (T.setTop (mkF m pc Ls [.long z])) :=
  own_end X (fun q => by rw [hret] at q; cases q) hlk (fun fs hr => X.lreturnOut hx hret hd hr) hc hs hQ
theorem own_retR (X : Stand p l e R s m args below meth c T locs cells slots) (hx : p.tables.exec = Jvm.exec) {pc : Nat} {Ls : Array Slot} {w : Value} {t : FieldType} (hw : w.isRef = true) (hret : meth.sig.returnType = some t) (ht : t.isReference = true) (hlk : meth.locks = false)
    (hd : decode c.code pc = .ok (.areturn, 1)) (hc : cells ≤ kc) (hs : slots ≤ ks) (hQ : Q (some w) T.heap locs) : own_E p e below s Q kc ks (T.setTop (mkF m pc Ls [w])) :=
  own_end X (fun q => by rw [hret] at q; cases q) hlk (fun fs hr => X.areturnOut hx hw hret ht hd hr) hc hs hQ
theorem own_retV (X : Stand p l e R s m args below meth c T locs cells slots) (hx : p.tables.exec = Jvm.exec) {pc : Nat} {Ls : Array Slot} (hret : meth.sig.returnType = none) (hlk : meth.locks = false)
    (hd : decode c.code pc = .ok (.return_, 1)) (hc : cells ≤ kc) (hs : slots ≤ ks) (hQ : Q none T.heap locs) : own_E p e below s Q kc ks (T.setTop (mkF m pc Ls [])) :=
  own_end X (fun _ => rfl) hlk (fun fs hr => X.returnOut hx hret hd hr) hc hs hQ
/-- a boolean as the machine holds it -/
def own_b (b : Bool) : Int32 := if b then 1 else 0
theorem own_b1 {P : Prop} [Decidable P] (h : P) : own_b (decide P) = 1 := by simp [own_b, h]
theorem own_bz {P : Prop} [Decidable P] (h : ¬ P) : own_b (decide P) = 0 := by simp [own_b, h]
theorem own_lt32 {x y : Int32} (h : x < y) : x.toInt < y.toInt := Int32.lt_iff_toInt_lt.mp h
theorem own_nlt32 {x y : Int32} (h : ¬ x < y) : ¬ x.toInt < y.toInt := fun q => h (Int32.lt_iff_toInt_lt.mpr q)
theorem own_eq32 {x y : Int32} (h : x = y) : x.toInt = y.toInt := congrArg _ h
theorem own_neq32 {x y : Int32} (h : ¬ x = y) : ¬ x.toInt = y.toInt := fun q => h (Int32.toInt_inj.mp q)
theorem own_lt64 {x y : Int64} (h : x < y) : x.toInt < y.toInt := Int64.lt_iff_toInt_lt.mp h
theorem own_nlt64 {x y : Int64} (h : ¬ x < y) : ¬ x.toInt < y.toInt := fun q => h (Int64.lt_iff_toInt_lt.mpr q)
theorem own_eq64 {x y : Int64} (h : x = y) : x.toInt = y.toInt := congrArg _ h
theorem own_neq64 {x y : Int64} (h : ¬ x = y) : ¬ x.toInt = y.toInt := fun q => h (Int64.toInt_inj.mp q)
theorem own_b0 {b : Bool} : own_b b = 0 ↔ b = false := by cases b <;> decide
theorem own_nb (b : Bool) : nar .boolean (own_b b) = own_b b := by cases b <;> rfl
theorem own_nbb (x : Int32) : nar .byte (x.toInt8.toInt32) = x.toInt8.toInt32 := by
  show x.toInt8.toInt32.toInt8.toInt32 = x.toInt8.toInt32
  rw [Int8.toInt8_toInt32]
theorem own_stV {l : Array Slot} {i : Nat} {v : Value} {o : Slot} (hold : l[i]? = some o) (ho : o = .unset ∨ ∃ w, o = .val w ∧ w.category = 1) (hv : v.category = 1) : storeLocals l i v = some (l.setIfInBounds i (.val v)) := XS.store1 hold ho hv
theorem own_narV {ty : FieldType} {v : Value} (hv : v.isRef = true) : narrow ty v = v := by
  rcases ref_cases hv with rfl | ⟨a, rfl⟩ <;> cases ty <;> rfl
theorem own_fitV {ty : FieldType} {v : Value} (ht : ty.isReference = true) (hv : v.isRef = true) : fits ty v = true := by
  rcases ref_cases hv with rfl | ⟨a, rfl⟩ <;> cases ty <;> first | rfl | (cases ht; done)
/-- an array of n places, whose place j holds f j -/
def own_A (Z : State) (h : Heap) (a : Addr) (ty : FieldType) (n : Nat) (f : Nat → Int32) : Prop := ∃ c : Cell, Arr Z h a c ty ∧ c.slots.size = n ∧ n < 2 ^ 31 ∧ (∀ j, j < n → c.slots[j]? = some (.int (f j))) ∧ ∀ j, j < n → fits ty (.int (f j)) = true
def own_up (f : Nat → Int32) (i : Nat) (v : Int32) (k : Nat) : Int32 := if k = i then v else f k
theorem own_up_same (f : Nat → Int32) (i : Nat) (v : Int32) : own_up f i v i = v := if_pos rfl
theorem own_up_ne (f : Nat → Int32) {i k : Nat} (v : Int32) (h : ¬ k = i) : own_up f i v k = f k := if_neg h
theorem own_catV {v : Value} (h : v.isRef = true) : v.category = 1 := by rcases ref_cases h with rfl | ⟨a, rfl⟩ <;> rfl
abbrev own_ix (j : Int32) (i : Nat) : Prop := ¬ j < 0 ∧ j.toNatClampNeg = i
variable {a b : Addr} {ty : FieldType} {n i : Nat} {f : Nat → Int32} {j x : Int32} {pc : Nat} {Ls : Array Slot} {rest : List Value} {sl : Nat} {v : Value} {ws : List Addr}
theorem own_A.lt (F : own_A Z h a ty n f) : a < h.size := by obtain ⟨c, A, -⟩ := F; exact A.lt
theorem own_A.ext (F : own_A Z h a ty n f) (E : Ext h h') : own_A Z h' a ty n f := by obtain ⟨c, A, r⟩ := F; exact ⟨c, A.ext E, r⟩
theorem own_A.other (F : own_A Z h b ty n f) (W : Wr h h' a sl v) (q : b ≠ a) : own_A Z h' b ty n f := by obtain ⟨c, A, r⟩ := F; exact ⟨c, A.other W q, r⟩
theorem own_A.keep (F : own_A Z h a ty n f) (K : Keep h h' ws) (q : a ∉ ws) : own_A Z h' a ty n f := by obtain ⟨c, A, r⟩ := F; exact ⟨c, ⟨K.2.1 a c A.1 q, A.2⟩, r⟩
theorem own_A.congr {g : Nat → Int32} (F : own_A Z h a ty n f) (q : ∀ j, j < n → f j = g j) : own_A Z h a ty n g := by obtain ⟨c, A, r1, r2, r3, r4⟩ := F; exact ⟨c, A, r1, r2, fun j hj => by rw [← q j hj]; exact r3 j hj, fun j hj => by rw [← q j hj]; exact r4 j hj⟩
theorem own_A.new {k : ClassId} {z : Int32} (A : Arr Z h a (newA k ty z) ty) (q : ¬ z < 0) (hz : z.toNatClampNeg = n) (hd : defaultValue ty = .int 0 := by rfl) : own_A Z h a ty n (fun _ => 0) := by
  subst hz
  exact ⟨_, A, sz_new _ _ _, (back32 q).2, fun j hj => by simp [newA, hj, hd], fun j hj => by rw [← hd]; cases ty <;> rfl⟩
theorem own_A.set (F : own_A Z h a ty n f) (hj : own_ix j i) (W : Wr h h' a j.toNatClampNeg (.int x)) (hf : fits ty (.int x) = true) : own_A Z h' a ty n (own_up f i x) := by
  obtain ⟨c, A, r1, r2, r3, r4⟩ := F
  obtain ⟨hj1, rfl⟩ := hj
  refine ⟨_, A.same W, by rw [sz_set]; exact r1, r2, fun k hk => ?_, fun k hk => ?_⟩ <;> by_cases q : k = j.toNatClampNeg
  · subst q; simp [Cell.setSlot, own_up, r1, hk]
  · simp only [Cell.setSlot, own_up, if_neg q]; rw [Array.getElem?_setIfInBounds_ne (Ne.symm q)]; exact r3 k hk
  · simp only [own_up, if_pos q]; exact hf
  · simp only [own_up, if_neg q]; exact r4 k hk
theorem own_in (hj : own_ix j i) (hi : i < n) {c : Cell} (hc : c.slots.size = n) : ¬ (j < 0 ∨ c.slots.size ≤ j.toNatClampNeg) := by
  rintro (q | q)
  · exact hj.1 q
  · rw [hj.2, hc] at q; omega
theorem own_stB (X : Stand p l e R s m args below meth c T locs cells slots) (hx : p.tables.exec = Jvm.exec) (hZ : Z.Warmed39 s.vm) (eT : T.heap = h) (A : own_A Z h a .byte n f) (hj : own_ix j i) (hi : i < n) (hd : decode c.code pc = .ok (.bastore, 1)) :
    ∃ T' h', Stand p l e R s m args below meth c T' (locs ++ [⟨a, j.toNatClampNeg⟩]) cells slots ∧ T'.heap = h' ∧ Wr h h' a j.toNatClampNeg (.int (nar .byte x)) ∧ own_A Z h' a .byte n (own_up f i (nar .byte x)) ∧ ∀ t, Steps p.tables e below (T'.setTop (mkF m (pc + 1) Ls rest)) t → Steps p.tables e below (T.setTop (mkF m pc Ls (.int x :: .int j :: .ref a :: rest))) t := by
  have A0 := A
  obtain ⟨cl, A1, r1, r2, r3, r4⟩ := A
  obtain ⟨T', h', X', e', W, st⟩ := stB X hx hZ eT A1 (j := j) (x := x) (own_in hj hi r1) (g := mkF m pc Ls (.int x :: .int j :: .ref a :: rest)) rfl rfl hd
  exact ⟨T', h', X', e', W, A0.set hj W (fits_nar_byte x), st⟩
theorem own_stI (X : Stand p l e R s m args below meth c T locs cells slots) (hx : p.tables.exec = Jvm.exec) (hZ : Z.Warmed39 s.vm) (eT : T.heap = h) (A : own_A Z h a .int n f) (hj : own_ix j i) (hi : i < n) (hd : decode c.code pc = .ok (.iastore, 1)) :
    ∃ T' h', Stand p l e R s m args below meth c T' (locs ++ [⟨a, j.toNatClampNeg⟩]) cells slots ∧ T'.heap = h' ∧ Wr h h' a j.toNatClampNeg (.int x) ∧ own_A Z h' a .int n (own_up f i x) ∧ ∀ t, Steps p.tables e below (T'.setTop (mkF m (pc + 1) Ls rest)) t → Steps p.tables e below (T.setTop (mkF m pc Ls (.int x :: .int j :: .ref a :: rest))) t := by
  have A0 := A
  obtain ⟨cl, A1, r1, r2, r3, r4⟩ := A
  obtain ⟨T', h', X', e', W, st⟩ := stI X hx hZ eT A1 (j := j) (x := x) (own_in hj hi r1) (g := mkF m pc Ls (.int x :: .int j :: .ref a :: rest)) rfl rfl hd
  exact ⟨T', h', X', e', W, A0.set hj W rfl, st⟩
theorem own_ldB (X : Stand p l e R s m args below meth c T locs cells slots) (hx : p.tables.exec = Jvm.exec) (hZ : Z.Warmed39 s.vm) (eT : T.heap = h) (A : own_A Z h a .byte n f) (hj : own_ix j i) (hi : i < n) (hd : decode c.code pc = .ok (.baload, 1)) (t : State)
    (k : Steps p.tables e below (T.setTop (mkF m (pc + 1) Ls (.int (f i) :: rest))) t) : Steps p.tables e below (T.setTop (mkF m pc Ls (.int j :: .ref a :: rest))) t := by
  obtain ⟨cl, A1, r1, r2, r3, r4⟩ := A
  exact X.baloadBytes hx (j := j) (v := .int (f i)) (by rw [eT]; exact A1.1) (State.isArrayOf_alike hZ.alike A1.2.1) A1.2.2 (own_in hj hi r1) (by rw [hj.2]; exact r3 i hi) (g := mkF m pc Ls (.int j :: .ref a :: rest)) rfl rfl hd t k
theorem own_ldI (X : Stand p l e R s m args below meth c T locs cells slots) (hx : p.tables.exec = Jvm.exec) (hZ : Z.Warmed39 s.vm) (eT : T.heap = h) (A : own_A Z h a .int n f) (hj : own_ix j i) (hi : i < n) (hd : decode c.code pc = .ok (.iaload, 1)) (t : State)
    (k : Steps p.tables e below (T.setTop (mkF m (pc + 1) Ls (.int (f i) :: rest))) t) : Steps p.tables e below (T.setTop (mkF m pc Ls (.int j :: .ref a :: rest))) t := by
  obtain ⟨cl, A1, r1, r2, r3, r4⟩ := A
  exact X.iaload hx (j := j) (v := .int (f i)) (by rw [eT]; exact A1.1) (State.isArrayOf_alike hZ.alike A1.2.1) A1.2.2 (own_in hj hi r1) (by rw [hj.2]; exact r3 i hi) (g := mkF m pc Ls (.int j :: .ref a :: rest)) rfl rfl hd t k
theorem own_len {z : Int32} (X : Stand p l e R s m args below meth c T locs cells slots) (hx : p.tables.exec = Jvm.exec) (hZ : Z.Warmed39 s.vm) (eT : T.heap = h) (A : own_A Z h a ty n f) (hz : n.toInt32 = z) (hd : decode c.code pc = .ok (.arraylength, 1)) (t : State)
    (k : Steps p.tables e below (T.setTop (mkF m (pc + 1) Ls (.int z :: rest))) t) : Steps p.tables e below (T.setTop (mkF m pc Ls (.ref a :: rest))) t := by
  obtain ⟨cl, A1, r1, r2, r3, r4⟩ := A
  subst hz
  refine X.arraylength hx (by rw [eT]; exact A1.1) (State.isArrayOf_alike hZ.alike A1.2.1) (g := mkF m pc Ls (.ref a :: rest)) rfl rfl hd t ?_
  rw [r1]; exact k
theorem own_clone (X : Stand p l e R s m args below meth c T locs cells slots) (hx : p.tables.exec = Jvm.exec) (hZ : Z.Warmed39 s.vm) {a0 : Array Value} {own ad : String} {index : Nat} (hown : s.vm.findClass own = some m.cls)
    (w1 : (Cond.methodLink own index ⟨ad, "clone", "()Ljava/lang/Object;"⟩).before a0 Z = true) (w2 : (Cond.sameMethod ad "java/lang/Object" "clone" "()Ljava/lang/Object;").before a0 Z = true) (w3 : (Cond.native ⟨"java/lang/Object", "clone", "()Ljava/lang/Object;"⟩).before a0 Z = true)
    (w4 : (Cond.instanceMethod ⟨"java/lang/Object", "clone", "()Ljava/lang/Object;"⟩).before a0 Z = true) (w5 : (Cond.selects ad ⟨ad, "clone", "()Ljava/lang/Object;"⟩ ⟨"java/lang/Object", "clone", "()Ljava/lang/Object;"⟩).before a0 Z = true) (w6 : (Cond.castable ad "java/lang/Cloneable").before a0 Z = true)
    (eT : T.heap = h) (A : own_A Z h a ty n f) (E : Exa Z h a ad) (hsize : Ls.size = c.maxLocals) (hd : decode c.code pc = .ok (.invokevirtual index, 3))
    (hf : 1 ≤ R.frames) {W cap : Nat} (hW : 2 * 0 + (rest.map fun v => v.category).sum ≤ W) (hl : W + 14 ≤ R.locals) (hcap : n ≤ cap) (hc : cells + 1 ≤ R.cells) (hsl : slots + cap ≤ R.slots) :
    ∃ T' h', Stand p l e R s m args below meth c T' locs (cells + 1) (slots + cap) ∧ T'.heap = h' ∧ Ext h h' ∧ own_A Z h' h.size ty n f ∧ Exa Z h' h.size ad ∧
      ∀ t, Steps p.tables e below (T'.setTop (mkF m (pc + 3) Ls (.ref h.size :: rest))) t → Steps p.tables e below (T.setTop (mkF m pc Ls (.ref a :: rest))) t := by
  obtain ⟨cl, A1, r1, r2, r3, r4⟩ := A
  have FC : FitC Z cl := fitC_of A1 fun i hi v hv => by rw [r1] at hi; rw [r3 i hi] at hv; cases hv; exact r4 i hi
  obtain ⟨T', h', X', e', ex, A', E', st⟩ := cloneA X hx hZ hown w1 w2 w3 w4 w5 w6 eT A1 E FC (g := mkF m pc Ls (.ref a :: rest)) rfl hsize rfl hd hf hW hl (by rw [r1]; exact hcap) hc hsl
  exact ⟨T', h', X', e', ex, ⟨cloneOf cl, A', r1, r2, r3, r4⟩, E', st⟩
theorem own_selP {s : State} {args : Array Value} {y : MethodName} {n : Nat} (hin : (Cond.instantiable y.cls n).before args s = true) (hpriv : s.PrivateAt y) (hinst : (Cond.instanceMethod y).before args s = true) (hy : y.cls ≠ "java/lang/invoke/MethodHandle" ∧ y.cls ≠ "java/lang/invoke/VarHandle") : (Cond.selects y.cls y y).before args s = true := by
  obtain ⟨c, k, h1, h2, -, h4, -⟩ := Cond.instantiable_spec hin
  exact selects_self_of_private h1 h2 (Bool.or_eq_false_iff.mp h4).1 hpriv hinst hy
theorem own_ixa (h : own_ix j i) (k : Nat) (hi : i + k < 2 ^ 31) : own_ix (j + Int32.ofNat k) (i + k) := by
  obtain ⟨h1, h2⟩ := h
  have e0 : (0 : Int32).toInt = 0 := rfl
  have e1 : (Int32.ofNat k).toInt = k := Int32.toInt_ofNat_of_lt (by omega)
  rw [Int32.lt_iff_toInt_lt, e0] at h1
  simp only [Int32.toNatClampNeg] at h2
  have h3 := c_iadd j (Int32.ofNat k); have h4 := rng32 (j + Int32.ofNat k)
  rw [e1] at h3
  refine ⟨by rw [Int32.lt_iff_toInt_lt, e0]; omega, ?_⟩
  simp only [Int32.toNatClampNeg]; omega
theorem own_ixI (h : own_ix j i) : j.toInt = i := by
  obtain ⟨h1, h2⟩ := h
  have e0 : (0 : Int32).toInt = 0 := rfl
  rw [Int32.lt_iff_toInt_lt, e0] at h1
  simp only [Int32.toNatClampNeg] at h2; omega
theorem own_ixof (h : j.toInt = i) : own_ix j i := by
  have e0 : (0 : Int32).toInt = 0 := rfl
  refine ⟨by rw [Int32.lt_iff_toInt_lt, e0]; omega, ?_⟩
  simp only [Int32.toNatClampNeg]; omega
theorem own_ixs (h : ¬ j < 0) : own_ix j j.toNatClampNeg := ⟨h, rfl⟩
theorem own_and3 (x : Int32) (k : Nat) (hk : k < 2 ^ 31) : ¬ (x &&& Int32.ofNat k) < 0 ∧ (x &&& Int32.ofNat k).toNatClampNeg ≤ k := by
  have h0 : 0 ≤ (Int32.ofNat k).toInt := by rw [Int32.toInt_ofNat_of_lt hk]; omega
  have h1 := (c_andS x (Int32.ofNat k)).2.2 h0
  have e0 : (0 : Int32).toInt = 0 := rfl
  refine ⟨by rw [Int32.lt_iff_toInt_lt, e0]; omega, ?_⟩
  have hb : (x &&& Int32.ofNat k).toBitVec.toNat ≤ k := by
    have : (x &&& Int32.ofNat k).toBitVec.toNat = x.toBitVec.toNat &&& (Int32.ofNat k).toBitVec.toNat := by rw [Int32.toBitVec_and, BitVec.toNat_and]
    rw [this]
    refine Nat.le_trans Nat.and_le_right ?_
    show (BitVec.ofNat 32 k).toNat ≤ k
    rw [BitVec.toNat_ofNat]; exact Nat.mod_le _ _
  have e : (x &&& Int32.ofNat k).toInt = ((x &&& Int32.ofNat k).toBitVec.toNat : Int) := by
    show (x &&& Int32.ofNat k).toBitVec.toInt = _
    rw [BitVec.toInt_eq_toNat_cond]; split
    · rfl
    · omega
  simp only [Int32.toNatClampNeg, e]; omega
end Own

def own_min (x y : Int64) : Int64 := if y < x then y else x
def own_max (x y : Int64) : Int64 := if x < y then y else x
theorem own_mmI (x y : Int64) : (own_min x y).toInt = min x.toInt y.toInt ∧ (own_max x y).toInt = max x.toInt y.toInt := by
  unfold own_min own_max
  constructor <;> split <;> rename_i q <;> rw [Int64.lt_iff_toInt_lt] at q <;> omega
theorem own_mm {x y : Int64} (h : ¬ x = y) : own_min x y < own_max x y := by
  have h2 := own_neq64 h; have := own_mmI x y
  rw [Int64.lt_iff_toInt_lt]; omega
theorem own_mm' {x y : Int64} (h : ¬ own_min x y = own_max x y) : own_min x y < own_max x y := by
  have h2 := own_neq64 h; have := own_mmI x y
  rw [Int64.lt_iff_toInt_lt]; omega
theorem own_b1_d0 : decode jdk_29_method_70_code 0 = .ok (.lload_n 0, 1) := by decide +kernel
theorem own_b1_d1 : decode jdk_29_method_70_code 1 = .ok (.lload_n 2, 1) := by decide +kernel
theorem own_b1_d2 : decode jdk_29_method_70_code 2 = .ok (.lcmp, 1) := by decide +kernel
theorem own_b1_d3 : decode jdk_29_method_70_code 3 = .ok (.ifCond .gt 7, 3) := by decide +kernel
theorem own_b1_d6 : decode jdk_29_method_70_code 6 = .ok (.lload_n 0, 1) := by decide +kernel
theorem own_b1_d7 : decode jdk_29_method_70_code 7 = .ok (.goto 4, 3) := by decide +kernel
theorem own_b1_d10 : decode jdk_29_method_70_code 10 = .ok (.lload_n 2, 1) := by decide +kernel
theorem own_b1_d11 : decode jdk_29_method_70_code 11 = .ok (.lreturn, 1) := by decide +kernel
theorem own_ef_rm1 (m : MethodId) (x0 : Int64) (x1 : Int64) : entryFrame m #[(.long x0), (.long x1)] 4 = mkF m 0 #[.val (.long x0), .second, .val (.long x1), .second] [] := by first | (simp [entryFrame, mkF, argsToLocals, Value.category]; done) | rfl
def Q1 (Z : State) (x0 : Int64) (x1 : Int64) (h0 : Heap) (n0 : Nat) (v : Option Value) (h : Heap) (L : List Loc) : Prop := v = some (.long (own_min x0 x1)) ∧ Fr n0 L ∧ h = h0
set_option maxRecDepth 65536 in
set_option maxHeartbeats 40000000 in
theorem rm1 (l : Launch) (Z : State) (a0 : Array Value) (hw : ∀ d ∈ tables_1, d.before a0 Z = true) (ws : List Jvm.Cond) (x0 : Int64) (x1 : Int64) (h0 : Heap) (n0 : Nat) (Z0 : n0 ≤ h0.size) :
    MetFree l (⟨"java/lang/Math", "min", "(JJ)J"⟩ : MethodName) (head1 (Jvm.Cond.code (⟨"java/lang/Math", "min", "(JJ)J"⟩ : MethodName) jdk_29_method_70_code 4 (some .long) :: ws) ({ frames := 0, cells := 0, slots := 0, locals := 0 } : Room)) (fun aa_ U_ => aa_ = #[(.long x0), (.long x1)] ∧ Z.Warmed39 U_.vm ∧ U_.heap = h0) (fun _ _ _ _ _ => True) (fun _ U_ o_ U1_ => ∃ v_ L_, o_ = .returned v_ ∧ Q1 Z x0 x1 h0 n0 v_ U1_.heap L_ ∧ FrameEnd U_ o_ U1_ L_ ({ frames := 0, cells := 0, slots := 0, locals := 0 } : Room).cells ({ frames := 0, cells := 0, slots := 0, locals := 0 } : Room).slots) := by
  refine MetFree.of_bodySF (Jvm.Free.JP.mathPlain rfl (by decide +kernel)) hisR ?_
  intro p e s m args below meth c s₁ Bd hml0 hP hK
  obtain ⟨rfl, hZ, hh⟩ := hP
  have hx := Bd.exec
  have hby := Bd.bytes
  have hlk := Bd.notSynchronized
  have hml : c.maxLocals = 4 := hml0
  have hown : s.vm.findClass "java/lang/Math" = some m.cls := findClass_of_methodNamed Bd.named
  have hnm := (name_of_methodNamed Bd.named Bd.method).1
  have X0 : Stand p l e ({ frames := 0, cells := 0, slots := 0, locals := 0 } : Room) s m #[(.long x0), (.long x1)] below meth c s₁ [] 0 0 := Stand.of_body Bd
  have e0 : s₁.heap = h0 := by rw [← hh, Bd.state]; rfl
  have N0 := Fr.nil n0
  show own_E p e below s (Q1 Z x0 x1 h0 n0) ({ frames := 0, cells := 0, slots := 0, locals := 0 } : Room).cells ({ frames := 0, cells := 0, slots := 0, locals := 0 } : Room).slots (s₁.setTop (entryFrame m #[(.long x0), (.long x1)] 4))
  refine own_st (B := s₁.setTop (mkF m 0 #[.val (.long x0), .second, .val (.long x1), .second] [])) (fun t_ k_ => castTop (own_ef_rm1 m x0 x1) k_) ?_
  refine own_st (B := s₁.setTop (mkF m 1 #[.val (.long x0), .second, .val (.long x1), .second] [(.long x0)])) (fun t_ k_ => XS.lloadN X0.here hx rfl (hb hby own_b1_d0) rfl k_) ?_
  refine own_st (B := s₁.setTop (mkF m 2 #[.val (.long x0), .second, .val (.long x1), .second] [(.long x1), (.long x0)])) (fun t_ k_ => XS.lloadN X0.here hx rfl (hb hby own_b1_d1) rfl k_) ?_
  refine own_st (B := s₁.setTop (mkF m 3 #[.val (.long x0), .second, .val (.long x1), .second] [(.int (lcmpW x0 x1))])) (fun t_ k_ => XS.lcmp X0.here hx rfl (hb hby own_b1_d2) rfl k_) ?_
  by_cases hc1 : x1 < x0
  · have hd1 := own_lt64 hc1
    refine own_st (B := s₁.setTop (mkF m 10 #[.val (.long x0), .second, .val (.long x1), .second] [])) (fun t_ k_ => XS.ifYes X0.here hx rfl (pc0 := 3) (pc' := 10) rfl (hb hby own_b1_d3) rfl ((if0 _ _).trans (tlt ((lw_gt _ _).mpr hc1)).2.2.1) (by decide) (by decide) k_) ?_
    refine own_st (B := s₁.setTop (mkF m 11 #[.val (.long x0), .second, .val (.long x1), .second] [(.long x1)])) (fun t_ k_ => XS.lloadN X0.here hx rfl (hb hby own_b1_d10) rfl k_) ?_
    refine own_retJ X0 hx Bd.returns hlk (hb hby own_b1_d11) (by decide) (by decide) ?_
    show Q1 Z x0 x1 h0 n0 _ s₁.heap _
    rw [e0]
    exact ⟨by simp [own_min, hc1], N0, rfl⟩
  · have hd1 := own_nlt64 hc1
    refine own_st (B := s₁.setTop (mkF m 6 #[.val (.long x0), .second, .val (.long x1), .second] [])) (fun t_ k_ => XS.ifNo X0.here hx rfl (hb hby own_b1_d3) rfl ((if0 _ _).trans (flt (fun q => hc1 ((lw_gt _ _).mp q))).2.2.1) k_) ?_
    refine own_st (B := s₁.setTop (mkF m 7 #[.val (.long x0), .second, .val (.long x1), .second] [(.long x0)])) (fun t_ k_ => XS.lloadN X0.here hx rfl (hb hby own_b1_d6) rfl k_) ?_
    refine own_st (B := s₁.setTop (mkF m 11 #[.val (.long x0), .second, .val (.long x1), .second] [(.long x0)])) (fun t_ k_ => XS.goto X0.here hx rfl (pc0 := 7) (pc' := 11) rfl (hb hby own_b1_d7) (by decide) (by decide) k_) ?_
    refine own_retJ X0 hx Bd.returns hlk (hb hby own_b1_d11) (by decide) (by decide) ?_
    show Q1 Z x0 x1 h0 n0 _ s₁.heap _
    rw [e0]
    exact ⟨by simp [own_min, hc1], N0, rfl⟩
theorem own_b2_d0 : decode jdk_29_method_66_code 0 = .ok (.lload_n 0, 1) := by decide +kernel
theorem own_b2_d1 : decode jdk_29_method_66_code 1 = .ok (.lload_n 2, 1) := by decide +kernel
theorem own_b2_d2 : decode jdk_29_method_66_code 2 = .ok (.lcmp, 1) := by decide +kernel
theorem own_b2_d3 : decode jdk_29_method_66_code 3 = .ok (.ifCond .lt 7, 3) := by decide +kernel
theorem own_b2_d6 : decode jdk_29_method_66_code 6 = .ok (.lload_n 0, 1) := by decide +kernel
theorem own_b2_d7 : decode jdk_29_method_66_code 7 = .ok (.goto 4, 3) := by decide +kernel
theorem own_b2_d10 : decode jdk_29_method_66_code 10 = .ok (.lload_n 2, 1) := by decide +kernel
theorem own_b2_d11 : decode jdk_29_method_66_code 11 = .ok (.lreturn, 1) := by decide +kernel
theorem own_ef_rm2 (m : MethodId) (x0 : Int64) (x1 : Int64) : entryFrame m #[(.long x0), (.long x1)] 4 = mkF m 0 #[.val (.long x0), .second, .val (.long x1), .second] [] := by first | (simp [entryFrame, mkF, argsToLocals, Value.category]; done) | rfl
def Q2 (Z : State) (x0 : Int64) (x1 : Int64) (h0 : Heap) (n0 : Nat) (v : Option Value) (h : Heap) (L : List Loc) : Prop := v = some (.long (own_max x0 x1)) ∧ Fr n0 L ∧ h = h0
set_option maxRecDepth 65536 in
set_option maxHeartbeats 40000000 in
theorem rm2 (l : Launch) (Z : State) (a0 : Array Value) (hw : ∀ d ∈ tables_1, d.before a0 Z = true) (ws : List Jvm.Cond) (x0 : Int64) (x1 : Int64) (h0 : Heap) (n0 : Nat) (Z0 : n0 ≤ h0.size) :
    MetFree l (⟨"java/lang/Math", "max", "(JJ)J"⟩ : MethodName) (head1 (Jvm.Cond.code (⟨"java/lang/Math", "max", "(JJ)J"⟩ : MethodName) jdk_29_method_66_code 4 (some .long) :: ws) ({ frames := 0, cells := 0, slots := 0, locals := 0 } : Room)) (fun aa_ U_ => aa_ = #[(.long x0), (.long x1)] ∧ Z.Warmed39 U_.vm ∧ U_.heap = h0) (fun _ _ _ _ _ => True) (fun _ U_ o_ U1_ => ∃ v_ L_, o_ = .returned v_ ∧ Q2 Z x0 x1 h0 n0 v_ U1_.heap L_ ∧ FrameEnd U_ o_ U1_ L_ ({ frames := 0, cells := 0, slots := 0, locals := 0 } : Room).cells ({ frames := 0, cells := 0, slots := 0, locals := 0 } : Room).slots) := by
  refine MetFree.of_bodySF (Jvm.Free.JP.mathPlain rfl (by decide +kernel)) hisR ?_
  intro p e s m args below meth c s₁ Bd hml0 hP hK
  obtain ⟨rfl, hZ, hh⟩ := hP
  have hx := Bd.exec
  have hby := Bd.bytes
  have hlk := Bd.notSynchronized
  have hml : c.maxLocals = 4 := hml0
  have hown : s.vm.findClass "java/lang/Math" = some m.cls := findClass_of_methodNamed Bd.named
  have hnm := (name_of_methodNamed Bd.named Bd.method).1
  have X0 : Stand p l e ({ frames := 0, cells := 0, slots := 0, locals := 0 } : Room) s m #[(.long x0), (.long x1)] below meth c s₁ [] 0 0 := Stand.of_body Bd
  have e0 : s₁.heap = h0 := by rw [← hh, Bd.state]; rfl
  have N0 := Fr.nil n0
  show own_E p e below s (Q2 Z x0 x1 h0 n0) ({ frames := 0, cells := 0, slots := 0, locals := 0 } : Room).cells ({ frames := 0, cells := 0, slots := 0, locals := 0 } : Room).slots (s₁.setTop (entryFrame m #[(.long x0), (.long x1)] 4))
  refine own_st (B := s₁.setTop (mkF m 0 #[.val (.long x0), .second, .val (.long x1), .second] [])) (fun t_ k_ => castTop (own_ef_rm2 m x0 x1) k_) ?_
  refine own_st (B := s₁.setTop (mkF m 1 #[.val (.long x0), .second, .val (.long x1), .second] [(.long x0)])) (fun t_ k_ => XS.lloadN X0.here hx rfl (hb hby own_b2_d0) rfl k_) ?_
  refine own_st (B := s₁.setTop (mkF m 2 #[.val (.long x0), .second, .val (.long x1), .second] [(.long x1), (.long x0)])) (fun t_ k_ => XS.lloadN X0.here hx rfl (hb hby own_b2_d1) rfl k_) ?_
  refine own_st (B := s₁.setTop (mkF m 3 #[.val (.long x0), .second, .val (.long x1), .second] [(.int (lcmpW x0 x1))])) (fun t_ k_ => XS.lcmp X0.here hx rfl (hb hby own_b2_d2) rfl k_) ?_
  by_cases hc1 : x0 < x1
  · have hd1 := own_lt64 hc1
    refine own_st (B := s₁.setTop (mkF m 10 #[.val (.long x0), .second, .val (.long x1), .second] [])) (fun t_ k_ => XS.ifYes X0.here hx rfl (pc0 := 3) (pc' := 10) rfl (hb hby own_b2_d3) rfl ((if0 _ _).trans (tlt ((lw_lt _ _).mpr hc1)).1) (by decide) (by decide) k_) ?_
    refine own_st (B := s₁.setTop (mkF m 11 #[.val (.long x0), .second, .val (.long x1), .second] [(.long x1)])) (fun t_ k_ => XS.lloadN X0.here hx rfl (hb hby own_b2_d10) rfl k_) ?_
    refine own_retJ X0 hx Bd.returns hlk (hb hby own_b2_d11) (by decide) (by decide) ?_
    show Q2 Z x0 x1 h0 n0 _ s₁.heap _
    rw [e0]
    exact ⟨by simp [own_max, hc1], N0, rfl⟩
  · have hd1 := own_nlt64 hc1
    refine own_st (B := s₁.setTop (mkF m 6 #[.val (.long x0), .second, .val (.long x1), .second] [])) (fun t_ k_ => XS.ifNo X0.here hx rfl (hb hby own_b2_d3) rfl ((if0 _ _).trans (flt (fun q => hc1 ((lw_lt _ _).mp q))).1) k_) ?_
    refine own_st (B := s₁.setTop (mkF m 7 #[.val (.long x0), .second, .val (.long x1), .second] [(.long x0)])) (fun t_ k_ => XS.lloadN X0.here hx rfl (hb hby own_b2_d6) rfl k_) ?_
    refine own_st (B := s₁.setTop (mkF m 11 #[.val (.long x0), .second, .val (.long x1), .second] [(.long x0)])) (fun t_ k_ => XS.goto X0.here hx rfl (pc0 := 7) (pc' := 11) rfl (hb hby own_b2_d7) (by decide) (by decide) k_) ?_
    refine own_retJ X0 hx Bd.returns hlk (hb hby own_b2_d11) (by decide) (by decide) ?_
    show Q2 Z x0 x1 h0 n0 _ s₁.heap _
    rw [e0]
    exact ⟨by simp [own_max, hc1], N0, rfl⟩
theorem own_b4_d0 : decode jdk_30_method_1_code 0 = .ok (.aload_n 0, 1) := by decide +kernel
theorem own_b4_d1 : decode jdk_30_method_1_code 1 = .ok (.invokespecial 1, 3) := by decide +kernel
theorem own_b4_d4 : decode jdk_30_method_1_code 4 = .ok (.return_, 1) := by decide +kernel
theorem own_pn0 : plainName "java/lang/Record" = true := by first | (simp [plainName, overriddenIn]; done) | decide +kernel
theorem own_ef_rm4 (m : MethodId) (x0 : Addr) : entryFrame m #[(.ref x0)] 1 = mkF m 0 #[.val (.ref x0)] [] := by first | (simp [entryFrame, mkF, argsToLocals, Value.category]; done) | rfl
def Q4 (Z : State) (a : Addr) (h0 : Heap) (n0 : Nat) (v : Option Value) (h : Heap) (L : List Loc) : Prop := v = none ∧ Fr n0 L ∧ h = h0
set_option maxRecDepth 65536 in
set_option maxHeartbeats 40000000 in
theorem rm4 (l : Launch) (Z : State) (a0 : Array Value) (hw : ∀ d ∈ tables_1, d.before a0 Z = true) (ws : List Jvm.Cond) (a : Addr) (h0 : Heap) (n0 : Nat) (Z0 : n0 ≤ h0.size) :
    MetFree l (⟨"java/lang/Record", "<init>", "()V"⟩ : MethodName) (head1 (Jvm.Cond.code (⟨"java/lang/Record", "<init>", "()V"⟩ : MethodName) jdk_30_method_1_code 1 none :: ws) ({ frames := 1, cells := 0, slots := 0, locals := 12 } : Room)) (fun aa_ U_ => aa_ = #[(.ref a)] ∧ Z.Warmed39 U_.vm ∧ U_.heap = h0) (fun _ _ _ _ _ => True) (fun _ U_ o_ U1_ => ∃ v_ L_, o_ = .returned v_ ∧ Q4 Z a h0 n0 v_ U1_.heap L_ ∧ FrameEnd U_ o_ U1_ L_ ({ frames := 1, cells := 0, slots := 0, locals := 12 } : Room).cells ({ frames := 1, cells := 0, slots := 0, locals := 12 } : Room).slots) := by
  refine MetFree.of_bodySF (plainFor_of_name own_pn0) hisR ?_
  intro p e s m args below meth c s₁ Bd hml0 hP hK
  obtain ⟨rfl, hZ, hh⟩ := hP
  have hx := Bd.exec
  have hby := Bd.bytes
  have hlk := Bd.notSynchronized
  have hml : c.maxLocals = 1 := hml0
  have hown : s.vm.findClass "java/lang/Record" = some m.cls := findClass_of_methodNamed Bd.named
  have hnm := (name_of_methodNamed Bd.named Bd.method).1
  have X0 : Stand p l e ({ frames := 1, cells := 0, slots := 0, locals := 12 } : Room) s m #[(.ref a)] below meth c s₁ [] 0 0 := Stand.of_body Bd
  have e0 : s₁.heap = h0 := by rw [← hh, Bd.state]; rfl
  have N0 := Fr.nil n0
  show own_E p e below s (Q4 Z a h0 n0) ({ frames := 1, cells := 0, slots := 0, locals := 12 } : Room).cells ({ frames := 1, cells := 0, slots := 0, locals := 12 } : Room).slots (s₁.setTop (entryFrame m #[(.ref a)] 1))
  refine own_st (B := s₁.setTop (mkF m 0 #[.val (.ref a)] [])) (fun t_ k_ => castTop (own_ef_rm4 m a) k_) ?_
  refine own_st (B := s₁.setTop (mkF m 1 #[.val (.ref a)] [(.ref a)])) (fun t_ k_ => XS.aloadN X0.here hx rfl (hb hby own_b4_d0) rfl rfl k_) ?_
  obtain ⟨T1, X1, e1, st1⟩ := initO X0 hx hZ hown (hw _ (List.mem_of_getElem? (i := 18) rfl)) (hw _ (List.mem_of_getElem? (i := 19) rfl)) (hw _ (List.mem_of_getElem? (i := 20) rfl)) e0 (g := (mkF m 1 #[.val (.ref a)] [(.ref a)])) rfl (by rw [hml]; rfl) rfl (hb hby own_b4_d1) (by decide) (W := 0) (by show 2 * 0 + _ ≤ _; exact Nat.le_of_eq rfl) (by decide)
  refine own_st (B := T1.setTop (mkF m 4 #[.val (.ref a)] [])) st1 ?_
  refine own_retV X1 hx Bd.returns hlk (hb hby own_b4_d4) (by decide) (by decide) ?_
  show Q4 Z a h0 n0 _ T1.heap _
  rw [e1]
  exact ⟨rfl, N0, rfl⟩
theorem own_pd0 : parseMethodDescriptor "()V" = some ⟨[], none⟩ := by decide +kernel
theorem own_b3_d0 : decode prog_9_method_1_code 0 = .ok (.aload_n 0, 1) := by decide +kernel
theorem own_b3_d1 : decode prog_9_method_1_code 1 = .ok (.invokespecial 1, 3) := by decide +kernel
theorem own_b3_d4 : decode prog_9_method_1_code 4 = .ok (.lload_n 3, 1) := by decide +kernel
theorem own_b3_d5 : decode prog_9_method_1_code 5 = .ok (.lload_n 1, 1) := by decide +kernel
theorem own_b3_d6 : decode prog_9_method_1_code 6 = .ok (.lcmp, 1) := by decide +kernel
theorem own_b3_d7 : decode prog_9_method_1_code 7 = .ok (.ifCond .gt 21, 3) := by decide +kernel
theorem own_b3_d28 : decode prog_9_method_1_code 28 = .ok (.aload_n 0, 1) := by decide +kernel
theorem own_b3_d29 : decode prog_9_method_1_code 29 = .ok (.lload_n 1, 1) := by decide +kernel
theorem own_b3_d30 : decode prog_9_method_1_code 30 = .ok (.putfield 22, 3) := by decide +kernel
theorem own_b3_d33 : decode prog_9_method_1_code 33 = .ok (.aload_n 0, 1) := by decide +kernel
theorem own_b3_d34 : decode prog_9_method_1_code 34 = .ok (.lload_n 3, 1) := by decide +kernel
theorem own_b3_d35 : decode prog_9_method_1_code 35 = .ok (.putfield 26, 3) := by decide +kernel
theorem own_b3_d38 : decode prog_9_method_1_code 38 = .ok (.return_, 1) := by decide +kernel
theorem own_pn1 : plainName "com/example/briareus/briareus/model/Interval" = true := by first | (simp [plainName, overriddenIn]; done) | decide +kernel
theorem own_ef_rm3 (m : MethodId) (x0 : Addr) (x1 : Int64) (x2 : Int64) : entryFrame m #[(.ref x0), (.long x1), (.long x2)] 5 = mkF m 0 #[.val (.ref x0), .val (.long x1), .second, .val (.long x2), .second] [] := by first | (simp [entryFrame, mkF, argsToLocals, Value.category]; done) | rfl
def Q3 (Z : State) (a : Addr) (x0 : Int64) (x1 : Int64) (h0 : Heap) (n0 : Nat) (v : Option Value) (h : Heap) (L : List Loc) : Prop := v = none ∧ Fr n0 L ∧ Keep h0 h [a] ∧ Fld Z h a "com/example/briareus/briareus/model/Interval" "startMillis" "J" (.long x0) ∧ Fld Z h a "com/example/briareus/briareus/model/Interval" "endMillis" "J" (.long x1)
set_option maxRecDepth 65536 in
set_option maxHeartbeats 40000000 in
theorem rm3 (l : Launch) (Z : State) (a0 : Array Value) (hw : ∀ d ∈ tables_1, d.before a0 Z = true) (ws : List Jvm.Cond) (a : Addr) (x0 : Int64) (x1 : Int64) (h0 : Heap) (n0 : Nat) (Z0 : n0 ≤ h0.size) (E : Exa Z h0 a "com/example/briareus/briareus/model/Interval") (F0 : Fld Z h0 a "com/example/briareus/briareus/model/Interval" "startMillis" "J" (.long (0 : Int64))) (F1 : Fld Z h0 a "com/example/briareus/briareus/model/Interval" "endMillis" "J" (.long (0 : Int64))) (ga : n0 ≤ a) (hse : x0 < x1) :
    MetFree l (⟨"com/example/briareus/briareus/model/Interval", "<init>", "(JJ)V"⟩ : MethodName) (head1 (Jvm.Cond.code (⟨"com/example/briareus/briareus/model/Interval", "<init>", "(JJ)V"⟩ : MethodName) prog_9_method_1_code 5 none :: ws) ({ frames := 2, cells := 0, slots := 0, locals := 24 } : Room)) (fun aa_ U_ => aa_ = #[(.ref a), (.long x0), (.long x1)] ∧ Z.Warmed39 U_.vm ∧ U_.heap = h0) (fun _ _ _ _ _ => True) (fun _ U_ o_ U1_ => ∃ v_ L_, o_ = .returned v_ ∧ Q3 Z a x0 x1 h0 n0 v_ U1_.heap L_ ∧ FrameEnd U_ o_ U1_ L_ ({ frames := 2, cells := 0, slots := 0, locals := 24 } : Room).cells ({ frames := 2, cells := 0, slots := 0, locals := 24 } : Room).slots) := by
  refine MetFree.of_bodySF (plainFor_of_name own_pn1) hisR ?_
  intro p e s m args below meth c s₁ Bd hml0 hP hK
  obtain ⟨rfl, hZ, hh⟩ := hP
  have hx := Bd.exec
  have hby := Bd.bytes
  have hlk := Bd.notSynchronized
  have hml : c.maxLocals = 5 := hml0
  have hown : s.vm.findClass "com/example/briareus/briareus/model/Interval" = some m.cls := findClass_of_methodNamed Bd.named
  have hnm := (name_of_methodNamed Bd.named Bd.method).1
  have X0 : Stand p l e ({ frames := 2, cells := 0, slots := 0, locals := 24 } : Room) s m #[(.ref a), (.long x0), (.long x1)] below meth c s₁ [] 0 0 := Stand.of_body Bd
  have e0 : s₁.heap = h0 := by rw [← hh, Bd.state]; rfl
  have N0 := Fr.nil n0
  show own_E p e below s (Q3 Z a x0 x1 h0 n0) ({ frames := 2, cells := 0, slots := 0, locals := 24 } : Room).cells ({ frames := 2, cells := 0, slots := 0, locals := 24 } : Room).slots (s₁.setTop (entryFrame m #[(.ref a), (.long x0), (.long x1)] 5))
  refine own_st (B := s₁.setTop (mkF m 0 #[.val (.ref a), .val (.long x0), .second, .val (.long x1), .second] [])) (fun t_ k_ => castTop (own_ef_rm3 m a x0 x1) k_) ?_
  have K0 : Keep h0 h0 [a] := Keep.refl _ _
  refine own_st (B := s₁.setTop (mkF m 1 #[.val (.ref a), .val (.long x0), .second, .val (.long x1), .second] [(.ref a)])) (fun t_ k_ => XS.aloadN X0.here hx rfl (hb hby own_b3_d0) rfl rfl k_) ?_
  obtain ⟨_, _, ⟨T1, L1, k1, n1⟩, -, X1, ⟨Lc1, hQ1, l1, y1, z1⟩, st1⟩ := X0.specialBack hx (y := (⟨"java/lang/Record", "<init>", "()V"⟩ : MethodName)) rfl hown (mvT hZ (hw _ (List.mem_of_getElem? (i := 13) rfl))) (mvT hZ (hw _ (List.mem_of_getElem? (i := 14) rfl))) (mvT hZ (hw _ (List.mem_of_getElem? (i := 17) rfl))) (by decide) (backOf (W := 0) (rm4 l Z a0 hw [] a h0 n0 Z0 ) hZ (hw _ (List.mem_of_getElem? (i := 17) rfl)) (hw _ (List.mem_of_getElem? (i := 16) rfl)) (by decide) (by decide)) (g := (mkF m 1 #[.val (.ref a), .val (.long x0), .second, .val (.long x1), .second] [(.ref a)])) rfl (by rw [hml]; rfl) (Steps.refl _) (a := a) (argsL := []) (rest := []) (lenOf own_pd0 rfl) rfl (by show 2 * 0 + _ ≤ _; exact Nat.le_of_eq rfl) (hb hby own_b3_d1) (fun _ _ => ⟨rfl, e0, (by decide : 0 + 0 ≤ _), (by decide : 0 + 0 ≤ _)⟩)
  dsimp only [Pt.U, Pt.locs, Pt.cells, Pt.slots] at X1 l1 y1 z1 st1 hQ1
  subst l1 y1 z1
  obtain ⟨rfl, N1q, eh1⟩ := hQ1
  have N1 := Fr.app N0 N1q
  refine own_st (B := T1.setTop (mkF m 4 #[.val (.ref a), .val (.long x0), .second, .val (.long x1), .second] [])) (fun t_ k_ => st1.trans k_) ?_
  refine own_st (B := T1.setTop (mkF m 5 #[.val (.ref a), .val (.long x0), .second, .val (.long x1), .second] [(.long x1)])) (fun t_ k_ => XS.lloadN X1.here hx rfl (hb hby own_b3_d4) rfl k_) ?_
  refine own_st (B := T1.setTop (mkF m 6 #[.val (.ref a), .val (.long x0), .second, .val (.long x1), .second] [(.long x0), (.long x1)])) (fun t_ k_ => XS.lloadN X1.here hx rfl (hb hby own_b3_d5) rfl k_) ?_
  refine own_st (B := T1.setTop (mkF m 7 #[.val (.ref a), .val (.long x0), .second, .val (.long x1), .second] [(.int (lcmpW x1 x0))])) (fun t_ k_ => XS.lcmp X1.here hx rfl (hb hby own_b3_d6) rfl k_) ?_
  have hc2 : x0 < x1 := hse
  have hd2 := own_lt64 hc2
  refine own_st (B := T1.setTop (mkF m 28 #[.val (.ref a), .val (.long x0), .second, .val (.long x1), .second] [])) (fun t_ k_ => XS.ifYes X1.here hx rfl (pc0 := 7) (pc' := 28) rfl (hb hby own_b3_d7) rfl ((if0 _ _).trans (tlt ((lw_gt _ _).mpr hc2)).2.2.1) (by decide) (by decide) k_) ?_
  refine own_st (B := T1.setTop (mkF m 29 #[.val (.ref a), .val (.long x0), .second, .val (.long x1), .second] [(.ref a)])) (fun t_ k_ => XS.aloadN X1.here hx rfl (hb hby own_b3_d28) rfl rfl k_) ?_
  refine own_st (B := T1.setTop (mkF m 30 #[.val (.ref a), .val (.long x0), .second, .val (.long x1), .second] [(.long x0), (.ref a)])) (fun t_ k_ => XS.lloadN X1.here hx rfl (hb hby own_b3_d29) rfl k_) ?_
  obtain ⟨T3, h3, X3, e3, W3, st3⟩ := putF X1 hx hZ hown (host := "") (Or.inl (hw _ (List.mem_of_getElem? (i := 21) rfl))) Via.refl eh1 F0 E (Or.inr ⟨(hw _ (List.mem_of_getElem? (i := 22) rfl)), rfl, hnm⟩) (hw _ (List.mem_of_getElem? (i := 8) rfl)) (ty := .long) (by decide) rfl rfl (g := (mkF m 30 #[.val (.ref a), .val (.long x0), .second, .val (.long x1), .second] [(.long x0), (.ref a)])) rfl rfl (hb hby own_b3_d30)
  have Fw3 := F0.same W3
  have N3 := Fr.snoc X3 N1 ga
  have Z4 := Nat.le_trans Z0 (Keep.of_wr W3).1
  have K5 := K0.wr W3 (Or.inl (List.mem_of_getElem? (i := 0) rfl))
  refine own_st (B := T3.setTop (mkF m 33 #[.val (.ref a), .val (.long x0), .second, .val (.long x1), .second] [])) st3 ?_
  refine own_st (B := T3.setTop (mkF m 34 #[.val (.ref a), .val (.long x0), .second, .val (.long x1), .second] [(.ref a)])) (fun t_ k_ => XS.aloadN X3.here hx rfl (hb hby own_b3_d33) rfl rfl k_) ?_
  refine own_st (B := T3.setTop (mkF m 35 #[.val (.ref a), .val (.long x0), .second, .val (.long x1), .second] [(.long x1), (.ref a)])) (fun t_ k_ => XS.lloadN X3.here hx rfl (hb hby own_b3_d34) rfl k_) ?_
  have u6 := E.wr W3
  have u7 := F1.other W3 (Or.inr (slot_ne (Or.inr (hw _ (List.mem_of_getElem? (i := 24) rfl))) (Or.inr (hw _ (List.mem_of_getElem? (i := 22) rfl))) (by decide) (t := .long) (t' := .long) (by decide) (by decide)))
  obtain ⟨T8, h8, X8, e8, W8, st8⟩ := putF X3 hx hZ hown (host := "") (Or.inl (hw _ (List.mem_of_getElem? (i := 23) rfl))) Via.refl e3 u7 u6 (Or.inr ⟨(hw _ (List.mem_of_getElem? (i := 24) rfl)), rfl, hnm⟩) (hw _ (List.mem_of_getElem? (i := 8) rfl)) (ty := .long) (by decide) rfl rfl (g := (mkF m 35 #[.val (.ref a), .val (.long x0), .second, .val (.long x1), .second] [(.long x1), (.ref a)])) rfl rfl (hb hby own_b3_d35)
  have Fw8 := u7.same W8
  have N8 := Fr.snoc X8 N3 ga
  have Z9 := Nat.le_trans Z4 (Keep.of_wr W8).1
  have K10 := K5.wr W8 (Or.inl (List.mem_of_getElem? (i := 0) rfl))
  refine own_st (B := T8.setTop (mkF m 38 #[.val (.ref a), .val (.long x0), .second, .val (.long x1), .second] [])) st8 ?_
  refine own_retV X8 hx Bd.returns hlk (hb hby own_b3_d38) (by decide) (by decide) ?_
  show Q3 Z a x0 x1 h0 n0 _ T8.heap _
  rw [e8]
  have u11 := Fw3.other W8 (Or.inr (slot_ne (Or.inr (hw _ (List.mem_of_getElem? (i := 22) rfl))) (Or.inr (hw _ (List.mem_of_getElem? (i := 24) rfl))) (by decide) (t := .long) (t' := .long) (by decide) (by decide)))
  exact ⟨rfl, N8, K10, u11, Fw8⟩
def own_con (x0 x1 x2 : Int64) : Bool := decide (x0.toInt ≤ x2.toInt ∧ x2.toInt < x1.toInt)
theorem own_b6_d0 : decode prog_9_method_3_code 0 = .ok (.aload_n 0, 1) := by decide +kernel
theorem own_b6_d1 : decode prog_9_method_3_code 1 = .ok (.getfield 22, 3) := by decide +kernel
theorem own_b6_d4 : decode prog_9_method_3_code 4 = .ok (.lload_n 1, 1) := by decide +kernel
theorem own_b6_d5 : decode prog_9_method_3_code 5 = .ok (.lcmp, 1) := by decide +kernel
theorem own_b6_d6 : decode prog_9_method_3_code 6 = .ok (.ifCond .gt 16, 3) := by decide +kernel
theorem own_b6_d9 : decode prog_9_method_3_code 9 = .ok (.lload_n 1, 1) := by decide +kernel
theorem own_b6_d10 : decode prog_9_method_3_code 10 = .ok (.aload_n 0, 1) := by decide +kernel
theorem own_b6_d11 : decode prog_9_method_3_code 11 = .ok (.getfield 26, 3) := by decide +kernel
theorem own_b6_d14 : decode prog_9_method_3_code 14 = .ok (.lcmp, 1) := by decide +kernel
theorem own_b6_d15 : decode prog_9_method_3_code 15 = .ok (.ifCond .ge 7, 3) := by decide +kernel
theorem own_b6_d18 : decode prog_9_method_3_code 18 = .ok (.iconst 1, 1) := by decide +kernel
theorem own_b6_d19 : decode prog_9_method_3_code 19 = .ok (.goto 4, 3) := by decide +kernel
theorem own_b6_d22 : decode prog_9_method_3_code 22 = .ok (.iconst 0, 1) := by decide +kernel
theorem own_b6_d23 : decode prog_9_method_3_code 23 = .ok (.ireturn, 1) := by decide +kernel
theorem own_ef_rm6 (m : MethodId) (x0 : Addr) (x1 : Int64) : entryFrame m #[(.ref x0), (.long x1)] 3 = mkF m 0 #[.val (.ref x0), .val (.long x1), .second] [] := by first | (simp [entryFrame, mkF, argsToLocals, Value.category]; done) | rfl
def Q6 (Z : State) (a : Addr) (x0 : Int64) (x1 : Int64) (x2 : Int64) (h0 : Heap) (n0 : Nat) (v : Option Value) (h : Heap) (L : List Loc) : Prop := v = some (.int (own_b (own_con x0 x1 x2))) ∧ Fr n0 L ∧ h = h0
set_option maxRecDepth 65536 in
set_option maxHeartbeats 40000000 in
theorem rm6 (l : Launch) (Z : State) (a0 : Array Value) (hw : ∀ d ∈ tables_1, d.before a0 Z = true) (ws : List Jvm.Cond) (a : Addr) (x0 : Int64) (x1 : Int64) (x2 : Int64) (h0 : Heap) (n0 : Nat) (Z0 : n0 ≤ h0.size) (F0 : Fld Z h0 a "com/example/briareus/briareus/model/Interval" "startMillis" "J" (.long x0)) (F1 : Fld Z h0 a "com/example/briareus/briareus/model/Interval" "endMillis" "J" (.long x1)) :
    MetFree l (⟨"com/example/briareus/briareus/model/Interval", "contains", "(J)Z"⟩ : MethodName) (head1 (Jvm.Cond.code (⟨"com/example/briareus/briareus/model/Interval", "contains", "(J)Z"⟩ : MethodName) prog_9_method_3_code 3 (some .boolean) :: ws) ({ frames := 0, cells := 0, slots := 0, locals := 0 } : Room)) (fun aa_ U_ => aa_ = #[(.ref a), (.long x2)] ∧ Z.Warmed39 U_.vm ∧ U_.heap = h0) (fun _ _ _ _ _ => True) (fun _ U_ o_ U1_ => ∃ v_ L_, o_ = .returned v_ ∧ Q6 Z a x0 x1 x2 h0 n0 v_ U1_.heap L_ ∧ FrameEnd U_ o_ U1_ L_ ({ frames := 0, cells := 0, slots := 0, locals := 0 } : Room).cells ({ frames := 0, cells := 0, slots := 0, locals := 0 } : Room).slots) := by
  refine MetFree.of_bodySF (plainFor_of_name own_pn1) hisR ?_
  intro p e s m args below meth c s₁ Bd hml0 hP hK
  obtain ⟨rfl, hZ, hh⟩ := hP
  have hx := Bd.exec
  have hby := Bd.bytes
  have hlk := Bd.notSynchronized
  have hml : c.maxLocals = 3 := hml0
  have hown : s.vm.findClass "com/example/briareus/briareus/model/Interval" = some m.cls := findClass_of_methodNamed Bd.named
  have hnm := (name_of_methodNamed Bd.named Bd.method).1
  have X0 : Stand p l e ({ frames := 0, cells := 0, slots := 0, locals := 0 } : Room) s m #[(.ref a), (.long x2)] below meth c s₁ [] 0 0 := Stand.of_body Bd
  have e0 : s₁.heap = h0 := by rw [← hh, Bd.state]; rfl
  have N0 := Fr.nil n0
  show own_E p e below s (Q6 Z a x0 x1 x2 h0 n0) ({ frames := 0, cells := 0, slots := 0, locals := 0 } : Room).cells ({ frames := 0, cells := 0, slots := 0, locals := 0 } : Room).slots (s₁.setTop (entryFrame m #[(.ref a), (.long x2)] 3))
  refine own_st (B := s₁.setTop (mkF m 0 #[.val (.ref a), .val (.long x2), .second] [])) (fun t_ k_ => castTop (own_ef_rm6 m a x2) k_) ?_
  refine own_st (B := s₁.setTop (mkF m 1 #[.val (.ref a), .val (.long x2), .second] [(.ref a)])) (fun t_ k_ => XS.aloadN X0.here hx rfl (hb hby own_b6_d0) rfl rfl k_) ?_
  obtain ⟨T1, X1, e1, st1⟩ := getF X0 hx hZ hown (host := "") (Or.inl (hw _ (List.mem_of_getElem? (i := 21) rfl))) Via.refl e0 F0 (g := (mkF m 1 #[.val (.ref a), .val (.long x2), .second] [(.ref a)])) rfl rfl (hb hby own_b6_d1)
  refine own_st (B := T1.setTop (mkF m 4 #[.val (.ref a), .val (.long x2), .second] [(.long x0)])) st1 ?_
  refine own_st (B := T1.setTop (mkF m 5 #[.val (.ref a), .val (.long x2), .second] [(.long x2), (.long x0)])) (fun t_ k_ => XS.lloadN X1.here hx rfl (hb hby own_b6_d4) rfl k_) ?_
  refine own_st (B := T1.setTop (mkF m 6 #[.val (.ref a), .val (.long x2), .second] [(.int (lcmpW x0 x2))])) (fun t_ k_ => XS.lcmp X1.here hx rfl (hb hby own_b6_d5) rfl k_) ?_
  by_cases hc2 : x2 < x0
  · have hd2 := own_lt64 hc2
    refine own_st (B := T1.setTop (mkF m 22 #[.val (.ref a), .val (.long x2), .second] [])) (fun t_ k_ => XS.ifYes X1.here hx rfl (pc0 := 6) (pc' := 22) rfl (hb hby own_b6_d6) rfl ((if0 _ _).trans (tlt ((lw_gt _ _).mpr hc2)).2.2.1) (by decide) (by decide) k_) ?_
    refine own_st (B := T1.setTop (mkF m 23 #[.val (.ref a), .val (.long x2), .second] [(.int (0 : Int32))])) (fun t_ k_ => XS.iconst X1.here hx rfl (hb hby own_b6_d22) k_) ?_
    refine own_retN X1 hx (t := .boolean) Bd.returns (by simp) hlk (hb hby own_b6_d23) (z' := (0 : Int32)) (by first | rfl | exact own_nb _ | exact own_nbb _) (by decide) (by decide) ?_
    show Q6 Z a x0 x1 x2 h0 n0 _ T1.heap _
    rw [e1]
    exact ⟨by rw [own_con, own_bz]; omega, N0, rfl⟩
  · have hd2 := own_nlt64 hc2
    refine own_st (B := T1.setTop (mkF m 9 #[.val (.ref a), .val (.long x2), .second] [])) (fun t_ k_ => XS.ifNo X1.here hx rfl (hb hby own_b6_d6) rfl ((if0 _ _).trans (flt (fun q => hc2 ((lw_gt _ _).mp q))).2.2.1) k_) ?_
    refine own_st (B := T1.setTop (mkF m 10 #[.val (.ref a), .val (.long x2), .second] [(.long x2)])) (fun t_ k_ => XS.lloadN X1.here hx rfl (hb hby own_b6_d9) rfl k_) ?_
    refine own_st (B := T1.setTop (mkF m 11 #[.val (.ref a), .val (.long x2), .second] [(.ref a), (.long x2)])) (fun t_ k_ => XS.aloadN X1.here hx rfl (hb hby own_b6_d10) rfl rfl k_) ?_
    obtain ⟨T3, X3, e3, st3⟩ := getF X1 hx hZ hown (host := "") (Or.inl (hw _ (List.mem_of_getElem? (i := 23) rfl))) Via.refl e1 F1 (g := (mkF m 11 #[.val (.ref a), .val (.long x2), .second] [(.ref a), (.long x2)])) rfl rfl (hb hby own_b6_d11)
    refine own_st (B := T3.setTop (mkF m 14 #[.val (.ref a), .val (.long x2), .second] [(.long x1), (.long x2)])) st3 ?_
    refine own_st (B := T3.setTop (mkF m 15 #[.val (.ref a), .val (.long x2), .second] [(.int (lcmpW x2 x1))])) (fun t_ k_ => XS.lcmp X3.here hx rfl (hb hby own_b6_d14) rfl k_) ?_
    by_cases hc4 : x2 < x1
    · have hd4 := own_lt64 hc4
      refine own_st (B := T3.setTop (mkF m 18 #[.val (.ref a), .val (.long x2), .second] [])) (fun t_ k_ => XS.ifNo X3.here hx rfl (hb hby own_b6_d15) rfl ((if0 _ _).trans (tlt ((lw_lt _ _).mpr hc4)).2.1) k_) ?_
      refine own_st (B := T3.setTop (mkF m 19 #[.val (.ref a), .val (.long x2), .second] [(.int (1 : Int32))])) (fun t_ k_ => XS.iconst X3.here hx rfl (hb hby own_b6_d18) k_) ?_
      refine own_st (B := T3.setTop (mkF m 23 #[.val (.ref a), .val (.long x2), .second] [(.int (1 : Int32))])) (fun t_ k_ => XS.goto X3.here hx rfl (pc0 := 19) (pc' := 23) rfl (hb hby own_b6_d19) (by decide) (by decide) k_) ?_
      refine own_retN X3 hx (t := .boolean) Bd.returns (by simp) hlk (hb hby own_b6_d23) (z' := (1 : Int32)) (by first | rfl | exact own_nb _ | exact own_nbb _) (by decide) (by decide) ?_
      show Q6 Z a x0 x1 x2 h0 n0 _ T3.heap _
      rw [e3]
      exact ⟨by rw [own_con, own_b1]; omega, N0, rfl⟩
    · have hd4 := own_nlt64 hc4
      refine own_st (B := T3.setTop (mkF m 22 #[.val (.ref a), .val (.long x2), .second] [])) (fun t_ k_ => XS.ifYes X3.here hx rfl (pc0 := 15) (pc' := 22) rfl (hb hby own_b6_d15) rfl ((if0 _ _).trans (flt (fun q => hc4 ((lw_lt _ _).mp q))).2.1) (by decide) (by decide) k_) ?_
      refine own_st (B := T3.setTop (mkF m 23 #[.val (.ref a), .val (.long x2), .second] [(.int (0 : Int32))])) (fun t_ k_ => XS.iconst X3.here hx rfl (hb hby own_b6_d22) k_) ?_
      refine own_retN X3 hx (t := .boolean) Bd.returns (by simp) hlk (hb hby own_b6_d23) (z' := (0 : Int32)) (by first | rfl | exact own_nb _ | exact own_nbb _) (by decide) (by decide) ?_
      show Q6 Z a x0 x1 x2 h0 n0 _ T3.heap _
      rw [e3]
      exact ⟨by rw [own_con, own_bz]; omega, N0, rfl⟩
theorem own_pd1 : parseMethodDescriptor "(JJ)J" = some ⟨[.long, .long], some .long⟩ := by decide +kernel
theorem own_pd2 : parseMethodDescriptor "(JJ)V" = some ⟨[.long, .long], none⟩ := by decide +kernel
theorem own_pd3 : parseMethodDescriptor "(J)Z" = some ⟨[.long], some .boolean⟩ := by decide +kernel
theorem own_pn2 : plainName "com/example/briareus/briareus/model/IntervalContainsPinLaw" = true := by first | (simp [plainName, overriddenIn]; done) | decide +kernel
theorem own_ef_rm0 (m : MethodId) (x0 : Int64) (x1 : Int64) (x2 : Int64) (x3 : Int32) : entryFrame m #[(.long x0), (.long x1), (.long x2), (.int x3)] maxLocals = mkF m 0 #[.val (.long x0), .second, .val (.long x1), .second, .val (.long x2), .second, .val (.int x3), .unset, .unset, .unset, .unset, .unset, .unset, .unset, .unset, .unset, .unset, .unset] [] := by first | (simp [entryFrame, mkF, argsToLocals, Value.category, maxLocals]; done) | rfl
def Q0 (Z : State) (u0 : Int64) (u1 : Int64) (u2 : Int64) (u3 : Int32) (h0 : Heap) (n0 : Nat) (v : Option Value) (h : Heap) (L : List Loc) : Prop := v = some (.int 1) ∧ Fr n0 L
set_option maxRecDepth 65536 in
set_option maxHeartbeats 40000000 in
theorem rm0 (l : Launch) (Z : State) (a0 : Array Value) (hw : ∀ d ∈ tables_1, d.before a0 Z = true) (ws : List Jvm.Cond) (u0 : Int64) (u1 : Int64) (u2 : Int64) (u3 : Int32) (h0 : Heap) (n0 : Nat) (Z0 : n0 ≤ h0.size) :
    MetFree l x (head1 (Jvm.Cond.code x code maxLocals ret :: ws) room_1) (fun aa_ U_ => aa_ = #[(.long u0), (.long u1), (.long u2), (.int u3)] ∧ Z.Warmed39 U_.vm ∧ U_.heap = h0) (fun _ _ _ _ _ => True) (fun _ U_ o_ U1_ => ∃ v_ L_, o_ = .returned v_ ∧ Q0 Z u0 u1 u2 u3 h0 n0 v_ U1_.heap L_ ∧ FrameEnd U_ o_ U1_ L_ 1 2) := by
  refine MetFree.of_bodySF (plainFor_of_name own_pn2) hisR ?_
  intro p e s m args below meth c s₁ Bd hml0 hP hK
  obtain ⟨rfl, hZ, hh⟩ := hP
  have hx := Bd.exec
  have hby := Bd.bytes
  have hlk := Bd.notSynchronized
  have hml : c.maxLocals = 18 := hml0
  have hown : s.vm.findClass "com/example/briareus/briareus/model/IntervalContainsPinLaw" = some m.cls := findClass_of_methodNamed Bd.named
  have hnm := (name_of_methodNamed Bd.named Bd.method).1
  have X0 : Stand p l e room_1 s m #[(.long u0), (.long u1), (.long u2), (.int u3)] below meth c s₁ [] 0 0 := Stand.of_body Bd
  have e0 : s₁.heap = h0 := by rw [← hh, Bd.state]; rfl
  have N0 := Fr.nil n0
  show own_E p e below s (Q0 Z u0 u1 u2 u3 h0 n0) 1 2 (s₁.setTop (entryFrame m #[(.long u0), (.long u1), (.long u2), (.int u3)] maxLocals))
  refine own_st (B := s₁.setTop (mkF m 0 #[.val (.long u0), .second, .val (.long u1), .second, .val (.long u2), .second, .val (.int u3), .unset, .unset, .unset, .unset, .unset, .unset, .unset, .unset, .unset, .unset, .unset] [])) (fun t_ k_ => castTop (own_ef_rm0 m u0 u1 u2 u3) k_) ?_
  refine own_st (B := s₁.setTop (mkF m 1 #[.val (.long u0), .second, .val (.long u1), .second, .val (.long u2), .second, .val (.int u3), .unset, .unset, .unset, .unset, .unset, .unset, .unset, .unset, .unset, .unset, .unset] [(.long u0)])) (fun t_ k_ => XS.lloadN X0.here hx rfl (hb hby at_0) rfl k_) ?_
  refine own_st (B := s₁.setTop (mkF m 2 #[.val (.long u0), .second, .val (.long u1), .second, .val (.long u2), .second, .val (.int u3), .unset, .unset, .unset, .unset, .unset, .unset, .unset, .unset, .unset, .unset, .unset] [(.long u1), (.long u0)])) (fun t_ k_ => XS.lloadN X0.here hx rfl (hb hby at_1) rfl k_) ?_
  refine own_st (B := s₁.setTop (mkF m 3 #[.val (.long u0), .second, .val (.long u1), .second, .val (.long u2), .second, .val (.int u3), .unset, .unset, .unset, .unset, .unset, .unset, .unset, .unset, .unset, .unset, .unset] [(.int (lcmpW u0 u1))])) (fun t_ k_ => XS.lcmp X0.here hx rfl (hb hby at_2) rfl k_) ?_
  by_cases hc1 : u0 = u1
  · have hd1 := own_eq64 hc1
    refine own_st (B := s₁.setTop (mkF m 6 #[.val (.long u0), .second, .val (.long u1), .second, .val (.long u2), .second, .val (.int u3), .unset, .unset, .unset, .unset, .unset, .unset, .unset, .unset, .unset, .unset, .unset] [])) (fun t_ k_ => XS.ifNo X0.here hx rfl (hb hby at_3) rfl ((if0 _ _).trans (teq ((lw_eq _ _).mpr hc1)).2) k_) ?_
    refine own_st (B := s₁.setTop (mkF m 7 #[.val (.long u0), .second, .val (.long u1), .second, .val (.long u2), .second, .val (.int u3), .unset, .unset, .unset, .unset, .unset, .unset, .unset, .unset, .unset, .unset, .unset] [(.int (1 : Int32))])) (fun t_ k_ => XS.iconst X0.here hx rfl (hb hby at_6) k_) ?_
    refine own_retN X0 hx (t := .boolean) Bd.returns (by simp) hlk (hb hby at_7) (z' := (1 : Int32)) (by first | rfl | exact own_nb _ | exact own_nbb _) (by decide) (by decide) ?_
    show Q0 Z u0 u1 u2 u3 h0 n0 _ s₁.heap _
    rw [e0]
    exact ⟨rfl, N0⟩
  · have hd1 := own_neq64 hc1
    refine own_st (B := s₁.setTop (mkF m 8 #[.val (.long u0), .second, .val (.long u1), .second, .val (.long u2), .second, .val (.int u3), .unset, .unset, .unset, .unset, .unset, .unset, .unset, .unset, .unset, .unset, .unset] [])) (fun t_ k_ => XS.ifYes X0.here hx rfl (pc0 := 3) (pc' := 8) rfl (hb hby at_3) rfl ((if0 _ _).trans (feq (fun q => hc1 ((lw_eq _ _).mp q))).2) (by decide) (by decide) k_) ?_
    refine own_st (B := s₁.setTop (mkF m 9 #[.val (.long u0), .second, .val (.long u1), .second, .val (.long u2), .second, .val (.int u3), .unset, .unset, .unset, .unset, .unset, .unset, .unset, .unset, .unset, .unset, .unset] [(.long u0)])) (fun t_ k_ => XS.lloadN X0.here hx rfl (hb hby at_8) rfl k_) ?_
    refine own_st (B := s₁.setTop (mkF m 10 #[.val (.long u0), .second, .val (.long u1), .second, .val (.long u2), .second, .val (.int u3), .unset, .unset, .unset, .unset, .unset, .unset, .unset, .unset, .unset, .unset, .unset] [(.long u1), (.long u0)])) (fun t_ k_ => XS.lloadN X0.here hx rfl (hb hby at_9) rfl k_) ?_
    obtain ⟨_, _, ⟨T2, L2, k2, n2⟩, -, X2, ⟨Lc2, hQ2, l2, y2, z2⟩, st2⟩ := Jvm.LawKit.callS X0 hx (y := (⟨"java/lang/Math", "min", "(JJ)J"⟩ : MethodName)) hown (mvT hZ (hw _ (List.mem_of_getElem? (i := 0) rfl))) (mvT hZ (hw _ (List.mem_of_getElem? (i := 1) rfl))) (mvT hZ (hw _ (List.mem_of_getElem? (i := 2) rfl))) (mvT hZ (hw _ (List.mem_of_getElem? (i := 3) rfl))) (by decide) (backOf (W := 0) (rm1 l Z a0 hw [] u0 u1 h0 n0 Z0 ) hZ (hw _ (List.mem_of_getElem? (i := 3) rfl)) (hw _ (List.mem_of_getElem? (i := 2) rfl)) (by decide) (by decide)) (g := (mkF m 10 #[.val (.long u0), .second, .val (.long u1), .second, .val (.long u2), .second, .val (.int u3), .unset, .unset, .unset, .unset, .unset, .unset, .unset, .unset, .unset, .unset, .unset] [(.long u1), (.long u0)])) rfl (by rw [hml]; rfl) (argsL := [(.long u0), (.long u1)]) (rest := []) (lenOf own_pd1 rfl) rfl (by show 2 * 0 + _ ≤ _; exact Nat.le_of_eq rfl) (hb hby at_10) (fun _ _ => ⟨rfl, e0, (by decide : 0 + 0 ≤ _), (by decide : 0 + 0 ≤ _)⟩)
    dsimp only [Pt.U, Pt.locs, Pt.cells, Pt.slots] at X2 l2 y2 z2 st2 hQ2
    subst l2 y2 z2
    obtain ⟨rfl, N2q, eh2⟩ := hQ2
    have N2 := Fr.app N0 N2q
    refine own_st (B := T2.setTop (mkF m 13 #[.val (.long u0), .second, .val (.long u1), .second, .val (.long u2), .second, .val (.int u3), .unset, .unset, .unset, .unset, .unset, .unset, .unset, .unset, .unset, .unset, .unset] [(.long (own_min u0 u1))])) st2 ?_
    refine own_st (B := T2.setTop (mkF m 15 #[.val (.long u0), .second, .val (.long u1), .second, .val (.long u2), .second, .val (.int u3), .val (.long (own_min u0 u1)), .second, .unset, .unset, .unset, .unset, .unset, .unset, .unset, .unset, .unset] [])) (fun t_ k_ => XS.lstore X2.here hx rfl (hb hby at_13) rfl (l' := #[.val (.long u0), .second, .val (.long u1), .second, .val (.long u2), .second, .val (.int u3), .val (.long (own_min u0 u1)), .second, .unset, .unset, .unset, .unset, .unset, .unset, .unset, .unset, .unset]) rfl k_) ?_
    refine own_st (B := T2.setTop (mkF m 16 #[.val (.long u0), .second, .val (.long u1), .second, .val (.long u2), .second, .val (.int u3), .val (.long (own_min u0 u1)), .second, .unset, .unset, .unset, .unset, .unset, .unset, .unset, .unset, .unset] [(.long u0)])) (fun t_ k_ => XS.lloadN X2.here hx rfl (hb hby at_15) rfl k_) ?_
    refine own_st (B := T2.setTop (mkF m 17 #[.val (.long u0), .second, .val (.long u1), .second, .val (.long u2), .second, .val (.int u3), .val (.long (own_min u0 u1)), .second, .unset, .unset, .unset, .unset, .unset, .unset, .unset, .unset, .unset] [(.long u1), (.long u0)])) (fun t_ k_ => XS.lloadN X2.here hx rfl (hb hby at_16) rfl k_) ?_
    obtain ⟨_, _, ⟨T3, L3, k3, n3⟩, -, X3, ⟨Lc3, hQ3, l3, y3, z3⟩, st3⟩ := Jvm.LawKit.callS X2 hx (y := (⟨"java/lang/Math", "max", "(JJ)J"⟩ : MethodName)) hown (mvT hZ (hw _ (List.mem_of_getElem? (i := 4) rfl))) (mvT hZ (hw _ (List.mem_of_getElem? (i := 5) rfl))) (mvT hZ (hw _ (List.mem_of_getElem? (i := 2) rfl))) (mvT hZ (hw _ (List.mem_of_getElem? (i := 6) rfl))) (by decide) (backOf (W := 0) (rm2 l Z a0 hw [] u0 u1 h0 n0 Z0 ) hZ (hw _ (List.mem_of_getElem? (i := 6) rfl)) (hw _ (List.mem_of_getElem? (i := 2) rfl)) (by decide) (by decide)) (g := (mkF m 17 #[.val (.long u0), .second, .val (.long u1), .second, .val (.long u2), .second, .val (.int u3), .val (.long (own_min u0 u1)), .second, .unset, .unset, .unset, .unset, .unset, .unset, .unset, .unset, .unset] [(.long u1), (.long u0)])) rfl (by rw [hml]; rfl) (argsL := [(.long u0), (.long u1)]) (rest := []) (lenOf own_pd1 rfl) rfl (by show 2 * 0 + _ ≤ _; exact Nat.le_of_eq rfl) (hb hby at_17) (fun _ _ => ⟨rfl, eh2, (by decide : 0 + 0 ≤ _), (by decide : 0 + 0 ≤ _)⟩)
    dsimp only [Pt.U, Pt.locs, Pt.cells, Pt.slots] at X3 l3 y3 z3 st3 hQ3
    subst l3 y3 z3
    obtain ⟨rfl, N3q, eh3⟩ := hQ3
    have N3 := Fr.app N2 N3q
    refine own_st (B := T3.setTop (mkF m 20 #[.val (.long u0), .second, .val (.long u1), .second, .val (.long u2), .second, .val (.int u3), .val (.long (own_min u0 u1)), .second, .unset, .unset, .unset, .unset, .unset, .unset, .unset, .unset, .unset] [(.long (own_max u0 u1))])) st3 ?_
    refine own_st (B := T3.setTop (mkF m 22 #[.val (.long u0), .second, .val (.long u1), .second, .val (.long u2), .second, .val (.int u3), .val (.long (own_min u0 u1)), .second, .val (.long (own_max u0 u1)), .second, .unset, .unset, .unset, .unset, .unset, .unset, .unset] [])) (fun t_ k_ => XS.lstore X3.here hx rfl (hb hby at_20) rfl (l' := #[.val (.long u0), .second, .val (.long u1), .second, .val (.long u2), .second, .val (.int u3), .val (.long (own_min u0 u1)), .second, .val (.long (own_max u0 u1)), .second, .unset, .unset, .unset, .unset, .unset, .unset, .unset]) rfl k_) ?_
    obtain ⟨T4, h4, X4, e4, E4, A4, D4, -, st4⟩ := newO X3 hx hZ hown (hw _ (List.mem_of_getElem? (i := 7) rfl)) (hw _ (List.mem_of_getElem? (i := 8) rfl)) (hw _ (List.mem_of_getElem? (i := 9) rfl)) eh3 (g := (mkF m 22 #[.val (.long u0), .second, .val (.long u1), .second, .val (.long u2), .second, .val (.int u3), .val (.long (own_min u0 u1)), .second, .val (.long (own_max u0 u1)), .second, .unset, .unset, .unset, .unset, .unset, .unset, .unset] [])) rfl (hb hby at_22) (by decide) (by decide)
    obtain ⟨b4, g4⟩ : ∃ z, z = h0.size := ⟨_, rfl⟩
    rw [← g4] at A4 D4 st4
    have g5 : n0 ≤ b4 := Nat.le_trans Z0 (Nat.le_of_eq g4.symm)
    have Z6 := Nat.le_trans Z0 E4.1
    have F4_startMillis : Fld Z h4 b4 "com/example/briareus/briareus/model/Interval" "startMillis" "J" (.long (0 : Int64)) := D4 (Or.inr (hw _ (List.mem_of_getElem? (i := 22) rfl))) (ty := .long) (by decide)
    have F4_endMillis : Fld Z h4 b4 "com/example/briareus/briareus/model/Interval" "endMillis" "J" (.long (0 : Int64)) := D4 (Or.inr (hw _ (List.mem_of_getElem? (i := 24) rfl))) (ty := .long) (by decide)
    refine own_st (B := T4.setTop (mkF m 25 #[.val (.long u0), .second, .val (.long u1), .second, .val (.long u2), .second, .val (.int u3), .val (.long (own_min u0 u1)), .second, .val (.long (own_max u0 u1)), .second, .unset, .unset, .unset, .unset, .unset, .unset, .unset] [(.ref b4)])) st4 ?_
    refine own_st (B := T4.setTop (mkF m 26 #[.val (.long u0), .second, .val (.long u1), .second, .val (.long u2), .second, .val (.int u3), .val (.long (own_min u0 u1)), .second, .val (.long (own_max u0 u1)), .second, .unset, .unset, .unset, .unset, .unset, .unset, .unset] [(.ref b4), (.ref b4)])) (fun t_ k_ => XS.dup X4.here hx rfl (hb hby at_25) rfl rfl k_) ?_
    refine own_st (B := T4.setTop (mkF m 28 #[.val (.long u0), .second, .val (.long u1), .second, .val (.long u2), .second, .val (.int u3), .val (.long (own_min u0 u1)), .second, .val (.long (own_max u0 u1)), .second, .unset, .unset, .unset, .unset, .unset, .unset, .unset] [(.long (own_min u0 u1)), (.ref b4), (.ref b4)])) (fun t_ k_ => XS.lload X4.here hx rfl (hb hby at_26) rfl k_) ?_
    refine own_st (B := T4.setTop (mkF m 30 #[.val (.long u0), .second, .val (.long u1), .second, .val (.long u2), .second, .val (.int u3), .val (.long (own_min u0 u1)), .second, .val (.long (own_max u0 u1)), .second, .unset, .unset, .unset, .unset, .unset, .unset, .unset] [(.long (own_max u0 u1)), (.long (own_min u0 u1)), (.ref b4), (.ref b4)])) (fun t_ k_ => XS.lload X4.here hx rfl (hb hby at_28) rfl k_) ?_
    obtain ⟨_, _, ⟨T7, L7, k7, n7⟩, -, X7, ⟨Lc7, hQ7, l7, y7, z7⟩, st7⟩ := X4.specialBack hx (y := (⟨"com/example/briareus/briareus/model/Interval", "<init>", "(JJ)V"⟩ : MethodName)) rfl hown (mvT hZ (hw _ (List.mem_of_getElem? (i := 10) rfl))) (mvT hZ (hw _ (List.mem_of_getElem? (i := 11) rfl))) (mvT hZ (hw _ (List.mem_of_getElem? (i := 12) rfl))) (by decide) (backOf (W := 1) (rm3 l Z a0 hw [] b4 (own_min u0 u1) (own_max u0 u1) h4 n0 Z6 A4 F4_startMillis F4_endMillis g5 (own_mm hc1)) hZ (hw _ (List.mem_of_getElem? (i := 12) rfl)) (hw _ (List.mem_of_getElem? (i := 9) rfl)) (by decide) (by decide)) (g := (mkF m 30 #[.val (.long u0), .second, .val (.long u1), .second, .val (.long u2), .second, .val (.int u3), .val (.long (own_min u0 u1)), .second, .val (.long (own_max u0 u1)), .second, .unset, .unset, .unset, .unset, .unset, .unset, .unset] [(.long (own_max u0 u1)), (.long (own_min u0 u1)), (.ref b4), (.ref b4)])) rfl (by rw [hml]; rfl) (Steps.refl _) (a := b4) (argsL := [(.long (own_min u0 u1)), (.long (own_max u0 u1))]) (rest := [(.ref b4)]) (lenOf own_pd2 rfl) rfl (by show 2 * 0 + _ ≤ _; exact Nat.le_of_eq rfl) (hb hby at_30) (fun _ _ => ⟨rfl, e4, (by decide : 1 + 0 ≤ _), (by decide : 2 + 0 ≤ _)⟩)
    dsimp only [Pt.U, Pt.locs, Pt.cells, Pt.slots] at X7 l7 y7 z7 st7 hQ7
    subst l7 y7 z7
    obtain ⟨rfl, N7q, K7, Fc7_0, Fc7_1⟩ := hQ7
    have N7 := Fr.app N3 N7q
    have Z8 := Nat.le_trans Z6 K7.1
    refine own_st (B := T7.setTop (mkF m 33 #[.val (.long u0), .second, .val (.long u1), .second, .val (.long u2), .second, .val (.int u3), .val (.long (own_min u0 u1)), .second, .val (.long (own_max u0 u1)), .second, .unset, .unset, .unset, .unset, .unset, .unset, .unset] [(.ref b4)])) (fun t_ k_ => st7.trans k_) ?_
    refine own_st (B := T7.setTop (mkF m 35 #[.val (.long u0), .second, .val (.long u1), .second, .val (.long u2), .second, .val (.int u3), .val (.long (own_min u0 u1)), .second, .val (.long (own_max u0 u1)), .second, .val (.ref b4), .unset, .unset, .unset, .unset, .unset, .unset] [])) (fun t_ k_ => XS.astore X7.here hx rfl (hb hby at_33) rfl rfl (l' := #[.val (.long u0), .second, .val (.long u1), .second, .val (.long u2), .second, .val (.int u3), .val (.long (own_min u0 u1)), .second, .val (.long (own_max u0 u1)), .second, .val (.ref b4), .unset, .unset, .unset, .unset, .unset, .unset]) rfl k_) ?_
    refine own_st (B := T7.setTop (mkF m 37 #[.val (.long u0), .second, .val (.long u1), .second, .val (.long u2), .second, .val (.int u3), .val (.long (own_min u0 u1)), .second, .val (.long (own_max u0 u1)), .second, .val (.ref b4), .unset, .unset, .unset, .unset, .unset, .unset] [(.int u3)])) (fun t_ k_ => XS.iload X7.here hx rfl (hb hby at_35) rfl k_) ?_
    refine own_st (B := T7.setTop (mkF m 39 #[.val (.long u0), .second, .val (.long u1), .second, .val (.long u2), .second, .val (.int u3), .val (.long (own_min u0 u1)), .second, .val (.long (own_max u0 u1)), .second, .val (.ref b4), .unset, .unset, .unset, .unset, .unset, .unset] [(.int (7 : Int32)), (.int u3)])) (fun t_ k_ => XS.bipush X7.here hx rfl (hb hby at_37) k_) ?_
    refine own_st (B := T7.setTop (mkF m 40 #[.val (.long u0), .second, .val (.long u1), .second, .val (.long u2), .second, .val (.int u3), .val (.long (own_min u0 u1)), .second, .val (.long (own_max u0 u1)), .second, .val (.ref b4), .unset, .unset, .unset, .unset, .unset, .unset] [(.int (u3 &&& (7 : Int32)))])) (fun t_ k_ => XS.iand X7.here hx rfl (hb hby at_39) rfl k_) ?_
    refine own_st (B := T7.setTop (mkF m 42 #[.val (.long u0), .second, .val (.long u1), .second, .val (.long u2), .second, .val (.int u3), .val (.long (own_min u0 u1)), .second, .val (.long (own_max u0 u1)), .second, .val (.ref b4), .val (.int (u3 &&& (7 : Int32))), .unset, .unset, .unset, .unset, .unset] [])) (fun t_ k_ => XS.istore X7.here hx rfl (hb hby at_40) rfl (l' := #[.val (.long u0), .second, .val (.long u1), .second, .val (.long u2), .second, .val (.int u3), .val (.long (own_min u0 u1)), .second, .val (.long (own_max u0 u1)), .second, .val (.ref b4), .val (.int (u3 &&& (7 : Int32))), .unset, .unset, .unset, .unset, .unset]) rfl k_) ?_
    refine own_st (B := T7.setTop (mkF m 44 #[.val (.long u0), .second, .val (.long u1), .second, .val (.long u2), .second, .val (.int u3), .val (.long (own_min u0 u1)), .second, .val (.long (own_max u0 u1)), .second, .val (.ref b4), .val (.int (u3 &&& (7 : Int32))), .unset, .unset, .unset, .unset, .unset] [(.int (u3 &&& (7 : Int32)))])) (fun t_ k_ => XS.iload X7.here hx rfl (hb hby at_42) rfl k_) ?_
    by_cases hc9 : (u3 &&& (7 : Int32)) = (0 : Int32)
    · have hd9 := own_eq32 hc9
      rw [show (0 : Int32).toInt = 0 from rfl] at hd9
      refine own_st (B := T7.setTop (mkF m 47 #[.val (.long u0), .second, .val (.long u1), .second, .val (.long u2), .second, .val (.int u3), .val (.long (own_min u0 u1)), .second, .val (.long (own_max u0 u1)), .second, .val (.ref b4), .val (.int (u3 &&& (7 : Int32))), .unset, .unset, .unset, .unset, .unset] [])) (fun t_ k_ => XS.ifNo X7.here hx rfl (hb hby at_44) rfl ((if0 _ _).trans (teq hc9).2) k_) ?_
      refine own_st (B := T7.setTop (mkF m 49 #[.val (.long u0), .second, .val (.long u1), .second, .val (.long u2), .second, .val (.int u3), .val (.long (own_min u0 u1)), .second, .val (.long (own_max u0 u1)), .second, .val (.ref b4), .val (.int (u3 &&& (7 : Int32))), .unset, .unset, .unset, .unset, .unset] [(.long (own_min u0 u1))])) (fun t_ k_ => XS.lload X7.here hx rfl (hb hby at_47) rfl k_) ?_
      refine own_st (B := T7.setTop (mkF m 51 #[.val (.long u0), .second, .val (.long u1), .second, .val (.long u2), .second, .val (.int u3), .val (.long (own_min u0 u1)), .second, .val (.long (own_max u0 u1)), .second, .val (.ref b4), .val (.int (u3 &&& (7 : Int32))), .val (.long (own_min u0 u1)), .second, .unset, .unset, .unset] [])) (fun t_ k_ => XS.lstore X7.here hx rfl (hb hby at_49) rfl (l' := #[.val (.long u0), .second, .val (.long u1), .second, .val (.long u2), .second, .val (.int u3), .val (.long (own_min u0 u1)), .second, .val (.long (own_max u0 u1)), .second, .val (.ref b4), .val (.int (u3 &&& (7 : Int32))), .val (.long (own_min u0 u1)), .second, .unset, .unset, .unset]) rfl k_) ?_
      refine own_st (B := T7.setTop (mkF m 52 #[.val (.long u0), .second, .val (.long u1), .second, .val (.long u2), .second, .val (.int u3), .val (.long (own_min u0 u1)), .second, .val (.long (own_max u0 u1)), .second, .val (.ref b4), .val (.int (u3 &&& (7 : Int32))), .val (.long (own_min u0 u1)), .second, .unset, .unset, .unset] [(.int (1 : Int32))])) (fun t_ k_ => XS.iconst X7.here hx rfl (hb hby at_51) k_) ?_
      refine own_st (B := T7.setTop (mkF m 54 #[.val (.long u0), .second, .val (.long u1), .second, .val (.long u2), .second, .val (.int u3), .val (.long (own_min u0 u1)), .second, .val (.long (own_max u0 u1)), .second, .val (.ref b4), .val (.int (u3 &&& (7 : Int32))), .val (.long (own_min u0 u1)), .second, .val (.int (1 : Int32)), .unset, .unset] [])) (fun t_ k_ => XS.istore X7.here hx rfl (hb hby at_52) rfl (l' := #[.val (.long u0), .second, .val (.long u1), .second, .val (.long u2), .second, .val (.int u3), .val (.long (own_min u0 u1)), .second, .val (.long (own_max u0 u1)), .second, .val (.ref b4), .val (.int (u3 &&& (7 : Int32))), .val (.long (own_min u0 u1)), .second, .val (.int (1 : Int32)), .unset, .unset]) rfl k_) ?_
      refine own_st (B := T7.setTop (mkF m 160 #[.val (.long u0), .second, .val (.long u1), .second, .val (.long u2), .second, .val (.int u3), .val (.long (own_min u0 u1)), .second, .val (.long (own_max u0 u1)), .second, .val (.ref b4), .val (.int (u3 &&& (7 : Int32))), .val (.long (own_min u0 u1)), .second, .val (.int (1 : Int32)), .unset, .unset] [])) (fun t_ k_ => XS.goto X7.here hx rfl (pc0 := 54) (pc' := 160) rfl (hb hby at_54) (by decide) (by decide) k_) ?_
      refine own_st (B := T7.setTop (mkF m 162 #[.val (.long u0), .second, .val (.long u1), .second, .val (.long u2), .second, .val (.int u3), .val (.long (own_min u0 u1)), .second, .val (.long (own_max u0 u1)), .second, .val (.ref b4), .val (.int (u3 &&& (7 : Int32))), .val (.long (own_min u0 u1)), .second, .val (.int (1 : Int32)), .unset, .unset] [(.ref b4)])) (fun t_ k_ => XS.aload X7.here hx rfl (hb hby at_160) rfl rfl k_) ?_
      refine own_st (B := T7.setTop (mkF m 164 #[.val (.long u0), .second, .val (.long u1), .second, .val (.long u2), .second, .val (.int u3), .val (.long (own_min u0 u1)), .second, .val (.long (own_max u0 u1)), .second, .val (.ref b4), .val (.int (u3 &&& (7 : Int32))), .val (.long (own_min u0 u1)), .second, .val (.int (1 : Int32)), .unset, .unset] [(.long (own_min u0 u1)), (.ref b4)])) (fun t_ k_ => XS.lload X7.here hx rfl (hb hby at_162) rfl k_) ?_
      have u11 := A4.keep K7
      obtain ⟨cq10, kq10, q10a, q10b, q10c⟩ := isOf hZ rfl u11
      obtain ⟨_, _, ⟨T10, L10, k10, n10⟩, -, X10, ⟨Lc10, hQ10, l10, y10, z10⟩, st10⟩ := X7.virtualBack hx (y := (⟨"com/example/briareus/briareus/model/Interval", "contains", "(J)Z"⟩ : MethodName)) (z := (⟨"com/example/briareus/briareus/model/Interval", "contains", "(J)Z"⟩ : MethodName)) hown (mvT hZ (hw _ (List.mem_of_getElem? (i := 25) rfl))) (mvT hZ (hw _ (List.mem_of_getElem? (i := 26) rfl))) (notFace_of_selects (args := #[]) (mvT hZ (hw _ (List.mem_of_getElem? (i := 28) rfl)))) (mvT hZ (hw _ (List.mem_of_getElem? (i := 28) rfl))) (mvT hZ (hw _ (List.mem_of_getElem? (i := 27) rfl))) (by decide) (backOf (W := 0) (rm6 l Z a0 hw [] b4 (own_min u0 u1) (own_max u0 u1) (own_min u0 u1) T7.heap n0 Z8 Fc7_0 Fc7_1) hZ (hw _ (List.mem_of_getElem? (i := 29) rfl)) (hw _ (List.mem_of_getElem? (i := 9) rfl)) (by decide) (by decide)) q10a q10c (g := (mkF m 164 #[.val (.long u0), .second, .val (.long u1), .second, .val (.long u2), .second, .val (.int u3), .val (.long (own_min u0 u1)), .second, .val (.long (own_max u0 u1)), .second, .val (.ref b4), .val (.int (u3 &&& (7 : Int32))), .val (.long (own_min u0 u1)), .second, .val (.int (1 : Int32)), .unset, .unset] [(.long (own_min u0 u1)), (.ref b4)])) rfl (by rw [hml]; rfl) (Steps.refl _) (argsL := [(.long (own_min u0 u1))]) (rest := []) (lenOf own_pd3 rfl) rfl (by show 2 * 0 + _ ≤ _; exact Nat.le_of_eq rfl) (hb hby at_164) (fun _ _ => ⟨rfl, rfl, (by decide : 1 + 0 ≤ _), (by decide : 2 + 0 ≤ _)⟩)
      dsimp only [Pt.U, Pt.locs, Pt.cells, Pt.slots] at X10 l10 y10 z10 st10 hQ10
      subst l10 y10 z10
      obtain ⟨rfl, N10q, eh10⟩ := hQ10
      have N10 := Fr.app N7 N10q
      refine own_st (B := T10.setTop (mkF m 167 #[.val (.long u0), .second, .val (.long u1), .second, .val (.long u2), .second, .val (.int u3), .val (.long (own_min u0 u1)), .second, .val (.long (own_max u0 u1)), .second, .val (.ref b4), .val (.int (u3 &&& (7 : Int32))), .val (.long (own_min u0 u1)), .second, .val (.int (1 : Int32)), .unset, .unset] [(.int (own_b (own_con (own_min u0 u1) (own_max u0 u1) (own_min u0 u1))))])) (fun t_ k_ => st10.trans k_) ?_
      refine own_st (B := T10.setTop (mkF m 169 #[.val (.long u0), .second, .val (.long u1), .second, .val (.long u2), .second, .val (.int u3), .val (.long (own_min u0 u1)), .second, .val (.long (own_max u0 u1)), .second, .val (.ref b4), .val (.int (u3 &&& (7 : Int32))), .val (.long (own_min u0 u1)), .second, .val (.int (1 : Int32)), .unset, .unset] [(.int (1 : Int32)), (.int (own_b (own_con (own_min u0 u1) (own_max u0 u1) (own_min u0 u1))))])) (fun t_ k_ => XS.iload X10.here hx rfl (hb hby at_167) rfl k_) ?_
      have hc12 : (own_b (own_con (own_min u0 u1) (own_max u0 u1) (own_min u0 u1))) = (1 : Int32) := by
          have q0 := own_lt64 (own_mm hc1)
          have q1 := c_lsub (own_min u0 u1) 1; have q2 := c_lsub (own_max u0 u1) 1; rw [show (1 : Int64).toInt = 1 from rfl] at q1 q2
          have q3 := rng64 (own_min u0 u1 - 1); have q4 := rng64 (own_max u0 u1 - 1); have q5 := rng64 (own_min u0 u1); have q6 := rng64 (own_max u0 u1)
          unfold own_con; exact own_b1 (by omega)
      have hd12 := own_eq32 hc12
      rw [show (1 : Int32).toInt = 1 from rfl] at hd12
      refine own_st (B := T10.setTop (mkF m 172 #[.val (.long u0), .second, .val (.long u1), .second, .val (.long u2), .second, .val (.int u3), .val (.long (own_min u0 u1)), .second, .val (.long (own_max u0 u1)), .second, .val (.ref b4), .val (.int (u3 &&& (7 : Int32))), .val (.long (own_min u0 u1)), .second, .val (.int (1 : Int32)), .unset, .unset] [])) (fun t_ k_ => XS.icmpNo X10.here hx rfl (hb hby at_169) rfl (teq hc12).2 k_) ?_
      refine own_st (B := T10.setTop (mkF m 173 #[.val (.long u0), .second, .val (.long u1), .second, .val (.long u2), .second, .val (.int u3), .val (.long (own_min u0 u1)), .second, .val (.long (own_max u0 u1)), .second, .val (.ref b4), .val (.int (u3 &&& (7 : Int32))), .val (.long (own_min u0 u1)), .second, .val (.int (1 : Int32)), .unset, .unset] [(.int (1 : Int32))])) (fun t_ k_ => XS.iconst X10.here hx rfl (hb hby at_172) k_) ?_
      refine own_st (B := T10.setTop (mkF m 177 #[.val (.long u0), .second, .val (.long u1), .second, .val (.long u2), .second, .val (.int u3), .val (.long (own_min u0 u1)), .second, .val (.long (own_max u0 u1)), .second, .val (.ref b4), .val (.int (u3 &&& (7 : Int32))), .val (.long (own_min u0 u1)), .second, .val (.int (1 : Int32)), .unset, .unset] [(.int (1 : Int32))])) (fun t_ k_ => XS.goto X10.here hx rfl (pc0 := 173) (pc' := 177) rfl (hb hby at_173) (by decide) (by decide) k_) ?_
      refine own_retN X10 hx (t := .boolean) Bd.returns (by simp) hlk (hb hby at_177) (z' := (1 : Int32)) (by first | rfl | exact own_nb _ | exact own_nbb _) (by decide) (by decide) ?_
      show Q0 Z u0 u1 u2 u3 h0 n0 _ T10.heap _
      rw [eh10]
      exact ⟨rfl, N10⟩
    · have hd9 := own_neq32 hc9
      rw [show (0 : Int32).toInt = 0 from rfl] at hd9
      refine own_st (B := T7.setTop (mkF m 57 #[.val (.long u0), .second, .val (.long u1), .second, .val (.long u2), .second, .val (.int u3), .val (.long (own_min u0 u1)), .second, .val (.long (own_max u0 u1)), .second, .val (.ref b4), .val (.int (u3 &&& (7 : Int32))), .unset, .unset, .unset, .unset, .unset] [])) (fun t_ k_ => XS.ifYes X7.here hx rfl (pc0 := 44) (pc' := 57) rfl (hb hby at_44) rfl ((if0 _ _).trans (feq hc9).2) (by decide) (by decide) k_) ?_
      refine own_st (B := T7.setTop (mkF m 59 #[.val (.long u0), .second, .val (.long u1), .second, .val (.long u2), .second, .val (.int u3), .val (.long (own_min u0 u1)), .second, .val (.long (own_max u0 u1)), .second, .val (.ref b4), .val (.int (u3 &&& (7 : Int32))), .unset, .unset, .unset, .unset, .unset] [(.int (u3 &&& (7 : Int32)))])) (fun t_ k_ => XS.iload X7.here hx rfl (hb hby at_57) rfl k_) ?_
      refine own_st (B := T7.setTop (mkF m 60 #[.val (.long u0), .second, .val (.long u1), .second, .val (.long u2), .second, .val (.int u3), .val (.long (own_min u0 u1)), .second, .val (.long (own_max u0 u1)), .second, .val (.ref b4), .val (.int (u3 &&& (7 : Int32))), .unset, .unset, .unset, .unset, .unset] [(.int (1 : Int32)), (.int (u3 &&& (7 : Int32)))])) (fun t_ k_ => XS.iconst X7.here hx rfl (hb hby at_59) k_) ?_
      by_cases hc13 : (u3 &&& (7 : Int32)) = (1 : Int32)
      · have hd13 := own_eq32 hc13
        rw [show (1 : Int32).toInt = 1 from rfl] at hd13
        refine own_st (B := T7.setTop (mkF m 63 #[.val (.long u0), .second, .val (.long u1), .second, .val (.long u2), .second, .val (.int u3), .val (.long (own_min u0 u1)), .second, .val (.long (own_max u0 u1)), .second, .val (.ref b4), .val (.int (u3 &&& (7 : Int32))), .unset, .unset, .unset, .unset, .unset] [])) (fun t_ k_ => XS.icmpNo X7.here hx rfl (hb hby at_60) rfl (teq hc13).2 k_) ?_
        refine own_st (B := T7.setTop (mkF m 65 #[.val (.long u0), .second, .val (.long u1), .second, .val (.long u2), .second, .val (.int u3), .val (.long (own_min u0 u1)), .second, .val (.long (own_max u0 u1)), .second, .val (.ref b4), .val (.int (u3 &&& (7 : Int32))), .unset, .unset, .unset, .unset, .unset] [(.long (own_max u0 u1))])) (fun t_ k_ => XS.lload X7.here hx rfl (hb hby at_63) rfl k_) ?_
        refine own_st (B := T7.setTop (mkF m 67 #[.val (.long u0), .second, .val (.long u1), .second, .val (.long u2), .second, .val (.int u3), .val (.long (own_min u0 u1)), .second, .val (.long (own_max u0 u1)), .second, .val (.ref b4), .val (.int (u3 &&& (7 : Int32))), .val (.long (own_max u0 u1)), .second, .unset, .unset, .unset] [])) (fun t_ k_ => XS.lstore X7.here hx rfl (hb hby at_65) rfl (l' := #[.val (.long u0), .second, .val (.long u1), .second, .val (.long u2), .second, .val (.int u3), .val (.long (own_min u0 u1)), .second, .val (.long (own_max u0 u1)), .second, .val (.ref b4), .val (.int (u3 &&& (7 : Int32))), .val (.long (own_max u0 u1)), .second, .unset, .unset, .unset]) rfl k_) ?_
        refine own_st (B := T7.setTop (mkF m 68 #[.val (.long u0), .second, .val (.long u1), .second, .val (.long u2), .second, .val (.int u3), .val (.long (own_min u0 u1)), .second, .val (.long (own_max u0 u1)), .second, .val (.ref b4), .val (.int (u3 &&& (7 : Int32))), .val (.long (own_max u0 u1)), .second, .unset, .unset, .unset] [(.int (0 : Int32))])) (fun t_ k_ => XS.iconst X7.here hx rfl (hb hby at_67) k_) ?_
        refine own_st (B := T7.setTop (mkF m 70 #[.val (.long u0), .second, .val (.long u1), .second, .val (.long u2), .second, .val (.int u3), .val (.long (own_min u0 u1)), .second, .val (.long (own_max u0 u1)), .second, .val (.ref b4), .val (.int (u3 &&& (7 : Int32))), .val (.long (own_max u0 u1)), .second, .val (.int (0 : Int32)), .unset, .unset] [])) (fun t_ k_ => XS.istore X7.here hx rfl (hb hby at_68) rfl (l' := #[.val (.long u0), .second, .val (.long u1), .second, .val (.long u2), .second, .val (.int u3), .val (.long (own_min u0 u1)), .second, .val (.long (own_max u0 u1)), .second, .val (.ref b4), .val (.int (u3 &&& (7 : Int32))), .val (.long (own_max u0 u1)), .second, .val (.int (0 : Int32)), .unset, .unset]) rfl k_) ?_
        refine own_st (B := T7.setTop (mkF m 160 #[.val (.long u0), .second, .val (.long u1), .second, .val (.long u2), .second, .val (.int u3), .val (.long (own_min u0 u1)), .second, .val (.long (own_max u0 u1)), .second, .val (.ref b4), .val (.int (u3 &&& (7 : Int32))), .val (.long (own_max u0 u1)), .second, .val (.int (0 : Int32)), .unset, .unset] [])) (fun t_ k_ => XS.goto X7.here hx rfl (pc0 := 70) (pc' := 160) rfl (hb hby at_70) (by decide) (by decide) k_) ?_
        refine own_st (B := T7.setTop (mkF m 162 #[.val (.long u0), .second, .val (.long u1), .second, .val (.long u2), .second, .val (.int u3), .val (.long (own_min u0 u1)), .second, .val (.long (own_max u0 u1)), .second, .val (.ref b4), .val (.int (u3 &&& (7 : Int32))), .val (.long (own_max u0 u1)), .second, .val (.int (0 : Int32)), .unset, .unset] [(.ref b4)])) (fun t_ k_ => XS.aload X7.here hx rfl (hb hby at_160) rfl rfl k_) ?_
        refine own_st (B := T7.setTop (mkF m 164 #[.val (.long u0), .second, .val (.long u1), .second, .val (.long u2), .second, .val (.int u3), .val (.long (own_min u0 u1)), .second, .val (.long (own_max u0 u1)), .second, .val (.ref b4), .val (.int (u3 &&& (7 : Int32))), .val (.long (own_max u0 u1)), .second, .val (.int (0 : Int32)), .unset, .unset] [(.long (own_max u0 u1)), (.ref b4)])) (fun t_ k_ => XS.lload X7.here hx rfl (hb hby at_162) rfl k_) ?_
        have u15 := A4.keep K7
        obtain ⟨cq14, kq14, q14a, q14b, q14c⟩ := isOf hZ rfl u15
        obtain ⟨_, _, ⟨T14, L14, k14, n14⟩, -, X14, ⟨Lc14, hQ14, l14, y14, z14⟩, st14⟩ := X7.virtualBack hx (y := (⟨"com/example/briareus/briareus/model/Interval", "contains", "(J)Z"⟩ : MethodName)) (z := (⟨"com/example/briareus/briareus/model/Interval", "contains", "(J)Z"⟩ : MethodName)) hown (mvT hZ (hw _ (List.mem_of_getElem? (i := 25) rfl))) (mvT hZ (hw _ (List.mem_of_getElem? (i := 26) rfl))) (notFace_of_selects (args := #[]) (mvT hZ (hw _ (List.mem_of_getElem? (i := 28) rfl)))) (mvT hZ (hw _ (List.mem_of_getElem? (i := 28) rfl))) (mvT hZ (hw _ (List.mem_of_getElem? (i := 27) rfl))) (by decide) (backOf (W := 0) (rm6 l Z a0 hw [] b4 (own_min u0 u1) (own_max u0 u1) (own_max u0 u1) T7.heap n0 Z8 Fc7_0 Fc7_1) hZ (hw _ (List.mem_of_getElem? (i := 29) rfl)) (hw _ (List.mem_of_getElem? (i := 9) rfl)) (by decide) (by decide)) q14a q14c (g := (mkF m 164 #[.val (.long u0), .second, .val (.long u1), .second, .val (.long u2), .second, .val (.int u3), .val (.long (own_min u0 u1)), .second, .val (.long (own_max u0 u1)), .second, .val (.ref b4), .val (.int (u3 &&& (7 : Int32))), .val (.long (own_max u0 u1)), .second, .val (.int (0 : Int32)), .unset, .unset] [(.long (own_max u0 u1)), (.ref b4)])) rfl (by rw [hml]; rfl) (Steps.refl _) (argsL := [(.long (own_max u0 u1))]) (rest := []) (lenOf own_pd3 rfl) rfl (by show 2 * 0 + _ ≤ _; exact Nat.le_of_eq rfl) (hb hby at_164) (fun _ _ => ⟨rfl, rfl, (by decide : 1 + 0 ≤ _), (by decide : 2 + 0 ≤ _)⟩)
        dsimp only [Pt.U, Pt.locs, Pt.cells, Pt.slots] at X14 l14 y14 z14 st14 hQ14
        subst l14 y14 z14
        obtain ⟨rfl, N14q, eh14⟩ := hQ14
        have N14 := Fr.app N7 N14q
        refine own_st (B := T14.setTop (mkF m 167 #[.val (.long u0), .second, .val (.long u1), .second, .val (.long u2), .second, .val (.int u3), .val (.long (own_min u0 u1)), .second, .val (.long (own_max u0 u1)), .second, .val (.ref b4), .val (.int (u3 &&& (7 : Int32))), .val (.long (own_max u0 u1)), .second, .val (.int (0 : Int32)), .unset, .unset] [(.int (own_b (own_con (own_min u0 u1) (own_max u0 u1) (own_max u0 u1))))])) (fun t_ k_ => st14.trans k_) ?_
        refine own_st (B := T14.setTop (mkF m 169 #[.val (.long u0), .second, .val (.long u1), .second, .val (.long u2), .second, .val (.int u3), .val (.long (own_min u0 u1)), .second, .val (.long (own_max u0 u1)), .second, .val (.ref b4), .val (.int (u3 &&& (7 : Int32))), .val (.long (own_max u0 u1)), .second, .val (.int (0 : Int32)), .unset, .unset] [(.int (0 : Int32)), (.int (own_b (own_con (own_min u0 u1) (own_max u0 u1) (own_max u0 u1))))])) (fun t_ k_ => XS.iload X14.here hx rfl (hb hby at_167) rfl k_) ?_
        have hc16 : (own_b (own_con (own_min u0 u1) (own_max u0 u1) (own_max u0 u1))) = (0 : Int32) := by
            have q0 := own_lt64 (own_mm hc1)
            have q1 := c_lsub (own_min u0 u1) 1; have q2 := c_lsub (own_max u0 u1) 1; rw [show (1 : Int64).toInt = 1 from rfl] at q1 q2
            have q3 := rng64 (own_min u0 u1 - 1); have q4 := rng64 (own_max u0 u1 - 1); have q5 := rng64 (own_min u0 u1); have q6 := rng64 (own_max u0 u1)
            unfold own_con; exact own_bz (by omega)
        have hd16 := own_eq32 hc16
        rw [show (0 : Int32).toInt = 0 from rfl] at hd16
        refine own_st (B := T14.setTop (mkF m 172 #[.val (.long u0), .second, .val (.long u1), .second, .val (.long u2), .second, .val (.int u3), .val (.long (own_min u0 u1)), .second, .val (.long (own_max u0 u1)), .second, .val (.ref b4), .val (.int (u3 &&& (7 : Int32))), .val (.long (own_max u0 u1)), .second, .val (.int (0 : Int32)), .unset, .unset] [])) (fun t_ k_ => XS.icmpNo X14.here hx rfl (hb hby at_169) rfl (teq hc16).2 k_) ?_
        refine own_st (B := T14.setTop (mkF m 173 #[.val (.long u0), .second, .val (.long u1), .second, .val (.long u2), .second, .val (.int u3), .val (.long (own_min u0 u1)), .second, .val (.long (own_max u0 u1)), .second, .val (.ref b4), .val (.int (u3 &&& (7 : Int32))), .val (.long (own_max u0 u1)), .second, .val (.int (0 : Int32)), .unset, .unset] [(.int (1 : Int32))])) (fun t_ k_ => XS.iconst X14.here hx rfl (hb hby at_172) k_) ?_
        refine own_st (B := T14.setTop (mkF m 177 #[.val (.long u0), .second, .val (.long u1), .second, .val (.long u2), .second, .val (.int u3), .val (.long (own_min u0 u1)), .second, .val (.long (own_max u0 u1)), .second, .val (.ref b4), .val (.int (u3 &&& (7 : Int32))), .val (.long (own_max u0 u1)), .second, .val (.int (0 : Int32)), .unset, .unset] [(.int (1 : Int32))])) (fun t_ k_ => XS.goto X14.here hx rfl (pc0 := 173) (pc' := 177) rfl (hb hby at_173) (by decide) (by decide) k_) ?_
        refine own_retN X14 hx (t := .boolean) Bd.returns (by simp) hlk (hb hby at_177) (z' := (1 : Int32)) (by first | rfl | exact own_nb _ | exact own_nbb _) (by decide) (by decide) ?_
        show Q0 Z u0 u1 u2 u3 h0 n0 _ T14.heap _
        rw [eh14]
        exact ⟨rfl, N14⟩
      · have hd13 := own_neq32 hc13
        rw [show (1 : Int32).toInt = 1 from rfl] at hd13
        refine own_st (B := T7.setTop (mkF m 73 #[.val (.long u0), .second, .val (.long u1), .second, .val (.long u2), .second, .val (.int u3), .val (.long (own_min u0 u1)), .second, .val (.long (own_max u0 u1)), .second, .val (.ref b4), .val (.int (u3 &&& (7 : Int32))), .unset, .unset, .unset, .unset, .unset] [])) (fun t_ k_ => XS.icmpYes X7.here hx rfl (pc0 := 60) (pc' := 73) rfl (hb hby at_60) rfl (feq hc13).2 (by decide) (by decide) k_) ?_
        refine own_st (B := T7.setTop (mkF m 75 #[.val (.long u0), .second, .val (.long u1), .second, .val (.long u2), .second, .val (.int u3), .val (.long (own_min u0 u1)), .second, .val (.long (own_max u0 u1)), .second, .val (.ref b4), .val (.int (u3 &&& (7 : Int32))), .unset, .unset, .unset, .unset, .unset] [(.int (u3 &&& (7 : Int32)))])) (fun t_ k_ => XS.iload X7.here hx rfl (hb hby at_73) rfl k_) ?_
        refine own_st (B := T7.setTop (mkF m 76 #[.val (.long u0), .second, .val (.long u1), .second, .val (.long u2), .second, .val (.int u3), .val (.long (own_min u0 u1)), .second, .val (.long (own_max u0 u1)), .second, .val (.ref b4), .val (.int (u3 &&& (7 : Int32))), .unset, .unset, .unset, .unset, .unset] [(.int (2 : Int32)), (.int (u3 &&& (7 : Int32)))])) (fun t_ k_ => XS.iconst X7.here hx rfl (hb hby at_75) k_) ?_
        by_cases hc17 : (u3 &&& (7 : Int32)) = (2 : Int32)
        · have hd17 := own_eq32 hc17
          rw [show (2 : Int32).toInt = 2 from rfl] at hd17
          refine own_st (B := T7.setTop (mkF m 79 #[.val (.long u0), .second, .val (.long u1), .second, .val (.long u2), .second, .val (.int u3), .val (.long (own_min u0 u1)), .second, .val (.long (own_max u0 u1)), .second, .val (.ref b4), .val (.int (u3 &&& (7 : Int32))), .unset, .unset, .unset, .unset, .unset] [])) (fun t_ k_ => XS.icmpNo X7.here hx rfl (hb hby at_76) rfl (teq hc17).2 k_) ?_
          refine own_st (B := T7.setTop (mkF m 81 #[.val (.long u0), .second, .val (.long u1), .second, .val (.long u2), .second, .val (.int u3), .val (.long (own_min u0 u1)), .second, .val (.long (own_max u0 u1)), .second, .val (.ref b4), .val (.int (u3 &&& (7 : Int32))), .unset, .unset, .unset, .unset, .unset] [(.long (own_min u0 u1))])) (fun t_ k_ => XS.lload X7.here hx rfl (hb hby at_79) rfl k_) ?_
          refine own_st (B := T7.setTop (mkF m 82 #[.val (.long u0), .second, .val (.long u1), .second, .val (.long u2), .second, .val (.int u3), .val (.long (own_min u0 u1)), .second, .val (.long (own_max u0 u1)), .second, .val (.ref b4), .val (.int (u3 &&& (7 : Int32))), .unset, .unset, .unset, .unset, .unset] [(.long (1 : Int64)), (.long (own_min u0 u1))])) (fun t_ k_ => XS.lconst X7.here hx rfl (hb hby at_81) k_) ?_
          refine own_st (B := T7.setTop (mkF m 83 #[.val (.long u0), .second, .val (.long u1), .second, .val (.long u2), .second, .val (.int u3), .val (.long (own_min u0 u1)), .second, .val (.long (own_max u0 u1)), .second, .val (.ref b4), .val (.int (u3 &&& (7 : Int32))), .unset, .unset, .unset, .unset, .unset] [(.long ((own_min u0 u1) - (1 : Int64)))])) (fun t_ k_ => XS.lsub X7.here hx rfl (hb hby at_82) rfl k_) ?_
          refine own_st (B := T7.setTop (mkF m 85 #[.val (.long u0), .second, .val (.long u1), .second, .val (.long u2), .second, .val (.int u3), .val (.long (own_min u0 u1)), .second, .val (.long (own_max u0 u1)), .second, .val (.ref b4), .val (.int (u3 &&& (7 : Int32))), .val (.long ((own_min u0 u1) - (1 : Int64))), .second, .unset, .unset, .unset] [])) (fun t_ k_ => XS.lstore X7.here hx rfl (hb hby at_83) rfl (l' := #[.val (.long u0), .second, .val (.long u1), .second, .val (.long u2), .second, .val (.int u3), .val (.long (own_min u0 u1)), .second, .val (.long (own_max u0 u1)), .second, .val (.ref b4), .val (.int (u3 &&& (7 : Int32))), .val (.long ((own_min u0 u1) - (1 : Int64))), .second, .unset, .unset, .unset]) rfl k_) ?_
          refine own_st (B := T7.setTop (mkF m 86 #[.val (.long u0), .second, .val (.long u1), .second, .val (.long u2), .second, .val (.int u3), .val (.long (own_min u0 u1)), .second, .val (.long (own_max u0 u1)), .second, .val (.ref b4), .val (.int (u3 &&& (7 : Int32))), .val (.long ((own_min u0 u1) - (1 : Int64))), .second, .unset, .unset, .unset] [(.int (0 : Int32))])) (fun t_ k_ => XS.iconst X7.here hx rfl (hb hby at_85) k_) ?_
          refine own_st (B := T7.setTop (mkF m 88 #[.val (.long u0), .second, .val (.long u1), .second, .val (.long u2), .second, .val (.int u3), .val (.long (own_min u0 u1)), .second, .val (.long (own_max u0 u1)), .second, .val (.ref b4), .val (.int (u3 &&& (7 : Int32))), .val (.long ((own_min u0 u1) - (1 : Int64))), .second, .val (.int (0 : Int32)), .unset, .unset] [])) (fun t_ k_ => XS.istore X7.here hx rfl (hb hby at_86) rfl (l' := #[.val (.long u0), .second, .val (.long u1), .second, .val (.long u2), .second, .val (.int u3), .val (.long (own_min u0 u1)), .second, .val (.long (own_max u0 u1)), .second, .val (.ref b4), .val (.int (u3 &&& (7 : Int32))), .val (.long ((own_min u0 u1) - (1 : Int64))), .second, .val (.int (0 : Int32)), .unset, .unset]) rfl k_) ?_
          refine own_st (B := T7.setTop (mkF m 160 #[.val (.long u0), .second, .val (.long u1), .second, .val (.long u2), .second, .val (.int u3), .val (.long (own_min u0 u1)), .second, .val (.long (own_max u0 u1)), .second, .val (.ref b4), .val (.int (u3 &&& (7 : Int32))), .val (.long ((own_min u0 u1) - (1 : Int64))), .second, .val (.int (0 : Int32)), .unset, .unset] [])) (fun t_ k_ => XS.goto X7.here hx rfl (pc0 := 88) (pc' := 160) rfl (hb hby at_88) (by decide) (by decide) k_) ?_
          refine own_st (B := T7.setTop (mkF m 162 #[.val (.long u0), .second, .val (.long u1), .second, .val (.long u2), .second, .val (.int u3), .val (.long (own_min u0 u1)), .second, .val (.long (own_max u0 u1)), .second, .val (.ref b4), .val (.int (u3 &&& (7 : Int32))), .val (.long ((own_min u0 u1) - (1 : Int64))), .second, .val (.int (0 : Int32)), .unset, .unset] [(.ref b4)])) (fun t_ k_ => XS.aload X7.here hx rfl (hb hby at_160) rfl rfl k_) ?_
          refine own_st (B := T7.setTop (mkF m 164 #[.val (.long u0), .second, .val (.long u1), .second, .val (.long u2), .second, .val (.int u3), .val (.long (own_min u0 u1)), .second, .val (.long (own_max u0 u1)), .second, .val (.ref b4), .val (.int (u3 &&& (7 : Int32))), .val (.long ((own_min u0 u1) - (1 : Int64))), .second, .val (.int (0 : Int32)), .unset, .unset] [(.long ((own_min u0 u1) - (1 : Int64))), (.ref b4)])) (fun t_ k_ => XS.lload X7.here hx rfl (hb hby at_162) rfl k_) ?_
          have u19 := A4.keep K7
          obtain ⟨cq18, kq18, q18a, q18b, q18c⟩ := isOf hZ rfl u19
          obtain ⟨_, _, ⟨T18, L18, k18, n18⟩, -, X18, ⟨Lc18, hQ18, l18, y18, z18⟩, st18⟩ := X7.virtualBack hx (y := (⟨"com/example/briareus/briareus/model/Interval", "contains", "(J)Z"⟩ : MethodName)) (z := (⟨"com/example/briareus/briareus/model/Interval", "contains", "(J)Z"⟩ : MethodName)) hown (mvT hZ (hw _ (List.mem_of_getElem? (i := 25) rfl))) (mvT hZ (hw _ (List.mem_of_getElem? (i := 26) rfl))) (notFace_of_selects (args := #[]) (mvT hZ (hw _ (List.mem_of_getElem? (i := 28) rfl)))) (mvT hZ (hw _ (List.mem_of_getElem? (i := 28) rfl))) (mvT hZ (hw _ (List.mem_of_getElem? (i := 27) rfl))) (by decide) (backOf (W := 0) (rm6 l Z a0 hw [] b4 (own_min u0 u1) (own_max u0 u1) ((own_min u0 u1) - (1 : Int64)) T7.heap n0 Z8 Fc7_0 Fc7_1) hZ (hw _ (List.mem_of_getElem? (i := 29) rfl)) (hw _ (List.mem_of_getElem? (i := 9) rfl)) (by decide) (by decide)) q18a q18c (g := (mkF m 164 #[.val (.long u0), .second, .val (.long u1), .second, .val (.long u2), .second, .val (.int u3), .val (.long (own_min u0 u1)), .second, .val (.long (own_max u0 u1)), .second, .val (.ref b4), .val (.int (u3 &&& (7 : Int32))), .val (.long ((own_min u0 u1) - (1 : Int64))), .second, .val (.int (0 : Int32)), .unset, .unset] [(.long ((own_min u0 u1) - (1 : Int64))), (.ref b4)])) rfl (by rw [hml]; rfl) (Steps.refl _) (argsL := [(.long ((own_min u0 u1) - (1 : Int64)))]) (rest := []) (lenOf own_pd3 rfl) rfl (by show 2 * 0 + _ ≤ _; exact Nat.le_of_eq rfl) (hb hby at_164) (fun _ _ => ⟨rfl, rfl, (by decide : 1 + 0 ≤ _), (by decide : 2 + 0 ≤ _)⟩)
          dsimp only [Pt.U, Pt.locs, Pt.cells, Pt.slots] at X18 l18 y18 z18 st18 hQ18
          subst l18 y18 z18
          obtain ⟨rfl, N18q, eh18⟩ := hQ18
          have N18 := Fr.app N7 N18q
          refine own_st (B := T18.setTop (mkF m 167 #[.val (.long u0), .second, .val (.long u1), .second, .val (.long u2), .second, .val (.int u3), .val (.long (own_min u0 u1)), .second, .val (.long (own_max u0 u1)), .second, .val (.ref b4), .val (.int (u3 &&& (7 : Int32))), .val (.long ((own_min u0 u1) - (1 : Int64))), .second, .val (.int (0 : Int32)), .unset, .unset] [(.int (own_b (own_con (own_min u0 u1) (own_max u0 u1) ((own_min u0 u1) - (1 : Int64)))))])) (fun t_ k_ => st18.trans k_) ?_
          refine own_st (B := T18.setTop (mkF m 169 #[.val (.long u0), .second, .val (.long u1), .second, .val (.long u2), .second, .val (.int u3), .val (.long (own_min u0 u1)), .second, .val (.long (own_max u0 u1)), .second, .val (.ref b4), .val (.int (u3 &&& (7 : Int32))), .val (.long ((own_min u0 u1) - (1 : Int64))), .second, .val (.int (0 : Int32)), .unset, .unset] [(.int (0 : Int32)), (.int (own_b (own_con (own_min u0 u1) (own_max u0 u1) ((own_min u0 u1) - (1 : Int64)))))])) (fun t_ k_ => XS.iload X18.here hx rfl (hb hby at_167) rfl k_) ?_
          have hc20 : (own_b (own_con (own_min u0 u1) (own_max u0 u1) ((own_min u0 u1) - (1 : Int64)))) = (0 : Int32) := by
              have q0 := own_lt64 (own_mm hc1)
              have q1 := c_lsub (own_min u0 u1) 1; have q2 := c_lsub (own_max u0 u1) 1; rw [show (1 : Int64).toInt = 1 from rfl] at q1 q2
              have q3 := rng64 (own_min u0 u1 - 1); have q4 := rng64 (own_max u0 u1 - 1); have q5 := rng64 (own_min u0 u1); have q6 := rng64 (own_max u0 u1)
              unfold own_con; exact own_bz (by omega)
          have hd20 := own_eq32 hc20
          rw [show (0 : Int32).toInt = 0 from rfl] at hd20
          refine own_st (B := T18.setTop (mkF m 172 #[.val (.long u0), .second, .val (.long u1), .second, .val (.long u2), .second, .val (.int u3), .val (.long (own_min u0 u1)), .second, .val (.long (own_max u0 u1)), .second, .val (.ref b4), .val (.int (u3 &&& (7 : Int32))), .val (.long ((own_min u0 u1) - (1 : Int64))), .second, .val (.int (0 : Int32)), .unset, .unset] [])) (fun t_ k_ => XS.icmpNo X18.here hx rfl (hb hby at_169) rfl (teq hc20).2 k_) ?_
          refine own_st (B := T18.setTop (mkF m 173 #[.val (.long u0), .second, .val (.long u1), .second, .val (.long u2), .second, .val (.int u3), .val (.long (own_min u0 u1)), .second, .val (.long (own_max u0 u1)), .second, .val (.ref b4), .val (.int (u3 &&& (7 : Int32))), .val (.long ((own_min u0 u1) - (1 : Int64))), .second, .val (.int (0 : Int32)), .unset, .unset] [(.int (1 : Int32))])) (fun t_ k_ => XS.iconst X18.here hx rfl (hb hby at_172) k_) ?_
          refine own_st (B := T18.setTop (mkF m 177 #[.val (.long u0), .second, .val (.long u1), .second, .val (.long u2), .second, .val (.int u3), .val (.long (own_min u0 u1)), .second, .val (.long (own_max u0 u1)), .second, .val (.ref b4), .val (.int (u3 &&& (7 : Int32))), .val (.long ((own_min u0 u1) - (1 : Int64))), .second, .val (.int (0 : Int32)), .unset, .unset] [(.int (1 : Int32))])) (fun t_ k_ => XS.goto X18.here hx rfl (pc0 := 173) (pc' := 177) rfl (hb hby at_173) (by decide) (by decide) k_) ?_
          refine own_retN X18 hx (t := .boolean) Bd.returns (by simp) hlk (hb hby at_177) (z' := (1 : Int32)) (by first | rfl | exact own_nb _ | exact own_nbb _) (by decide) (by decide) ?_
          show Q0 Z u0 u1 u2 u3 h0 n0 _ T18.heap _
          rw [eh18]
          exact ⟨rfl, N18⟩
        · have hd17 := own_neq32 hc17
          rw [show (2 : Int32).toInt = 2 from rfl] at hd17
          refine own_st (B := T7.setTop (mkF m 91 #[.val (.long u0), .second, .val (.long u1), .second, .val (.long u2), .second, .val (.int u3), .val (.long (own_min u0 u1)), .second, .val (.long (own_max u0 u1)), .second, .val (.ref b4), .val (.int (u3 &&& (7 : Int32))), .unset, .unset, .unset, .unset, .unset] [])) (fun t_ k_ => XS.icmpYes X7.here hx rfl (pc0 := 76) (pc' := 91) rfl (hb hby at_76) rfl (feq hc17).2 (by decide) (by decide) k_) ?_
          refine own_st (B := T7.setTop (mkF m 93 #[.val (.long u0), .second, .val (.long u1), .second, .val (.long u2), .second, .val (.int u3), .val (.long (own_min u0 u1)), .second, .val (.long (own_max u0 u1)), .second, .val (.ref b4), .val (.int (u3 &&& (7 : Int32))), .unset, .unset, .unset, .unset, .unset] [(.int (u3 &&& (7 : Int32)))])) (fun t_ k_ => XS.iload X7.here hx rfl (hb hby at_91) rfl k_) ?_
          refine own_st (B := T7.setTop (mkF m 94 #[.val (.long u0), .second, .val (.long u1), .second, .val (.long u2), .second, .val (.int u3), .val (.long (own_min u0 u1)), .second, .val (.long (own_max u0 u1)), .second, .val (.ref b4), .val (.int (u3 &&& (7 : Int32))), .unset, .unset, .unset, .unset, .unset] [(.int (3 : Int32)), (.int (u3 &&& (7 : Int32)))])) (fun t_ k_ => XS.iconst X7.here hx rfl (hb hby at_93) k_) ?_
          by_cases hc21 : (u3 &&& (7 : Int32)) = (3 : Int32)
          · have hd21 := own_eq32 hc21
            rw [show (3 : Int32).toInt = 3 from rfl] at hd21
            refine own_st (B := T7.setTop (mkF m 97 #[.val (.long u0), .second, .val (.long u1), .second, .val (.long u2), .second, .val (.int u3), .val (.long (own_min u0 u1)), .second, .val (.long (own_max u0 u1)), .second, .val (.ref b4), .val (.int (u3 &&& (7 : Int32))), .unset, .unset, .unset, .unset, .unset] [])) (fun t_ k_ => XS.icmpNo X7.here hx rfl (hb hby at_94) rfl (teq hc21).2 k_) ?_
            refine own_st (B := T7.setTop (mkF m 99 #[.val (.long u0), .second, .val (.long u1), .second, .val (.long u2), .second, .val (.int u3), .val (.long (own_min u0 u1)), .second, .val (.long (own_max u0 u1)), .second, .val (.ref b4), .val (.int (u3 &&& (7 : Int32))), .unset, .unset, .unset, .unset, .unset] [(.long (own_max u0 u1))])) (fun t_ k_ => XS.lload X7.here hx rfl (hb hby at_97) rfl k_) ?_
            refine own_st (B := T7.setTop (mkF m 100 #[.val (.long u0), .second, .val (.long u1), .second, .val (.long u2), .second, .val (.int u3), .val (.long (own_min u0 u1)), .second, .val (.long (own_max u0 u1)), .second, .val (.ref b4), .val (.int (u3 &&& (7 : Int32))), .unset, .unset, .unset, .unset, .unset] [(.long (1 : Int64)), (.long (own_max u0 u1))])) (fun t_ k_ => XS.lconst X7.here hx rfl (hb hby at_99) k_) ?_
            refine own_st (B := T7.setTop (mkF m 101 #[.val (.long u0), .second, .val (.long u1), .second, .val (.long u2), .second, .val (.int u3), .val (.long (own_min u0 u1)), .second, .val (.long (own_max u0 u1)), .second, .val (.ref b4), .val (.int (u3 &&& (7 : Int32))), .unset, .unset, .unset, .unset, .unset] [(.long ((own_max u0 u1) - (1 : Int64)))])) (fun t_ k_ => XS.lsub X7.here hx rfl (hb hby at_100) rfl k_) ?_
            refine own_st (B := T7.setTop (mkF m 103 #[.val (.long u0), .second, .val (.long u1), .second, .val (.long u2), .second, .val (.int u3), .val (.long (own_min u0 u1)), .second, .val (.long (own_max u0 u1)), .second, .val (.ref b4), .val (.int (u3 &&& (7 : Int32))), .val (.long ((own_max u0 u1) - (1 : Int64))), .second, .unset, .unset, .unset] [])) (fun t_ k_ => XS.lstore X7.here hx rfl (hb hby at_101) rfl (l' := #[.val (.long u0), .second, .val (.long u1), .second, .val (.long u2), .second, .val (.int u3), .val (.long (own_min u0 u1)), .second, .val (.long (own_max u0 u1)), .second, .val (.ref b4), .val (.int (u3 &&& (7 : Int32))), .val (.long ((own_max u0 u1) - (1 : Int64))), .second, .unset, .unset, .unset]) rfl k_) ?_
            refine own_st (B := T7.setTop (mkF m 104 #[.val (.long u0), .second, .val (.long u1), .second, .val (.long u2), .second, .val (.int u3), .val (.long (own_min u0 u1)), .second, .val (.long (own_max u0 u1)), .second, .val (.ref b4), .val (.int (u3 &&& (7 : Int32))), .val (.long ((own_max u0 u1) - (1 : Int64))), .second, .unset, .unset, .unset] [(.int (1 : Int32))])) (fun t_ k_ => XS.iconst X7.here hx rfl (hb hby at_103) k_) ?_
            refine own_st (B := T7.setTop (mkF m 106 #[.val (.long u0), .second, .val (.long u1), .second, .val (.long u2), .second, .val (.int u3), .val (.long (own_min u0 u1)), .second, .val (.long (own_max u0 u1)), .second, .val (.ref b4), .val (.int (u3 &&& (7 : Int32))), .val (.long ((own_max u0 u1) - (1 : Int64))), .second, .val (.int (1 : Int32)), .unset, .unset] [])) (fun t_ k_ => XS.istore X7.here hx rfl (hb hby at_104) rfl (l' := #[.val (.long u0), .second, .val (.long u1), .second, .val (.long u2), .second, .val (.int u3), .val (.long (own_min u0 u1)), .second, .val (.long (own_max u0 u1)), .second, .val (.ref b4), .val (.int (u3 &&& (7 : Int32))), .val (.long ((own_max u0 u1) - (1 : Int64))), .second, .val (.int (1 : Int32)), .unset, .unset]) rfl k_) ?_
            refine own_st (B := T7.setTop (mkF m 160 #[.val (.long u0), .second, .val (.long u1), .second, .val (.long u2), .second, .val (.int u3), .val (.long (own_min u0 u1)), .second, .val (.long (own_max u0 u1)), .second, .val (.ref b4), .val (.int (u3 &&& (7 : Int32))), .val (.long ((own_max u0 u1) - (1 : Int64))), .second, .val (.int (1 : Int32)), .unset, .unset] [])) (fun t_ k_ => XS.goto X7.here hx rfl (pc0 := 106) (pc' := 160) rfl (hb hby at_106) (by decide) (by decide) k_) ?_
            refine own_st (B := T7.setTop (mkF m 162 #[.val (.long u0), .second, .val (.long u1), .second, .val (.long u2), .second, .val (.int u3), .val (.long (own_min u0 u1)), .second, .val (.long (own_max u0 u1)), .second, .val (.ref b4), .val (.int (u3 &&& (7 : Int32))), .val (.long ((own_max u0 u1) - (1 : Int64))), .second, .val (.int (1 : Int32)), .unset, .unset] [(.ref b4)])) (fun t_ k_ => XS.aload X7.here hx rfl (hb hby at_160) rfl rfl k_) ?_
            refine own_st (B := T7.setTop (mkF m 164 #[.val (.long u0), .second, .val (.long u1), .second, .val (.long u2), .second, .val (.int u3), .val (.long (own_min u0 u1)), .second, .val (.long (own_max u0 u1)), .second, .val (.ref b4), .val (.int (u3 &&& (7 : Int32))), .val (.long ((own_max u0 u1) - (1 : Int64))), .second, .val (.int (1 : Int32)), .unset, .unset] [(.long ((own_max u0 u1) - (1 : Int64))), (.ref b4)])) (fun t_ k_ => XS.lload X7.here hx rfl (hb hby at_162) rfl k_) ?_
            have u23 := A4.keep K7
            obtain ⟨cq22, kq22, q22a, q22b, q22c⟩ := isOf hZ rfl u23
            obtain ⟨_, _, ⟨T22, L22, k22, n22⟩, -, X22, ⟨Lc22, hQ22, l22, y22, z22⟩, st22⟩ := X7.virtualBack hx (y := (⟨"com/example/briareus/briareus/model/Interval", "contains", "(J)Z"⟩ : MethodName)) (z := (⟨"com/example/briareus/briareus/model/Interval", "contains", "(J)Z"⟩ : MethodName)) hown (mvT hZ (hw _ (List.mem_of_getElem? (i := 25) rfl))) (mvT hZ (hw _ (List.mem_of_getElem? (i := 26) rfl))) (notFace_of_selects (args := #[]) (mvT hZ (hw _ (List.mem_of_getElem? (i := 28) rfl)))) (mvT hZ (hw _ (List.mem_of_getElem? (i := 28) rfl))) (mvT hZ (hw _ (List.mem_of_getElem? (i := 27) rfl))) (by decide) (backOf (W := 0) (rm6 l Z a0 hw [] b4 (own_min u0 u1) (own_max u0 u1) ((own_max u0 u1) - (1 : Int64)) T7.heap n0 Z8 Fc7_0 Fc7_1) hZ (hw _ (List.mem_of_getElem? (i := 29) rfl)) (hw _ (List.mem_of_getElem? (i := 9) rfl)) (by decide) (by decide)) q22a q22c (g := (mkF m 164 #[.val (.long u0), .second, .val (.long u1), .second, .val (.long u2), .second, .val (.int u3), .val (.long (own_min u0 u1)), .second, .val (.long (own_max u0 u1)), .second, .val (.ref b4), .val (.int (u3 &&& (7 : Int32))), .val (.long ((own_max u0 u1) - (1 : Int64))), .second, .val (.int (1 : Int32)), .unset, .unset] [(.long ((own_max u0 u1) - (1 : Int64))), (.ref b4)])) rfl (by rw [hml]; rfl) (Steps.refl _) (argsL := [(.long ((own_max u0 u1) - (1 : Int64)))]) (rest := []) (lenOf own_pd3 rfl) rfl (by show 2 * 0 + _ ≤ _; exact Nat.le_of_eq rfl) (hb hby at_164) (fun _ _ => ⟨rfl, rfl, (by decide : 1 + 0 ≤ _), (by decide : 2 + 0 ≤ _)⟩)
            dsimp only [Pt.U, Pt.locs, Pt.cells, Pt.slots] at X22 l22 y22 z22 st22 hQ22
            subst l22 y22 z22
            obtain ⟨rfl, N22q, eh22⟩ := hQ22
            have N22 := Fr.app N7 N22q
            refine own_st (B := T22.setTop (mkF m 167 #[.val (.long u0), .second, .val (.long u1), .second, .val (.long u2), .second, .val (.int u3), .val (.long (own_min u0 u1)), .second, .val (.long (own_max u0 u1)), .second, .val (.ref b4), .val (.int (u3 &&& (7 : Int32))), .val (.long ((own_max u0 u1) - (1 : Int64))), .second, .val (.int (1 : Int32)), .unset, .unset] [(.int (own_b (own_con (own_min u0 u1) (own_max u0 u1) ((own_max u0 u1) - (1 : Int64)))))])) (fun t_ k_ => st22.trans k_) ?_
            refine own_st (B := T22.setTop (mkF m 169 #[.val (.long u0), .second, .val (.long u1), .second, .val (.long u2), .second, .val (.int u3), .val (.long (own_min u0 u1)), .second, .val (.long (own_max u0 u1)), .second, .val (.ref b4), .val (.int (u3 &&& (7 : Int32))), .val (.long ((own_max u0 u1) - (1 : Int64))), .second, .val (.int (1 : Int32)), .unset, .unset] [(.int (1 : Int32)), (.int (own_b (own_con (own_min u0 u1) (own_max u0 u1) ((own_max u0 u1) - (1 : Int64)))))])) (fun t_ k_ => XS.iload X22.here hx rfl (hb hby at_167) rfl k_) ?_
            have hc24 : (own_b (own_con (own_min u0 u1) (own_max u0 u1) ((own_max u0 u1) - (1 : Int64)))) = (1 : Int32) := by
                have q0 := own_lt64 (own_mm hc1)
                have q1 := c_lsub (own_min u0 u1) 1; have q2 := c_lsub (own_max u0 u1) 1; rw [show (1 : Int64).toInt = 1 from rfl] at q1 q2
                have q3 := rng64 (own_min u0 u1 - 1); have q4 := rng64 (own_max u0 u1 - 1); have q5 := rng64 (own_min u0 u1); have q6 := rng64 (own_max u0 u1)
                unfold own_con; exact own_b1 (by omega)
            have hd24 := own_eq32 hc24
            rw [show (1 : Int32).toInt = 1 from rfl] at hd24
            refine own_st (B := T22.setTop (mkF m 172 #[.val (.long u0), .second, .val (.long u1), .second, .val (.long u2), .second, .val (.int u3), .val (.long (own_min u0 u1)), .second, .val (.long (own_max u0 u1)), .second, .val (.ref b4), .val (.int (u3 &&& (7 : Int32))), .val (.long ((own_max u0 u1) - (1 : Int64))), .second, .val (.int (1 : Int32)), .unset, .unset] [])) (fun t_ k_ => XS.icmpNo X22.here hx rfl (hb hby at_169) rfl (teq hc24).2 k_) ?_
            refine own_st (B := T22.setTop (mkF m 173 #[.val (.long u0), .second, .val (.long u1), .second, .val (.long u2), .second, .val (.int u3), .val (.long (own_min u0 u1)), .second, .val (.long (own_max u0 u1)), .second, .val (.ref b4), .val (.int (u3 &&& (7 : Int32))), .val (.long ((own_max u0 u1) - (1 : Int64))), .second, .val (.int (1 : Int32)), .unset, .unset] [(.int (1 : Int32))])) (fun t_ k_ => XS.iconst X22.here hx rfl (hb hby at_172) k_) ?_
            refine own_st (B := T22.setTop (mkF m 177 #[.val (.long u0), .second, .val (.long u1), .second, .val (.long u2), .second, .val (.int u3), .val (.long (own_min u0 u1)), .second, .val (.long (own_max u0 u1)), .second, .val (.ref b4), .val (.int (u3 &&& (7 : Int32))), .val (.long ((own_max u0 u1) - (1 : Int64))), .second, .val (.int (1 : Int32)), .unset, .unset] [(.int (1 : Int32))])) (fun t_ k_ => XS.goto X22.here hx rfl (pc0 := 173) (pc' := 177) rfl (hb hby at_173) (by decide) (by decide) k_) ?_
            refine own_retN X22 hx (t := .boolean) Bd.returns (by simp) hlk (hb hby at_177) (z' := (1 : Int32)) (by first | rfl | exact own_nb _ | exact own_nbb _) (by decide) (by decide) ?_
            show Q0 Z u0 u1 u2 u3 h0 n0 _ T22.heap _
            rw [eh22]
            exact ⟨rfl, N22⟩
          · have hd21 := own_neq32 hc21
            rw [show (3 : Int32).toInt = 3 from rfl] at hd21
            refine own_st (B := T7.setTop (mkF m 109 #[.val (.long u0), .second, .val (.long u1), .second, .val (.long u2), .second, .val (.int u3), .val (.long (own_min u0 u1)), .second, .val (.long (own_max u0 u1)), .second, .val (.ref b4), .val (.int (u3 &&& (7 : Int32))), .unset, .unset, .unset, .unset, .unset] [])) (fun t_ k_ => XS.icmpYes X7.here hx rfl (pc0 := 94) (pc' := 109) rfl (hb hby at_94) rfl (feq hc21).2 (by decide) (by decide) k_) ?_
            refine own_st (B := T7.setTop (mkF m 111 #[.val (.long u0), .second, .val (.long u1), .second, .val (.long u2), .second, .val (.int u3), .val (.long (own_min u0 u1)), .second, .val (.long (own_max u0 u1)), .second, .val (.ref b4), .val (.int (u3 &&& (7 : Int32))), .unset, .unset, .unset, .unset, .unset] [(.long u2)])) (fun t_ k_ => XS.lload X7.here hx rfl (hb hby at_109) rfl k_) ?_
            refine own_st (B := T7.setTop (mkF m 113 #[.val (.long u0), .second, .val (.long u1), .second, .val (.long u2), .second, .val (.int u3), .val (.long (own_min u0 u1)), .second, .val (.long (own_max u0 u1)), .second, .val (.ref b4), .val (.int (u3 &&& (7 : Int32))), .val (.long u2), .second, .unset, .unset, .unset] [])) (fun t_ k_ => XS.lstore X7.here hx rfl (hb hby at_111) rfl (l' := #[.val (.long u0), .second, .val (.long u1), .second, .val (.long u2), .second, .val (.int u3), .val (.long (own_min u0 u1)), .second, .val (.long (own_max u0 u1)), .second, .val (.ref b4), .val (.int (u3 &&& (7 : Int32))), .val (.long u2), .second, .unset, .unset, .unset]) rfl k_) ?_
            refine own_st (B := T7.setTop (mkF m 115 #[.val (.long u0), .second, .val (.long u1), .second, .val (.long u2), .second, .val (.int u3), .val (.long (own_min u0 u1)), .second, .val (.long (own_max u0 u1)), .second, .val (.ref b4), .val (.int (u3 &&& (7 : Int32))), .val (.long u2), .second, .unset, .unset, .unset] [(.long u2)])) (fun t_ k_ => XS.lload X7.here hx rfl (hb hby at_113) rfl k_) ?_
            refine own_st (B := T7.setTop (mkF m 117 #[.val (.long u0), .second, .val (.long u1), .second, .val (.long u2), .second, .val (.int u3), .val (.long (own_min u0 u1)), .second, .val (.long (own_max u0 u1)), .second, .val (.ref b4), .val (.int (u3 &&& (7 : Int32))), .val (.long u2), .second, .unset, .unset, .unset] [(.long (own_min u0 u1)), (.long u2)])) (fun t_ k_ => XS.lload X7.here hx rfl (hb hby at_115) rfl k_) ?_
            refine own_st (B := T7.setTop (mkF m 118 #[.val (.long u0), .second, .val (.long u1), .second, .val (.long u2), .second, .val (.int u3), .val (.long (own_min u0 u1)), .second, .val (.long (own_max u0 u1)), .second, .val (.ref b4), .val (.int (u3 &&& (7 : Int32))), .val (.long u2), .second, .unset, .unset, .unset] [(.int (lcmpW u2 (own_min u0 u1)))])) (fun t_ k_ => XS.lcmp X7.here hx rfl (hb hby at_117) rfl k_) ?_
            by_cases hc25 : u2 < (own_min u0 u1)
            · have hd25 := own_lt64 hc25
              refine own_st (B := T7.setTop (mkF m 121 #[.val (.long u0), .second, .val (.long u1), .second, .val (.long u2), .second, .val (.int u3), .val (.long (own_min u0 u1)), .second, .val (.long (own_max u0 u1)), .second, .val (.ref b4), .val (.int (u3 &&& (7 : Int32))), .val (.long u2), .second, .unset, .unset, .unset] [])) (fun t_ k_ => XS.ifNo X7.here hx rfl (hb hby at_118) rfl ((if0 _ _).trans (tlt ((lw_lt _ _).mpr hc25)).2.1) k_) ?_
              refine own_st (B := T7.setTop (mkF m 122 #[.val (.long u0), .second, .val (.long u1), .second, .val (.long u2), .second, .val (.int u3), .val (.long (own_min u0 u1)), .second, .val (.long (own_max u0 u1)), .second, .val (.ref b4), .val (.int (u3 &&& (7 : Int32))), .val (.long u2), .second, .unset, .unset, .unset] [(.int (1 : Int32))])) (fun t_ k_ => XS.iconst X7.here hx rfl (hb hby at_121) k_) ?_
              refine own_st (B := T7.setTop (mkF m 126 #[.val (.long u0), .second, .val (.long u1), .second, .val (.long u2), .second, .val (.int u3), .val (.long (own_min u0 u1)), .second, .val (.long (own_max u0 u1)), .second, .val (.ref b4), .val (.int (u3 &&& (7 : Int32))), .val (.long u2), .second, .unset, .unset, .unset] [(.int (1 : Int32))])) (fun t_ k_ => XS.goto X7.here hx rfl (pc0 := 122) (pc' := 126) rfl (hb hby at_122) (by decide) (by decide) k_) ?_
              refine own_st (B := T7.setTop (mkF m 128 #[.val (.long u0), .second, .val (.long u1), .second, .val (.long u2), .second, .val (.int u3), .val (.long (own_min u0 u1)), .second, .val (.long (own_max u0 u1)), .second, .val (.ref b4), .val (.int (u3 &&& (7 : Int32))), .val (.long u2), .second, .unset, .val (.int (1 : Int32)), .unset] [])) (fun t_ k_ => XS.istore X7.here hx rfl (hb hby at_126) rfl (l' := #[.val (.long u0), .second, .val (.long u1), .second, .val (.long u2), .second, .val (.int u3), .val (.long (own_min u0 u1)), .second, .val (.long (own_max u0 u1)), .second, .val (.ref b4), .val (.int (u3 &&& (7 : Int32))), .val (.long u2), .second, .unset, .val (.int (1 : Int32)), .unset]) rfl k_) ?_
              refine own_st (B := T7.setTop (mkF m 130 #[.val (.long u0), .second, .val (.long u1), .second, .val (.long u2), .second, .val (.int u3), .val (.long (own_min u0 u1)), .second, .val (.long (own_max u0 u1)), .second, .val (.ref b4), .val (.int (u3 &&& (7 : Int32))), .val (.long u2), .second, .unset, .val (.int (1 : Int32)), .unset] [(.long u2)])) (fun t_ k_ => XS.lload X7.here hx rfl (hb hby at_128) rfl k_) ?_
              refine own_st (B := T7.setTop (mkF m 132 #[.val (.long u0), .second, .val (.long u1), .second, .val (.long u2), .second, .val (.int u3), .val (.long (own_min u0 u1)), .second, .val (.long (own_max u0 u1)), .second, .val (.ref b4), .val (.int (u3 &&& (7 : Int32))), .val (.long u2), .second, .unset, .val (.int (1 : Int32)), .unset] [(.long (own_max u0 u1)), (.long u2)])) (fun t_ k_ => XS.lload X7.here hx rfl (hb hby at_130) rfl k_) ?_
              refine own_st (B := T7.setTop (mkF m 133 #[.val (.long u0), .second, .val (.long u1), .second, .val (.long u2), .second, .val (.int u3), .val (.long (own_min u0 u1)), .second, .val (.long (own_max u0 u1)), .second, .val (.ref b4), .val (.int (u3 &&& (7 : Int32))), .val (.long u2), .second, .unset, .val (.int (1 : Int32)), .unset] [(.int (lcmpW u2 (own_max u0 u1)))])) (fun t_ k_ => XS.lcmp X7.here hx rfl (hb hby at_132) rfl k_) ?_
              by_cases hc26 : u2 < (own_max u0 u1)
              · have hd26 := own_lt64 hc26
                refine own_st (B := T7.setTop (mkF m 140 #[.val (.long u0), .second, .val (.long u1), .second, .val (.long u2), .second, .val (.int u3), .val (.long (own_min u0 u1)), .second, .val (.long (own_max u0 u1)), .second, .val (.ref b4), .val (.int (u3 &&& (7 : Int32))), .val (.long u2), .second, .unset, .val (.int (1 : Int32)), .unset] [])) (fun t_ k_ => XS.ifYes X7.here hx rfl (pc0 := 133) (pc' := 140) rfl (hb hby at_133) rfl ((if0 _ _).trans (tlt ((lw_lt _ _).mpr hc26)).1) (by decide) (by decide) k_) ?_
                refine own_st (B := T7.setTop (mkF m 141 #[.val (.long u0), .second, .val (.long u1), .second, .val (.long u2), .second, .val (.int u3), .val (.long (own_min u0 u1)), .second, .val (.long (own_max u0 u1)), .second, .val (.ref b4), .val (.int (u3 &&& (7 : Int32))), .val (.long u2), .second, .unset, .val (.int (1 : Int32)), .unset] [(.int (0 : Int32))])) (fun t_ k_ => XS.iconst X7.here hx rfl (hb hby at_140) k_) ?_
                refine own_st (B := T7.setTop (mkF m 143 #[.val (.long u0), .second, .val (.long u1), .second, .val (.long u2), .second, .val (.int u3), .val (.long (own_min u0 u1)), .second, .val (.long (own_max u0 u1)), .second, .val (.ref b4), .val (.int (u3 &&& (7 : Int32))), .val (.long u2), .second, .unset, .val (.int (1 : Int32)), .val (.int (0 : Int32))] [])) (fun t_ k_ => XS.istore X7.here hx rfl (hb hby at_141) rfl (l' := #[.val (.long u0), .second, .val (.long u1), .second, .val (.long u2), .second, .val (.int u3), .val (.long (own_min u0 u1)), .second, .val (.long (own_max u0 u1)), .second, .val (.ref b4), .val (.int (u3 &&& (7 : Int32))), .val (.long u2), .second, .unset, .val (.int (1 : Int32)), .val (.int (0 : Int32))]) rfl k_) ?_
                refine own_st (B := T7.setTop (mkF m 145 #[.val (.long u0), .second, .val (.long u1), .second, .val (.long u2), .second, .val (.int u3), .val (.long (own_min u0 u1)), .second, .val (.long (own_max u0 u1)), .second, .val (.ref b4), .val (.int (u3 &&& (7 : Int32))), .val (.long u2), .second, .unset, .val (.int (1 : Int32)), .val (.int (0 : Int32))] [(.int (1 : Int32))])) (fun t_ k_ => XS.iload X7.here hx rfl (hb hby at_143) rfl k_) ?_
                refine own_st (B := T7.setTop (mkF m 157 #[.val (.long u0), .second, .val (.long u1), .second, .val (.long u2), .second, .val (.int u3), .val (.long (own_min u0 u1)), .second, .val (.long (own_max u0 u1)), .second, .val (.ref b4), .val (.int (u3 &&& (7 : Int32))), .val (.long u2), .second, .unset, .val (.int (1 : Int32)), .val (.int (0 : Int32))] [])) (fun t_ k_ => XS.ifYes X7.here hx rfl (pc0 := 145) (pc' := 157) rfl (hb hby at_145) rfl ((if0 _ _).trans (feq (by decide : ¬ ((1 : Int32) = (0 : Int32)))).2) (by decide) (by decide) k_) ?_
                refine own_st (B := T7.setTop (mkF m 158 #[.val (.long u0), .second, .val (.long u1), .second, .val (.long u2), .second, .val (.int u3), .val (.long (own_min u0 u1)), .second, .val (.long (own_max u0 u1)), .second, .val (.ref b4), .val (.int (u3 &&& (7 : Int32))), .val (.long u2), .second, .unset, .val (.int (1 : Int32)), .val (.int (0 : Int32))] [(.int (0 : Int32))])) (fun t_ k_ => XS.iconst X7.here hx rfl (hb hby at_157) k_) ?_
                refine own_st (B := T7.setTop (mkF m 160 #[.val (.long u0), .second, .val (.long u1), .second, .val (.long u2), .second, .val (.int u3), .val (.long (own_min u0 u1)), .second, .val (.long (own_max u0 u1)), .second, .val (.ref b4), .val (.int (u3 &&& (7 : Int32))), .val (.long u2), .second, .val (.int (0 : Int32)), .val (.int (1 : Int32)), .val (.int (0 : Int32))] [])) (fun t_ k_ => XS.istore X7.here hx rfl (hb hby at_158) rfl (l' := #[.val (.long u0), .second, .val (.long u1), .second, .val (.long u2), .second, .val (.int u3), .val (.long (own_min u0 u1)), .second, .val (.long (own_max u0 u1)), .second, .val (.ref b4), .val (.int (u3 &&& (7 : Int32))), .val (.long u2), .second, .val (.int (0 : Int32)), .val (.int (1 : Int32)), .val (.int (0 : Int32))]) rfl k_) ?_
                refine own_st (B := T7.setTop (mkF m 162 #[.val (.long u0), .second, .val (.long u1), .second, .val (.long u2), .second, .val (.int u3), .val (.long (own_min u0 u1)), .second, .val (.long (own_max u0 u1)), .second, .val (.ref b4), .val (.int (u3 &&& (7 : Int32))), .val (.long u2), .second, .val (.int (0 : Int32)), .val (.int (1 : Int32)), .val (.int (0 : Int32))] [(.ref b4)])) (fun t_ k_ => XS.aload X7.here hx rfl (hb hby at_160) rfl rfl k_) ?_
                refine own_st (B := T7.setTop (mkF m 164 #[.val (.long u0), .second, .val (.long u1), .second, .val (.long u2), .second, .val (.int u3), .val (.long (own_min u0 u1)), .second, .val (.long (own_max u0 u1)), .second, .val (.ref b4), .val (.int (u3 &&& (7 : Int32))), .val (.long u2), .second, .val (.int (0 : Int32)), .val (.int (1 : Int32)), .val (.int (0 : Int32))] [(.long u2), (.ref b4)])) (fun t_ k_ => XS.lload X7.here hx rfl (hb hby at_162) rfl k_) ?_
                have u28 := A4.keep K7
                obtain ⟨cq27, kq27, q27a, q27b, q27c⟩ := isOf hZ rfl u28
                obtain ⟨_, _, ⟨T27, L27, k27, n27⟩, -, X27, ⟨Lc27, hQ27, l27, y27, z27⟩, st27⟩ := X7.virtualBack hx (y := (⟨"com/example/briareus/briareus/model/Interval", "contains", "(J)Z"⟩ : MethodName)) (z := (⟨"com/example/briareus/briareus/model/Interval", "contains", "(J)Z"⟩ : MethodName)) hown (mvT hZ (hw _ (List.mem_of_getElem? (i := 25) rfl))) (mvT hZ (hw _ (List.mem_of_getElem? (i := 26) rfl))) (notFace_of_selects (args := #[]) (mvT hZ (hw _ (List.mem_of_getElem? (i := 28) rfl)))) (mvT hZ (hw _ (List.mem_of_getElem? (i := 28) rfl))) (mvT hZ (hw _ (List.mem_of_getElem? (i := 27) rfl))) (by decide) (backOf (W := 0) (rm6 l Z a0 hw [] b4 (own_min u0 u1) (own_max u0 u1) u2 T7.heap n0 Z8 Fc7_0 Fc7_1) hZ (hw _ (List.mem_of_getElem? (i := 29) rfl)) (hw _ (List.mem_of_getElem? (i := 9) rfl)) (by decide) (by decide)) q27a q27c (g := (mkF m 164 #[.val (.long u0), .second, .val (.long u1), .second, .val (.long u2), .second, .val (.int u3), .val (.long (own_min u0 u1)), .second, .val (.long (own_max u0 u1)), .second, .val (.ref b4), .val (.int (u3 &&& (7 : Int32))), .val (.long u2), .second, .val (.int (0 : Int32)), .val (.int (1 : Int32)), .val (.int (0 : Int32))] [(.long u2), (.ref b4)])) rfl (by rw [hml]; rfl) (Steps.refl _) (argsL := [(.long u2)]) (rest := []) (lenOf own_pd3 rfl) rfl (by show 2 * 0 + _ ≤ _; exact Nat.le_of_eq rfl) (hb hby at_164) (fun _ _ => ⟨rfl, rfl, (by decide : 1 + 0 ≤ _), (by decide : 2 + 0 ≤ _)⟩)
                dsimp only [Pt.U, Pt.locs, Pt.cells, Pt.slots] at X27 l27 y27 z27 st27 hQ27
                subst l27 y27 z27
                obtain ⟨rfl, N27q, eh27⟩ := hQ27
                have N27 := Fr.app N7 N27q
                refine own_st (B := T27.setTop (mkF m 167 #[.val (.long u0), .second, .val (.long u1), .second, .val (.long u2), .second, .val (.int u3), .val (.long (own_min u0 u1)), .second, .val (.long (own_max u0 u1)), .second, .val (.ref b4), .val (.int (u3 &&& (7 : Int32))), .val (.long u2), .second, .val (.int (0 : Int32)), .val (.int (1 : Int32)), .val (.int (0 : Int32))] [(.int (own_b (own_con (own_min u0 u1) (own_max u0 u1) u2)))])) (fun t_ k_ => st27.trans k_) ?_
                refine own_st (B := T27.setTop (mkF m 169 #[.val (.long u0), .second, .val (.long u1), .second, .val (.long u2), .second, .val (.int u3), .val (.long (own_min u0 u1)), .second, .val (.long (own_max u0 u1)), .second, .val (.ref b4), .val (.int (u3 &&& (7 : Int32))), .val (.long u2), .second, .val (.int (0 : Int32)), .val (.int (1 : Int32)), .val (.int (0 : Int32))] [(.int (0 : Int32)), (.int (own_b (own_con (own_min u0 u1) (own_max u0 u1) u2)))])) (fun t_ k_ => XS.iload X27.here hx rfl (hb hby at_167) rfl k_) ?_
                have hc29 : (own_b (own_con (own_min u0 u1) (own_max u0 u1) u2)) = (0 : Int32) := by
                    have q0 := own_lt64 (own_mm hc1)
                    have q1 := c_lsub (own_min u0 u1) 1; have q2 := c_lsub (own_max u0 u1) 1; rw [show (1 : Int64).toInt = 1 from rfl] at q1 q2
                    have q3 := rng64 (own_min u0 u1 - 1); have q4 := rng64 (own_max u0 u1 - 1); have q5 := rng64 (own_min u0 u1); have q6 := rng64 (own_max u0 u1)
                    unfold own_con; exact own_bz (by omega)
                have hd29 := own_eq32 hc29
                rw [show (0 : Int32).toInt = 0 from rfl] at hd29
                refine own_st (B := T27.setTop (mkF m 172 #[.val (.long u0), .second, .val (.long u1), .second, .val (.long u2), .second, .val (.int u3), .val (.long (own_min u0 u1)), .second, .val (.long (own_max u0 u1)), .second, .val (.ref b4), .val (.int (u3 &&& (7 : Int32))), .val (.long u2), .second, .val (.int (0 : Int32)), .val (.int (1 : Int32)), .val (.int (0 : Int32))] [])) (fun t_ k_ => XS.icmpNo X27.here hx rfl (hb hby at_169) rfl (teq hc29).2 k_) ?_
                refine own_st (B := T27.setTop (mkF m 173 #[.val (.long u0), .second, .val (.long u1), .second, .val (.long u2), .second, .val (.int u3), .val (.long (own_min u0 u1)), .second, .val (.long (own_max u0 u1)), .second, .val (.ref b4), .val (.int (u3 &&& (7 : Int32))), .val (.long u2), .second, .val (.int (0 : Int32)), .val (.int (1 : Int32)), .val (.int (0 : Int32))] [(.int (1 : Int32))])) (fun t_ k_ => XS.iconst X27.here hx rfl (hb hby at_172) k_) ?_
                refine own_st (B := T27.setTop (mkF m 177 #[.val (.long u0), .second, .val (.long u1), .second, .val (.long u2), .second, .val (.int u3), .val (.long (own_min u0 u1)), .second, .val (.long (own_max u0 u1)), .second, .val (.ref b4), .val (.int (u3 &&& (7 : Int32))), .val (.long u2), .second, .val (.int (0 : Int32)), .val (.int (1 : Int32)), .val (.int (0 : Int32))] [(.int (1 : Int32))])) (fun t_ k_ => XS.goto X27.here hx rfl (pc0 := 173) (pc' := 177) rfl (hb hby at_173) (by decide) (by decide) k_) ?_
                refine own_retN X27 hx (t := .boolean) Bd.returns (by simp) hlk (hb hby at_177) (z' := (1 : Int32)) (by first | rfl | exact own_nb _ | exact own_nbb _) (by decide) (by decide) ?_
                show Q0 Z u0 u1 u2 u3 h0 n0 _ T27.heap _
                rw [eh27]
                exact ⟨rfl, N27⟩
              · have hd26 := own_nlt64 hc26
                refine own_st (B := T7.setTop (mkF m 136 #[.val (.long u0), .second, .val (.long u1), .second, .val (.long u2), .second, .val (.int u3), .val (.long (own_min u0 u1)), .second, .val (.long (own_max u0 u1)), .second, .val (.ref b4), .val (.int (u3 &&& (7 : Int32))), .val (.long u2), .second, .unset, .val (.int (1 : Int32)), .unset] [])) (fun t_ k_ => XS.ifNo X7.here hx rfl (hb hby at_133) rfl ((if0 _ _).trans (flt (fun q => hc26 ((lw_lt _ _).mp q))).1) k_) ?_
                refine own_st (B := T7.setTop (mkF m 137 #[.val (.long u0), .second, .val (.long u1), .second, .val (.long u2), .second, .val (.int u3), .val (.long (own_min u0 u1)), .second, .val (.long (own_max u0 u1)), .second, .val (.ref b4), .val (.int (u3 &&& (7 : Int32))), .val (.long u2), .second, .unset, .val (.int (1 : Int32)), .unset] [(.int (1 : Int32))])) (fun t_ k_ => XS.iconst X7.here hx rfl (hb hby at_136) k_) ?_
                refine own_st (B := T7.setTop (mkF m 141 #[.val (.long u0), .second, .val (.long u1), .second, .val (.long u2), .second, .val (.int u3), .val (.long (own_min u0 u1)), .second, .val (.long (own_max u0 u1)), .second, .val (.ref b4), .val (.int (u3 &&& (7 : Int32))), .val (.long u2), .second, .unset, .val (.int (1 : Int32)), .unset] [(.int (1 : Int32))])) (fun t_ k_ => XS.goto X7.here hx rfl (pc0 := 137) (pc' := 141) rfl (hb hby at_137) (by decide) (by decide) k_) ?_
                refine own_st (B := T7.setTop (mkF m 143 #[.val (.long u0), .second, .val (.long u1), .second, .val (.long u2), .second, .val (.int u3), .val (.long (own_min u0 u1)), .second, .val (.long (own_max u0 u1)), .second, .val (.ref b4), .val (.int (u3 &&& (7 : Int32))), .val (.long u2), .second, .unset, .val (.int (1 : Int32)), .val (.int (1 : Int32))] [])) (fun t_ k_ => XS.istore X7.here hx rfl (hb hby at_141) rfl (l' := #[.val (.long u0), .second, .val (.long u1), .second, .val (.long u2), .second, .val (.int u3), .val (.long (own_min u0 u1)), .second, .val (.long (own_max u0 u1)), .second, .val (.ref b4), .val (.int (u3 &&& (7 : Int32))), .val (.long u2), .second, .unset, .val (.int (1 : Int32)), .val (.int (1 : Int32))]) rfl k_) ?_
                refine own_st (B := T7.setTop (mkF m 145 #[.val (.long u0), .second, .val (.long u1), .second, .val (.long u2), .second, .val (.int u3), .val (.long (own_min u0 u1)), .second, .val (.long (own_max u0 u1)), .second, .val (.ref b4), .val (.int (u3 &&& (7 : Int32))), .val (.long u2), .second, .unset, .val (.int (1 : Int32)), .val (.int (1 : Int32))] [(.int (1 : Int32))])) (fun t_ k_ => XS.iload X7.here hx rfl (hb hby at_143) rfl k_) ?_
                refine own_st (B := T7.setTop (mkF m 157 #[.val (.long u0), .second, .val (.long u1), .second, .val (.long u2), .second, .val (.int u3), .val (.long (own_min u0 u1)), .second, .val (.long (own_max u0 u1)), .second, .val (.ref b4), .val (.int (u3 &&& (7 : Int32))), .val (.long u2), .second, .unset, .val (.int (1 : Int32)), .val (.int (1 : Int32))] [])) (fun t_ k_ => XS.ifYes X7.here hx rfl (pc0 := 145) (pc' := 157) rfl (hb hby at_145) rfl ((if0 _ _).trans (feq (by decide : ¬ ((1 : Int32) = (0 : Int32)))).2) (by decide) (by decide) k_) ?_
                refine own_st (B := T7.setTop (mkF m 158 #[.val (.long u0), .second, .val (.long u1), .second, .val (.long u2), .second, .val (.int u3), .val (.long (own_min u0 u1)), .second, .val (.long (own_max u0 u1)), .second, .val (.ref b4), .val (.int (u3 &&& (7 : Int32))), .val (.long u2), .second, .unset, .val (.int (1 : Int32)), .val (.int (1 : Int32))] [(.int (0 : Int32))])) (fun t_ k_ => XS.iconst X7.here hx rfl (hb hby at_157) k_) ?_
                refine own_st (B := T7.setTop (mkF m 160 #[.val (.long u0), .second, .val (.long u1), .second, .val (.long u2), .second, .val (.int u3), .val (.long (own_min u0 u1)), .second, .val (.long (own_max u0 u1)), .second, .val (.ref b4), .val (.int (u3 &&& (7 : Int32))), .val (.long u2), .second, .val (.int (0 : Int32)), .val (.int (1 : Int32)), .val (.int (1 : Int32))] [])) (fun t_ k_ => XS.istore X7.here hx rfl (hb hby at_158) rfl (l' := #[.val (.long u0), .second, .val (.long u1), .second, .val (.long u2), .second, .val (.int u3), .val (.long (own_min u0 u1)), .second, .val (.long (own_max u0 u1)), .second, .val (.ref b4), .val (.int (u3 &&& (7 : Int32))), .val (.long u2), .second, .val (.int (0 : Int32)), .val (.int (1 : Int32)), .val (.int (1 : Int32))]) rfl k_) ?_
                refine own_st (B := T7.setTop (mkF m 162 #[.val (.long u0), .second, .val (.long u1), .second, .val (.long u2), .second, .val (.int u3), .val (.long (own_min u0 u1)), .second, .val (.long (own_max u0 u1)), .second, .val (.ref b4), .val (.int (u3 &&& (7 : Int32))), .val (.long u2), .second, .val (.int (0 : Int32)), .val (.int (1 : Int32)), .val (.int (1 : Int32))] [(.ref b4)])) (fun t_ k_ => XS.aload X7.here hx rfl (hb hby at_160) rfl rfl k_) ?_
                refine own_st (B := T7.setTop (mkF m 164 #[.val (.long u0), .second, .val (.long u1), .second, .val (.long u2), .second, .val (.int u3), .val (.long (own_min u0 u1)), .second, .val (.long (own_max u0 u1)), .second, .val (.ref b4), .val (.int (u3 &&& (7 : Int32))), .val (.long u2), .second, .val (.int (0 : Int32)), .val (.int (1 : Int32)), .val (.int (1 : Int32))] [(.long u2), (.ref b4)])) (fun t_ k_ => XS.lload X7.here hx rfl (hb hby at_162) rfl k_) ?_
                have u31 := A4.keep K7
                obtain ⟨cq30, kq30, q30a, q30b, q30c⟩ := isOf hZ rfl u31
                obtain ⟨_, _, ⟨T30, L30, k30, n30⟩, -, X30, ⟨Lc30, hQ30, l30, y30, z30⟩, st30⟩ := X7.virtualBack hx (y := (⟨"com/example/briareus/briareus/model/Interval", "contains", "(J)Z"⟩ : MethodName)) (z := (⟨"com/example/briareus/briareus/model/Interval", "contains", "(J)Z"⟩ : MethodName)) hown (mvT hZ (hw _ (List.mem_of_getElem? (i := 25) rfl))) (mvT hZ (hw _ (List.mem_of_getElem? (i := 26) rfl))) (notFace_of_selects (args := #[]) (mvT hZ (hw _ (List.mem_of_getElem? (i := 28) rfl)))) (mvT hZ (hw _ (List.mem_of_getElem? (i := 28) rfl))) (mvT hZ (hw _ (List.mem_of_getElem? (i := 27) rfl))) (by decide) (backOf (W := 0) (rm6 l Z a0 hw [] b4 (own_min u0 u1) (own_max u0 u1) u2 T7.heap n0 Z8 Fc7_0 Fc7_1) hZ (hw _ (List.mem_of_getElem? (i := 29) rfl)) (hw _ (List.mem_of_getElem? (i := 9) rfl)) (by decide) (by decide)) q30a q30c (g := (mkF m 164 #[.val (.long u0), .second, .val (.long u1), .second, .val (.long u2), .second, .val (.int u3), .val (.long (own_min u0 u1)), .second, .val (.long (own_max u0 u1)), .second, .val (.ref b4), .val (.int (u3 &&& (7 : Int32))), .val (.long u2), .second, .val (.int (0 : Int32)), .val (.int (1 : Int32)), .val (.int (1 : Int32))] [(.long u2), (.ref b4)])) rfl (by rw [hml]; rfl) (Steps.refl _) (argsL := [(.long u2)]) (rest := []) (lenOf own_pd3 rfl) rfl (by show 2 * 0 + _ ≤ _; exact Nat.le_of_eq rfl) (hb hby at_164) (fun _ _ => ⟨rfl, rfl, (by decide : 1 + 0 ≤ _), (by decide : 2 + 0 ≤ _)⟩)
                dsimp only [Pt.U, Pt.locs, Pt.cells, Pt.slots] at X30 l30 y30 z30 st30 hQ30
                subst l30 y30 z30
                obtain ⟨rfl, N30q, eh30⟩ := hQ30
                have N30 := Fr.app N7 N30q
                refine own_st (B := T30.setTop (mkF m 167 #[.val (.long u0), .second, .val (.long u1), .second, .val (.long u2), .second, .val (.int u3), .val (.long (own_min u0 u1)), .second, .val (.long (own_max u0 u1)), .second, .val (.ref b4), .val (.int (u3 &&& (7 : Int32))), .val (.long u2), .second, .val (.int (0 : Int32)), .val (.int (1 : Int32)), .val (.int (1 : Int32))] [(.int (own_b (own_con (own_min u0 u1) (own_max u0 u1) u2)))])) (fun t_ k_ => st30.trans k_) ?_
                refine own_st (B := T30.setTop (mkF m 169 #[.val (.long u0), .second, .val (.long u1), .second, .val (.long u2), .second, .val (.int u3), .val (.long (own_min u0 u1)), .second, .val (.long (own_max u0 u1)), .second, .val (.ref b4), .val (.int (u3 &&& (7 : Int32))), .val (.long u2), .second, .val (.int (0 : Int32)), .val (.int (1 : Int32)), .val (.int (1 : Int32))] [(.int (0 : Int32)), (.int (own_b (own_con (own_min u0 u1) (own_max u0 u1) u2)))])) (fun t_ k_ => XS.iload X30.here hx rfl (hb hby at_167) rfl k_) ?_
                have hc32 : (own_b (own_con (own_min u0 u1) (own_max u0 u1) u2)) = (0 : Int32) := by
                    have q0 := own_lt64 (own_mm hc1)
                    have q1 := c_lsub (own_min u0 u1) 1; have q2 := c_lsub (own_max u0 u1) 1; rw [show (1 : Int64).toInt = 1 from rfl] at q1 q2
                    have q3 := rng64 (own_min u0 u1 - 1); have q4 := rng64 (own_max u0 u1 - 1); have q5 := rng64 (own_min u0 u1); have q6 := rng64 (own_max u0 u1)
                    unfold own_con; exact own_bz (by omega)
                have hd32 := own_eq32 hc32
                rw [show (0 : Int32).toInt = 0 from rfl] at hd32
                refine own_st (B := T30.setTop (mkF m 172 #[.val (.long u0), .second, .val (.long u1), .second, .val (.long u2), .second, .val (.int u3), .val (.long (own_min u0 u1)), .second, .val (.long (own_max u0 u1)), .second, .val (.ref b4), .val (.int (u3 &&& (7 : Int32))), .val (.long u2), .second, .val (.int (0 : Int32)), .val (.int (1 : Int32)), .val (.int (1 : Int32))] [])) (fun t_ k_ => XS.icmpNo X30.here hx rfl (hb hby at_169) rfl (teq hc32).2 k_) ?_
                refine own_st (B := T30.setTop (mkF m 173 #[.val (.long u0), .second, .val (.long u1), .second, .val (.long u2), .second, .val (.int u3), .val (.long (own_min u0 u1)), .second, .val (.long (own_max u0 u1)), .second, .val (.ref b4), .val (.int (u3 &&& (7 : Int32))), .val (.long u2), .second, .val (.int (0 : Int32)), .val (.int (1 : Int32)), .val (.int (1 : Int32))] [(.int (1 : Int32))])) (fun t_ k_ => XS.iconst X30.here hx rfl (hb hby at_172) k_) ?_
                refine own_st (B := T30.setTop (mkF m 177 #[.val (.long u0), .second, .val (.long u1), .second, .val (.long u2), .second, .val (.int u3), .val (.long (own_min u0 u1)), .second, .val (.long (own_max u0 u1)), .second, .val (.ref b4), .val (.int (u3 &&& (7 : Int32))), .val (.long u2), .second, .val (.int (0 : Int32)), .val (.int (1 : Int32)), .val (.int (1 : Int32))] [(.int (1 : Int32))])) (fun t_ k_ => XS.goto X30.here hx rfl (pc0 := 173) (pc' := 177) rfl (hb hby at_173) (by decide) (by decide) k_) ?_
                refine own_retN X30 hx (t := .boolean) Bd.returns (by simp) hlk (hb hby at_177) (z' := (1 : Int32)) (by first | rfl | exact own_nb _ | exact own_nbb _) (by decide) (by decide) ?_
                show Q0 Z u0 u1 u2 u3 h0 n0 _ T30.heap _
                rw [eh30]
                exact ⟨rfl, N30⟩
            · have hd25 := own_nlt64 hc25
              refine own_st (B := T7.setTop (mkF m 125 #[.val (.long u0), .second, .val (.long u1), .second, .val (.long u2), .second, .val (.int u3), .val (.long (own_min u0 u1)), .second, .val (.long (own_max u0 u1)), .second, .val (.ref b4), .val (.int (u3 &&& (7 : Int32))), .val (.long u2), .second, .unset, .unset, .unset] [])) (fun t_ k_ => XS.ifYes X7.here hx rfl (pc0 := 118) (pc' := 125) rfl (hb hby at_118) rfl ((if0 _ _).trans (flt (fun q => hc25 ((lw_lt _ _).mp q))).2.1) (by decide) (by decide) k_) ?_
              refine own_st (B := T7.setTop (mkF m 126 #[.val (.long u0), .second, .val (.long u1), .second, .val (.long u2), .second, .val (.int u3), .val (.long (own_min u0 u1)), .second, .val (.long (own_max u0 u1)), .second, .val (.ref b4), .val (.int (u3 &&& (7 : Int32))), .val (.long u2), .second, .unset, .unset, .unset] [(.int (0 : Int32))])) (fun t_ k_ => XS.iconst X7.here hx rfl (hb hby at_125) k_) ?_
              refine own_st (B := T7.setTop (mkF m 128 #[.val (.long u0), .second, .val (.long u1), .second, .val (.long u2), .second, .val (.int u3), .val (.long (own_min u0 u1)), .second, .val (.long (own_max u0 u1)), .second, .val (.ref b4), .val (.int (u3 &&& (7 : Int32))), .val (.long u2), .second, .unset, .val (.int (0 : Int32)), .unset] [])) (fun t_ k_ => XS.istore X7.here hx rfl (hb hby at_126) rfl (l' := #[.val (.long u0), .second, .val (.long u1), .second, .val (.long u2), .second, .val (.int u3), .val (.long (own_min u0 u1)), .second, .val (.long (own_max u0 u1)), .second, .val (.ref b4), .val (.int (u3 &&& (7 : Int32))), .val (.long u2), .second, .unset, .val (.int (0 : Int32)), .unset]) rfl k_) ?_
              refine own_st (B := T7.setTop (mkF m 130 #[.val (.long u0), .second, .val (.long u1), .second, .val (.long u2), .second, .val (.int u3), .val (.long (own_min u0 u1)), .second, .val (.long (own_max u0 u1)), .second, .val (.ref b4), .val (.int (u3 &&& (7 : Int32))), .val (.long u2), .second, .unset, .val (.int (0 : Int32)), .unset] [(.long u2)])) (fun t_ k_ => XS.lload X7.here hx rfl (hb hby at_128) rfl k_) ?_
              refine own_st (B := T7.setTop (mkF m 132 #[.val (.long u0), .second, .val (.long u1), .second, .val (.long u2), .second, .val (.int u3), .val (.long (own_min u0 u1)), .second, .val (.long (own_max u0 u1)), .second, .val (.ref b4), .val (.int (u3 &&& (7 : Int32))), .val (.long u2), .second, .unset, .val (.int (0 : Int32)), .unset] [(.long (own_max u0 u1)), (.long u2)])) (fun t_ k_ => XS.lload X7.here hx rfl (hb hby at_130) rfl k_) ?_
              refine own_st (B := T7.setTop (mkF m 133 #[.val (.long u0), .second, .val (.long u1), .second, .val (.long u2), .second, .val (.int u3), .val (.long (own_min u0 u1)), .second, .val (.long (own_max u0 u1)), .second, .val (.ref b4), .val (.int (u3 &&& (7 : Int32))), .val (.long u2), .second, .unset, .val (.int (0 : Int32)), .unset] [(.int (lcmpW u2 (own_max u0 u1)))])) (fun t_ k_ => XS.lcmp X7.here hx rfl (hb hby at_132) rfl k_) ?_
              by_cases hc33 : u2 < (own_max u0 u1)
              · have hd33 := own_lt64 hc33
                refine own_st (B := T7.setTop (mkF m 140 #[.val (.long u0), .second, .val (.long u1), .second, .val (.long u2), .second, .val (.int u3), .val (.long (own_min u0 u1)), .second, .val (.long (own_max u0 u1)), .second, .val (.ref b4), .val (.int (u3 &&& (7 : Int32))), .val (.long u2), .second, .unset, .val (.int (0 : Int32)), .unset] [])) (fun t_ k_ => XS.ifYes X7.here hx rfl (pc0 := 133) (pc' := 140) rfl (hb hby at_133) rfl ((if0 _ _).trans (tlt ((lw_lt _ _).mpr hc33)).1) (by decide) (by decide) k_) ?_
                refine own_st (B := T7.setTop (mkF m 141 #[.val (.long u0), .second, .val (.long u1), .second, .val (.long u2), .second, .val (.int u3), .val (.long (own_min u0 u1)), .second, .val (.long (own_max u0 u1)), .second, .val (.ref b4), .val (.int (u3 &&& (7 : Int32))), .val (.long u2), .second, .unset, .val (.int (0 : Int32)), .unset] [(.int (0 : Int32))])) (fun t_ k_ => XS.iconst X7.here hx rfl (hb hby at_140) k_) ?_
                refine own_st (B := T7.setTop (mkF m 143 #[.val (.long u0), .second, .val (.long u1), .second, .val (.long u2), .second, .val (.int u3), .val (.long (own_min u0 u1)), .second, .val (.long (own_max u0 u1)), .second, .val (.ref b4), .val (.int (u3 &&& (7 : Int32))), .val (.long u2), .second, .unset, .val (.int (0 : Int32)), .val (.int (0 : Int32))] [])) (fun t_ k_ => XS.istore X7.here hx rfl (hb hby at_141) rfl (l' := #[.val (.long u0), .second, .val (.long u1), .second, .val (.long u2), .second, .val (.int u3), .val (.long (own_min u0 u1)), .second, .val (.long (own_max u0 u1)), .second, .val (.ref b4), .val (.int (u3 &&& (7 : Int32))), .val (.long u2), .second, .unset, .val (.int (0 : Int32)), .val (.int (0 : Int32))]) rfl k_) ?_
                refine own_st (B := T7.setTop (mkF m 145 #[.val (.long u0), .second, .val (.long u1), .second, .val (.long u2), .second, .val (.int u3), .val (.long (own_min u0 u1)), .second, .val (.long (own_max u0 u1)), .second, .val (.ref b4), .val (.int (u3 &&& (7 : Int32))), .val (.long u2), .second, .unset, .val (.int (0 : Int32)), .val (.int (0 : Int32))] [(.int (0 : Int32))])) (fun t_ k_ => XS.iload X7.here hx rfl (hb hby at_143) rfl k_) ?_
                refine own_st (B := T7.setTop (mkF m 148 #[.val (.long u0), .second, .val (.long u1), .second, .val (.long u2), .second, .val (.int u3), .val (.long (own_min u0 u1)), .second, .val (.long (own_max u0 u1)), .second, .val (.ref b4), .val (.int (u3 &&& (7 : Int32))), .val (.long u2), .second, .unset, .val (.int (0 : Int32)), .val (.int (0 : Int32))] [])) (fun t_ k_ => XS.ifNo X7.here hx rfl (hb hby at_145) rfl ((if0 _ _).trans (teq (by decide : (0 : Int32) = (0 : Int32))).2) k_) ?_
                refine own_st (B := T7.setTop (mkF m 150 #[.val (.long u0), .second, .val (.long u1), .second, .val (.long u2), .second, .val (.int u3), .val (.long (own_min u0 u1)), .second, .val (.long (own_max u0 u1)), .second, .val (.ref b4), .val (.int (u3 &&& (7 : Int32))), .val (.long u2), .second, .unset, .val (.int (0 : Int32)), .val (.int (0 : Int32))] [(.int (0 : Int32))])) (fun t_ k_ => XS.iload X7.here hx rfl (hb hby at_148) rfl k_) ?_
                refine own_st (B := T7.setTop (mkF m 153 #[.val (.long u0), .second, .val (.long u1), .second, .val (.long u2), .second, .val (.int u3), .val (.long (own_min u0 u1)), .second, .val (.long (own_max u0 u1)), .second, .val (.ref b4), .val (.int (u3 &&& (7 : Int32))), .val (.long u2), .second, .unset, .val (.int (0 : Int32)), .val (.int (0 : Int32))] [])) (fun t_ k_ => XS.ifNo X7.here hx rfl (hb hby at_150) rfl ((if0 _ _).trans (teq (by decide : (0 : Int32) = (0 : Int32))).2) k_) ?_
                refine own_st (B := T7.setTop (mkF m 154 #[.val (.long u0), .second, .val (.long u1), .second, .val (.long u2), .second, .val (.int u3), .val (.long (own_min u0 u1)), .second, .val (.long (own_max u0 u1)), .second, .val (.ref b4), .val (.int (u3 &&& (7 : Int32))), .val (.long u2), .second, .unset, .val (.int (0 : Int32)), .val (.int (0 : Int32))] [(.int (1 : Int32))])) (fun t_ k_ => XS.iconst X7.here hx rfl (hb hby at_153) k_) ?_
                refine own_st (B := T7.setTop (mkF m 158 #[.val (.long u0), .second, .val (.long u1), .second, .val (.long u2), .second, .val (.int u3), .val (.long (own_min u0 u1)), .second, .val (.long (own_max u0 u1)), .second, .val (.ref b4), .val (.int (u3 &&& (7 : Int32))), .val (.long u2), .second, .unset, .val (.int (0 : Int32)), .val (.int (0 : Int32))] [(.int (1 : Int32))])) (fun t_ k_ => XS.goto X7.here hx rfl (pc0 := 154) (pc' := 158) rfl (hb hby at_154) (by decide) (by decide) k_) ?_
                refine own_st (B := T7.setTop (mkF m 160 #[.val (.long u0), .second, .val (.long u1), .second, .val (.long u2), .second, .val (.int u3), .val (.long (own_min u0 u1)), .second, .val (.long (own_max u0 u1)), .second, .val (.ref b4), .val (.int (u3 &&& (7 : Int32))), .val (.long u2), .second, .val (.int (1 : Int32)), .val (.int (0 : Int32)), .val (.int (0 : Int32))] [])) (fun t_ k_ => XS.istore X7.here hx rfl (hb hby at_158) rfl (l' := #[.val (.long u0), .second, .val (.long u1), .second, .val (.long u2), .second, .val (.int u3), .val (.long (own_min u0 u1)), .second, .val (.long (own_max u0 u1)), .second, .val (.ref b4), .val (.int (u3 &&& (7 : Int32))), .val (.long u2), .second, .val (.int (1 : Int32)), .val (.int (0 : Int32)), .val (.int (0 : Int32))]) rfl k_) ?_
                refine own_st (B := T7.setTop (mkF m 162 #[.val (.long u0), .second, .val (.long u1), .second, .val (.long u2), .second, .val (.int u3), .val (.long (own_min u0 u1)), .second, .val (.long (own_max u0 u1)), .second, .val (.ref b4), .val (.int (u3 &&& (7 : Int32))), .val (.long u2), .second, .val (.int (1 : Int32)), .val (.int (0 : Int32)), .val (.int (0 : Int32))] [(.ref b4)])) (fun t_ k_ => XS.aload X7.here hx rfl (hb hby at_160) rfl rfl k_) ?_
                refine own_st (B := T7.setTop (mkF m 164 #[.val (.long u0), .second, .val (.long u1), .second, .val (.long u2), .second, .val (.int u3), .val (.long (own_min u0 u1)), .second, .val (.long (own_max u0 u1)), .second, .val (.ref b4), .val (.int (u3 &&& (7 : Int32))), .val (.long u2), .second, .val (.int (1 : Int32)), .val (.int (0 : Int32)), .val (.int (0 : Int32))] [(.long u2), (.ref b4)])) (fun t_ k_ => XS.lload X7.here hx rfl (hb hby at_162) rfl k_) ?_
                have u35 := A4.keep K7
                obtain ⟨cq34, kq34, q34a, q34b, q34c⟩ := isOf hZ rfl u35
                obtain ⟨_, _, ⟨T34, L34, k34, n34⟩, -, X34, ⟨Lc34, hQ34, l34, y34, z34⟩, st34⟩ := X7.virtualBack hx (y := (⟨"com/example/briareus/briareus/model/Interval", "contains", "(J)Z"⟩ : MethodName)) (z := (⟨"com/example/briareus/briareus/model/Interval", "contains", "(J)Z"⟩ : MethodName)) hown (mvT hZ (hw _ (List.mem_of_getElem? (i := 25) rfl))) (mvT hZ (hw _ (List.mem_of_getElem? (i := 26) rfl))) (notFace_of_selects (args := #[]) (mvT hZ (hw _ (List.mem_of_getElem? (i := 28) rfl)))) (mvT hZ (hw _ (List.mem_of_getElem? (i := 28) rfl))) (mvT hZ (hw _ (List.mem_of_getElem? (i := 27) rfl))) (by decide) (backOf (W := 0) (rm6 l Z a0 hw [] b4 (own_min u0 u1) (own_max u0 u1) u2 T7.heap n0 Z8 Fc7_0 Fc7_1) hZ (hw _ (List.mem_of_getElem? (i := 29) rfl)) (hw _ (List.mem_of_getElem? (i := 9) rfl)) (by decide) (by decide)) q34a q34c (g := (mkF m 164 #[.val (.long u0), .second, .val (.long u1), .second, .val (.long u2), .second, .val (.int u3), .val (.long (own_min u0 u1)), .second, .val (.long (own_max u0 u1)), .second, .val (.ref b4), .val (.int (u3 &&& (7 : Int32))), .val (.long u2), .second, .val (.int (1 : Int32)), .val (.int (0 : Int32)), .val (.int (0 : Int32))] [(.long u2), (.ref b4)])) rfl (by rw [hml]; rfl) (Steps.refl _) (argsL := [(.long u2)]) (rest := []) (lenOf own_pd3 rfl) rfl (by show 2 * 0 + _ ≤ _; exact Nat.le_of_eq rfl) (hb hby at_164) (fun _ _ => ⟨rfl, rfl, (by decide : 1 + 0 ≤ _), (by decide : 2 + 0 ≤ _)⟩)
                dsimp only [Pt.U, Pt.locs, Pt.cells, Pt.slots] at X34 l34 y34 z34 st34 hQ34
                subst l34 y34 z34
                obtain ⟨rfl, N34q, eh34⟩ := hQ34
                have N34 := Fr.app N7 N34q
                refine own_st (B := T34.setTop (mkF m 167 #[.val (.long u0), .second, .val (.long u1), .second, .val (.long u2), .second, .val (.int u3), .val (.long (own_min u0 u1)), .second, .val (.long (own_max u0 u1)), .second, .val (.ref b4), .val (.int (u3 &&& (7 : Int32))), .val (.long u2), .second, .val (.int (1 : Int32)), .val (.int (0 : Int32)), .val (.int (0 : Int32))] [(.int (own_b (own_con (own_min u0 u1) (own_max u0 u1) u2)))])) (fun t_ k_ => st34.trans k_) ?_
                refine own_st (B := T34.setTop (mkF m 169 #[.val (.long u0), .second, .val (.long u1), .second, .val (.long u2), .second, .val (.int u3), .val (.long (own_min u0 u1)), .second, .val (.long (own_max u0 u1)), .second, .val (.ref b4), .val (.int (u3 &&& (7 : Int32))), .val (.long u2), .second, .val (.int (1 : Int32)), .val (.int (0 : Int32)), .val (.int (0 : Int32))] [(.int (1 : Int32)), (.int (own_b (own_con (own_min u0 u1) (own_max u0 u1) u2)))])) (fun t_ k_ => XS.iload X34.here hx rfl (hb hby at_167) rfl k_) ?_
                have hc36 : (own_b (own_con (own_min u0 u1) (own_max u0 u1) u2)) = (1 : Int32) := by
                    have q0 := own_lt64 (own_mm hc1)
                    have q1 := c_lsub (own_min u0 u1) 1; have q2 := c_lsub (own_max u0 u1) 1; rw [show (1 : Int64).toInt = 1 from rfl] at q1 q2
                    have q3 := rng64 (own_min u0 u1 - 1); have q4 := rng64 (own_max u0 u1 - 1); have q5 := rng64 (own_min u0 u1); have q6 := rng64 (own_max u0 u1)
                    unfold own_con; exact own_b1 (by omega)
                have hd36 := own_eq32 hc36
                rw [show (1 : Int32).toInt = 1 from rfl] at hd36
                refine own_st (B := T34.setTop (mkF m 172 #[.val (.long u0), .second, .val (.long u1), .second, .val (.long u2), .second, .val (.int u3), .val (.long (own_min u0 u1)), .second, .val (.long (own_max u0 u1)), .second, .val (.ref b4), .val (.int (u3 &&& (7 : Int32))), .val (.long u2), .second, .val (.int (1 : Int32)), .val (.int (0 : Int32)), .val (.int (0 : Int32))] [])) (fun t_ k_ => XS.icmpNo X34.here hx rfl (hb hby at_169) rfl (teq hc36).2 k_) ?_
                refine own_st (B := T34.setTop (mkF m 173 #[.val (.long u0), .second, .val (.long u1), .second, .val (.long u2), .second, .val (.int u3), .val (.long (own_min u0 u1)), .second, .val (.long (own_max u0 u1)), .second, .val (.ref b4), .val (.int (u3 &&& (7 : Int32))), .val (.long u2), .second, .val (.int (1 : Int32)), .val (.int (0 : Int32)), .val (.int (0 : Int32))] [(.int (1 : Int32))])) (fun t_ k_ => XS.iconst X34.here hx rfl (hb hby at_172) k_) ?_
                refine own_st (B := T34.setTop (mkF m 177 #[.val (.long u0), .second, .val (.long u1), .second, .val (.long u2), .second, .val (.int u3), .val (.long (own_min u0 u1)), .second, .val (.long (own_max u0 u1)), .second, .val (.ref b4), .val (.int (u3 &&& (7 : Int32))), .val (.long u2), .second, .val (.int (1 : Int32)), .val (.int (0 : Int32)), .val (.int (0 : Int32))] [(.int (1 : Int32))])) (fun t_ k_ => XS.goto X34.here hx rfl (pc0 := 173) (pc' := 177) rfl (hb hby at_173) (by decide) (by decide) k_) ?_
                refine own_retN X34 hx (t := .boolean) Bd.returns (by simp) hlk (hb hby at_177) (z' := (1 : Int32)) (by first | rfl | exact own_nb _ | exact own_nbb _) (by decide) (by decide) ?_
                show Q0 Z u0 u1 u2 u3 h0 n0 _ T34.heap _
                rw [eh34]
                exact ⟨rfl, N34⟩
              · have hd33 := own_nlt64 hc33
                refine own_st (B := T7.setTop (mkF m 136 #[.val (.long u0), .second, .val (.long u1), .second, .val (.long u2), .second, .val (.int u3), .val (.long (own_min u0 u1)), .second, .val (.long (own_max u0 u1)), .second, .val (.ref b4), .val (.int (u3 &&& (7 : Int32))), .val (.long u2), .second, .unset, .val (.int (0 : Int32)), .unset] [])) (fun t_ k_ => XS.ifNo X7.here hx rfl (hb hby at_133) rfl ((if0 _ _).trans (flt (fun q => hc33 ((lw_lt _ _).mp q))).1) k_) ?_
                refine own_st (B := T7.setTop (mkF m 137 #[.val (.long u0), .second, .val (.long u1), .second, .val (.long u2), .second, .val (.int u3), .val (.long (own_min u0 u1)), .second, .val (.long (own_max u0 u1)), .second, .val (.ref b4), .val (.int (u3 &&& (7 : Int32))), .val (.long u2), .second, .unset, .val (.int (0 : Int32)), .unset] [(.int (1 : Int32))])) (fun t_ k_ => XS.iconst X7.here hx rfl (hb hby at_136) k_) ?_
                refine own_st (B := T7.setTop (mkF m 141 #[.val (.long u0), .second, .val (.long u1), .second, .val (.long u2), .second, .val (.int u3), .val (.long (own_min u0 u1)), .second, .val (.long (own_max u0 u1)), .second, .val (.ref b4), .val (.int (u3 &&& (7 : Int32))), .val (.long u2), .second, .unset, .val (.int (0 : Int32)), .unset] [(.int (1 : Int32))])) (fun t_ k_ => XS.goto X7.here hx rfl (pc0 := 137) (pc' := 141) rfl (hb hby at_137) (by decide) (by decide) k_) ?_
                refine own_st (B := T7.setTop (mkF m 143 #[.val (.long u0), .second, .val (.long u1), .second, .val (.long u2), .second, .val (.int u3), .val (.long (own_min u0 u1)), .second, .val (.long (own_max u0 u1)), .second, .val (.ref b4), .val (.int (u3 &&& (7 : Int32))), .val (.long u2), .second, .unset, .val (.int (0 : Int32)), .val (.int (1 : Int32))] [])) (fun t_ k_ => XS.istore X7.here hx rfl (hb hby at_141) rfl (l' := #[.val (.long u0), .second, .val (.long u1), .second, .val (.long u2), .second, .val (.int u3), .val (.long (own_min u0 u1)), .second, .val (.long (own_max u0 u1)), .second, .val (.ref b4), .val (.int (u3 &&& (7 : Int32))), .val (.long u2), .second, .unset, .val (.int (0 : Int32)), .val (.int (1 : Int32))]) rfl k_) ?_
                refine own_st (B := T7.setTop (mkF m 145 #[.val (.long u0), .second, .val (.long u1), .second, .val (.long u2), .second, .val (.int u3), .val (.long (own_min u0 u1)), .second, .val (.long (own_max u0 u1)), .second, .val (.ref b4), .val (.int (u3 &&& (7 : Int32))), .val (.long u2), .second, .unset, .val (.int (0 : Int32)), .val (.int (1 : Int32))] [(.int (0 : Int32))])) (fun t_ k_ => XS.iload X7.here hx rfl (hb hby at_143) rfl k_) ?_
                refine own_st (B := T7.setTop (mkF m 148 #[.val (.long u0), .second, .val (.long u1), .second, .val (.long u2), .second, .val (.int u3), .val (.long (own_min u0 u1)), .second, .val (.long (own_max u0 u1)), .second, .val (.ref b4), .val (.int (u3 &&& (7 : Int32))), .val (.long u2), .second, .unset, .val (.int (0 : Int32)), .val (.int (1 : Int32))] [])) (fun t_ k_ => XS.ifNo X7.here hx rfl (hb hby at_145) rfl ((if0 _ _).trans (teq (by decide : (0 : Int32) = (0 : Int32))).2) k_) ?_
                refine own_st (B := T7.setTop (mkF m 150 #[.val (.long u0), .second, .val (.long u1), .second, .val (.long u2), .second, .val (.int u3), .val (.long (own_min u0 u1)), .second, .val (.long (own_max u0 u1)), .second, .val (.ref b4), .val (.int (u3 &&& (7 : Int32))), .val (.long u2), .second, .unset, .val (.int (0 : Int32)), .val (.int (1 : Int32))] [(.int (1 : Int32))])) (fun t_ k_ => XS.iload X7.here hx rfl (hb hby at_148) rfl k_) ?_
                refine own_st (B := T7.setTop (mkF m 157 #[.val (.long u0), .second, .val (.long u1), .second, .val (.long u2), .second, .val (.int u3), .val (.long (own_min u0 u1)), .second, .val (.long (own_max u0 u1)), .second, .val (.ref b4), .val (.int (u3 &&& (7 : Int32))), .val (.long u2), .second, .unset, .val (.int (0 : Int32)), .val (.int (1 : Int32))] [])) (fun t_ k_ => XS.ifYes X7.here hx rfl (pc0 := 150) (pc' := 157) rfl (hb hby at_150) rfl ((if0 _ _).trans (feq (by decide : ¬ ((1 : Int32) = (0 : Int32)))).2) (by decide) (by decide) k_) ?_
                refine own_st (B := T7.setTop (mkF m 158 #[.val (.long u0), .second, .val (.long u1), .second, .val (.long u2), .second, .val (.int u3), .val (.long (own_min u0 u1)), .second, .val (.long (own_max u0 u1)), .second, .val (.ref b4), .val (.int (u3 &&& (7 : Int32))), .val (.long u2), .second, .unset, .val (.int (0 : Int32)), .val (.int (1 : Int32))] [(.int (0 : Int32))])) (fun t_ k_ => XS.iconst X7.here hx rfl (hb hby at_157) k_) ?_
                refine own_st (B := T7.setTop (mkF m 160 #[.val (.long u0), .second, .val (.long u1), .second, .val (.long u2), .second, .val (.int u3), .val (.long (own_min u0 u1)), .second, .val (.long (own_max u0 u1)), .second, .val (.ref b4), .val (.int (u3 &&& (7 : Int32))), .val (.long u2), .second, .val (.int (0 : Int32)), .val (.int (0 : Int32)), .val (.int (1 : Int32))] [])) (fun t_ k_ => XS.istore X7.here hx rfl (hb hby at_158) rfl (l' := #[.val (.long u0), .second, .val (.long u1), .second, .val (.long u2), .second, .val (.int u3), .val (.long (own_min u0 u1)), .second, .val (.long (own_max u0 u1)), .second, .val (.ref b4), .val (.int (u3 &&& (7 : Int32))), .val (.long u2), .second, .val (.int (0 : Int32)), .val (.int (0 : Int32)), .val (.int (1 : Int32))]) rfl k_) ?_
                refine own_st (B := T7.setTop (mkF m 162 #[.val (.long u0), .second, .val (.long u1), .second, .val (.long u2), .second, .val (.int u3), .val (.long (own_min u0 u1)), .second, .val (.long (own_max u0 u1)), .second, .val (.ref b4), .val (.int (u3 &&& (7 : Int32))), .val (.long u2), .second, .val (.int (0 : Int32)), .val (.int (0 : Int32)), .val (.int (1 : Int32))] [(.ref b4)])) (fun t_ k_ => XS.aload X7.here hx rfl (hb hby at_160) rfl rfl k_) ?_
                refine own_st (B := T7.setTop (mkF m 164 #[.val (.long u0), .second, .val (.long u1), .second, .val (.long u2), .second, .val (.int u3), .val (.long (own_min u0 u1)), .second, .val (.long (own_max u0 u1)), .second, .val (.ref b4), .val (.int (u3 &&& (7 : Int32))), .val (.long u2), .second, .val (.int (0 : Int32)), .val (.int (0 : Int32)), .val (.int (1 : Int32))] [(.long u2), (.ref b4)])) (fun t_ k_ => XS.lload X7.here hx rfl (hb hby at_162) rfl k_) ?_
                have u38 := A4.keep K7
                obtain ⟨cq37, kq37, q37a, q37b, q37c⟩ := isOf hZ rfl u38
                obtain ⟨_, _, ⟨T37, L37, k37, n37⟩, -, X37, ⟨Lc37, hQ37, l37, y37, z37⟩, st37⟩ := X7.virtualBack hx (y := (⟨"com/example/briareus/briareus/model/Interval", "contains", "(J)Z"⟩ : MethodName)) (z := (⟨"com/example/briareus/briareus/model/Interval", "contains", "(J)Z"⟩ : MethodName)) hown (mvT hZ (hw _ (List.mem_of_getElem? (i := 25) rfl))) (mvT hZ (hw _ (List.mem_of_getElem? (i := 26) rfl))) (notFace_of_selects (args := #[]) (mvT hZ (hw _ (List.mem_of_getElem? (i := 28) rfl)))) (mvT hZ (hw _ (List.mem_of_getElem? (i := 28) rfl))) (mvT hZ (hw _ (List.mem_of_getElem? (i := 27) rfl))) (by decide) (backOf (W := 0) (rm6 l Z a0 hw [] b4 (own_min u0 u1) (own_max u0 u1) u2 T7.heap n0 Z8 Fc7_0 Fc7_1) hZ (hw _ (List.mem_of_getElem? (i := 29) rfl)) (hw _ (List.mem_of_getElem? (i := 9) rfl)) (by decide) (by decide)) q37a q37c (g := (mkF m 164 #[.val (.long u0), .second, .val (.long u1), .second, .val (.long u2), .second, .val (.int u3), .val (.long (own_min u0 u1)), .second, .val (.long (own_max u0 u1)), .second, .val (.ref b4), .val (.int (u3 &&& (7 : Int32))), .val (.long u2), .second, .val (.int (0 : Int32)), .val (.int (0 : Int32)), .val (.int (1 : Int32))] [(.long u2), (.ref b4)])) rfl (by rw [hml]; rfl) (Steps.refl _) (argsL := [(.long u2)]) (rest := []) (lenOf own_pd3 rfl) rfl (by show 2 * 0 + _ ≤ _; exact Nat.le_of_eq rfl) (hb hby at_164) (fun _ _ => ⟨rfl, rfl, (by decide : 1 + 0 ≤ _), (by decide : 2 + 0 ≤ _)⟩)
                dsimp only [Pt.U, Pt.locs, Pt.cells, Pt.slots] at X37 l37 y37 z37 st37 hQ37
                subst l37 y37 z37
                obtain ⟨rfl, N37q, eh37⟩ := hQ37
                have N37 := Fr.app N7 N37q
                refine own_st (B := T37.setTop (mkF m 167 #[.val (.long u0), .second, .val (.long u1), .second, .val (.long u2), .second, .val (.int u3), .val (.long (own_min u0 u1)), .second, .val (.long (own_max u0 u1)), .second, .val (.ref b4), .val (.int (u3 &&& (7 : Int32))), .val (.long u2), .second, .val (.int (0 : Int32)), .val (.int (0 : Int32)), .val (.int (1 : Int32))] [(.int (own_b (own_con (own_min u0 u1) (own_max u0 u1) u2)))])) (fun t_ k_ => st37.trans k_) ?_
                refine own_st (B := T37.setTop (mkF m 169 #[.val (.long u0), .second, .val (.long u1), .second, .val (.long u2), .second, .val (.int u3), .val (.long (own_min u0 u1)), .second, .val (.long (own_max u0 u1)), .second, .val (.ref b4), .val (.int (u3 &&& (7 : Int32))), .val (.long u2), .second, .val (.int (0 : Int32)), .val (.int (0 : Int32)), .val (.int (1 : Int32))] [(.int (0 : Int32)), (.int (own_b (own_con (own_min u0 u1) (own_max u0 u1) u2)))])) (fun t_ k_ => XS.iload X37.here hx rfl (hb hby at_167) rfl k_) ?_
                have hc39 : (own_b (own_con (own_min u0 u1) (own_max u0 u1) u2)) = (0 : Int32) := by
                    have q0 := own_lt64 (own_mm hc1)
                    have q1 := c_lsub (own_min u0 u1) 1; have q2 := c_lsub (own_max u0 u1) 1; rw [show (1 : Int64).toInt = 1 from rfl] at q1 q2
                    have q3 := rng64 (own_min u0 u1 - 1); have q4 := rng64 (own_max u0 u1 - 1); have q5 := rng64 (own_min u0 u1); have q6 := rng64 (own_max u0 u1)
                    unfold own_con; exact own_bz (by omega)
                have hd39 := own_eq32 hc39
                rw [show (0 : Int32).toInt = 0 from rfl] at hd39
                refine own_st (B := T37.setTop (mkF m 172 #[.val (.long u0), .second, .val (.long u1), .second, .val (.long u2), .second, .val (.int u3), .val (.long (own_min u0 u1)), .second, .val (.long (own_max u0 u1)), .second, .val (.ref b4), .val (.int (u3 &&& (7 : Int32))), .val (.long u2), .second, .val (.int (0 : Int32)), .val (.int (0 : Int32)), .val (.int (1 : Int32))] [])) (fun t_ k_ => XS.icmpNo X37.here hx rfl (hb hby at_169) rfl (teq hc39).2 k_) ?_
                refine own_st (B := T37.setTop (mkF m 173 #[.val (.long u0), .second, .val (.long u1), .second, .val (.long u2), .second, .val (.int u3), .val (.long (own_min u0 u1)), .second, .val (.long (own_max u0 u1)), .second, .val (.ref b4), .val (.int (u3 &&& (7 : Int32))), .val (.long u2), .second, .val (.int (0 : Int32)), .val (.int (0 : Int32)), .val (.int (1 : Int32))] [(.int (1 : Int32))])) (fun t_ k_ => XS.iconst X37.here hx rfl (hb hby at_172) k_) ?_
                refine own_st (B := T37.setTop (mkF m 177 #[.val (.long u0), .second, .val (.long u1), .second, .val (.long u2), .second, .val (.int u3), .val (.long (own_min u0 u1)), .second, .val (.long (own_max u0 u1)), .second, .val (.ref b4), .val (.int (u3 &&& (7 : Int32))), .val (.long u2), .second, .val (.int (0 : Int32)), .val (.int (0 : Int32)), .val (.int (1 : Int32))] [(.int (1 : Int32))])) (fun t_ k_ => XS.goto X37.here hx rfl (pc0 := 173) (pc' := 177) rfl (hb hby at_173) (by decide) (by decide) k_) ?_
                refine own_retN X37 hx (t := .boolean) Bd.returns (by simp) hlk (hb hby at_177) (z' := (1 : Int32)) (by first | rfl | exact own_nb _ | exact own_nbb _) (by decide) (by decide) ?_
                show Q0 Z u0 u1 u2 u3 h0 n0 _ T37.heap _
                rw [eh37]
                exact ⟨rfl, N37⟩
set_option maxRecDepth 65536 in
set_option maxHeartbeats 40000000 in
theorem comes_1 {Post : Tables → Env → Array Value → State → Outcome → State → Prop} (hpost : ∀ tb e args s v u, (limb_1_1.after args s (.returned v) u = true ∧ limb_1_2.after args s (.returned v) u = true ∧ True) → FrameEnd s (.returned v) u (Jvm.fieldLocs frame_1_writes args s ++ Jvm.arrayLocs frame_1_arrays args s ++ Jvm.staticLocs frame_1_statics s) 16 128 → Post tb e args s (.returned v) u) :
    ArmFor flags0 classFile x code maxLocals ret World_1 tables_1 room_1 Calls_1 rest_1 Pre_1 Post := by
  intro l hfl _ _ p e ha hc hk s m args below hf hA hF happ hP
  obtain ⟨hcalls, hrest, hpre⟩ := hP
  obtain ⟨-, -, -, hnamed, -, -, -, hat⟩ := (Spec.applies_iff hf).mp happ
  obtain ⟨hg, hn⟩ := and_e (Cond.before_iff.mp (show (Jvm.Cond.and given_1 narrow_1).before args s = true from hpre))
  obtain ⟨gg1, gg2⟩ := and_e hg
  obtain ⟨gg3, gg4⟩ := and_e gg2
  obtain ⟨gg5, gg6⟩ := and_e gg4
  obtain ⟨gg7, gg8⟩ := and_e gg6
  obtain ⟨w0, w1, w2, w3, rfl⟩ : ∃ w0 w1 w2 w3 : Value, args = #[w0, w1, w2, w3] := by
    have hs : args.size = 4 := by simpa [Cond.value, given_1] using gg1
    obtain ⟨L⟩ := args
    match L, hs with
    | [w0, w1, w2, w3], _ => exact ⟨w0, w1, w2, w3, rfl⟩
  have hw := fun d (hd : d ∈ tables_1) => atoms_spec (ws := Jvm.Cond.code x code maxLocals ret :: tables_1) hat d (List.mem_cons_of_mem _ hd)
  have hfit : Fit s := fun {y c} hc i hi => by
    obtain ⟨ha, rfl⟩ := Array.getElem?_eq_some_iff.mp hc
    have q := List.all_eq_true.mp ((Array.all_eq_true_iff_forall_mem.mp hF) _ (Array.getElem_mem ha)) i (List.mem_range.mpr hi)
    simpa [Array.getElem?_eq_getElem hi] using q
  obtain ⟨i0, ei0⟩ := isL_v gg3
  obtain rfl : w0 = (.long i0) := Option.some.inj ei0
  obtain ⟨i1, ei1⟩ := isL_v gg5
  obtain rfl : w1 = (.long i1) := Option.some.inj ei1
  obtain ⟨i2, ei2⟩ := isL_v gg7
  obtain rfl : w2 = (.long i2) := Option.some.inj ei2
  obtain ⟨i3, ei3⟩ := is_v gg8
  obtain rfl : w3 = (.int i3) := Option.some.inj ei3
  obtain ⟨n, o, h1, h2, h3, _, L, rfl, ⟨rfl, N⟩, hq⟩ := rm0 l s _ hw tables_1 i0 i1 i2 i3 s.heap s.heap.size (Nat.le_refl _)  p e ha hc hk s m _ below hf ((Spec.applies_iff_loose hf).mp happ).1 ⟨rfl, State.Warmed39.refl s, rfl⟩ trivial
  refine ⟨n, _, h1, h2, h3, hpost _ _ _ _ _ _ ⟨Cond.after_iff.mpr rfl, Cond.after_iff.mpr (eq_i res_at (Term.int_eval (1)) rfl), trivial⟩ ⟨hq.1, hq.2.1, (hq.2.2.sift fun y hy => Or.inr (N y hy)).mono (by decide) (by decide)⟩⟩
theorem main_1_1 : Claimed_1_1 := comes_1 fun _ _ _ _ _ _ h hF => ⟨h.1, hF⟩
theorem main_1_2 : Claimed_1_2 := comes_1 fun _ _ _ _ _ _ h hF => ⟨h.2.1, hF⟩
end Jvm.Pilot.@@N@@
namespace Jvm.Pilot.@@N@@
open Jvm Jvm.ClassFile Sem Op Lib Jvm.Free Jvm.Stand Jvm.Pilot.@@N@@.Jvm.D
/-! MADE BY PROGRAM (witnessworld.py) out of the Statement's table words and the real class files: 11 classes; the members and pool entries that the words name. The judged class is class 1, her method 1. -/
namespace start1
open Jvm.ClassFile
def u (s : String) : CpInfo := .utf8 (stringToUtf16 s)
/-- a pool by its gaps: so many unusable entries, then the entry; so many at the end -/
def gap : Nat → List CpInfo → List CpInfo
  | 0, r => r
  | n + 1, r => .unusable :: gap n r
def poolList (es : List (Nat × CpInfo)) (last : Nat) : List CpInfo := es.foldr (fun e r => gap e.1 (e.2 :: r)) (gap last [])
def pool (es : List (Nat × CpInfo)) (last : Nat) : Array CpInfo := ⟨poolList es last⟩
def fileOf (pool : Array CpInfo) (this : Nat) (attrs : Array Attribute := #[]) (ms : Array MethodInfo := #[]) (fl : Nat := 33) (sup : Nat := 0) (ifs : Array Nat := #[]) (fds : Array FieldInfo := #[]) : ClassFile where
  minorVersion := 0
  majorVersion := 65
  constantPool := pool
  accessFlags := fl
  thisClass := this
  superClass := sup
  interfaces := ifs
  fields := fds
  methods := ms
  attributes := attrs
def plain (name : String) (sup : Option ClassId) : Class where
  name := name
  kind := .ordinary
  loader := none
  accessFlags := 33
  super := sup
  interfaces := #[]
  cf := none
  fields := #[]
  methods := #[]
  instanceTypes := #[]
  staticTypes := #[]
  resolved := #[]
  callSites := []
  init := .initialized
  statics := none
  mirror := none

def pool0 : Array CpInfo := pool [(5, u "<init>"), (0, u "()V"), (1, .class_ 10), (1, u "java/lang/Object")] 113

def k0c0 : Code := { maxStack := 0, maxLocals := 1, code := object_method_1_code, exceptionTable := #[], attributes := #[] }
def k0m0 : Method := { name := "<init>", desc := "()V", sig := { parameters := [], returnType := none }, accessFlags := 1, code := some k0c0 }
/-- java/lang/Object -/
def k0 : Class := { plain "java/lang/Object" none with
  accessFlags := 33
  interfaces := #[]
  cf := some (fileOf pool0 8 #[] #[{ accessFlags := 1, nameIndex := 5, descriptorIndex := 6, attributes := #[] }] 33 0 #[] #[])
  fields := #[]
  methods := #[k0m0]
  instanceTypes := #[]
  staticTypes := #[]
  resolved := Array.replicate 124 none
  statics := none }

def pool1 : Array CpInfo := pool [(2, .class_ 4), (1, u "java/lang/Object"), (0, u "<init>"), (0, u "()V"), (0, .methodref 8 9), (0, .class_ 10), (0, .nameAndType 11 12), (0, u "java/lang/Math"), (0, u "min"), (0, u "(JJ)J"), (0, .methodref 8 14), (0, .nameAndType 15 12), (0, u "max"), (0, .class_ 17), (0, u "com/example/briareus/briareus/model/Interval"), (0, .methodref 16 19), (0, .nameAndType 5 20), (0, u "(JJ)V"), (0, .methodref 16 22), (0, .nameAndType 23 24), (0, u "contains"), (0, u "(J)Z"), (0, .class_ 26), (0, u "com/example/briareus/briareus/model/IntervalContainsPinLaw"), (2, u "law"), (0, u "(JJJI)Z")] 3

def k1m0 : Method := { name := "<init>", desc := "()V", sig := { parameters := [], returnType := none }, accessFlags := 2, code := none }
def k1c1 : Code := { maxStack := 6, maxLocals := 18, code := code, exceptionTable := #[], attributes := #[] }
def k1m1 : Method := { name := "law", desc := "(JJJI)Z", sig := { parameters := [.long, .long, .long, .int], returnType := some .boolean }, accessFlags := 9, code := some k1c1 }
/-- com/example/briareus/briareus/model/IntervalContainsPinLaw -/
def k1 : Class := { plain "com/example/briareus/briareus/model/IntervalContainsPinLaw" (some 0) with
  accessFlags := 49
  interfaces := #[]
  cf := some (fileOf pool1 25 #[] #[{ accessFlags := 2, nameIndex := 5, descriptorIndex := 6, attributes := #[] }, { accessFlags := 9, nameIndex := 29, descriptorIndex := 30, attributes := #[] }] 49 2 #[] #[])
  fields := #[]
  methods := #[k1m0, k1m1]
  instanceTypes := #[]
  staticTypes := #[]
  resolved := Array.replicate 34 none
  statics := none }

def pool2 : Array CpInfo := pool [(1, .class_ 2), (0, u "java/lang/Math"), (1, .class_ 6), (1, u "java/lang/Object"), (0, u "<init>"), (0, u "()V"), (89, .class_ 100), (1, u "java/lang/Math$RandomNumberGeneratorHolder"), (20, u "(JJ)J"), (50, u "negativeZeroFloatBits"), (0, u "J"), (2, u "negativeZeroDoubleBits"), (21, u "max"), (2, u "min"), (43, u "$assertionsDisabled"), (0, u "Z"), (91, u "twoToTheDoubleScaleDown"), (0, u "D"), (4, u "twoToTheDoubleScaleUp"), (9, u "E"), (3, u "PI"), (2, u "TAU"), (2, u "DEGREES_TO_RADIANS"), (0, u "RADIANS_TO_DEGREES")] 94

def k2m0 : Method := { name := "<init>", desc := "()V", sig := { parameters := [], returnType := none }, accessFlags := 2, code := none }
def k2c1 : Code := { maxStack := 4, maxLocals := 4, code := jdk_29_method_66_code, exceptionTable := #[], attributes := #[] }
def k2m1 : Method := { name := "max", desc := "(JJ)J", sig := { parameters := [.long, .long], returnType := some .long }, accessFlags := 9, code := some k2c1 }
def k2c2 : Code := { maxStack := 4, maxLocals := 4, code := jdk_29_method_70_code, exceptionTable := #[], attributes := #[] }
def k2m2 : Method := { name := "min", desc := "(JJ)J", sig := { parameters := [.long, .long], returnType := some .long }, accessFlags := 9, code := some k2c2 }
/-- java/lang/Math -/
def k2 : Class := { plain "java/lang/Math" (some 0) with
  accessFlags := 49
  interfaces := #[]
  cf := some (fileOf pool2 1 #[.nestMembers #[98]] #[{ accessFlags := 2, nameIndex := 7, descriptorIndex := 8, attributes := #[] }, { accessFlags := 9, nameIndex := 198, descriptorIndex := 121, attributes := #[] }, { accessFlags := 9, nameIndex := 201, descriptorIndex := 121, attributes := #[] }] 49 4 #[] #[{ accessFlags := 25, nameIndex := 354, descriptorIndex := 339, attributes := #[] }, { accessFlags := 25, nameIndex := 358, descriptorIndex := 339, attributes := #[] }, { accessFlags := 25, nameIndex := 361, descriptorIndex := 339, attributes := #[] }, { accessFlags := 26, nameIndex := 364, descriptorIndex := 339, attributes := #[] }, { accessFlags := 26, nameIndex := 365, descriptorIndex := 339, attributes := #[] }, { accessFlags := 26, nameIndex := 172, descriptorIndex := 173, attributes := #[] }, { accessFlags := 26, nameIndex := 176, descriptorIndex := 173, attributes := #[] }, { accessFlags := 8, nameIndex := 344, descriptorIndex := 339, attributes := #[] }, { accessFlags := 8, nameIndex := 338, descriptorIndex := 339, attributes := #[] }, { accessFlags := 4120, nameIndex := 245, descriptorIndex := 246, attributes := #[] }])
  fields := #[{ name := "E", type := .double, accessFlags := 25, slot := 0, constantValue := 0 }, { name := "PI", type := .double, accessFlags := 25, slot := 1, constantValue := 0 }, { name := "TAU", type := .double, accessFlags := 25, slot := 2, constantValue := 0 }, { name := "DEGREES_TO_RADIANS", type := .double, accessFlags := 26, slot := 3, constantValue := 0 }, { name := "RADIANS_TO_DEGREES", type := .double, accessFlags := 26, slot := 4, constantValue := 0 }, { name := "negativeZeroFloatBits", type := .long, accessFlags := 26, slot := 5, constantValue := 0 }, { name := "negativeZeroDoubleBits", type := .long, accessFlags := 26, slot := 6, constantValue := 0 }, { name := "twoToTheDoubleScaleUp", type := .double, accessFlags := 8, slot := 7, constantValue := 0 }, { name := "twoToTheDoubleScaleDown", type := .double, accessFlags := 8, slot := 8, constantValue := 0 }, { name := "$assertionsDisabled", type := .boolean, accessFlags := 4120, slot := 9, constantValue := 0 }]
  methods := #[k2m0, k2m1, k2m2]
  instanceTypes := #[]
  staticTypes := #[.double, .double, .double, .double, .double, .long, .long, .double, .double, .boolean]
  resolved := Array.replicate 460 none
  statics := none }

def pool3 : Array CpInfo := pool [(1, .methodref 2 3), (0, .class_ 4), (0, .nameAndType 5 6), (0, u "java/lang/Object"), (0, u "<init>"), (0, u "()V"), (0, .class_ 8), (0, u "java/lang/Record")] 13

def k3c0 : Code := { maxStack := 1, maxLocals := 1, code := jdk_30_method_1_code, exceptionTable := #[], attributes := #[] }
def k3m0 : Method := { name := "<init>", desc := "()V", sig := { parameters := [], returnType := none }, accessFlags := 4, code := some k3c0 }
/-- java/lang/Record -/
def k3 : Class := { plain "java/lang/Record" (some 0) with
  accessFlags := 1057
  interfaces := #[]
  cf := some (fileOf pool3 7 #[] #[{ accessFlags := 4, nameIndex := 5, descriptorIndex := 6, attributes := #[] }] 1057 2 #[] #[])
  fields := #[]
  methods := #[k3m0]
  instanceTypes := #[]
  staticTypes := #[]
  resolved := Array.replicate 22 none
  statics := none }

def pool4 : Array CpInfo := pool [(1, .methodref 2 3), (0, .class_ 4), (0, .nameAndType 5 6), (0, u "java/lang/Record"), (0, u "<init>"), (0, u "()V"), (3, .class_ 12), (1, u "com/example/briareus/briareus/model/Interval"), (9, .fieldref 10 23), (0, .nameAndType 24 25), (0, u "startMillis"), (0, u "J"), (0, .fieldref 10 27), (0, .nameAndType 28 25), (0, u "endMillis"), (20, u "(JJ)V"), (52, u "NANOS_PER_MILLI"), (0, u "I"), (6, u "contains"), (0, u "(J)Z")] 38

def k4c0 : Code := { maxStack := 6, maxLocals := 5, code := prog_9_method_1_code, exceptionTable := #[], attributes := #[] }
def k4m0 : Method := { name := "<init>", desc := "(JJ)V", sig := { parameters := [.long, .long], returnType := none }, accessFlags := 1, code := some k4c0 }
def k4c1 : Code := { maxStack := 4, maxLocals := 3, code := prog_9_method_3_code, exceptionTable := #[], attributes := #[] }
def k4m1 : Method := { name := "contains", desc := "(J)Z", sig := { parameters := [.long], returnType := some .boolean }, accessFlags := 1, code := some k4c1 }
/-- com/example/briareus/briareus/model/Interval -/
def k4 : Class := { plain "com/example/briareus/briareus/model/Interval" (some 3) with
  accessFlags := 49
  interfaces := #[]
  cf := some (fileOf pool4 10 #[] #[{ accessFlags := 1, nameIndex := 5, descriptorIndex := 49, attributes := #[] }, { accessFlags := 1, nameIndex := 110, descriptorIndex := 111, attributes := #[] }] 49 2 #[] #[{ accessFlags := 18, nameIndex := 24, descriptorIndex := 25, attributes := #[] }, { accessFlags := 18, nameIndex := 28, descriptorIndex := 25, attributes := #[] }, { accessFlags := 26, nameIndex := 102, descriptorIndex := 103, attributes := #[] }])
  fields := #[{ name := "startMillis", type := .long, accessFlags := 18, slot := 0, constantValue := 0 }, { name := "endMillis", type := .long, accessFlags := 18, slot := 1, constantValue := 0 }, { name := "NANOS_PER_MILLI", type := .int, accessFlags := 26, slot := 0, constantValue := 0 }]
  methods := #[k4m0, k4m1]
  instanceTypes := #[.long, .long]
  staticTypes := #[.int]
  resolved := Array.replicate 150 none
  statics := none }

def pool5 : Array CpInfo := pool [(1, u "java/lang/Cloneable"), (0, .class_ 1), (0, u "java/lang/Object"), (0, .class_ 3)] 3

/-- java/lang/Cloneable -/
def k5 : Class := { plain "java/lang/Cloneable" (some 0) with
  accessFlags := 1537
  interfaces := #[]
  cf := some (fileOf pool5 2 #[] #[] 1537 4 #[] #[])
  fields := #[]
  methods := #[]
  instanceTypes := #[]
  staticTypes := #[]
  resolved := Array.replicate 8 none
  statics := none }

def pool6 : Array CpInfo := pool [(1, u "java/io/Serializable"), (0, .class_ 1), (0, u "java/lang/Object"), (0, .class_ 3)] 3

/-- java/io/Serializable -/
def k6 : Class := { plain "java/io/Serializable" (some 0) with
  accessFlags := 1537
  interfaces := #[]
  cf := some (fileOf pool6 2 #[] #[] 1537 4 #[] #[])
  fields := #[]
  methods := #[]
  instanceTypes := #[]
  staticTypes := #[]
  resolved := Array.replicate 8 none
  statics := none }

/-- the primitive byte -/
def k7 : Class := { plain "byte" none with kind := .primitive 'B', accessFlags := 0x411 }
/-- [B -/
def k8 : Class := { plain "[B" (some 0) with kind := .array 7 .byte, interfaces := #[5, 6], accessFlags := 1041 }

/-- the primitive int -/
def k9 : Class := { plain "int" none with kind := .primitive 'I', accessFlags := 0x411 }
/-- [I -/
def k10 : Class := { plain "[I" (some 0) with kind := .array 9 .int, interfaces := #[5, 6], accessFlags := 1041 }

def heap : Heap := #[]
def classes : Array Class := #[k0, k1, k2, k3, k4, k5, k6, k7, k8, k9, k10]
def interned : List (Array UInt16 × Addr) := []
def slotsUsed : Nat := 0
def theMethod : MethodId := ⟨1, 1⟩
def args0 : Array Value := #[.long 5, .long 6, .long 7, .int 8]
def aboutOver (below : List Frame) : State where
  vm := { classes := classes, interned := interned.toArray }
  heap := heap
  slotsUsed := slotsUsed
  threads := #[{ frames := .invoking theMethod args0 :: below }]
def below0 : List Frame := [.native { method := ⟨0, 0⟩, args := #[] }]
def about1 : State := aboutOver below0
def p0 : Program := .bare "" "" ""
def e0 : Env := launch0.env 0 0 0
theorem w_frames : about1.frames = Frame.invoking theMethod args0 :: below0 := rfl
set_option maxRecDepth 65536 in
theorem w_args : argsFit about1.vm theMethod args0 = true := by decide +kernel
set_option maxRecDepth 65536 in
theorem w_heap : heapFits about1 = true := by decide +kernel
set_option maxRecDepth 65536 in
theorem w_runnable : about1.curStatus? = some .runnable := by decide +kernel
set_option maxRecDepth 65536 in
theorem w_alone : about1.alone = true := by decide +kernel
set_option maxRecDepth 65536 in
theorem w_named : about1.methodNamed? x = some theMethod := by decide +kernel
set_option maxRecDepth 65536 in
theorem w_hears : about1.hears theMethod below0 = true := by decide +kernel
set_option maxRecDepth 65536 in
theorem w_ripe : about1.ripe theMethod args0 below0 = true := by decide +kernel
theorem w_running : about1.status = .running := rfl
set_option maxRecDepth 65536 in
theorem w_room : about1.hasRoom e0.platform room_1 = true :=
  launch0.hasRoom_least _ room_1 (by decide +kernel) (by decide +kernel) (by decide +kernel) (by decide +kernel) (by decide +kernel) (by decide +kernel)
theorem allAtoms_all (ts : List Jvm.Cond) (a : Array Jvm.Value) (st : Jvm.State) : (allAtoms ts).before a st = ts.all (fun c => c.before a st) := by
  induction ts with
  | nil => rfl
  | cons c t ih =>
    show (Jvm.Cond.and c (allAtoms t)).before a st = _
    rw [Jvm.Cond.before_and, ih, List.all_cons]
def words1 : List Jvm.Cond := Jvm.Cond.code x code maxLocals ret :: tables_1
/-- a 'code' word, met by the world's own term for the bytes: nothing is compared byte by byte -/
theorem code_word {y : MethodName} {bytes : ByteArray} {mx : Nat} {rt : Option FieldType} {a : Array Value} {s : State} {m : MethodId} {meth : Method} {c : Code} (h1 : s.methodNamed? y = some m) (h2 : s.vm.method? m = some meth) (h3 : meth.code = some c) (h4 : c.code = bytes)
    (h5 : (c.maxLocals == mx && c.exceptionTable.isEmpty && decide (c.maxStack ≤ mostOperands) && decide (meth.sig.returnType = rt) && !meth.locks && decide (parseMethodDescriptor y.desc = some meth.sig)) = true) : (Jvm.Cond.code y bytes mx rt).before a s = true := by
  simp only [Bool.and_eq_true, beq_iff_eq, Bool.not_eq_true', decide_eq_true_eq] at h5
  obtain ⟨⟨⟨⟨⟨g1, g2⟩, g3⟩, g4⟩, g5⟩, g6⟩ := h5
  simp [Cond.before, Cond.holds, Cond.value, h1, h2, h3, h4, g1, g2, g3, g4, g5, g6]
def isCode : Jvm.Cond → Bool
  | .code _ _ _ _ => true
  | _ => false
theorem all_split {L : List Jvm.Cond} {P : Jvm.Cond → Bool} (h1 : L.all (fun c => isCode c || P c) = true) (h2 : ∀ c ∈ L.filter isCode, P c = true) : L.all P = true := by
  refine List.all_eq_true.mpr fun c hc => ?_
  have h := List.all_eq_true.mp h1 c hc
  rcases Bool.eq_false_or_eq_true (isCode c) with hi | hi
  · exact h2 c (List.mem_filter.mpr ⟨hc, hi⟩)
  · simpa [hi] using h
set_option maxRecDepth 65536 in
theorem w_c0 : (Jvm.Cond.code x code maxLocals ret).before args0 about1 = true := code_word (m := ⟨1, 1⟩) (meth := k1m1) (c := k1c1) (by decide +kernel) rfl rfl rfl (by decide +kernel)
set_option maxRecDepth 65536 in
theorem w_c1 : (Jvm.Cond.code ({ cls := "java/lang/Math", name := "min", desc := "(JJ)J" } : Jvm.MethodName) jdk_29_method_70_code (4 : Nat) (Option.some Jvm.ClassFile.FieldType.long)).before args0 about1 = true := code_word (m := ⟨2, 2⟩) (meth := k2m2) (c := k2c2) (by decide +kernel) rfl rfl rfl (by decide +kernel)
set_option maxRecDepth 65536 in
theorem w_c2 : (Jvm.Cond.code ({ cls := "java/lang/Math", name := "max", desc := "(JJ)J" } : Jvm.MethodName) jdk_29_method_66_code (4 : Nat) (Option.some Jvm.ClassFile.FieldType.long)).before args0 about1 = true := code_word (m := ⟨2, 1⟩) (meth := k2m1) (c := k2c1) (by decide +kernel) rfl rfl rfl (by decide +kernel)
set_option maxRecDepth 65536 in
theorem w_c3 : (Jvm.Cond.code ({ cls := "com/example/briareus/briareus/model/Interval", name := "<init>", desc := "(JJ)V" } : Jvm.MethodName) prog_9_method_1_code (5 : Nat) (Option.none : Option Jvm.ClassFile.FieldType)).before args0 about1 = true := code_word (m := ⟨4, 0⟩) (meth := k4m0) (c := k4c0) (by decide +kernel) rfl rfl rfl (by decide +kernel)
set_option maxRecDepth 65536 in
theorem w_c4 : (Jvm.Cond.code ({ cls := "java/lang/Record", name := "<init>", desc := "()V" } : Jvm.MethodName) jdk_30_method_1_code (1 : Nat) (Option.none : Option Jvm.ClassFile.FieldType)).before args0 about1 = true := code_word (m := ⟨3, 0⟩) (meth := k3m0) (c := k3c0) (by decide +kernel) rfl rfl rfl (by decide +kernel)
set_option maxRecDepth 65536 in
theorem w_c5 : (Jvm.Cond.code ({ cls := "java/lang/Object", name := "<init>", desc := "()V" } : Jvm.MethodName) object_method_1_code (1 : Nat) (Option.none : Option Jvm.ClassFile.FieldType)).before args0 about1 = true := code_word (m := ⟨0, 0⟩) (meth := k0m0) (c := k0c0) (by decide +kernel) rfl rfl rfl (by decide +kernel)
set_option maxRecDepth 65536 in
theorem w_c6 : (Jvm.Cond.code ({ cls := "com/example/briareus/briareus/model/Interval", name := "contains", desc := "(J)Z" } : Jvm.MethodName) prog_9_method_3_code (3 : Nat) (Option.some Jvm.ClassFile.FieldType.boolean)).before args0 about1 = true := code_word (m := ⟨4, 1⟩) (meth := k4m1) (c := k4c1) (by decide +kernel) rfl rfl rfl (by decide +kernel)
def codes1 : List Jvm.Cond := [Jvm.Cond.code x code maxLocals ret, Jvm.Cond.code ({ cls := "java/lang/Math", name := "min", desc := "(JJ)J" } : Jvm.MethodName) jdk_29_method_70_code (4 : Nat) (Option.some Jvm.ClassFile.FieldType.long), Jvm.Cond.code ({ cls := "java/lang/Math", name := "max", desc := "(JJ)J" } : Jvm.MethodName) jdk_29_method_66_code (4 : Nat) (Option.some Jvm.ClassFile.FieldType.long), Jvm.Cond.code ({ cls := "com/example/briareus/briareus/model/Interval", name := "<init>", desc := "(JJ)V" } : Jvm.MethodName) prog_9_method_1_code (5 : Nat) (Option.none : Option Jvm.ClassFile.FieldType), Jvm.Cond.code ({ cls := "java/lang/Record", name := "<init>", desc := "()V" } : Jvm.MethodName) jdk_30_method_1_code (1 : Nat) (Option.none : Option Jvm.ClassFile.FieldType), Jvm.Cond.code ({ cls := "java/lang/Object", name := "<init>", desc := "()V" } : Jvm.MethodName) object_method_1_code (1 : Nat) (Option.none : Option Jvm.ClassFile.FieldType), Jvm.Cond.code ({ cls := "com/example/briareus/briareus/model/Interval", name := "contains", desc := "(J)Z" } : Jvm.MethodName) prog_9_method_3_code (3 : Nat) (Option.some Jvm.ClassFile.FieldType.boolean)]
set_option maxRecDepth 65536 in
theorem codes_eq : words1.filter isCode = codes1 := rfl
theorem w_codes : ∀ c ∈ words1.filter isCode, c.before args0 about1 = true := by
  rw [codes_eq]
  intro c hc
  simp only [codes1, List.mem_cons, List.not_mem_nil, or_false] at hc
  rcases hc with rfl | rfl | rfl | rfl | rfl | rfl | rfl
  · exact w_c0
  · exact w_c1
  · exact w_c2
  · exact w_c3
  · exact w_c4
  · exact w_c5
  · exact w_c6
set_option maxRecDepth 65536 in
theorem w_t1 : (words1.take 24).all (fun c => isCode c || c.before args0 about1) = true := by decide +kernel
set_option maxRecDepth 65536 in
theorem w_t2 : (words1.drop 24).all (fun c => isCode c || c.before args0 about1) = true := by decide +kernel
theorem w_tables : (allAtoms (Jvm.Cond.code x code maxLocals ret :: tables_1)).before args0 about1 = true := by
  rw [allAtoms_all]
  show words1.all (fun c => c.before args0 about1) = true
  refine all_split ?_ w_codes
  rw [← List.take_append_drop 24 words1, List.all_append, w_t1, w_t2]
  rfl
set_option maxRecDepth 65536 in
theorem w_case : (Jvm.Cond.and given_1 narrow_1).before args0 about1 = true := by decide +kernel
theorem w_applies : (headSpec (Jvm.Cond.code x code maxLocals ret :: tables_1) room_1).applies x e0.platform about1 = true :=
  (Spec.applies_iff w_frames).mpr ⟨w_running, w_runnable, w_alone, w_named, w_hears, w_ripe, w_room, w_tables⟩
theorem atStart : AtStart classFile x code maxLocals ret World_1 tables_1 room_1 Calls_1 rest_1 Pre_1 launch0 p0 e0 about1 theMethod args0 below0 :=
  ⟨lists_1, trivial, launch0.admits_env _ _ _, launch0.least_env, fairChoices_fair.cas, fairChoices_fair.clock, w_frames, w_args, w_heap, w_applies, trivial, trivial, w_case⟩
end start1
theorem witness_1 : WitnessClaimed_1 := ⟨start1.p0, start1.e0, start1.about1, start1.theMethod, start1.args0, start1.below0, start1.atStart⟩
end Jvm.Pilot.@@N@@
