import JvmDerived
import JvmDerived.Pilot.@@N@@Statement
import JvmDerived.Pilot.@@N@@Code
set_option linter.unusedVariables false
set_option linter.unusedSimpArgs false
@@BLOCK:NumsL.lean.txt@@
namespace Jvm.Pilot.@@N@@
open Jvm Jvm.ClassFile Sem Op Lib Jvm.Free Jvm.Stand Jvm.LawKit Jvm.RoadKit Bundle Jvm.Pilot.@@N@@.Jvm.D
section Own
variable {p : Program} {l : Launch} {e : Env} {R : Room} {s : State} {m : MethodId} {args : Array Value} {below : List Frame} {meth : Method} {c : Code} {T : State} {locs : List Loc} {cells slots : Nat} {Z : State} {h h' : Heap}
/-- the run from A comes to the method's end as Q says, with at most kc new cells and ks new slots -/
def own_E (p : Program) (e : Env) (below : List Frame) (s : State) (Q : Option Value → Heap → List Loc → Prop) (kc ks : Nat) (A : State) : Prop :=
  ∃ s₂ o, Steps p.tables e below A s₂ ∧ s₂.status = .running ∧ Ended s₂ below o ∧ ∃ v L, o = .returned v ∧ Q v s₂.heap L ∧ FrameEnd s o s₂ L kc ks
variable {Q : Option Value → Heap → List Loc → Prop} {kc ks : Nat} {A B : State}
theorem own_st (k : ∀ t, Steps p.tables e below B t → Steps p.tables e below A t) (h : own_E p e below s Q kc ks B) : own_E p e below s Q kc ks A := by
  obtain ⟨t, o, h1, h2⟩ := h
  exact ⟨t, o, k t h1, h2⟩
theorem own_end (X : Stand p l e R s m args below meth c T locs cells slots) {v : Option Value} (hv : meth.sig.returnType = none → v = none) (hlk : meth.locks = false)
    (hk : ∀ fs, (∀ (f : JFrame) (acts : List Action), f.method = m → f.locked = none → f.entered = [] → (doReturn e (T.setTop f) acts v).1 = T.setFrames fs) → Steps p.tables e below A (T.setFrames fs)) (hc : cells ≤ kc) (hs : slots ≤ ks) (hQ : Q v T.heap locs) : own_E p e below s Q kc ks A := by
  obtain ⟨fs, hr, hrun, hended, hW, hsame⟩ := X.leave (v := v) hv hlk
  exact ⟨_, _, hk fs hr, hrun, hended, _, _, rfl, hQ, ⟨_, rfl⟩, hW, hsame.mono hc hs⟩
theorem own_retN (X : Stand p l e R s m args below meth c T locs cells slots) (hx : p.tables.exec = Jvm.exec) {pc : Nat} {Ls : Array Slot} {z z' : Int32} {t : FieldType} {rest : List Value} (hret : meth.sig.returnType = some t) (ht : t = .boolean ∨ t = .byte ∨ t = .char ∨ t = .short) (hlk : meth.locks = false)
    (hd : decode c.code pc = .ok (.ireturn, 1)) (hz : nar t z = z') (hc : cells ≤ kc) (hs : slots ≤ ks) (hQ : Q (some (.int z')) T.heap locs) : own_E p e below s Q kc ks (T.setTop (mkF m pc Ls (.int z :: rest))) := by
  subst hz
  exact own_end X (fun q => by rw [hret] at q; cases q) hlk (fun fs hr => retN X hx hret ht hd hr) hc hs hQ
theorem own_retI (X : Stand p l e R s m args below meth c T locs cells slots) (hx : p.tables.exec = Jvm.exec) {pc : Nat} {Ls : Array Slot} {z : Int32} {rest : List Value} (hret : meth.sig.returnType = some .int) (hlk : meth.locks = false)
    (hd : decode c.code pc = .ok (.ireturn, 1)) (hc : cells ≤ kc) (hs : slots ≤ ks) (hQ : Q (some (.int z)) T.heap locs) : own_E p e below s Q kc ks (T.setTop (mkF m pc Ls (.int z :: rest))) := by
  refine own_end X (fun q => by rw [hret] at q; cases q) hlk (fun fs hr => ?_) hc hs hQ
  have hm' : T.vm.method? m = some meth := X.method'
  have hn : narrow .int (.int z) = .int z := rfl
  show Steps p.tables e below (T.setTop { method := m, pc := pc, locals := Ls, stack := _ :: rest, locked := none }) _
  jvm_step X.here [X.here.top, hx, hd, hm', hret, hn]
  first | (intro acts; rw [hr _ acts rfl rfl rfl]) | rw [hr _ _ rfl rfl rfl]
  exact Steps.refl _
theorem own_retJ (X : Stand p l e R s m args below meth c T locs cells slots) (hx : p.tables.exec = Jvm.exec) {pc : Nat} {Ls : Array Slot} {z : Int64} (hret : meth.sig.returnType = some .long) (hlk : meth.locks = false)
    (hd : decode c.code pc = .ok (.lreturn, 1)) (hc : cells ≤ kc) (hs : slots ≤ ks) (hQ : Q (some (.long z)) T.heap locs) : own_E p e below s Q kc ks (T.setTop (mkF m pc Ls [.long z])) :=
  own_end X (fun q => by rw [hret] at q; cases q) hlk (fun fs hr => X.lreturnOut hx hret hd hr) hc hs hQ
theorem own_retR (X : Stand p l e R s m args below meth c T locs cells slots) (hx : p.tables.exec = Jvm.exec) {pc : Nat} {Ls : Array Slot} {w : Value} {t : FieldType} (hw : w.isRef = true) (hret : meth.sig.returnType = some t) (ht : t.isReference = true) (hlk : meth.locks = false)
    (hd : decode c.code pc = .ok (.areturn, 1)) (hc : cells ≤ kc) (hs : slots ≤ ks) (hQ : Q (some w) T.heap locs) : own_E p e below s Q kc ks (T.setTop (mkF m pc Ls [w])) :=
  own_end X (fun q => by rw [hret] at q; cases q) hlk (fun fs hr => X.areturnOut hx hw hret ht hd hr) hc hs hQ
theorem own_retV (X : Stand p l e R s m args below meth c T locs cells slots) (hx : p.tables.exec = Jvm.exec) {pc : Nat} {Ls : Array Slot} (hret : meth.sig.returnType = none) (hlk : meth.locks = false)
    (hd : decode c.code pc = .ok (.return_, 1)) (hc : cells ≤ kc) (hs : slots ≤ ks) (hQ : Q none T.heap locs) : own_E p e below s Q kc ks (T.setTop (mkF m pc Ls [])) :=
  own_end X (fun _ => rfl) hlk (fun fs hr => X.returnOut hx hret hd hr) hc hs hQ
/-- a boolean as the machine holds it -/
def own_b (b : Bool) : Int32 := if b then 1 else 0
theorem own_b1 {P : Prop} [Decidable P] (h : P) : own_b (decide P) = 1 := by simp [own_b, h]
theorem own_bz {P : Prop} [Decidable P] (h : ¬ P) : own_b (decide P) = 0 := by simp [own_b, h]
theorem own_lt32 {x y : Int32} (h : x < y) : x.toInt < y.toInt := Int32.lt_iff_toInt_lt.mp h
theorem own_nlt32 {x y : Int32} (h : ¬ x < y) : ¬ x.toInt < y.toInt := fun q => h (Int32.lt_iff_toInt_lt.mpr q)
theorem own_eq32 {x y : Int32} (h : x = y) : x.toInt = y.toInt := congrArg _ h
theorem own_neq32 {x y : Int32} (h : ¬ x = y) : ¬ x.toInt = y.toInt := fun q => h (Int32.toInt_inj.mp q)
theorem own_lt64 {x y : Int64} (h : x < y) : x.toInt < y.toInt := Int64.lt_iff_toInt_lt.mp h
theorem own_nlt64 {x y : Int64} (h : ¬ x < y) : ¬ x.toInt < y.toInt := fun q => h (Int64.lt_iff_toInt_lt.mpr q)
theorem own_eq64 {x y : Int64} (h : x = y) : x.toInt = y.toInt := congrArg _ h
theorem own_neq64 {x y : Int64} (h : ¬ x = y) : ¬ x.toInt = y.toInt := fun q => h (Int64.toInt_inj.mp q)
theorem own_b0 {b : Bool} : own_b b = 0 ↔ b = false := by cases b <;> decide
theorem own_nb (b : Bool) : nar .boolean (own_b b) = own_b b := by cases b <;> rfl
theorem own_nbb (x : Int32) : nar .byte (x.toInt8.toInt32) = x.toInt8.toInt32 := by
  show x.toInt8.toInt32.toInt8.toInt32 = x.toInt8.toInt32
  rw [Int8.toInt8_toInt32]
theorem own_stV {l : Array Slot} {i : Nat} {v : Value} {o : Slot} (hold : l[i]? = some o) (ho : o = .unset ∨ ∃ w, o = .val w ∧ w.category = 1) (hv : v.category = 1) : storeLocals l i v = some (l.setIfInBounds i (.val v)) := XS.store1 hold ho hv
theorem own_narV {ty : FieldType} {v : Value} (hv : v.isRef = true) : narrow ty v = v := by
  rcases ref_cases hv with rfl | ⟨a, rfl⟩ <;> cases ty <;> rfl
theorem own_fitV {ty : FieldType} {v : Value} (ht : ty.isReference = true) (hv : v.isRef = true) : fits ty v = true := by
  rcases ref_cases hv with rfl | ⟨a, rfl⟩ <;> cases ty <;> first | rfl | (cases ht; done)
/-- an array of n places, whose place j holds f j -/
def own_A (Z : State) (h : Heap) (a : Addr) (ty : FieldType) (n : Nat) (f : Nat → Int32) : Prop := ∃ c : Cell, Arr Z h a c ty ∧ c.slots.size = n ∧ n < 2 ^ 31 ∧ (∀ j, j < n → c.slots[j]? = some (.int (f j))) ∧ ∀ j, j < n → fits ty (.int (f j)) = true
def own_up (f : Nat → Int32) (i : Nat) (v : Int32) (k : Nat) : Int32 := if k = i then v else f k
theorem own_up_same (f : Nat → Int32) (i : Nat) (v : Int32) : own_up f i v i = v := if_pos rfl
theorem own_up_ne (f : Nat → Int32) {i k : Nat} (v : Int32) (h : ¬ k = i) : own_up f i v k = f k := if_neg h
theorem own_catV {v : Value} (h : v.isRef = true) : v.category = 1 := by rcases ref_cases h with rfl | ⟨a, rfl⟩ <;> rfl
abbrev own_ix (j : Int32) (i : Nat) : Prop := ¬ j < 0 ∧ j.toNatClampNeg = i
variable {a b : Addr} {ty : FieldType} {n i : Nat} {f : Nat → Int32} {j x : Int32} {pc : Nat} {Ls : Array Slot} {rest : List Value} {sl : Nat} {v : Value} {ws : List Addr}
theorem own_A.lt (F : own_A Z h a ty n f) : a < h.size := by obtain ⟨c, A, -⟩ := F; exact A.lt
theorem own_A.ext (F : own_A Z h a ty n f) (E : Ext h h') : own_A Z h' a ty n f := by obtain ⟨c, A, r⟩ := F; exact ⟨c, A.ext E, r⟩
theorem own_A.other (F : own_A Z h b ty n f) (W : Wr h h' a sl v) (q : b ≠ a) : own_A Z h' b ty n f := by obtain ⟨c, A, r⟩ := F; exact ⟨c, A.other W q, r⟩
theorem own_A.keep (F : own_A Z h a ty n f) (K : Keep h h' ws) (q : a ∉ ws) : own_A Z h' a ty n f := by obtain ⟨c, A, r⟩ := F; exact ⟨c, ⟨K.2.1 a c A.1 q, A.2⟩, r⟩
theorem own_A.congr {g : Nat → Int32} (F : own_A Z h a ty n f) (q : ∀ j, j < n → f j = g j) : own_A Z h a ty n g := by obtain ⟨c, A, r1, r2, r3, r4⟩ := F; exact ⟨c, A, r1, r2, fun j hj => by rw [← q j hj]; exact r3 j hj, fun j hj => by rw [← q j hj]; exact r4 j hj⟩
theorem own_A.new {k : ClassId} {z : Int32} (A : Arr Z h a (newA k ty z) ty) (q : ¬ z < 0) (hz : z.toNatClampNeg = n) (hd : defaultValue ty = .int 0 := by rfl) : own_A Z h a ty n (fun _ => 0) := by
  subst hz
  exact ⟨_, A, sz_new _ _ _, (back32 q).2, fun j hj => by simp [newA, hj, hd], fun j hj => by rw [← hd]; cases ty <;> rfl⟩
theorem own_A.set (F : own_A Z h a ty n f) (hj : own_ix j i) (W : Wr h h' a j.toNatClampNeg (.int x)) (hf : fits ty (.int x) = true) : own_A Z h' a ty n (own_up f i x) := by
  obtain ⟨c, A, r1, r2, r3, r4⟩ := F
  obtain ⟨hj1, rfl⟩ := hj
  refine ⟨_, A.same W, by rw [sz_set]; exact r1, r2, fun k hk => ?_, fun k hk => ?_⟩ <;> by_cases q : k = j.toNatClampNeg
  · subst q; simp [Cell.setSlot, own_up, r1, hk]
  · simp only [Cell.setSlot, own_up, if_neg q]; rw [Array.getElem?_setIfInBounds_ne (Ne.symm q)]; exact r3 k hk
  · simp only [own_up, if_pos q]; exact hf
  · simp only [own_up, if_neg q]; exact r4 k hk
theorem own_in (hj : own_ix j i) (hi : i < n) {c : Cell} (hc : c.slots.size = n) : ¬ (j < 0 ∨ c.slots.size ≤ j.toNatClampNeg) := by
  rintro (q | q)
  · exact hj.1 q
  · rw [hj.2, hc] at q; omega
theorem own_stB (X : Stand p l e R s m args below meth c T locs cells slots) (hx : p.tables.exec = Jvm.exec) (hZ : Z.Warmed39 s.vm) (eT : T.heap = h) (A : own_A Z h a .byte n f) (hj : own_ix j i) (hi : i < n) (hd : decode c.code pc = .ok (.bastore, 1)) :
    ∃ T' h', Stand p l e R s m args below meth c T' (locs ++ [⟨a, j.toNatClampNeg⟩]) cells slots ∧ T'.heap = h' ∧ Wr h h' a j.toNatClampNeg (.int (nar .byte x)) ∧ own_A Z h' a .byte n (own_up f i (nar .byte x)) ∧ ∀ t, Steps p.tables e below (T'.setTop (mkF m (pc + 1) Ls rest)) t → Steps p.tables e below (T.setTop (mkF m pc Ls (.int x :: .int j :: .ref a :: rest))) t := by
  have A0 := A
  obtain ⟨cl, A1, r1, r2, r3, r4⟩ := A
  obtain ⟨T', h', X', e', W, st⟩ := stB X hx hZ eT A1 (j := j) (x := x) (own_in hj hi r1) (g := mkF m pc Ls (.int x :: .int j :: .ref a :: rest)) rfl rfl hd
  exact ⟨T', h', X', e', W, A0.set hj W (fits_nar_byte x), st⟩
theorem own_stI (X : Stand p l e R s m args below meth c T locs cells slots) (hx : p.tables.exec = Jvm.exec) (hZ : Z.Warmed39 s.vm) (eT : T.heap = h) (A : own_A Z h a .int n f) (hj : own_ix j i) (hi : i < n) (hd : decode c.code pc = .ok (.iastore, 1)) :
    ∃ T' h', Stand p l e R s m args below meth c T' (locs ++ [⟨a, j.toNatClampNeg⟩]) cells slots ∧ T'.heap = h' ∧ Wr h h' a j.toNatClampNeg (.int x) ∧ own_A Z h' a .int n (own_up f i x) ∧ ∀ t, Steps p.tables e below (T'.setTop (mkF m (pc + 1) Ls rest)) t → Steps p.tables e below (T.setTop (mkF m pc Ls (.int x :: .int j :: .ref a :: rest))) t := by
  have A0 := A
  obtain ⟨cl, A1, r1, r2, r3, r4⟩ := A
  obtain ⟨T', h', X', e', W, st⟩ := stI X hx hZ eT A1 (j := j) (x := x) (own_in hj hi r1) (g := mkF m pc Ls (.int x :: .int j :: .ref a :: rest)) rfl rfl hd
  exact ⟨T', h', X', e', W, A0.set hj W rfl, st⟩
theorem own_ldB (X : Stand p l e R s m args below meth c T locs cells slots) (hx : p.tables.exec = Jvm.exec) (hZ : Z.Warmed39 s.vm) (eT : T.heap = h) (A : own_A Z h a .byte n f) (hj : own_ix j i) (hi : i < n) (hd : decode c.code pc = .ok (.baload, 1)) (t : State)
    (k : Steps p.tables e below (T.setTop (mkF m (pc + 1) Ls (.int (f i) :: rest))) t) : Steps p.tables e below (T.setTop (mkF m pc Ls (.int j :: .ref a :: rest))) t := by
  obtain ⟨cl, A1, r1, r2, r3, r4⟩ := A
  exact X.baloadBytes hx (j := j) (v := .int (f i)) (by rw [eT]; exact A1.1) (State.isArrayOf_alike hZ.alike A1.2.1) A1.2.2 (own_in hj hi r1) (by rw [hj.2]; exact r3 i hi) (g := mkF m pc Ls (.int j :: .ref a :: rest)) rfl rfl hd t k
theorem own_ldI (X : Stand p l e R s m args below meth c T locs cells slots) (hx : p.tables.exec = Jvm.exec) (hZ : Z.Warmed39 s.vm) (eT : T.heap = h) (A : own_A Z h a .int n f) (hj : own_ix j i) (hi : i < n) (hd : decode c.code pc = .ok (.iaload, 1)) (t : State)
    (k : Steps p.tables e below (T.setTop (mkF m (pc + 1) Ls (.int (f i) :: rest))) t) : Steps p.tables e below (T.setTop (mkF m pc Ls (.int j :: .ref a :: rest))) t := by
  obtain ⟨cl, A1, r1, r2, r3, r4⟩ := A
  exact X.iaload hx (j := j) (v := .int (f i)) (by rw [eT]; exact A1.1) (State.isArrayOf_alike hZ.alike A1.2.1) A1.2.2 (own_in hj hi r1) (by rw [hj.2]; exact r3 i hi) (g := mkF m pc Ls (.int j :: .ref a :: rest)) rfl rfl hd t k
theorem own_len {z : Int32} (X : Stand p l e R s m args below meth c T locs cells slots) (hx : p.tables.exec = Jvm.exec) (hZ : Z.Warmed39 s.vm) (eT : T.heap = h) (A : own_A Z h a ty n f) (hz : n.toInt32 = z) (hd : decode c.code pc = .ok (.arraylength, 1)) (t : State)
    (k : Steps p.tables e below (T.setTop (mkF m (pc + 1) Ls (.int z :: rest))) t) : Steps p.tables e below (T.setTop (mkF m pc Ls (.ref a :: rest))) t := by
  obtain ⟨cl, A1, r1, r2, r3, r4⟩ := A
  subst hz
  refine X.arraylength hx (by rw [eT]; exact A1.1) (State.isArrayOf_alike hZ.alike A1.2.1) (g := mkF m pc Ls (.ref a :: rest)) rfl rfl hd t ?_
  rw [r1]; exact k
theorem own_clone (X : Stand p l e R s m args below meth c T locs cells slots) (hx : p.tables.exec = Jvm.exec) (hZ : Z.Warmed39 s.vm) {a0 : Array Value} {own ad : String} {index : Nat} (hown : s.vm.findClass own = some m.cls)
    (w1 : (Cond.methodLink own index ⟨ad, "clone", "()Ljava/lang/Object;"⟩).before a0 Z = true) (w2 : (Cond.sameMethod ad "java/lang/Object" "clone" "()Ljava/lang/Object;").before a0 Z = true) (w3 : (Cond.native ⟨"java/lang/Object", "clone", "()Ljava/lang/Object;"⟩).before a0 Z = true)
    (w4 : (Cond.instanceMethod ⟨"java/lang/Object", "clone", "()Ljava/lang/Object;"⟩).before a0 Z = true) (w5 : (Cond.selects ad ⟨ad, "clone", "()Ljava/lang/Object;"⟩ ⟨"java/lang/Object", "clone", "()Ljava/lang/Object;"⟩).before a0 Z = true) (w6 : (Cond.castable ad "java/lang/Cloneable").before a0 Z = true)
    (eT : T.heap = h) (A : own_A Z h a ty n f) (E : Exa Z h a ad) (hsize : Ls.size = c.maxLocals) (hd : decode c.code pc = .ok (.invokevirtual index, 3))
    (hf : 1 ≤ R.frames) {W cap : Nat} (hW : 2 * 0 + (rest.map fun v => v.category).sum ≤ W) (hl : W + 14 ≤ R.locals) (hcap : n ≤ cap) (hc : cells + 1 ≤ R.cells) (hsl : slots + cap ≤ R.slots) :
    ∃ T' h', Stand p l e R s m args below meth c T' locs (cells + 1) (slots + cap) ∧ T'.heap = h' ∧ Ext h h' ∧ own_A Z h' h.size ty n f ∧ Exa Z h' h.size ad ∧
      ∀ t, Steps p.tables e below (T'.setTop (mkF m (pc + 3) Ls (.ref h.size :: rest))) t → Steps p.tables e below (T.setTop (mkF m pc Ls (.ref a :: rest))) t := by
  obtain ⟨cl, A1, r1, r2, r3, r4⟩ := A
  have FC : FitC Z cl := fitC_of A1 fun i hi v hv => by rw [r1] at hi; rw [r3 i hi] at hv; cases hv; exact r4 i hi
  obtain ⟨T', h', X', e', ex, A', E', st⟩ := cloneA X hx hZ hown w1 w2 w3 w4 w5 w6 eT A1 E FC (g := mkF m pc Ls (.ref a :: rest)) rfl hsize rfl hd hf hW hl (by rw [r1]; exact hcap) hc hsl
  exact ⟨T', h', X', e', ex, ⟨cloneOf cl, A', r1, r2, r3, r4⟩, E', st⟩
theorem own_selP {s : State} {args : Array Value} {y : MethodName} {n : Nat} (hin : (Cond.instantiable y.cls n).before args s = true) (hpriv : s.PrivateAt y) (hinst : (Cond.instanceMethod y).before args s = true) (hy : y.cls ≠ "java/lang/invoke/MethodHandle" ∧ y.cls ≠ "java/lang/invoke/VarHandle") : (Cond.selects y.cls y y).before args s = true := by
  obtain ⟨c, k, h1, h2, -, h4, -⟩ := Cond.instantiable_spec hin
  exact selects_self_of_private h1 h2 (Bool.or_eq_false_iff.mp h4).1 hpriv hinst hy
theorem own_ixa (h : own_ix j i) (k : Nat) (hi : i + k < 2 ^ 31) : own_ix (j + Int32.ofNat k) (i + k) := by
  obtain ⟨h1, h2⟩ := h
  have e0 : (0 : Int32).toInt = 0 := rfl
  have e1 : (Int32.ofNat k).toInt = k := Int32.toInt_ofNat_of_lt (by omega)
  rw [Int32.lt_iff_toInt_lt, e0] at h1
  simp only [Int32.toNatClampNeg] at h2
  have h3 := c_iadd j (Int32.ofNat k); have h4 := rng32 (j + Int32.ofNat k)
  rw [e1] at h3
  refine ⟨by rw [Int32.lt_iff_toInt_lt, e0]; omega, ?_⟩
  simp only [Int32.toNatClampNeg]; omega
theorem own_ixI (h : own_ix j i) : j.toInt = i := by
  obtain ⟨h1, h2⟩ := h
  have e0 : (0 : Int32).toInt = 0 := rfl
  rw [Int32.lt_iff_toInt_lt, e0] at h1
  simp only [Int32.toNatClampNeg] at h2; omega
theorem own_ixof (h : j.toInt = i) : own_ix j i := by
  have e0 : (0 : Int32).toInt = 0 := rfl
  refine ⟨by rw [Int32.lt_iff_toInt_lt, e0]; omega, ?_⟩
  simp only [Int32.toNatClampNeg]; omega
theorem own_ixs (h : ¬ j < 0) : own_ix j j.toNatClampNeg := ⟨h, rfl⟩
theorem own_and3 (x : Int32) (k : Nat) (hk : k < 2 ^ 31) : ¬ (x &&& Int32.ofNat k) < 0 ∧ (x &&& Int32.ofNat k).toNatClampNeg ≤ k := by
  have h0 : 0 ≤ (Int32.ofNat k).toInt := by rw [Int32.toInt_ofNat_of_lt hk]; omega
  have h1 := (c_andS x (Int32.ofNat k)).2.2 h0
  have e0 : (0 : Int32).toInt = 0 := rfl
  refine ⟨by rw [Int32.lt_iff_toInt_lt, e0]; omega, ?_⟩
  have hb : (x &&& Int32.ofNat k).toBitVec.toNat ≤ k := by
    have : (x &&& Int32.ofNat k).toBitVec.toNat = x.toBitVec.toNat &&& (Int32.ofNat k).toBitVec.toNat := by rw [Int32.toBitVec_and, BitVec.toNat_and]
    rw [this]
    refine Nat.le_trans Nat.and_le_right ?_
    show (BitVec.ofNat 32 k).toNat ≤ k
    rw [BitVec.toNat_ofNat]; exact Nat.mod_le _ _
  have e : (x &&& Int32.ofNat k).toInt = ((x &&& Int32.ofNat k).toBitVec.toNat : Int) := by
    show (x &&& Int32.ofNat k).toBitVec.toInt = _
    rw [BitVec.toInt_eq_toNat_cond]; split
    · rfl
    · omega
  simp only [Int32.toNatClampNeg, e]; omega
end Own

theorem own_u64 (w : Int64) : w.toInt % 18446744073709551616 = (w.toBitVec.toNat : Int) := by
  show w.toBitVec.toInt % _ = _
  rw [BitVec.toInt_eq_toNat_cond]; have := w.toBitVec.isLt; split <;> omega
theorem own_or8 : ∀ r : Fin 256, (r.val ||| 128) = r.val % 128 + 128 := by decide +kernel
theorem own_or128 (w : Int64) : (w ||| (128 : Int64)).toInt % 256 = w.toInt % 128 + 128 := by
  have h1 := own_u64 (w ||| 128); have h2 := own_u64 w
  have h3 : (w ||| (128 : Int64)).toBitVec.toNat = w.toBitVec.toNat ||| 128 := by rw [Int64.toBitVec_or, BitVec.toNat_or]; rfl
  have h4 : (w.toBitVec.toNat ||| 128) % 256 = (w.toBitVec.toNat % 256) ||| 128 := by
    have := @Nat.or_mod_two_pow w.toBitVec.toNat 128 8
    simpa using this
  have h5 := own_or8 ⟨w.toBitVec.toNat % 256, Nat.mod_lt _ (by decide)⟩
  dsimp only at h5
  rw [h3] at h1; omega
/-- a byte that goes on: the low seven bits, the eighth set -/
def own_c1 (N i : Nat) : Int32 := Int32.ofInt (((N / 128 ^ i % 128 : Nat) : Int) - 128)
def own_c2 (N i : Nat) : Int32 := Int32.ofInt ((N / 128 ^ i : Nat) : Int)
theorem own_ofI {z : Int} (h1 : -128 ≤ z) (h2 : z < 128) : (Int32.ofInt z).toInt = z := by
  rw [Int32.toInt_ofInt]; exact Jvm.Kit.bmod32 (by omega) (by omega)
theorem own_byte1 {N i : Nat} {w : Int64} (hw : w.toInt % 128 = ((N / 128 ^ i % 128 : Nat) : Int)) : (((w ||| (128 : Int64)).toInt32).toInt8.toInt32) = own_c1 N i := by
  have h1 := c_i2b (w ||| (128 : Int64)).toInt32; have h2 := c_l2i (w ||| (128 : Int64)); have h3 := own_or128 w
  rw [← Int32.toInt_inj, own_c1, own_ofI (by omega) (by omega)]; omega
theorem own_byte2 {N i : Nat} {w : Int64} (hw : w.toInt = ((N / 128 ^ i : Nat) : Int)) (hl : N / 128 ^ i < 128) : ((w.toInt32).toInt8.toInt32) = own_c2 N i := by
  have h1 := c_i2b w.toInt32; have h2 := c_l2i w
  rw [← Int32.toInt_inj, own_c2]
  generalize N / 128 ^ i = M at *
  rw [own_ofI (by omega) (by omega)]; omega
theorem own_pw {N t : Nat} (hN : N < 128 ^ 9) (h : 128 ≤ N / 128 ^ t) : t ≤ 7 ∧ 128 ^ (t + 1) ≤ N := by
  rw [Nat.le_div_iff_mul_le (Nat.pow_pos (by decide))] at h
  have e : 128 * 128 ^ t = 128 ^ (t + 1) := by rw [Nat.pow_succ, Nat.mul_comm]
  rw [e] at h
  refine ⟨?_, h⟩
  have := (Nat.pow_lt_pow_iff_right (show 1 < 128 by decide)).mp (Nat.lt_of_le_of_lt h hN)
  omega
theorem own_pl {N t : Nat} (h : N / 128 ^ t < 128) : N < 128 ^ (t + 1) := by
  rw [Nat.div_lt_iff_lt_mul (Nat.pow_pos (by decide)), Nat.mul_comm] at h; rw [Nat.pow_succ]; exact h
theorem own_pd' {N t : Nat} (h : N < 128 ^ (t + 1)) : N / 128 ^ t < 128 := by
  rw [Nat.div_lt_iff_lt_mul (Nat.pow_pos (by decide)), Nat.mul_comm]; rw [Nat.pow_succ] at h; exact h
theorem own_sz {N t s : Nat} (h1 : t = 0 ∨ 128 ^ t ≤ N) (h2 : N < 128 ^ (t + 1)) (h3 : s = 1 ∨ 128 ^ (s - 1) ≤ N) (h4 : N < 128 ^ s) (h5 : 1 ≤ s) : s = t + 1 := by
  have a : s ≤ t + 1 := by
    rcases h3 with h3 | h3
    · omega
    · have := (Nat.pow_lt_pow_iff_right (show 1 < 128 by decide)).mp (Nat.lt_of_le_of_lt h3 h2); omega
  have b : t < s := by
    rcases h1 with h1 | h1
    · omega
    · exact (Nat.pow_lt_pow_iff_right (show 1 < 128 by decide)).mp (Nat.lt_of_le_of_lt h1 h4)
  omega
def own_G (N kp t : Nat) (f : Nat → Int32) (j : Nat) : Int32 := if kp ≤ j ∧ j < kp + t then own_c1 N (j - kp) else f j
def own_W (N kp t : Nat) (f : Nat → Int32) (j : Nat) : Int32 := if kp ≤ j ∧ j < kp + t then own_c1 N (j - kp) else if j = kp + t then own_c2 N t else f j
theorem own_stp {N kp t : Nat} {f g : Nat → Int32} {x : Int32} (hg : ∀ j, j < 13 → g j = own_G N kp t f j) (hx : x = own_c1 N t) : ∀ j, j < 13 → own_up g (kp + t) x j = own_G N kp (t + 1) f j := by
  intro j hj
  by_cases q : j = kp + t
  · subst q; rw [own_up_same, own_G, if_pos (by omega), hx, Nat.add_sub_cancel_left]
  · rw [own_up_ne _ _ q, hg j hj, own_G, own_G]
    by_cases r : kp ≤ j ∧ j < kp + t
    · rw [if_pos r, if_pos (by omega)]
    · rw [if_neg r, if_neg (by omega)]
theorem own_fin {N kp t : Nat} {f g : Nat → Int32} {x : Int32} (hg : ∀ j, j < 13 → g j = own_G N kp t f j) (hx : x = own_c2 N t) : ∀ j, j < 13 → own_up g (kp + t) x j = own_W N kp t f j := by
  intro j hj
  by_cases q : j = kp + t
  · subst q; rw [own_up_same, own_W, if_neg (by omega), if_pos rfl, hx]
  · rw [own_up_ne _ _ q, hg j hj, own_G, own_W]
    by_cases r : kp ≤ j ∧ j < kp + t
    · rw [if_pos r, if_pos r]
    · rw [if_neg r, if_neg r, if_neg q]
theorem own_ix9 (i : Int32) {k : Nat} (h : i.toInt = k) (hk : k < 9) : i = Int32.ofNat k := by rw [← Int32.toInt_inj, h]; exact (Int32.toInt_ofNat_of_lt (by omega)).symm
theorem own_lsh (w : Int64) {N k : Nat} (hN : w.toInt = N) (hk : k < 9) (i : Int32) (hi : i.toInt = k) : ((w.toUInt64 >>> (((7 : Int32) * i) &&& 0x3f).toInt64.toUInt64).toInt64).toInt = ((N / 128 ^ k : Nat) : Int) := by
  have h0 : (0 : Int64) ≤ w := by rw [Int64.le_iff_toInt_le, hN]; exact Int.natCast_nonneg N
  have e : (2 : Nat) ^ (7 * k) = 128 ^ k := by rw [Nat.pow_mul]
  rw [own_ix9 i hi hk]
  have hs : ((((7 : Int32) * Int32.ofNat k) &&& 0x3f).toInt64.toUInt64).toNat = 7 * k := by
    have : k = 0 ∨ k = 1 ∨ k = 2 ∨ k = 3 ∨ k = 4 ∨ k = 5 ∨ k = 6 ∨ k = 7 ∨ k = 8 := by omega
    rcases this with rfl | rfl | rfl | rfl | rfl | rfl | rfl | rfl | rfl <;> decide
  have := Jvm.Kit.i64_lushr h0 hs (by omega)
  rw [this, hN, ← e]; norm_cast
theorem own_b1_d0 : decode method_3_code 0 = .ok (.lload_n 0, 1) := by decide +kernel
theorem own_b1_d1 : decode method_3_code 1 = .ok (.ldc2_w 27, 3) := by decide +kernel
theorem own_b1_d4 : decode method_3_code 4 = .ok (.lcmp, 1) := by decide +kernel
theorem own_b1_d5 : decode method_3_code 5 = .ok (.ifCond .ge 5, 3) := by decide +kernel
theorem own_b1_d8 : decode method_3_code 8 = .ok (.iconst 1, 1) := by decide +kernel
theorem own_b1_d9 : decode method_3_code 9 = .ok (.ireturn, 1) := by decide +kernel
theorem own_b1_d10 : decode method_3_code 10 = .ok (.lload_n 0, 1) := by decide +kernel
theorem own_b1_d11 : decode method_3_code 11 = .ok (.ldc2_w 29, 3) := by decide +kernel
theorem own_b1_d14 : decode method_3_code 14 = .ok (.lcmp, 1) := by decide +kernel
theorem own_b1_d15 : decode method_3_code 15 = .ok (.ifCond .ge 5, 3) := by decide +kernel
theorem own_b1_d18 : decode method_3_code 18 = .ok (.iconst 2, 1) := by decide +kernel
theorem own_b1_d19 : decode method_3_code 19 = .ok (.ireturn, 1) := by decide +kernel
theorem own_b1_d20 : decode method_3_code 20 = .ok (.lload_n 0, 1) := by decide +kernel
theorem own_b1_d21 : decode method_3_code 21 = .ok (.ldc2_w 31, 3) := by decide +kernel
theorem own_b1_d24 : decode method_3_code 24 = .ok (.lcmp, 1) := by decide +kernel
theorem own_b1_d25 : decode method_3_code 25 = .ok (.ifCond .ge 5, 3) := by decide +kernel
theorem own_b1_d28 : decode method_3_code 28 = .ok (.iconst 3, 1) := by decide +kernel
theorem own_b1_d29 : decode method_3_code 29 = .ok (.ireturn, 1) := by decide +kernel
theorem own_b1_d30 : decode method_3_code 30 = .ok (.lload_n 0, 1) := by decide +kernel
theorem own_b1_d31 : decode method_3_code 31 = .ok (.ldc2_w 33, 3) := by decide +kernel
theorem own_b1_d34 : decode method_3_code 34 = .ok (.lcmp, 1) := by decide +kernel
theorem own_b1_d35 : decode method_3_code 35 = .ok (.ifCond .ge 5, 3) := by decide +kernel
theorem own_b1_d38 : decode method_3_code 38 = .ok (.iconst 4, 1) := by decide +kernel
theorem own_b1_d39 : decode method_3_code 39 = .ok (.ireturn, 1) := by decide +kernel
theorem own_b1_d40 : decode method_3_code 40 = .ok (.lload_n 0, 1) := by decide +kernel
theorem own_b1_d41 : decode method_3_code 41 = .ok (.ldc2_w 35, 3) := by decide +kernel
theorem own_b1_d44 : decode method_3_code 44 = .ok (.lcmp, 1) := by decide +kernel
theorem own_b1_d45 : decode method_3_code 45 = .ok (.ifCond .ge 5, 3) := by decide +kernel
theorem own_b1_d48 : decode method_3_code 48 = .ok (.iconst 5, 1) := by decide +kernel
theorem own_b1_d49 : decode method_3_code 49 = .ok (.ireturn, 1) := by decide +kernel
theorem own_b1_d50 : decode method_3_code 50 = .ok (.lload_n 0, 1) := by decide +kernel
theorem own_b1_d51 : decode method_3_code 51 = .ok (.ldc2_w 37, 3) := by decide +kernel
theorem own_b1_d54 : decode method_3_code 54 = .ok (.lcmp, 1) := by decide +kernel
theorem own_b1_d55 : decode method_3_code 55 = .ok (.ifCond .ge 6, 3) := by decide +kernel
theorem own_b1_d58 : decode method_3_code 58 = .ok (.bipush 6, 2) := by decide +kernel
theorem own_b1_d60 : decode method_3_code 60 = .ok (.ireturn, 1) := by decide +kernel
theorem own_b1_d61 : decode method_3_code 61 = .ok (.lload_n 0, 1) := by decide +kernel
theorem own_b1_d62 : decode method_3_code 62 = .ok (.ldc2_w 39, 3) := by decide +kernel
theorem own_b1_d65 : decode method_3_code 65 = .ok (.lcmp, 1) := by decide +kernel
theorem own_b1_d66 : decode method_3_code 66 = .ok (.ifCond .ge 6, 3) := by decide +kernel
theorem own_b1_d69 : decode method_3_code 69 = .ok (.bipush 7, 2) := by decide +kernel
theorem own_b1_d71 : decode method_3_code 71 = .ok (.ireturn, 1) := by decide +kernel
theorem own_b1_d72 : decode method_3_code 72 = .ok (.lload_n 0, 1) := by decide +kernel
theorem own_b1_d73 : decode method_3_code 73 = .ok (.ldc2_w 41, 3) := by decide +kernel
theorem own_b1_d76 : decode method_3_code 76 = .ok (.lcmp, 1) := by decide +kernel
theorem own_b1_d77 : decode method_3_code 77 = .ok (.ifCond .ge 6, 3) := by decide +kernel
theorem own_b1_d80 : decode method_3_code 80 = .ok (.bipush 8, 2) := by decide +kernel
theorem own_b1_d82 : decode method_3_code 82 = .ok (.ireturn, 1) := by decide +kernel
theorem own_b1_d83 : decode method_3_code 83 = .ok (.bipush 9, 2) := by decide +kernel
theorem own_b1_d85 : decode method_3_code 85 = .ok (.ireturn, 1) := by decide +kernel
theorem own_pn0 : plainName "com/example/tidemark/tidemark/RecordFormatPutVarintPinLaw" = true := by first | (simp [plainName, overriddenIn]; done) | decide +kernel
theorem own_ef_rm1 (m : MethodId) (x0 : Int64) : entryFrame m #[(.long x0)] 2 = mkF m 0 #[.val (.long x0), .second] [] := by first | (simp [entryFrame, mkF, argsToLocals, Value.category]; done) | rfl
def Q1 (Z : State) (x : Int64) (N : Nat) (h0 : Heap) (n0 : Nat) (v : Option Value) (h : Heap) (L : List Loc) : Prop := ∃ s' : Nat, v = some (.int (Int32.ofNat s')) ∧ 1 ≤ s' ∧ s' ≤ 9 ∧ (s' = 1 ∨ 128 ^ (s' - 1) ≤ N) ∧ N < 128 ^ s' ∧ Fr n0 L ∧ h = h0
set_option maxRecDepth 65536 in
set_option maxHeartbeats 40000000 in
theorem rm1 (l : Launch) (Z : State) (a0 : Array Value) (hw : ∀ d ∈ tables_1, d.before a0 Z = true) (ws : List Jvm.Cond) (x : Int64) (N : Nat) (h0 : Heap) (n0 : Nat) (Z0 : n0 ≤ h0.size) (hN : x.toInt = N) :
    MetFree l (⟨"com/example/tidemark/tidemark/RecordFormatPutVarintPinLaw", "size", "(J)I"⟩ : MethodName) (head1 (Jvm.Cond.code (⟨"com/example/tidemark/tidemark/RecordFormatPutVarintPinLaw", "size", "(J)I"⟩ : MethodName) method_3_code 2 (some .int) :: ws) ({ frames := 0, cells := 0, slots := 0, locals := 0 } : Room)) (fun aa_ U_ => aa_ = #[(.long x)] ∧ Z.Warmed39 U_.vm ∧ U_.heap = h0) (fun _ _ _ _ _ => True) (fun _ U_ o_ U1_ => ∃ v_ L_, o_ = .returned v_ ∧ Q1 Z x N h0 n0 v_ U1_.heap L_ ∧ FrameEnd U_ o_ U1_ L_ ({ frames := 0, cells := 0, slots := 0, locals := 0 } : Room).cells ({ frames := 0, cells := 0, slots := 0, locals := 0 } : Room).slots) := by
  refine MetFree.of_bodySF (plainFor_of_name own_pn0) hisR ?_
  intro p e s m args below meth c s₁ Bd hml0 hP hK
  obtain ⟨rfl, hZ, hh⟩ := hP
  have hx := Bd.exec
  have hby := Bd.bytes
  have hlk := Bd.notSynchronized
  have hml : c.maxLocals = 2 := hml0
  have hown : s.vm.findClass "com/example/tidemark/tidemark/RecordFormatPutVarintPinLaw" = some m.cls := findClass_of_methodNamed Bd.named
  have hnm := (name_of_methodNamed Bd.named Bd.method).1
  have X0 : Stand p l e ({ frames := 0, cells := 0, slots := 0, locals := 0 } : Room) s m #[(.long x)] below meth c s₁ [] 0 0 := Stand.of_body Bd
  have e0 : s₁.heap = h0 := by rw [← hh, Bd.state]; rfl
  have N0 := Fr.nil n0
  show own_E p e below s (Q1 Z x N h0 n0) ({ frames := 0, cells := 0, slots := 0, locals := 0 } : Room).cells ({ frames := 0, cells := 0, slots := 0, locals := 0 } : Room).slots (s₁.setTop (entryFrame m #[(.long x)] 2))
  refine own_st (B := s₁.setTop (mkF m 0 #[.val (.long x), .second] [])) (fun t_ k_ => castTop (own_ef_rm1 m x) k_) ?_
  have hr64 := rng64 x
  refine own_st (B := s₁.setTop (mkF m 1 #[.val (.long x), .second] [(.long x)])) (fun t_ k_ => XS.lloadN X0.here hx rfl (hb hby own_b1_d0) rfl k_) ?_
  refine own_st (B := s₁.setTop (mkF m 4 #[.val (.long x), .second] [(.long (128 : Int64)), (.long x)])) (fun t_ k_ => X0.ldc2Long hx hown (mvT hZ (hw _ (List.mem_of_getElem? (i := 6) rfl))) (g := (mkF m 1 #[.val (.long x), .second] [(.long x)])) rfl (hb hby own_b1_d1) t_ k_) ?_
  refine own_st (B := s₁.setTop (mkF m 5 #[.val (.long x), .second] [(.int (lcmpW x (128 : Int64)))])) (fun t_ k_ => XS.lcmp X0.here hx rfl (hb hby own_b1_d4) rfl k_) ?_
  by_cases hc1 : x < (128 : Int64)
  · have hd1 := own_lt64 hc1
    rw [show (128 : Int64).toInt = 128 from rfl] at hd1
    refine own_st (B := s₁.setTop (mkF m 8 #[.val (.long x), .second] [])) (fun t_ k_ => XS.ifNo X0.here hx rfl (hb hby own_b1_d5) rfl ((if0 _ _).trans (tlt ((lw_lt _ _).mpr hc1)).2.1) k_) ?_
    refine own_st (B := s₁.setTop (mkF m 9 #[.val (.long x), .second] [(.int (1 : Int32))])) (fun t_ k_ => XS.iconst X0.here hx rfl (hb hby own_b1_d8) k_) ?_
    refine own_retI X0 hx Bd.returns hlk (hb hby own_b1_d9) (by decide) (by decide) ?_
    show Q1 Z x N h0 n0 _ s₁.heap _
    rw [e0]
    exact ⟨1, rfl, by decide, by decide, Or.inl rfl, by simp only [Nat.reducePow]; omega, N0, rfl⟩
  · have hd1 := own_nlt64 hc1
    rw [show (128 : Int64).toInt = 128 from rfl] at hd1
    refine own_st (B := s₁.setTop (mkF m 10 #[.val (.long x), .second] [])) (fun t_ k_ => XS.ifYes X0.here hx rfl (pc0 := 5) (pc' := 10) rfl (hb hby own_b1_d5) rfl ((if0 _ _).trans (flt (fun q => hc1 ((lw_lt _ _).mp q))).2.1) (by decide) (by decide) k_) ?_
    refine own_st (B := s₁.setTop (mkF m 11 #[.val (.long x), .second] [(.long x)])) (fun t_ k_ => XS.lloadN X0.here hx rfl (hb hby own_b1_d10) rfl k_) ?_
    refine own_st (B := s₁.setTop (mkF m 14 #[.val (.long x), .second] [(.long (16384 : Int64)), (.long x)])) (fun t_ k_ => X0.ldc2Long hx hown (mvT hZ (hw _ (List.mem_of_getElem? (i := 15) rfl))) (g := (mkF m 11 #[.val (.long x), .second] [(.long x)])) rfl (hb hby own_b1_d11) t_ k_) ?_
    refine own_st (B := s₁.setTop (mkF m 15 #[.val (.long x), .second] [(.int (lcmpW x (16384 : Int64)))])) (fun t_ k_ => XS.lcmp X0.here hx rfl (hb hby own_b1_d14) rfl k_) ?_
    by_cases hc2 : x < (16384 : Int64)
    · have hd2 := own_lt64 hc2
      rw [show (16384 : Int64).toInt = 16384 from rfl] at hd2
      refine own_st (B := s₁.setTop (mkF m 18 #[.val (.long x), .second] [])) (fun t_ k_ => XS.ifNo X0.here hx rfl (hb hby own_b1_d15) rfl ((if0 _ _).trans (tlt ((lw_lt _ _).mpr hc2)).2.1) k_) ?_
      refine own_st (B := s₁.setTop (mkF m 19 #[.val (.long x), .second] [(.int (2 : Int32))])) (fun t_ k_ => XS.iconst X0.here hx rfl (hb hby own_b1_d18) k_) ?_
      refine own_retI X0 hx Bd.returns hlk (hb hby own_b1_d19) (by decide) (by decide) ?_
      show Q1 Z x N h0 n0 _ s₁.heap _
      rw [e0]
      exact ⟨2, rfl, by decide, by decide, Or.inr (by simp only [Nat.reduceSub, Nat.reducePow]; omega), by simp only [Nat.reducePow]; omega, N0, rfl⟩
    · have hd2 := own_nlt64 hc2
      rw [show (16384 : Int64).toInt = 16384 from rfl] at hd2
      refine own_st (B := s₁.setTop (mkF m 20 #[.val (.long x), .second] [])) (fun t_ k_ => XS.ifYes X0.here hx rfl (pc0 := 15) (pc' := 20) rfl (hb hby own_b1_d15) rfl ((if0 _ _).trans (flt (fun q => hc2 ((lw_lt _ _).mp q))).2.1) (by decide) (by decide) k_) ?_
      refine own_st (B := s₁.setTop (mkF m 21 #[.val (.long x), .second] [(.long x)])) (fun t_ k_ => XS.lloadN X0.here hx rfl (hb hby own_b1_d20) rfl k_) ?_
      refine own_st (B := s₁.setTop (mkF m 24 #[.val (.long x), .second] [(.long (2097152 : Int64)), (.long x)])) (fun t_ k_ => X0.ldc2Long hx hown (mvT hZ (hw _ (List.mem_of_getElem? (i := 16) rfl))) (g := (mkF m 21 #[.val (.long x), .second] [(.long x)])) rfl (hb hby own_b1_d21) t_ k_) ?_
      refine own_st (B := s₁.setTop (mkF m 25 #[.val (.long x), .second] [(.int (lcmpW x (2097152 : Int64)))])) (fun t_ k_ => XS.lcmp X0.here hx rfl (hb hby own_b1_d24) rfl k_) ?_
      by_cases hc3 : x < (2097152 : Int64)
      · have hd3 := own_lt64 hc3
        rw [show (2097152 : Int64).toInt = 2097152 from rfl] at hd3
        refine own_st (B := s₁.setTop (mkF m 28 #[.val (.long x), .second] [])) (fun t_ k_ => XS.ifNo X0.here hx rfl (hb hby own_b1_d25) rfl ((if0 _ _).trans (tlt ((lw_lt _ _).mpr hc3)).2.1) k_) ?_
        refine own_st (B := s₁.setTop (mkF m 29 #[.val (.long x), .second] [(.int (3 : Int32))])) (fun t_ k_ => XS.iconst X0.here hx rfl (hb hby own_b1_d28) k_) ?_
        refine own_retI X0 hx Bd.returns hlk (hb hby own_b1_d29) (by decide) (by decide) ?_
        show Q1 Z x N h0 n0 _ s₁.heap _
        rw [e0]
        exact ⟨3, rfl, by decide, by decide, Or.inr (by simp only [Nat.reduceSub, Nat.reducePow]; omega), by simp only [Nat.reducePow]; omega, N0, rfl⟩
      · have hd3 := own_nlt64 hc3
        rw [show (2097152 : Int64).toInt = 2097152 from rfl] at hd3
        refine own_st (B := s₁.setTop (mkF m 30 #[.val (.long x), .second] [])) (fun t_ k_ => XS.ifYes X0.here hx rfl (pc0 := 25) (pc' := 30) rfl (hb hby own_b1_d25) rfl ((if0 _ _).trans (flt (fun q => hc3 ((lw_lt _ _).mp q))).2.1) (by decide) (by decide) k_) ?_
        refine own_st (B := s₁.setTop (mkF m 31 #[.val (.long x), .second] [(.long x)])) (fun t_ k_ => XS.lloadN X0.here hx rfl (hb hby own_b1_d30) rfl k_) ?_
        refine own_st (B := s₁.setTop (mkF m 34 #[.val (.long x), .second] [(.long (268435456 : Int64)), (.long x)])) (fun t_ k_ => X0.ldc2Long hx hown (mvT hZ (hw _ (List.mem_of_getElem? (i := 17) rfl))) (g := (mkF m 31 #[.val (.long x), .second] [(.long x)])) rfl (hb hby own_b1_d31) t_ k_) ?_
        refine own_st (B := s₁.setTop (mkF m 35 #[.val (.long x), .second] [(.int (lcmpW x (268435456 : Int64)))])) (fun t_ k_ => XS.lcmp X0.here hx rfl (hb hby own_b1_d34) rfl k_) ?_
        by_cases hc4 : x < (268435456 : Int64)
        · have hd4 := own_lt64 hc4
          rw [show (268435456 : Int64).toInt = 268435456 from rfl] at hd4
          refine own_st (B := s₁.setTop (mkF m 38 #[.val (.long x), .second] [])) (fun t_ k_ => XS.ifNo X0.here hx rfl (hb hby own_b1_d35) rfl ((if0 _ _).trans (tlt ((lw_lt _ _).mpr hc4)).2.1) k_) ?_
          refine own_st (B := s₁.setTop (mkF m 39 #[.val (.long x), .second] [(.int (4 : Int32))])) (fun t_ k_ => XS.iconst X0.here hx rfl (hb hby own_b1_d38) k_) ?_
          refine own_retI X0 hx Bd.returns hlk (hb hby own_b1_d39) (by decide) (by decide) ?_
          show Q1 Z x N h0 n0 _ s₁.heap _
          rw [e0]
          exact ⟨4, rfl, by decide, by decide, Or.inr (by simp only [Nat.reduceSub, Nat.reducePow]; omega), by simp only [Nat.reducePow]; omega, N0, rfl⟩
        · have hd4 := own_nlt64 hc4
          rw [show (268435456 : Int64).toInt = 268435456 from rfl] at hd4
          refine own_st (B := s₁.setTop (mkF m 40 #[.val (.long x), .second] [])) (fun t_ k_ => XS.ifYes X0.here hx rfl (pc0 := 35) (pc' := 40) rfl (hb hby own_b1_d35) rfl ((if0 _ _).trans (flt (fun q => hc4 ((lw_lt _ _).mp q))).2.1) (by decide) (by decide) k_) ?_
          refine own_st (B := s₁.setTop (mkF m 41 #[.val (.long x), .second] [(.long x)])) (fun t_ k_ => XS.lloadN X0.here hx rfl (hb hby own_b1_d40) rfl k_) ?_
          refine own_st (B := s₁.setTop (mkF m 44 #[.val (.long x), .second] [(.long (34359738368 : Int64)), (.long x)])) (fun t_ k_ => X0.ldc2Long hx hown (mvT hZ (hw _ (List.mem_of_getElem? (i := 18) rfl))) (g := (mkF m 41 #[.val (.long x), .second] [(.long x)])) rfl (hb hby own_b1_d41) t_ k_) ?_
          refine own_st (B := s₁.setTop (mkF m 45 #[.val (.long x), .second] [(.int (lcmpW x (34359738368 : Int64)))])) (fun t_ k_ => XS.lcmp X0.here hx rfl (hb hby own_b1_d44) rfl k_) ?_
          by_cases hc5 : x < (34359738368 : Int64)
          · have hd5 := own_lt64 hc5
            rw [show (34359738368 : Int64).toInt = 34359738368 from rfl] at hd5
            refine own_st (B := s₁.setTop (mkF m 48 #[.val (.long x), .second] [])) (fun t_ k_ => XS.ifNo X0.here hx rfl (hb hby own_b1_d45) rfl ((if0 _ _).trans (tlt ((lw_lt _ _).mpr hc5)).2.1) k_) ?_
            refine own_st (B := s₁.setTop (mkF m 49 #[.val (.long x), .second] [(.int (5 : Int32))])) (fun t_ k_ => XS.iconst X0.here hx rfl (hb hby own_b1_d48) k_) ?_
            refine own_retI X0 hx Bd.returns hlk (hb hby own_b1_d49) (by decide) (by decide) ?_
            show Q1 Z x N h0 n0 _ s₁.heap _
            rw [e0]
            exact ⟨5, rfl, by decide, by decide, Or.inr (by simp only [Nat.reduceSub, Nat.reducePow]; omega), by simp only [Nat.reducePow]; omega, N0, rfl⟩
          · have hd5 := own_nlt64 hc5
            rw [show (34359738368 : Int64).toInt = 34359738368 from rfl] at hd5
            refine own_st (B := s₁.setTop (mkF m 50 #[.val (.long x), .second] [])) (fun t_ k_ => XS.ifYes X0.here hx rfl (pc0 := 45) (pc' := 50) rfl (hb hby own_b1_d45) rfl ((if0 _ _).trans (flt (fun q => hc5 ((lw_lt _ _).mp q))).2.1) (by decide) (by decide) k_) ?_
            refine own_st (B := s₁.setTop (mkF m 51 #[.val (.long x), .second] [(.long x)])) (fun t_ k_ => XS.lloadN X0.here hx rfl (hb hby own_b1_d50) rfl k_) ?_
            refine own_st (B := s₁.setTop (mkF m 54 #[.val (.long x), .second] [(.long (4398046511104 : Int64)), (.long x)])) (fun t_ k_ => X0.ldc2Long hx hown (mvT hZ (hw _ (List.mem_of_getElem? (i := 20) rfl))) (g := (mkF m 51 #[.val (.long x), .second] [(.long x)])) rfl (hb hby own_b1_d51) t_ k_) ?_
            refine own_st (B := s₁.setTop (mkF m 55 #[.val (.long x), .second] [(.int (lcmpW x (4398046511104 : Int64)))])) (fun t_ k_ => XS.lcmp X0.here hx rfl (hb hby own_b1_d54) rfl k_) ?_
            by_cases hc6 : x < (4398046511104 : Int64)
            · have hd6 := own_lt64 hc6
              rw [show (4398046511104 : Int64).toInt = 4398046511104 from rfl] at hd6
              refine own_st (B := s₁.setTop (mkF m 58 #[.val (.long x), .second] [])) (fun t_ k_ => XS.ifNo X0.here hx rfl (hb hby own_b1_d55) rfl ((if0 _ _).trans (tlt ((lw_lt _ _).mpr hc6)).2.1) k_) ?_
              refine own_st (B := s₁.setTop (mkF m 60 #[.val (.long x), .second] [(.int (6 : Int32))])) (fun t_ k_ => XS.bipush X0.here hx rfl (hb hby own_b1_d58) k_) ?_
              refine own_retI X0 hx Bd.returns hlk (hb hby own_b1_d60) (by decide) (by decide) ?_
              show Q1 Z x N h0 n0 _ s₁.heap _
              rw [e0]
              exact ⟨6, rfl, by decide, by decide, Or.inr (by simp only [Nat.reduceSub, Nat.reducePow]; omega), by simp only [Nat.reducePow]; omega, N0, rfl⟩
            · have hd6 := own_nlt64 hc6
              rw [show (4398046511104 : Int64).toInt = 4398046511104 from rfl] at hd6
              refine own_st (B := s₁.setTop (mkF m 61 #[.val (.long x), .second] [])) (fun t_ k_ => XS.ifYes X0.here hx rfl (pc0 := 55) (pc' := 61) rfl (hb hby own_b1_d55) rfl ((if0 _ _).trans (flt (fun q => hc6 ((lw_lt _ _).mp q))).2.1) (by decide) (by decide) k_) ?_
              refine own_st (B := s₁.setTop (mkF m 62 #[.val (.long x), .second] [(.long x)])) (fun t_ k_ => XS.lloadN X0.here hx rfl (hb hby own_b1_d61) rfl k_) ?_
              refine own_st (B := s₁.setTop (mkF m 65 #[.val (.long x), .second] [(.long (562949953421312 : Int64)), (.long x)])) (fun t_ k_ => X0.ldc2Long hx hown (mvT hZ (hw _ (List.mem_of_getElem? (i := 21) rfl))) (g := (mkF m 62 #[.val (.long x), .second] [(.long x)])) rfl (hb hby own_b1_d62) t_ k_) ?_
              refine own_st (B := s₁.setTop (mkF m 66 #[.val (.long x), .second] [(.int (lcmpW x (562949953421312 : Int64)))])) (fun t_ k_ => XS.lcmp X0.here hx rfl (hb hby own_b1_d65) rfl k_) ?_
              by_cases hc7 : x < (562949953421312 : Int64)
              · have hd7 := own_lt64 hc7
                rw [show (562949953421312 : Int64).toInt = 562949953421312 from rfl] at hd7
                refine own_st (B := s₁.setTop (mkF m 69 #[.val (.long x), .second] [])) (fun t_ k_ => XS.ifNo X0.here hx rfl (hb hby own_b1_d66) rfl ((if0 _ _).trans (tlt ((lw_lt _ _).mpr hc7)).2.1) k_) ?_
                refine own_st (B := s₁.setTop (mkF m 71 #[.val (.long x), .second] [(.int (7 : Int32))])) (fun t_ k_ => XS.bipush X0.here hx rfl (hb hby own_b1_d69) k_) ?_
                refine own_retI X0 hx Bd.returns hlk (hb hby own_b1_d71) (by decide) (by decide) ?_
                show Q1 Z x N h0 n0 _ s₁.heap _
                rw [e0]
                exact ⟨7, rfl, by decide, by decide, Or.inr (by simp only [Nat.reduceSub, Nat.reducePow]; omega), by simp only [Nat.reducePow]; omega, N0, rfl⟩
              · have hd7 := own_nlt64 hc7
                rw [show (562949953421312 : Int64).toInt = 562949953421312 from rfl] at hd7
                refine own_st (B := s₁.setTop (mkF m 72 #[.val (.long x), .second] [])) (fun t_ k_ => XS.ifYes X0.here hx rfl (pc0 := 66) (pc' := 72) rfl (hb hby own_b1_d66) rfl ((if0 _ _).trans (flt (fun q => hc7 ((lw_lt _ _).mp q))).2.1) (by decide) (by decide) k_) ?_
                refine own_st (B := s₁.setTop (mkF m 73 #[.val (.long x), .second] [(.long x)])) (fun t_ k_ => XS.lloadN X0.here hx rfl (hb hby own_b1_d72) rfl k_) ?_
                refine own_st (B := s₁.setTop (mkF m 76 #[.val (.long x), .second] [(.long (72057594037927936 : Int64)), (.long x)])) (fun t_ k_ => X0.ldc2Long hx hown (mvT hZ (hw _ (List.mem_of_getElem? (i := 22) rfl))) (g := (mkF m 73 #[.val (.long x), .second] [(.long x)])) rfl (hb hby own_b1_d73) t_ k_) ?_
                refine own_st (B := s₁.setTop (mkF m 77 #[.val (.long x), .second] [(.int (lcmpW x (72057594037927936 : Int64)))])) (fun t_ k_ => XS.lcmp X0.here hx rfl (hb hby own_b1_d76) rfl k_) ?_
                by_cases hc8 : x < (72057594037927936 : Int64)
                · have hd8 := own_lt64 hc8
                  rw [show (72057594037927936 : Int64).toInt = 72057594037927936 from rfl] at hd8
                  refine own_st (B := s₁.setTop (mkF m 80 #[.val (.long x), .second] [])) (fun t_ k_ => XS.ifNo X0.here hx rfl (hb hby own_b1_d77) rfl ((if0 _ _).trans (tlt ((lw_lt _ _).mpr hc8)).2.1) k_) ?_
                  refine own_st (B := s₁.setTop (mkF m 82 #[.val (.long x), .second] [(.int (8 : Int32))])) (fun t_ k_ => XS.bipush X0.here hx rfl (hb hby own_b1_d80) k_) ?_
                  refine own_retI X0 hx Bd.returns hlk (hb hby own_b1_d82) (by decide) (by decide) ?_
                  show Q1 Z x N h0 n0 _ s₁.heap _
                  rw [e0]
                  exact ⟨8, rfl, by decide, by decide, Or.inr (by simp only [Nat.reduceSub, Nat.reducePow]; omega), by simp only [Nat.reducePow]; omega, N0, rfl⟩
                · have hd8 := own_nlt64 hc8
                  rw [show (72057594037927936 : Int64).toInt = 72057594037927936 from rfl] at hd8
                  refine own_st (B := s₁.setTop (mkF m 83 #[.val (.long x), .second] [])) (fun t_ k_ => XS.ifYes X0.here hx rfl (pc0 := 77) (pc' := 83) rfl (hb hby own_b1_d77) rfl ((if0 _ _).trans (flt (fun q => hc8 ((lw_lt _ _).mp q))).2.1) (by decide) (by decide) k_) ?_
                  refine own_st (B := s₁.setTop (mkF m 85 #[.val (.long x), .second] [(.int (9 : Int32))])) (fun t_ k_ => XS.bipush X0.here hx rfl (hb hby own_b1_d83) k_) ?_
                  refine own_retI X0 hx Bd.returns hlk (hb hby own_b1_d85) (by decide) (by decide) ?_
                  show Q1 Z x N h0 n0 _ s₁.heap _
                  rw [e0]
                  exact ⟨9, rfl, by decide, by decide, Or.inr (by simp only [Nat.reduceSub, Nat.reducePow]; omega), by simp only [Nat.reducePow]; omega, N0, rfl⟩
theorem own_b2_d0 : decode prog_92_method_32_code 0 = .ok (.iload_n 1, 1) := by decide +kernel
theorem own_b2_d1 : decode prog_92_method_32_code 1 = .ok (.istore 4, 2) := by decide +kernel
theorem own_b2_d3 : decode prog_92_method_32_code 3 = .ok (.lload_n 2, 1) := by decide +kernel
theorem own_b2_d4 : decode prog_92_method_32_code 4 = .ok (.lstore 5, 2) := by decide +kernel
theorem own_b2_d6 : decode prog_92_method_32_code 6 = .ok (.lload 5, 2) := by decide +kernel
theorem own_b2_d8 : decode prog_92_method_32_code 8 = .ok (.ldc2_w 245, 3) := by decide +kernel
theorem own_b2_d11 : decode prog_92_method_32_code 11 = .ok (.lcmp, 1) := by decide +kernel
theorem own_b2_d12 : decode prog_92_method_32_code 12 = .ok (.ifCond .lt 28, 3) := by decide +kernel
theorem own_b2_d15 : decode prog_92_method_32_code 15 = .ok (.aload_n 0, 1) := by decide +kernel
theorem own_b2_d16 : decode prog_92_method_32_code 16 = .ok (.iload 4, 2) := by decide +kernel
theorem own_b2_d18 : decode prog_92_method_32_code 18 = .ok (.iinc 4 1, 3) := by decide +kernel
theorem own_b2_d21 : decode prog_92_method_32_code 21 = .ok (.lload 5, 2) := by decide +kernel
theorem own_b2_d23 : decode prog_92_method_32_code 23 = .ok (.ldc2_w 245, 3) := by decide +kernel
theorem own_b2_d26 : decode prog_92_method_32_code 26 = .ok (.lor, 1) := by decide +kernel
theorem own_b2_d27 : decode prog_92_method_32_code 27 = .ok (.l2i, 1) := by decide +kernel
theorem own_b2_d28 : decode prog_92_method_32_code 28 = .ok (.i2b, 1) := by decide +kernel
theorem own_b2_d29 : decode prog_92_method_32_code 29 = .ok (.bastore, 1) := by decide +kernel
theorem own_b2_d30 : decode prog_92_method_32_code 30 = .ok (.lload 5, 2) := by decide +kernel
theorem own_b2_d32 : decode prog_92_method_32_code 32 = .ok (.bipush 7, 2) := by decide +kernel
theorem own_b2_d34 : decode prog_92_method_32_code 34 = .ok (.lushr, 1) := by decide +kernel
theorem own_b2_d35 : decode prog_92_method_32_code 35 = .ok (.lstore 5, 2) := by decide +kernel
theorem own_b2_d37 : decode prog_92_method_32_code 37 = .ok (.goto (-31), 3) := by decide +kernel
theorem own_b2_d40 : decode prog_92_method_32_code 40 = .ok (.aload_n 0, 1) := by decide +kernel
theorem own_b2_d41 : decode prog_92_method_32_code 41 = .ok (.iload 4, 2) := by decide +kernel
theorem own_b2_d43 : decode prog_92_method_32_code 43 = .ok (.lload 5, 2) := by decide +kernel
theorem own_b2_d45 : decode prog_92_method_32_code 45 = .ok (.l2i, 1) := by decide +kernel
theorem own_b2_d46 : decode prog_92_method_32_code 46 = .ok (.i2b, 1) := by decide +kernel
theorem own_b2_d47 : decode prog_92_method_32_code 47 = .ok (.bastore, 1) := by decide +kernel
theorem own_b2_d48 : decode prog_92_method_32_code 48 = .ok (.iload 4, 2) := by decide +kernel
theorem own_b2_d50 : decode prog_92_method_32_code 50 = .ok (.iconst 1, 1) := by decide +kernel
theorem own_b2_d51 : decode prog_92_method_32_code 51 = .ok (.iadd, 1) := by decide +kernel
theorem own_b2_d52 : decode prog_92_method_32_code 52 = .ok (.ireturn, 1) := by decide +kernel
theorem own_pn1 : plainName "com/example/tidemark/tidemark/RecordFormat" = true := by first | (simp [plainName, overriddenIn]; done) | decide +kernel
theorem own_ef_rm2 (m : MethodId) (x0 : Addr) (x1 : Int32) (x2 : Int64) : entryFrame m #[(.ref x0), (.int x1), (.long x2)] 7 = mkF m 0 #[.val (.ref x0), .val (.int x1), .val (.long x2), .second, .unset, .unset, .unset] [] := by first | (simp [entryFrame, mkF, argsToLocals, Value.category]; done) | rfl
def Q2 (Z : State) (d : Addr) (x1 : Int32) (x2 : Int64) (kp : Nat) (N : Nat) (f : Nat → Int32) (h0 : Heap) (n0 : Nat) (v : Option Value) (h : Heap) (L : List Loc) : Prop := ∃ (t : Nat) (y : Int32) (g : Nat → Int32), v = some (.int y) ∧ own_ix y (kp + t + 1) ∧ (t = 0 ∨ 128 ^ t ≤ N) ∧ N < 128 ^ (t + 1) ∧ t ≤ 8 ∧ Fr n0 L ∧ Keep h0 h [d] ∧ own_A Z h d .byte 13 g ∧ ∀ j, j < 13 → g j = own_W N kp t f j
set_option maxRecDepth 65536 in
set_option maxHeartbeats 40000000 in
theorem rm2 (l : Launch) (Z : State) (a0 : Array Value) (hw : ∀ d ∈ tables_1, d.before a0 Z = true) (ws : List Jvm.Cond) (d : Addr) (x1 : Int32) (x2 : Int64) (kp : Nat) (N : Nat) (f : Nat → Int32) (h0 : Heap) (n0 : Nat) (Z0 : n0 ≤ h0.size) (A : own_A Z h0 d .byte 13 f) (gd : n0 ≤ d) (hk : own_ix x1 kp) (hk4 : kp < 4) (hN : x2.toInt = N) (hN9 : N < 128 ^ 9) :
    MetFree l (⟨"com/example/tidemark/tidemark/RecordFormat", "putVarint", "([BIJ)I"⟩ : MethodName) (head1 (Jvm.Cond.code (⟨"com/example/tidemark/tidemark/RecordFormat", "putVarint", "([BIJ)I"⟩ : MethodName) prog_92_method_32_code 7 (some .int) :: ws) ({ frames := 0, cells := 0, slots := 0, locals := 0 } : Room)) (fun aa_ U_ => aa_ = #[(.ref d), (.int x1), (.long x2)] ∧ Z.Warmed39 U_.vm ∧ U_.heap = h0) (fun _ _ _ _ _ => True) (fun _ U_ o_ U1_ => ∃ v_ L_, o_ = .returned v_ ∧ Q2 Z d x1 x2 kp N f h0 n0 v_ U1_.heap L_ ∧ FrameEnd U_ o_ U1_ L_ ({ frames := 0, cells := 0, slots := 0, locals := 0 } : Room).cells ({ frames := 0, cells := 0, slots := 0, locals := 0 } : Room).slots) := by
  refine MetFree.of_bodySF (plainFor_of_name own_pn1) hisR ?_
  intro p e s m args below meth c s₁ Bd hml0 hP hK
  obtain ⟨rfl, hZ, hh⟩ := hP
  have hx := Bd.exec
  have hby := Bd.bytes
  have hlk := Bd.notSynchronized
  have hml : c.maxLocals = 7 := hml0
  have hown : s.vm.findClass "com/example/tidemark/tidemark/RecordFormat" = some m.cls := findClass_of_methodNamed Bd.named
  have hnm := (name_of_methodNamed Bd.named Bd.method).1
  have X0 : Stand p l e ({ frames := 0, cells := 0, slots := 0, locals := 0 } : Room) s m #[(.ref d), (.int x1), (.long x2)] below meth c s₁ [] 0 0 := Stand.of_body Bd
  have e0 : s₁.heap = h0 := by rw [← hh, Bd.state]; rfl
  have N0 := Fr.nil n0
  show own_E p e below s (Q2 Z d x1 x2 kp N f h0 n0) ({ frames := 0, cells := 0, slots := 0, locals := 0 } : Room).cells ({ frames := 0, cells := 0, slots := 0, locals := 0 } : Room).slots (s₁.setTop (entryFrame m #[(.ref d), (.int x1), (.long x2)] 7))
  refine own_st (B := s₁.setTop (mkF m 0 #[.val (.ref d), .val (.int x1), .val (.long x2), .second, .unset, .unset, .unset] [])) (fun t_ k_ => castTop (own_ef_rm2 m d x1 x2) k_) ?_
  have K0 : Keep h0 h0 [d] := Keep.refl _ _
  refine own_st (B := s₁.setTop (mkF m 1 #[.val (.ref d), .val (.int x1), .val (.long x2), .second, .unset, .unset, .unset] [(.int x1)])) (fun t_ k_ => XS.iloadN X0.here hx rfl (hb hby own_b2_d0) rfl k_) ?_
  refine own_st (B := s₁.setTop (mkF m 3 #[.val (.ref d), .val (.int x1), .val (.long x2), .second, .val (.int x1), .unset, .unset] [])) (fun t_ k_ => XS.istore X0.here hx rfl (hb hby own_b2_d1) rfl (l' := #[.val (.ref d), .val (.int x1), .val (.long x2), .second, .val (.int x1), .unset, .unset]) rfl k_) ?_
  refine own_st (B := s₁.setTop (mkF m 4 #[.val (.ref d), .val (.int x1), .val (.long x2), .second, .val (.int x1), .unset, .unset] [(.long x2)])) (fun t_ k_ => XS.lloadN X0.here hx rfl (hb hby own_b2_d3) rfl k_) ?_
  refine own_st (B := s₁.setTop (mkF m 6 #[.val (.ref d), .val (.int x1), .val (.long x2), .second, .val (.int x1), .val (.long x2), .second] [])) (fun t_ k_ => XS.lstore X0.here hx rfl (hb hby own_b2_d4) rfl (l' := #[.val (.ref d), .val (.int x1), .val (.long x2), .second, .val (.int x1), .val (.long x2), .second]) rfl k_) ?_
  have lp1 : ∀ (q : Nat) (Tlp1 : State) (lolp1 : List Loc) (Xlp1 : Stand p l e ({ frames := 0, cells := 0, slots := 0, locals := 0 } : Room) s m #[(.ref d), (.int x1), (.long x2)] below meth c Tlp1 lolp1 0 0) (hlp1 : Heap) (elp1 : Tlp1.heap = hlp1) (Nlp1 : Fr n0 lolp1) (t' : Nat) (j : Int32) (y : Int64) (g : Nat → Int32) (AL : own_A Z hlp1 d .byte 13 g) (KL : Keep h0 hlp1 [d]) (ZL : n0 ≤ hlp1.size), (q + t' = 9) → (own_ix j (kp + t')) → (y.toInt = ((N / 128 ^ t' : Nat) : Int)) → (t' = 0 ∨ 128 ^ t' ≤ N) → (∀ j', j' < 13 → g j' = own_G N kp t' f j') → own_E p e below s (Q2 Z d x1 x2 kp N f h0 n0) ({ frames := 0, cells := 0, slots := 0, locals := 0 } : Room).cells ({ frames := 0, cells := 0, slots := 0, locals := 0 } : Room).slots (Tlp1.setTop (mkF m 6 #[.val (.ref d), .val (.int x1), .val (.long x2), .second, .val (.int j), .val (.long y), .second] [])) := by
    intro q
    induction q using Nat.strongRecOn with
    | _ q ih =>
      intro Tlp1 lolp1 Xlp1 hlp1 elp1 Nlp1 t' j y g AL KL ZL hq hj hyw hge hg
      refine own_st (B := Tlp1.setTop (mkF m 8 #[.val (.ref d), .val (.int x1), .val (.long x2), .second, .val (.int j), .val (.long y), .second] [(.long y)])) (fun t_ k_ => XS.lload Xlp1.here hx rfl (hb hby own_b2_d6) rfl k_) ?_
      refine own_st (B := Tlp1.setTop (mkF m 11 #[.val (.ref d), .val (.int x1), .val (.long x2), .second, .val (.int j), .val (.long y), .second] [(.long (128 : Int64)), (.long y)])) (fun t_ k_ => Xlp1.ldc2Long hx hown (mvT hZ (hw _ (List.mem_of_getElem? (i := 11) rfl))) (g := (mkF m 8 #[.val (.ref d), .val (.int x1), .val (.long x2), .second, .val (.int j), .val (.long y), .second] [(.long y)])) rfl (hb hby own_b2_d8) t_ k_) ?_
      refine own_st (B := Tlp1.setTop (mkF m 12 #[.val (.ref d), .val (.int x1), .val (.long x2), .second, .val (.int j), .val (.long y), .second] [(.int (lcmpW y (128 : Int64)))])) (fun t_ k_ => XS.lcmp Xlp1.here hx rfl (hb hby own_b2_d11) rfl k_) ?_
      by_cases hc2 : y < (128 : Int64)
      · have hd2 := own_lt64 hc2
        rw [show (128 : Int64).toInt = 128 from rfl] at hd2
        refine own_st (B := Tlp1.setTop (mkF m 40 #[.val (.ref d), .val (.int x1), .val (.long x2), .second, .val (.int j), .val (.long y), .second] [])) (fun t_ k_ => XS.ifYes Xlp1.here hx rfl (pc0 := 12) (pc' := 40) rfl (hb hby own_b2_d12) rfl ((if0 _ _).trans (tlt ((lw_lt _ _).mpr hc2)).1) (by decide) (by decide) k_) ?_
        have hl8 : N / 128 ^ t' < 128 := by omega
        have ht8 : t' ≤ 8 := by
          rcases hge with q1 | q1
          · omega
          · have := (Nat.pow_lt_pow_iff_right (show 1 < 128 by decide)).mp (Nat.lt_of_le_of_lt q1 hN9); omega
        refine own_st (B := Tlp1.setTop (mkF m 41 #[.val (.ref d), .val (.int x1), .val (.long x2), .second, .val (.int j), .val (.long y), .second] [(.ref d)])) (fun t_ k_ => XS.aloadN Xlp1.here hx rfl (hb hby own_b2_d40) rfl rfl k_) ?_
        refine own_st (B := Tlp1.setTop (mkF m 43 #[.val (.ref d), .val (.int x1), .val (.long x2), .second, .val (.int j), .val (.long y), .second] [(.int j), (.ref d)])) (fun t_ k_ => XS.iload Xlp1.here hx rfl (hb hby own_b2_d41) rfl k_) ?_
        refine own_st (B := Tlp1.setTop (mkF m 45 #[.val (.ref d), .val (.int x1), .val (.long x2), .second, .val (.int j), .val (.long y), .second] [(.long y), (.int j), (.ref d)])) (fun t_ k_ => XS.lload Xlp1.here hx rfl (hb hby own_b2_d43) rfl k_) ?_
        refine own_st (B := Tlp1.setTop (mkF m 46 #[.val (.ref d), .val (.int x1), .val (.long x2), .second, .val (.int j), .val (.long y), .second] [(.int (y.toInt32)), (.int j), (.ref d)])) (fun t_ k_ => XS.l2i Xlp1.here hx rfl (hb hby own_b2_d45) rfl k_) ?_
        refine own_st (B := Tlp1.setTop (mkF m 47 #[.val (.ref d), .val (.int x1), .val (.long x2), .second, .val (.int j), .val (.long y), .second] [(.int ((y.toInt32).toInt8.toInt32)), (.int j), (.ref d)])) (fun t_ k_ => XS.i2b Xlp1.here hx rfl (hb hby own_b2_d46) rfl k_) ?_
        obtain ⟨T3, h3, X3, e3, W3, a3, st3⟩ := own_stB Xlp1 hx hZ elp1 AL (i := (kp + t')) (j := j) hj (by omega) (pc := 47) (x := ((y.toInt32).toInt8.toInt32)) (Ls := #[.val (.ref d), .val (.int x1), .val (.long x2), .second, .val (.int j), .val (.long y), .second]) (rest := []) (hb hby own_b2_d47)
        have N3 := Fr.snoc X3 Nlp1 gd
        have Z4 := Nat.le_trans ZL (Keep.of_wr W3).1
        have K5 := KL.wr W3 (Or.inl (List.mem_of_getElem? (i := 0) rfl))
        refine own_st (B := T3.setTop (mkF m 48 #[.val (.ref d), .val (.int x1), .val (.long x2), .second, .val (.int j), .val (.long y), .second] [])) st3 ?_
        refine own_st (B := T3.setTop (mkF m 50 #[.val (.ref d), .val (.int x1), .val (.long x2), .second, .val (.int j), .val (.long y), .second] [(.int j)])) (fun t_ k_ => XS.iload X3.here hx rfl (hb hby own_b2_d48) rfl k_) ?_
        refine own_st (B := T3.setTop (mkF m 51 #[.val (.ref d), .val (.int x1), .val (.long x2), .second, .val (.int j), .val (.long y), .second] [(.int (1 : Int32)), (.int j)])) (fun t_ k_ => XS.iconst X3.here hx rfl (hb hby own_b2_d50) k_) ?_
        refine own_st (B := T3.setTop (mkF m 52 #[.val (.ref d), .val (.int x1), .val (.long x2), .second, .val (.int j), .val (.long y), .second] [(.int (j + (1 : Int32)))])) (fun t_ k_ => XS.iadd X3.here hx rfl (hb hby own_b2_d51) rfl k_) ?_
        refine own_retI X3 hx Bd.returns hlk (hb hby own_b2_d52) (by decide) (by decide) ?_
        show Q2 Z d x1 x2 kp N f h0 n0 _ T3.heap _
        rw [e3]
        exact ⟨t', _, _, rfl, own_ixa hj 1 (by omega), hge, own_pl hl8, ht8, N3, K5, a3, own_fin hg ((own_nbb _).trans (own_byte2 hyw hl8))⟩
      · have hd2 := own_nlt64 hc2
        rw [show (128 : Int64).toInt = 128 from rfl] at hd2
        refine own_st (B := Tlp1.setTop (mkF m 15 #[.val (.ref d), .val (.int x1), .val (.long x2), .second, .val (.int j), .val (.long y), .second] [])) (fun t_ k_ => XS.ifNo Xlp1.here hx rfl (hb hby own_b2_d12) rfl ((if0 _ _).trans (flt (fun q => hc2 ((lw_lt _ _).mp q))).1) k_) ?_
        have hpw : t' ≤ 7 ∧ 128 ^ (t' + 1) ≤ N := own_pw hN9 (by omega)
        have hw' : ((y.toUInt64 >>> ((7 : Int32) &&& 0x3f).toInt64.toUInt64).toInt64).toInt = ((N / 128 ^ (t' + 1) : Nat) : Int) := by
          have q1 := c_lushr y 7 7 (by decide) (by decide)
          have q2 := rng64 y
          rw [q1, show N / 128 ^ (t' + 1) = N / 128 ^ t' / 128 from by rw [Nat.pow_succ, Nat.div_div_eq_div_mul]]
          generalize N / 128 ^ t' = M at *
          rw [show ((2 ^ 7 : Nat) : Int) = 128 from rfl]; omega
        refine own_st (B := Tlp1.setTop (mkF m 16 #[.val (.ref d), .val (.int x1), .val (.long x2), .second, .val (.int j), .val (.long y), .second] [(.ref d)])) (fun t_ k_ => XS.aloadN Xlp1.here hx rfl (hb hby own_b2_d15) rfl rfl k_) ?_
        refine own_st (B := Tlp1.setTop (mkF m 18 #[.val (.ref d), .val (.int x1), .val (.long x2), .second, .val (.int j), .val (.long y), .second] [(.int j), (.ref d)])) (fun t_ k_ => XS.iload Xlp1.here hx rfl (hb hby own_b2_d16) rfl k_) ?_
        refine own_st (B := Tlp1.setTop (mkF m 21 #[.val (.ref d), .val (.int x1), .val (.long x2), .second, .val (.int (j + (1 : Int32))), .val (.long y), .second] [(.int j), (.ref d)])) (fun t_ k_ => XS.iinc Xlp1.here hx rfl (hb hby own_b2_d18) rfl (l' := #[.val (.ref d), .val (.int x1), .val (.long x2), .second, .val (.int (j + (1 : Int32))), .val (.long y), .second]) rfl k_) ?_
        refine own_st (B := Tlp1.setTop (mkF m 23 #[.val (.ref d), .val (.int x1), .val (.long x2), .second, .val (.int (j + (1 : Int32))), .val (.long y), .second] [(.long y), (.int j), (.ref d)])) (fun t_ k_ => XS.lload Xlp1.here hx rfl (hb hby own_b2_d21) rfl k_) ?_
        refine own_st (B := Tlp1.setTop (mkF m 26 #[.val (.ref d), .val (.int x1), .val (.long x2), .second, .val (.int (j + (1 : Int32))), .val (.long y), .second] [(.long (128 : Int64)), (.long y), (.int j), (.ref d)])) (fun t_ k_ => Xlp1.ldc2Long hx hown (mvT hZ (hw _ (List.mem_of_getElem? (i := 11) rfl))) (g := (mkF m 23 #[.val (.ref d), .val (.int x1), .val (.long x2), .second, .val (.int (j + (1 : Int32))), .val (.long y), .second] [(.long y), (.int j), (.ref d)])) rfl (hb hby own_b2_d23) t_ k_) ?_
        refine own_st (B := Tlp1.setTop (mkF m 27 #[.val (.ref d), .val (.int x1), .val (.long x2), .second, .val (.int (j + (1 : Int32))), .val (.long y), .second] [(.long (y ||| (128 : Int64))), (.int j), (.ref d)])) (fun t_ k_ => XS.lor Xlp1.here hx rfl (hb hby own_b2_d26) rfl k_) ?_
        refine own_st (B := Tlp1.setTop (mkF m 28 #[.val (.ref d), .val (.int x1), .val (.long x2), .second, .val (.int (j + (1 : Int32))), .val (.long y), .second] [(.int ((y ||| (128 : Int64)).toInt32)), (.int j), (.ref d)])) (fun t_ k_ => XS.l2i Xlp1.here hx rfl (hb hby own_b2_d27) rfl k_) ?_
        refine own_st (B := Tlp1.setTop (mkF m 29 #[.val (.ref d), .val (.int x1), .val (.long x2), .second, .val (.int (j + (1 : Int32))), .val (.long y), .second] [(.int (((y ||| (128 : Int64)).toInt32).toInt8.toInt32)), (.int j), (.ref d)])) (fun t_ k_ => XS.i2b Xlp1.here hx rfl (hb hby own_b2_d28) rfl k_) ?_
        obtain ⟨T6, h6, X6, e6, W6, a6, st6⟩ := own_stB Xlp1 hx hZ elp1 AL (i := (kp + t')) (j := j) hj (by omega) (pc := 29) (x := (((y ||| (128 : Int64)).toInt32).toInt8.toInt32)) (Ls := #[.val (.ref d), .val (.int x1), .val (.long x2), .second, .val (.int (j + (1 : Int32))), .val (.long y), .second]) (rest := []) (hb hby own_b2_d29)
        have N6 := Fr.snoc X6 Nlp1 gd
        have Z7 := Nat.le_trans ZL (Keep.of_wr W6).1
        have K8 := KL.wr W6 (Or.inl (List.mem_of_getElem? (i := 0) rfl))
        refine own_st (B := T6.setTop (mkF m 30 #[.val (.ref d), .val (.int x1), .val (.long x2), .second, .val (.int (j + (1 : Int32))), .val (.long y), .second] [])) st6 ?_
        refine own_st (B := T6.setTop (mkF m 32 #[.val (.ref d), .val (.int x1), .val (.long x2), .second, .val (.int (j + (1 : Int32))), .val (.long y), .second] [(.long y)])) (fun t_ k_ => XS.lload X6.here hx rfl (hb hby own_b2_d30) rfl k_) ?_
        refine own_st (B := T6.setTop (mkF m 34 #[.val (.ref d), .val (.int x1), .val (.long x2), .second, .val (.int (j + (1 : Int32))), .val (.long y), .second] [(.int (7 : Int32)), (.long y)])) (fun t_ k_ => XS.bipush X6.here hx rfl (hb hby own_b2_d32) k_) ?_
        refine own_st (B := T6.setTop (mkF m 35 #[.val (.ref d), .val (.int x1), .val (.long x2), .second, .val (.int (j + (1 : Int32))), .val (.long y), .second] [(.long ((y.toUInt64 >>> ((7 : Int32) &&& 0x3f).toInt64.toUInt64).toInt64))])) (fun t_ k_ => XS.lushr X6.here hx rfl (hb hby own_b2_d34) rfl k_) ?_
        refine own_st (B := T6.setTop (mkF m 37 #[.val (.ref d), .val (.int x1), .val (.long x2), .second, .val (.int (j + (1 : Int32))), .val (.long ((y.toUInt64 >>> ((7 : Int32) &&& 0x3f).toInt64.toUInt64).toInt64)), .second] [])) (fun t_ k_ => XS.lstore X6.here hx rfl (hb hby own_b2_d35) rfl (l' := #[.val (.ref d), .val (.int x1), .val (.long x2), .second, .val (.int (j + (1 : Int32))), .val (.long ((y.toUInt64 >>> ((7 : Int32) &&& 0x3f).toInt64.toUInt64).toInt64)), .second]) rfl k_) ?_
        refine own_st (B := T6.setTop (mkF m 6 #[.val (.ref d), .val (.int x1), .val (.long x2), .second, .val (.int (j + (1 : Int32))), .val (.long ((y.toUInt64 >>> ((7 : Int32) &&& 0x3f).toInt64.toUInt64).toInt64)), .second] [])) (fun t_ k_ => XS.goto X6.here hx rfl (pc0 := 37) (pc' := 6) rfl (hb hby own_b2_d37) (by decide) (by decide) k_) ?_
        exact ih (q - 1) (by omega) _ _ X6 _ e6 N6 (t' + 1) _ _ _ a6 K8 Z7 (by omega) (own_ixa hj 1 (by omega)) hw' (Or.inr hpw.2) (own_stp hg ((own_nbb _).trans (own_byte1 (by omega))))
  exact lp1 9 _ _ X0 _ e0 N0 0 x1 x2 f A K0 Z0 rfl hk (by rw [hN]; simp) (Or.inl rfl) (fun j' hj' => by rw [own_G, if_neg (by omega)])
def own_sp (N kp sz : Nat) (k : Int32) (j : Nat) : Int32 := if j < kp ∨ kp + sz ≤ j then k else if j < kp + sz - 1 then own_c1 N (j - kp) else own_c2 N (j - kp)
theorem own_b3_d0 : decode method_4_code 0 = .ok (.iload_n 1, 1) := by decide +kernel
theorem own_b3_d1 : decode method_4_code 1 = .ok (.iload_n 2, 1) := by decide +kernel
theorem own_b3_d2 : decode method_4_code 2 = .ok (.isub, 1) := by decide +kernel
theorem own_b3_d3 : decode method_4_code 3 = .ok (.istore 7, 2) := by decide +kernel
theorem own_b3_d5 : decode method_4_code 5 = .ok (.iload 7, 2) := by decide +kernel
theorem own_b3_d7 : decode method_4_code 7 = .ok (.ifCond .lt 9, 3) := by decide +kernel
theorem own_b3_d10 : decode method_4_code 10 = .ok (.iload 7, 2) := by decide +kernel
theorem own_b3_d12 : decode method_4_code 12 = .ok (.iload_n 3, 1) := by decide +kernel
theorem own_b3_d13 : decode method_4_code 13 = .ok (.if_icmp .lt 10, 3) := by decide +kernel
theorem own_b3_d16 : decode method_4_code 16 = .ok (.iload 6, 2) := by decide +kernel
theorem own_b3_d18 : decode method_4_code 18 = .ok (.istore 8, 2) := by decide +kernel
theorem own_b3_d20 : decode method_4_code 20 = .ok (.goto 46, 3) := by decide +kernel
theorem own_b3_d23 : decode method_4_code 23 = .ok (.iload 7, 2) := by decide +kernel
theorem own_b3_d25 : decode method_4_code 25 = .ok (.iload_n 3, 1) := by decide +kernel
theorem own_b3_d26 : decode method_4_code 26 = .ok (.iconst 1, 1) := by decide +kernel
theorem own_b3_d27 : decode method_4_code 27 = .ok (.isub, 1) := by decide +kernel
theorem own_b3_d28 : decode method_4_code 28 = .ok (.if_icmp .ge 26, 3) := by decide +kernel
theorem own_b3_d31 : decode method_4_code 31 = .ok (.lload 4, 2) := by decide +kernel
theorem own_b3_d33 : decode method_4_code 33 = .ok (.bipush 7, 2) := by decide +kernel
theorem own_b3_d35 : decode method_4_code 35 = .ok (.iload 7, 2) := by decide +kernel
theorem own_b3_d37 : decode method_4_code 37 = .ok (.imul, 1) := by decide +kernel
theorem own_b3_d38 : decode method_4_code 38 = .ok (.lushr, 1) := by decide +kernel
theorem own_b3_d39 : decode method_4_code 39 = .ok (.ldc2_w 43, 3) := by decide +kernel
theorem own_b3_d42 : decode method_4_code 42 = .ok (.land, 1) := by decide +kernel
theorem own_b3_d43 : decode method_4_code 43 = .ok (.ldc2_w 27, 3) := by decide +kernel
theorem own_b3_d46 : decode method_4_code 46 = .ok (.lor, 1) := by decide +kernel
theorem own_b3_d47 : decode method_4_code 47 = .ok (.l2i, 1) := by decide +kernel
theorem own_b3_d48 : decode method_4_code 48 = .ok (.i2b, 1) := by decide +kernel
theorem own_b3_d49 : decode method_4_code 49 = .ok (.istore 8, 2) := by decide +kernel
theorem own_b3_d51 : decode method_4_code 51 = .ok (.goto 15, 3) := by decide +kernel
theorem own_b3_d54 : decode method_4_code 54 = .ok (.lload 4, 2) := by decide +kernel
theorem own_b3_d56 : decode method_4_code 56 = .ok (.bipush 7, 2) := by decide +kernel
theorem own_b3_d58 : decode method_4_code 58 = .ok (.iload 7, 2) := by decide +kernel
theorem own_b3_d60 : decode method_4_code 60 = .ok (.imul, 1) := by decide +kernel
theorem own_b3_d61 : decode method_4_code 61 = .ok (.lushr, 1) := by decide +kernel
theorem own_b3_d62 : decode method_4_code 62 = .ok (.l2i, 1) := by decide +kernel
theorem own_b3_d63 : decode method_4_code 63 = .ok (.i2b, 1) := by decide +kernel
theorem own_b3_d64 : decode method_4_code 64 = .ok (.istore 8, 2) := by decide +kernel
theorem own_b3_d66 : decode method_4_code 66 = .ok (.aload_n 0, 1) := by decide +kernel
theorem own_b3_d67 : decode method_4_code 67 = .ok (.iload_n 1, 1) := by decide +kernel
theorem own_b3_d68 : decode method_4_code 68 = .ok (.baload, 1) := by decide +kernel
theorem own_b3_d69 : decode method_4_code 69 = .ok (.iload 8, 2) := by decide +kernel
theorem own_b3_d71 : decode method_4_code 71 = .ok (.if_icmp .ne 7, 3) := by decide +kernel
theorem own_b3_d74 : decode method_4_code 74 = .ok (.iconst 1, 1) := by decide +kernel
theorem own_b3_d75 : decode method_4_code 75 = .ok (.goto 4, 3) := by decide +kernel
theorem own_b3_d79 : decode method_4_code 79 = .ok (.ireturn, 1) := by decide +kernel
theorem own_ef_rm3 (m : MethodId) (x0 : Addr) (x1 : Int32) (x2 : Int32) (x3 : Int32) (x4 : Int64) (x5 : Int32) : entryFrame m #[(.ref x0), (.int x1), (.int x2), (.int x3), (.long x4), (.int x5)] 9 = mkF m 0 #[.val (.ref x0), .val (.int x1), .val (.int x2), .val (.int x3), .val (.long x4), .second, .val (.int x5), .unset, .unset] [] := by first | (simp [entryFrame, mkF, argsToLocals, Value.category]; done) | rfl
def Q3 (Z : State) (d : Addr) (x1 : Int32) (x2 : Int32) (x3 : Int32) (x4 : Int64) (x5 : Int32) (kq : Nat) (kp : Nat) (sz : Nat) (N : Nat) (g : Nat → Int32) (h0 : Heap) (n0 : Nat) (v : Option Value) (h : Heap) (L : List Loc) : Prop := v = some (.int 1) ∧ Fr n0 L ∧ h = h0
set_option maxRecDepth 65536 in
set_option maxHeartbeats 40000000 in
theorem rm3 (l : Launch) (Z : State) (a0 : Array Value) (hw : ∀ d ∈ tables_1, d.before a0 Z = true) (ws : List Jvm.Cond) (d : Addr) (x1 : Int32) (x2 : Int32) (x3 : Int32) (x4 : Int64) (x5 : Int32) (kq : Nat) (kp : Nat) (sz : Nat) (N : Nat) (g : Nat → Int32) (h0 : Heap) (n0 : Nat) (Z0 : n0 ≤ h0.size) (A : own_A Z h0 d .byte 13 g) (hq : own_ix x1 kq) (hq13 : kq < 13) (hp : own_ix x2 kp) (hp4 : kp < 4) (hs : x3.toInt = sz) (hs1 : 1 ≤ sz) (hs9 : sz ≤ 9) (hN : x4.toInt = N) (hs4 : N < 128 ^ sz) (hsp : g kq = own_sp N kp sz x5 kq) :
    MetFree l (⟨"com/example/tidemark/tidemark/RecordFormatPutVarintPinLaw", "check", "([BIIIJB)Z"⟩ : MethodName) (head1 (Jvm.Cond.code (⟨"com/example/tidemark/tidemark/RecordFormatPutVarintPinLaw", "check", "([BIIIJB)Z"⟩ : MethodName) method_4_code 9 (some .boolean) :: ws) ({ frames := 0, cells := 0, slots := 0, locals := 0 } : Room)) (fun aa_ U_ => aa_ = #[(.ref d), (.int x1), (.int x2), (.int x3), (.long x4), (.int x5)] ∧ Z.Warmed39 U_.vm ∧ U_.heap = h0) (fun _ _ _ _ _ => True) (fun _ U_ o_ U1_ => ∃ v_ L_, o_ = .returned v_ ∧ Q3 Z d x1 x2 x3 x4 x5 kq kp sz N g h0 n0 v_ U1_.heap L_ ∧ FrameEnd U_ o_ U1_ L_ ({ frames := 0, cells := 0, slots := 0, locals := 0 } : Room).cells ({ frames := 0, cells := 0, slots := 0, locals := 0 } : Room).slots) := by
  refine MetFree.of_bodySF (plainFor_of_name own_pn0) hisR ?_
  intro p e s m args below meth c s₁ Bd hml0 hP hK
  obtain ⟨rfl, hZ, hh⟩ := hP
  have hx := Bd.exec
  have hby := Bd.bytes
  have hlk := Bd.notSynchronized
  have hml : c.maxLocals = 9 := hml0
  have hown : s.vm.findClass "com/example/tidemark/tidemark/RecordFormatPutVarintPinLaw" = some m.cls := findClass_of_methodNamed Bd.named
  have hnm := (name_of_methodNamed Bd.named Bd.method).1
  have X0 : Stand p l e ({ frames := 0, cells := 0, slots := 0, locals := 0 } : Room) s m #[(.ref d), (.int x1), (.int x2), (.int x3), (.long x4), (.int x5)] below meth c s₁ [] 0 0 := Stand.of_body Bd
  have e0 : s₁.heap = h0 := by rw [← hh, Bd.state]; rfl
  have N0 := Fr.nil n0
  show own_E p e below s (Q3 Z d x1 x2 x3 x4 x5 kq kp sz N g h0 n0) ({ frames := 0, cells := 0, slots := 0, locals := 0 } : Room).cells ({ frames := 0, cells := 0, slots := 0, locals := 0 } : Room).slots (s₁.setTop (entryFrame m #[(.ref d), (.int x1), (.int x2), (.int x3), (.long x4), (.int x5)] 9))
  refine own_st (B := s₁.setTop (mkF m 0 #[.val (.ref d), .val (.int x1), .val (.int x2), .val (.int x3), .val (.long x4), .second, .val (.int x5), .unset, .unset] [])) (fun t_ k_ => castTop (own_ef_rm3 m d x1 x2 x3 x4 x5) k_) ?_
  have hqi := own_ixI hq; have hpi := own_ixI hp
  have hsb := c_isub x1 x2; have hsr := rng32 (x1 - x2); have hsc := c_isub x3 1; have hst := rng32 (x3 - 1); rw [show (1 : Int32).toInt = 1 from rfl] at hsc
  refine own_st (B := s₁.setTop (mkF m 1 #[.val (.ref d), .val (.int x1), .val (.int x2), .val (.int x3), .val (.long x4), .second, .val (.int x5), .unset, .unset] [(.int x1)])) (fun t_ k_ => XS.iloadN X0.here hx rfl (hb hby own_b3_d0) rfl k_) ?_
  refine own_st (B := s₁.setTop (mkF m 2 #[.val (.ref d), .val (.int x1), .val (.int x2), .val (.int x3), .val (.long x4), .second, .val (.int x5), .unset, .unset] [(.int x2), (.int x1)])) (fun t_ k_ => XS.iloadN X0.here hx rfl (hb hby own_b3_d1) rfl k_) ?_
  refine own_st (B := s₁.setTop (mkF m 3 #[.val (.ref d), .val (.int x1), .val (.int x2), .val (.int x3), .val (.long x4), .second, .val (.int x5), .unset, .unset] [(.int (x1 - x2))])) (fun t_ k_ => XS.isub X0.here hx rfl (hb hby own_b3_d2) rfl k_) ?_
  refine own_st (B := s₁.setTop (mkF m 5 #[.val (.ref d), .val (.int x1), .val (.int x2), .val (.int x3), .val (.long x4), .second, .val (.int x5), .val (.int (x1 - x2)), .unset] [])) (fun t_ k_ => XS.istore X0.here hx rfl (hb hby own_b3_d3) rfl (l' := #[.val (.ref d), .val (.int x1), .val (.int x2), .val (.int x3), .val (.long x4), .second, .val (.int x5), .val (.int (x1 - x2)), .unset]) rfl k_) ?_
  refine own_st (B := s₁.setTop (mkF m 7 #[.val (.ref d), .val (.int x1), .val (.int x2), .val (.int x3), .val (.long x4), .second, .val (.int x5), .val (.int (x1 - x2)), .unset] [(.int (x1 - x2))])) (fun t_ k_ => XS.iload X0.here hx rfl (hb hby own_b3_d5) rfl k_) ?_
  by_cases hc1 : (x1 - x2) < (0 : Int32)
  · have hd1 := own_lt32 hc1
    rw [show (0 : Int32).toInt = 0 from rfl] at hd1
    refine own_st (B := s₁.setTop (mkF m 16 #[.val (.ref d), .val (.int x1), .val (.int x2), .val (.int x3), .val (.long x4), .second, .val (.int x5), .val (.int (x1 - x2)), .unset] [])) (fun t_ k_ => XS.ifYes X0.here hx rfl (pc0 := 7) (pc' := 16) rfl (hb hby own_b3_d7) rfl ((if0 _ _).trans (tlt hc1).1) (by decide) (by decide) k_) ?_
    refine own_st (B := s₁.setTop (mkF m 18 #[.val (.ref d), .val (.int x1), .val (.int x2), .val (.int x3), .val (.long x4), .second, .val (.int x5), .val (.int (x1 - x2)), .unset] [(.int x5)])) (fun t_ k_ => XS.iload X0.here hx rfl (hb hby own_b3_d16) rfl k_) ?_
    refine own_st (B := s₁.setTop (mkF m 20 #[.val (.ref d), .val (.int x1), .val (.int x2), .val (.int x3), .val (.long x4), .second, .val (.int x5), .val (.int (x1 - x2)), .val (.int x5)] [])) (fun t_ k_ => XS.istore X0.here hx rfl (hb hby own_b3_d18) rfl (l' := #[.val (.ref d), .val (.int x1), .val (.int x2), .val (.int x3), .val (.long x4), .second, .val (.int x5), .val (.int (x1 - x2)), .val (.int x5)]) rfl k_) ?_
    refine own_st (B := s₁.setTop (mkF m 66 #[.val (.ref d), .val (.int x1), .val (.int x2), .val (.int x3), .val (.long x4), .second, .val (.int x5), .val (.int (x1 - x2)), .val (.int x5)] [])) (fun t_ k_ => XS.goto X0.here hx rfl (pc0 := 20) (pc' := 66) rfl (hb hby own_b3_d20) (by decide) (by decide) k_) ?_
    refine own_st (B := s₁.setTop (mkF m 67 #[.val (.ref d), .val (.int x1), .val (.int x2), .val (.int x3), .val (.long x4), .second, .val (.int x5), .val (.int (x1 - x2)), .val (.int x5)] [(.ref d)])) (fun t_ k_ => XS.aloadN X0.here hx rfl (hb hby own_b3_d66) rfl rfl k_) ?_
    refine own_st (B := s₁.setTop (mkF m 68 #[.val (.ref d), .val (.int x1), .val (.int x2), .val (.int x3), .val (.long x4), .second, .val (.int x5), .val (.int (x1 - x2)), .val (.int x5)] [(.int x1), (.ref d)])) (fun t_ k_ => XS.iloadN X0.here hx rfl (hb hby own_b3_d67) rfl k_) ?_
    refine own_st (B := s₁.setTop (mkF m 69 #[.val (.ref d), .val (.int x1), .val (.int x2), .val (.int x3), .val (.long x4), .second, .val (.int x5), .val (.int (x1 - x2)), .val (.int x5)] [(.int (g kq))])) (fun t_ k_ => own_ldB X0 hx hZ e0 A (i := kq) hq hq13 (hb hby own_b3_d68) t_ k_) ?_
    refine own_st (B := s₁.setTop (mkF m 71 #[.val (.ref d), .val (.int x1), .val (.int x2), .val (.int x3), .val (.long x4), .second, .val (.int x5), .val (.int (x1 - x2)), .val (.int x5)] [(.int x5), (.int (g kq))])) (fun t_ k_ => XS.iload X0.here hx rfl (hb hby own_b3_d69) rfl k_) ?_
    have hc2 : (g kq) = x5 := hsp.trans (by rw [own_sp, if_pos (by omega)])
    have hd2 := own_eq32 hc2
    refine own_st (B := s₁.setTop (mkF m 74 #[.val (.ref d), .val (.int x1), .val (.int x2), .val (.int x3), .val (.long x4), .second, .val (.int x5), .val (.int (x1 - x2)), .val (.int x5)] [])) (fun t_ k_ => XS.icmpNo X0.here hx rfl (hb hby own_b3_d71) rfl (teq hc2).2 k_) ?_
    refine own_st (B := s₁.setTop (mkF m 75 #[.val (.ref d), .val (.int x1), .val (.int x2), .val (.int x3), .val (.long x4), .second, .val (.int x5), .val (.int (x1 - x2)), .val (.int x5)] [(.int (1 : Int32))])) (fun t_ k_ => XS.iconst X0.here hx rfl (hb hby own_b3_d74) k_) ?_
    refine own_st (B := s₁.setTop (mkF m 79 #[.val (.ref d), .val (.int x1), .val (.int x2), .val (.int x3), .val (.long x4), .second, .val (.int x5), .val (.int (x1 - x2)), .val (.int x5)] [(.int (1 : Int32))])) (fun t_ k_ => XS.goto X0.here hx rfl (pc0 := 75) (pc' := 79) rfl (hb hby own_b3_d75) (by decide) (by decide) k_) ?_
    refine own_retN X0 hx (t := .boolean) Bd.returns (by simp) hlk (hb hby own_b3_d79) (z' := (1 : Int32)) (by first | rfl | exact own_nb _) (by decide) (by decide) ?_
    show Q3 Z d x1 x2 x3 x4 x5 kq kp sz N g h0 n0 _ s₁.heap _
    rw [e0]
    exact ⟨rfl, N0, rfl⟩
  · have hd1 := own_nlt32 hc1
    rw [show (0 : Int32).toInt = 0 from rfl] at hd1
    refine own_st (B := s₁.setTop (mkF m 10 #[.val (.ref d), .val (.int x1), .val (.int x2), .val (.int x3), .val (.long x4), .second, .val (.int x5), .val (.int (x1 - x2)), .unset] [])) (fun t_ k_ => XS.ifNo X0.here hx rfl (hb hby own_b3_d7) rfl ((if0 _ _).trans (flt hc1).1) k_) ?_
    refine own_st (B := s₁.setTop (mkF m 12 #[.val (.ref d), .val (.int x1), .val (.int x2), .val (.int x3), .val (.long x4), .second, .val (.int x5), .val (.int (x1 - x2)), .unset] [(.int (x1 - x2))])) (fun t_ k_ => XS.iload X0.here hx rfl (hb hby own_b3_d10) rfl k_) ?_
    refine own_st (B := s₁.setTop (mkF m 13 #[.val (.ref d), .val (.int x1), .val (.int x2), .val (.int x3), .val (.long x4), .second, .val (.int x5), .val (.int (x1 - x2)), .unset] [(.int x3), (.int (x1 - x2))])) (fun t_ k_ => XS.iloadN X0.here hx rfl (hb hby own_b3_d12) rfl k_) ?_
    by_cases hc3 : (x1 - x2) < x3
    · have hd3 := own_lt32 hc3
      refine own_st (B := s₁.setTop (mkF m 23 #[.val (.ref d), .val (.int x1), .val (.int x2), .val (.int x3), .val (.long x4), .second, .val (.int x5), .val (.int (x1 - x2)), .unset] [])) (fun t_ k_ => XS.icmpYes X0.here hx rfl (pc0 := 13) (pc' := 23) rfl (hb hby own_b3_d13) rfl (tlt hc3).1 (by decide) (by decide) k_) ?_
      have hlsh := own_lsh x4 (k := kq - kp) hN (by omega) (x1 - x2) (by omega)
      have hmk := c_maskL ((x4.toUInt64 >>> (((7 : Int32) * (x1 - x2)) &&& 0x3f).toInt64.toUInt64).toInt64) 127 7 (by decide) (by decide)
      rw [show ((2 ^ 7 : Nat) : Int) = 128 from rfl] at hmk
      refine own_st (B := s₁.setTop (mkF m 25 #[.val (.ref d), .val (.int x1), .val (.int x2), .val (.int x3), .val (.long x4), .second, .val (.int x5), .val (.int (x1 - x2)), .unset] [(.int (x1 - x2))])) (fun t_ k_ => XS.iload X0.here hx rfl (hb hby own_b3_d23) rfl k_) ?_
      refine own_st (B := s₁.setTop (mkF m 26 #[.val (.ref d), .val (.int x1), .val (.int x2), .val (.int x3), .val (.long x4), .second, .val (.int x5), .val (.int (x1 - x2)), .unset] [(.int x3), (.int (x1 - x2))])) (fun t_ k_ => XS.iloadN X0.here hx rfl (hb hby own_b3_d25) rfl k_) ?_
      refine own_st (B := s₁.setTop (mkF m 27 #[.val (.ref d), .val (.int x1), .val (.int x2), .val (.int x3), .val (.long x4), .second, .val (.int x5), .val (.int (x1 - x2)), .unset] [(.int (1 : Int32)), (.int x3), (.int (x1 - x2))])) (fun t_ k_ => XS.iconst X0.here hx rfl (hb hby own_b3_d26) k_) ?_
      refine own_st (B := s₁.setTop (mkF m 28 #[.val (.ref d), .val (.int x1), .val (.int x2), .val (.int x3), .val (.long x4), .second, .val (.int x5), .val (.int (x1 - x2)), .unset] [(.int (x3 - (1 : Int32))), (.int (x1 - x2))])) (fun t_ k_ => XS.isub X0.here hx rfl (hb hby own_b3_d27) rfl k_) ?_
      by_cases hc4 : (x1 - x2) < (x3 - (1 : Int32))
      · have hd4 := own_lt32 hc4
        refine own_st (B := s₁.setTop (mkF m 31 #[.val (.ref d), .val (.int x1), .val (.int x2), .val (.int x3), .val (.long x4), .second, .val (.int x5), .val (.int (x1 - x2)), .unset] [])) (fun t_ k_ => XS.icmpNo X0.here hx rfl (hb hby own_b3_d28) rfl (tlt hc4).2.1 k_) ?_
        refine own_st (B := s₁.setTop (mkF m 33 #[.val (.ref d), .val (.int x1), .val (.int x2), .val (.int x3), .val (.long x4), .second, .val (.int x5), .val (.int (x1 - x2)), .unset] [(.long x4)])) (fun t_ k_ => XS.lload X0.here hx rfl (hb hby own_b3_d31) rfl k_) ?_
        refine own_st (B := s₁.setTop (mkF m 35 #[.val (.ref d), .val (.int x1), .val (.int x2), .val (.int x3), .val (.long x4), .second, .val (.int x5), .val (.int (x1 - x2)), .unset] [(.int (7 : Int32)), (.long x4)])) (fun t_ k_ => XS.bipush X0.here hx rfl (hb hby own_b3_d33) k_) ?_
        refine own_st (B := s₁.setTop (mkF m 37 #[.val (.ref d), .val (.int x1), .val (.int x2), .val (.int x3), .val (.long x4), .second, .val (.int x5), .val (.int (x1 - x2)), .unset] [(.int (x1 - x2)), (.int (7 : Int32)), (.long x4)])) (fun t_ k_ => XS.iload X0.here hx rfl (hb hby own_b3_d35) rfl k_) ?_
        refine own_st (B := s₁.setTop (mkF m 38 #[.val (.ref d), .val (.int x1), .val (.int x2), .val (.int x3), .val (.long x4), .second, .val (.int x5), .val (.int (x1 - x2)), .unset] [(.int ((7 : Int32) * (x1 - x2))), (.long x4)])) (fun t_ k_ => XS.imul X0.here hx rfl (hb hby own_b3_d37) rfl k_) ?_
        refine own_st (B := s₁.setTop (mkF m 39 #[.val (.ref d), .val (.int x1), .val (.int x2), .val (.int x3), .val (.long x4), .second, .val (.int x5), .val (.int (x1 - x2)), .unset] [(.long ((x4.toUInt64 >>> (((7 : Int32) * (x1 - x2)) &&& 0x3f).toInt64.toUInt64).toInt64))])) (fun t_ k_ => XS.lushr X0.here hx rfl (hb hby own_b3_d38) rfl k_) ?_
        refine own_st (B := s₁.setTop (mkF m 42 #[.val (.ref d), .val (.int x1), .val (.int x2), .val (.int x3), .val (.long x4), .second, .val (.int x5), .val (.int (x1 - x2)), .unset] [(.long (127 : Int64)), (.long ((x4.toUInt64 >>> (((7 : Int32) * (x1 - x2)) &&& 0x3f).toInt64.toUInt64).toInt64))])) (fun t_ k_ => X0.ldc2Long hx hown (mvT hZ (hw _ (List.mem_of_getElem? (i := 19) rfl))) (g := (mkF m 39 #[.val (.ref d), .val (.int x1), .val (.int x2), .val (.int x3), .val (.long x4), .second, .val (.int x5), .val (.int (x1 - x2)), .unset] [(.long ((x4.toUInt64 >>> (((7 : Int32) * (x1 - x2)) &&& 0x3f).toInt64.toUInt64).toInt64))])) rfl (hb hby own_b3_d39) t_ k_) ?_
        refine own_st (B := s₁.setTop (mkF m 43 #[.val (.ref d), .val (.int x1), .val (.int x2), .val (.int x3), .val (.long x4), .second, .val (.int x5), .val (.int (x1 - x2)), .unset] [(.long (((x4.toUInt64 >>> (((7 : Int32) * (x1 - x2)) &&& 0x3f).toInt64.toUInt64).toInt64) &&& (127 : Int64)))])) (fun t_ k_ => XS.land X0.here hx rfl (hb hby own_b3_d42) rfl k_) ?_
        refine own_st (B := s₁.setTop (mkF m 46 #[.val (.ref d), .val (.int x1), .val (.int x2), .val (.int x3), .val (.long x4), .second, .val (.int x5), .val (.int (x1 - x2)), .unset] [(.long (128 : Int64)), (.long (((x4.toUInt64 >>> (((7 : Int32) * (x1 - x2)) &&& 0x3f).toInt64.toUInt64).toInt64) &&& (127 : Int64)))])) (fun t_ k_ => X0.ldc2Long hx hown (mvT hZ (hw _ (List.mem_of_getElem? (i := 6) rfl))) (g := (mkF m 43 #[.val (.ref d), .val (.int x1), .val (.int x2), .val (.int x3), .val (.long x4), .second, .val (.int x5), .val (.int (x1 - x2)), .unset] [(.long (((x4.toUInt64 >>> (((7 : Int32) * (x1 - x2)) &&& 0x3f).toInt64.toUInt64).toInt64) &&& (127 : Int64)))])) rfl (hb hby own_b3_d43) t_ k_) ?_
        refine own_st (B := s₁.setTop (mkF m 47 #[.val (.ref d), .val (.int x1), .val (.int x2), .val (.int x3), .val (.long x4), .second, .val (.int x5), .val (.int (x1 - x2)), .unset] [(.long ((((x4.toUInt64 >>> (((7 : Int32) * (x1 - x2)) &&& 0x3f).toInt64.toUInt64).toInt64) &&& (127 : Int64)) ||| (128 : Int64)))])) (fun t_ k_ => XS.lor X0.here hx rfl (hb hby own_b3_d46) rfl k_) ?_
        refine own_st (B := s₁.setTop (mkF m 48 #[.val (.ref d), .val (.int x1), .val (.int x2), .val (.int x3), .val (.long x4), .second, .val (.int x5), .val (.int (x1 - x2)), .unset] [(.int (((((x4.toUInt64 >>> (((7 : Int32) * (x1 - x2)) &&& 0x3f).toInt64.toUInt64).toInt64) &&& (127 : Int64)) ||| (128 : Int64)).toInt32))])) (fun t_ k_ => XS.l2i X0.here hx rfl (hb hby own_b3_d47) rfl k_) ?_
        refine own_st (B := s₁.setTop (mkF m 49 #[.val (.ref d), .val (.int x1), .val (.int x2), .val (.int x3), .val (.long x4), .second, .val (.int x5), .val (.int (x1 - x2)), .unset] [(.int ((((((x4.toUInt64 >>> (((7 : Int32) * (x1 - x2)) &&& 0x3f).toInt64.toUInt64).toInt64) &&& (127 : Int64)) ||| (128 : Int64)).toInt32).toInt8.toInt32))])) (fun t_ k_ => XS.i2b X0.here hx rfl (hb hby own_b3_d48) rfl k_) ?_
        refine own_st (B := s₁.setTop (mkF m 51 #[.val (.ref d), .val (.int x1), .val (.int x2), .val (.int x3), .val (.long x4), .second, .val (.int x5), .val (.int (x1 - x2)), .val (.int ((((((x4.toUInt64 >>> (((7 : Int32) * (x1 - x2)) &&& 0x3f).toInt64.toUInt64).toInt64) &&& (127 : Int64)) ||| (128 : Int64)).toInt32).toInt8.toInt32))] [])) (fun t_ k_ => XS.istore X0.here hx rfl (hb hby own_b3_d49) rfl (l' := #[.val (.ref d), .val (.int x1), .val (.int x2), .val (.int x3), .val (.long x4), .second, .val (.int x5), .val (.int (x1 - x2)), .val (.int ((((((x4.toUInt64 >>> (((7 : Int32) * (x1 - x2)) &&& 0x3f).toInt64.toUInt64).toInt64) &&& (127 : Int64)) ||| (128 : Int64)).toInt32).toInt8.toInt32))]) rfl k_) ?_
        refine own_st (B := s₁.setTop (mkF m 66 #[.val (.ref d), .val (.int x1), .val (.int x2), .val (.int x3), .val (.long x4), .second, .val (.int x5), .val (.int (x1 - x2)), .val (.int ((((((x4.toUInt64 >>> (((7 : Int32) * (x1 - x2)) &&& 0x3f).toInt64.toUInt64).toInt64) &&& (127 : Int64)) ||| (128 : Int64)).toInt32).toInt8.toInt32))] [])) (fun t_ k_ => XS.goto X0.here hx rfl (pc0 := 51) (pc' := 66) rfl (hb hby own_b3_d51) (by decide) (by decide) k_) ?_
        refine own_st (B := s₁.setTop (mkF m 67 #[.val (.ref d), .val (.int x1), .val (.int x2), .val (.int x3), .val (.long x4), .second, .val (.int x5), .val (.int (x1 - x2)), .val (.int ((((((x4.toUInt64 >>> (((7 : Int32) * (x1 - x2)) &&& 0x3f).toInt64.toUInt64).toInt64) &&& (127 : Int64)) ||| (128 : Int64)).toInt32).toInt8.toInt32))] [(.ref d)])) (fun t_ k_ => XS.aloadN X0.here hx rfl (hb hby own_b3_d66) rfl rfl k_) ?_
        refine own_st (B := s₁.setTop (mkF m 68 #[.val (.ref d), .val (.int x1), .val (.int x2), .val (.int x3), .val (.long x4), .second, .val (.int x5), .val (.int (x1 - x2)), .val (.int ((((((x4.toUInt64 >>> (((7 : Int32) * (x1 - x2)) &&& 0x3f).toInt64.toUInt64).toInt64) &&& (127 : Int64)) ||| (128 : Int64)).toInt32).toInt8.toInt32))] [(.int x1), (.ref d)])) (fun t_ k_ => XS.iloadN X0.here hx rfl (hb hby own_b3_d67) rfl k_) ?_
        refine own_st (B := s₁.setTop (mkF m 69 #[.val (.ref d), .val (.int x1), .val (.int x2), .val (.int x3), .val (.long x4), .second, .val (.int x5), .val (.int (x1 - x2)), .val (.int ((((((x4.toUInt64 >>> (((7 : Int32) * (x1 - x2)) &&& 0x3f).toInt64.toUInt64).toInt64) &&& (127 : Int64)) ||| (128 : Int64)).toInt32).toInt8.toInt32))] [(.int (g kq))])) (fun t_ k_ => own_ldB X0 hx hZ e0 A (i := kq) hq hq13 (hb hby own_b3_d68) t_ k_) ?_
        refine own_st (B := s₁.setTop (mkF m 71 #[.val (.ref d), .val (.int x1), .val (.int x2), .val (.int x3), .val (.long x4), .second, .val (.int x5), .val (.int (x1 - x2)), .val (.int ((((((x4.toUInt64 >>> (((7 : Int32) * (x1 - x2)) &&& 0x3f).toInt64.toUInt64).toInt64) &&& (127 : Int64)) ||| (128 : Int64)).toInt32).toInt8.toInt32))] [(.int ((((((x4.toUInt64 >>> (((7 : Int32) * (x1 - x2)) &&& 0x3f).toInt64.toUInt64).toInt64) &&& (127 : Int64)) ||| (128 : Int64)).toInt32).toInt8.toInt32)), (.int (g kq))])) (fun t_ k_ => XS.iload X0.here hx rfl (hb hby own_b3_d69) rfl k_) ?_
        have hc5 : (g kq) = ((((((x4.toUInt64 >>> (((7 : Int32) * (x1 - x2)) &&& 0x3f).toInt64.toUInt64).toInt64) &&& (127 : Int64)) ||| (128 : Int64)).toInt32).toInt8.toInt32) := hsp.trans (by rw [own_sp, if_neg (by omega), if_pos (by omega)]; exact (own_byte1 (by rw [hmk, hlsh]; generalize N / 128 ^ (kq - kp) = M; omega)).symm)
        have hd5 := own_eq32 hc5
        refine own_st (B := s₁.setTop (mkF m 74 #[.val (.ref d), .val (.int x1), .val (.int x2), .val (.int x3), .val (.long x4), .second, .val (.int x5), .val (.int (x1 - x2)), .val (.int ((((((x4.toUInt64 >>> (((7 : Int32) * (x1 - x2)) &&& 0x3f).toInt64.toUInt64).toInt64) &&& (127 : Int64)) ||| (128 : Int64)).toInt32).toInt8.toInt32))] [])) (fun t_ k_ => XS.icmpNo X0.here hx rfl (hb hby own_b3_d71) rfl (teq hc5).2 k_) ?_
        refine own_st (B := s₁.setTop (mkF m 75 #[.val (.ref d), .val (.int x1), .val (.int x2), .val (.int x3), .val (.long x4), .second, .val (.int x5), .val (.int (x1 - x2)), .val (.int ((((((x4.toUInt64 >>> (((7 : Int32) * (x1 - x2)) &&& 0x3f).toInt64.toUInt64).toInt64) &&& (127 : Int64)) ||| (128 : Int64)).toInt32).toInt8.toInt32))] [(.int (1 : Int32))])) (fun t_ k_ => XS.iconst X0.here hx rfl (hb hby own_b3_d74) k_) ?_
        refine own_st (B := s₁.setTop (mkF m 79 #[.val (.ref d), .val (.int x1), .val (.int x2), .val (.int x3), .val (.long x4), .second, .val (.int x5), .val (.int (x1 - x2)), .val (.int ((((((x4.toUInt64 >>> (((7 : Int32) * (x1 - x2)) &&& 0x3f).toInt64.toUInt64).toInt64) &&& (127 : Int64)) ||| (128 : Int64)).toInt32).toInt8.toInt32))] [(.int (1 : Int32))])) (fun t_ k_ => XS.goto X0.here hx rfl (pc0 := 75) (pc' := 79) rfl (hb hby own_b3_d75) (by decide) (by decide) k_) ?_
        refine own_retN X0 hx (t := .boolean) Bd.returns (by simp) hlk (hb hby own_b3_d79) (z' := (1 : Int32)) (by first | rfl | exact own_nb _) (by decide) (by decide) ?_
        show Q3 Z d x1 x2 x3 x4 x5 kq kp sz N g h0 n0 _ s₁.heap _
        rw [e0]
        exact ⟨rfl, N0, rfl⟩
      · have hd4 := own_nlt32 hc4
        refine own_st (B := s₁.setTop (mkF m 54 #[.val (.ref d), .val (.int x1), .val (.int x2), .val (.int x3), .val (.long x4), .second, .val (.int x5), .val (.int (x1 - x2)), .unset] [])) (fun t_ k_ => XS.icmpYes X0.here hx rfl (pc0 := 28) (pc' := 54) rfl (hb hby own_b3_d28) rfl (flt hc4).2.1 (by decide) (by decide) k_) ?_
        refine own_st (B := s₁.setTop (mkF m 56 #[.val (.ref d), .val (.int x1), .val (.int x2), .val (.int x3), .val (.long x4), .second, .val (.int x5), .val (.int (x1 - x2)), .unset] [(.long x4)])) (fun t_ k_ => XS.lload X0.here hx rfl (hb hby own_b3_d54) rfl k_) ?_
        refine own_st (B := s₁.setTop (mkF m 58 #[.val (.ref d), .val (.int x1), .val (.int x2), .val (.int x3), .val (.long x4), .second, .val (.int x5), .val (.int (x1 - x2)), .unset] [(.int (7 : Int32)), (.long x4)])) (fun t_ k_ => XS.bipush X0.here hx rfl (hb hby own_b3_d56) k_) ?_
        refine own_st (B := s₁.setTop (mkF m 60 #[.val (.ref d), .val (.int x1), .val (.int x2), .val (.int x3), .val (.long x4), .second, .val (.int x5), .val (.int (x1 - x2)), .unset] [(.int (x1 - x2)), (.int (7 : Int32)), (.long x4)])) (fun t_ k_ => XS.iload X0.here hx rfl (hb hby own_b3_d58) rfl k_) ?_
        refine own_st (B := s₁.setTop (mkF m 61 #[.val (.ref d), .val (.int x1), .val (.int x2), .val (.int x3), .val (.long x4), .second, .val (.int x5), .val (.int (x1 - x2)), .unset] [(.int ((7 : Int32) * (x1 - x2))), (.long x4)])) (fun t_ k_ => XS.imul X0.here hx rfl (hb hby own_b3_d60) rfl k_) ?_
        refine own_st (B := s₁.setTop (mkF m 62 #[.val (.ref d), .val (.int x1), .val (.int x2), .val (.int x3), .val (.long x4), .second, .val (.int x5), .val (.int (x1 - x2)), .unset] [(.long ((x4.toUInt64 >>> (((7 : Int32) * (x1 - x2)) &&& 0x3f).toInt64.toUInt64).toInt64))])) (fun t_ k_ => XS.lushr X0.here hx rfl (hb hby own_b3_d61) rfl k_) ?_
        refine own_st (B := s₁.setTop (mkF m 63 #[.val (.ref d), .val (.int x1), .val (.int x2), .val (.int x3), .val (.long x4), .second, .val (.int x5), .val (.int (x1 - x2)), .unset] [(.int (((x4.toUInt64 >>> (((7 : Int32) * (x1 - x2)) &&& 0x3f).toInt64.toUInt64).toInt64).toInt32))])) (fun t_ k_ => XS.l2i X0.here hx rfl (hb hby own_b3_d62) rfl k_) ?_
        refine own_st (B := s₁.setTop (mkF m 64 #[.val (.ref d), .val (.int x1), .val (.int x2), .val (.int x3), .val (.long x4), .second, .val (.int x5), .val (.int (x1 - x2)), .unset] [(.int ((((x4.toUInt64 >>> (((7 : Int32) * (x1 - x2)) &&& 0x3f).toInt64.toUInt64).toInt64).toInt32).toInt8.toInt32))])) (fun t_ k_ => XS.i2b X0.here hx rfl (hb hby own_b3_d63) rfl k_) ?_
        refine own_st (B := s₁.setTop (mkF m 66 #[.val (.ref d), .val (.int x1), .val (.int x2), .val (.int x3), .val (.long x4), .second, .val (.int x5), .val (.int (x1 - x2)), .val (.int ((((x4.toUInt64 >>> (((7 : Int32) * (x1 - x2)) &&& 0x3f).toInt64.toUInt64).toInt64).toInt32).toInt8.toInt32))] [])) (fun t_ k_ => XS.istore X0.here hx rfl (hb hby own_b3_d64) rfl (l' := #[.val (.ref d), .val (.int x1), .val (.int x2), .val (.int x3), .val (.long x4), .second, .val (.int x5), .val (.int (x1 - x2)), .val (.int ((((x4.toUInt64 >>> (((7 : Int32) * (x1 - x2)) &&& 0x3f).toInt64.toUInt64).toInt64).toInt32).toInt8.toInt32))]) rfl k_) ?_
        refine own_st (B := s₁.setTop (mkF m 67 #[.val (.ref d), .val (.int x1), .val (.int x2), .val (.int x3), .val (.long x4), .second, .val (.int x5), .val (.int (x1 - x2)), .val (.int ((((x4.toUInt64 >>> (((7 : Int32) * (x1 - x2)) &&& 0x3f).toInt64.toUInt64).toInt64).toInt32).toInt8.toInt32))] [(.ref d)])) (fun t_ k_ => XS.aloadN X0.here hx rfl (hb hby own_b3_d66) rfl rfl k_) ?_
        refine own_st (B := s₁.setTop (mkF m 68 #[.val (.ref d), .val (.int x1), .val (.int x2), .val (.int x3), .val (.long x4), .second, .val (.int x5), .val (.int (x1 - x2)), .val (.int ((((x4.toUInt64 >>> (((7 : Int32) * (x1 - x2)) &&& 0x3f).toInt64.toUInt64).toInt64).toInt32).toInt8.toInt32))] [(.int x1), (.ref d)])) (fun t_ k_ => XS.iloadN X0.here hx rfl (hb hby own_b3_d67) rfl k_) ?_
        refine own_st (B := s₁.setTop (mkF m 69 #[.val (.ref d), .val (.int x1), .val (.int x2), .val (.int x3), .val (.long x4), .second, .val (.int x5), .val (.int (x1 - x2)), .val (.int ((((x4.toUInt64 >>> (((7 : Int32) * (x1 - x2)) &&& 0x3f).toInt64.toUInt64).toInt64).toInt32).toInt8.toInt32))] [(.int (g kq))])) (fun t_ k_ => own_ldB X0 hx hZ e0 A (i := kq) hq hq13 (hb hby own_b3_d68) t_ k_) ?_
        refine own_st (B := s₁.setTop (mkF m 71 #[.val (.ref d), .val (.int x1), .val (.int x2), .val (.int x3), .val (.long x4), .second, .val (.int x5), .val (.int (x1 - x2)), .val (.int ((((x4.toUInt64 >>> (((7 : Int32) * (x1 - x2)) &&& 0x3f).toInt64.toUInt64).toInt64).toInt32).toInt8.toInt32))] [(.int ((((x4.toUInt64 >>> (((7 : Int32) * (x1 - x2)) &&& 0x3f).toInt64.toUInt64).toInt64).toInt32).toInt8.toInt32)), (.int (g kq))])) (fun t_ k_ => XS.iload X0.here hx rfl (hb hby own_b3_d69) rfl k_) ?_
        have hc6 : (g kq) = ((((x4.toUInt64 >>> (((7 : Int32) * (x1 - x2)) &&& 0x3f).toInt64.toUInt64).toInt64).toInt32).toInt8.toInt32) := hsp.trans (by rw [own_sp, if_neg (by omega), if_neg (by omega)]; exact (own_byte2 hlsh (by rw [show kq - kp = sz - 1 by omega]; exact own_pd' (by rw [show sz - 1 + 1 = sz by omega]; exact hs4))).symm)
        have hd6 := own_eq32 hc6
        refine own_st (B := s₁.setTop (mkF m 74 #[.val (.ref d), .val (.int x1), .val (.int x2), .val (.int x3), .val (.long x4), .second, .val (.int x5), .val (.int (x1 - x2)), .val (.int ((((x4.toUInt64 >>> (((7 : Int32) * (x1 - x2)) &&& 0x3f).toInt64.toUInt64).toInt64).toInt32).toInt8.toInt32))] [])) (fun t_ k_ => XS.icmpNo X0.here hx rfl (hb hby own_b3_d71) rfl (teq hc6).2 k_) ?_
        refine own_st (B := s₁.setTop (mkF m 75 #[.val (.ref d), .val (.int x1), .val (.int x2), .val (.int x3), .val (.long x4), .second, .val (.int x5), .val (.int (x1 - x2)), .val (.int ((((x4.toUInt64 >>> (((7 : Int32) * (x1 - x2)) &&& 0x3f).toInt64.toUInt64).toInt64).toInt32).toInt8.toInt32))] [(.int (1 : Int32))])) (fun t_ k_ => XS.iconst X0.here hx rfl (hb hby own_b3_d74) k_) ?_
        refine own_st (B := s₁.setTop (mkF m 79 #[.val (.ref d), .val (.int x1), .val (.int x2), .val (.int x3), .val (.long x4), .second, .val (.int x5), .val (.int (x1 - x2)), .val (.int ((((x4.toUInt64 >>> (((7 : Int32) * (x1 - x2)) &&& 0x3f).toInt64.toUInt64).toInt64).toInt32).toInt8.toInt32))] [(.int (1 : Int32))])) (fun t_ k_ => XS.goto X0.here hx rfl (pc0 := 75) (pc' := 79) rfl (hb hby own_b3_d75) (by decide) (by decide) k_) ?_
        refine own_retN X0 hx (t := .boolean) Bd.returns (by simp) hlk (hb hby own_b3_d79) (z' := (1 : Int32)) (by first | rfl | exact own_nb _) (by decide) (by decide) ?_
        show Q3 Z d x1 x2 x3 x4 x5 kq kp sz N g h0 n0 _ s₁.heap _
        rw [e0]
        exact ⟨rfl, N0, rfl⟩
    · have hd3 := own_nlt32 hc3
      refine own_st (B := s₁.setTop (mkF m 16 #[.val (.ref d), .val (.int x1), .val (.int x2), .val (.int x3), .val (.long x4), .second, .val (.int x5), .val (.int (x1 - x2)), .unset] [])) (fun t_ k_ => XS.icmpNo X0.here hx rfl (hb hby own_b3_d13) rfl (flt hc3).1 k_) ?_
      refine own_st (B := s₁.setTop (mkF m 18 #[.val (.ref d), .val (.int x1), .val (.int x2), .val (.int x3), .val (.long x4), .second, .val (.int x5), .val (.int (x1 - x2)), .unset] [(.int x5)])) (fun t_ k_ => XS.iload X0.here hx rfl (hb hby own_b3_d16) rfl k_) ?_
      refine own_st (B := s₁.setTop (mkF m 20 #[.val (.ref d), .val (.int x1), .val (.int x2), .val (.int x3), .val (.long x4), .second, .val (.int x5), .val (.int (x1 - x2)), .val (.int x5)] [])) (fun t_ k_ => XS.istore X0.here hx rfl (hb hby own_b3_d18) rfl (l' := #[.val (.ref d), .val (.int x1), .val (.int x2), .val (.int x3), .val (.long x4), .second, .val (.int x5), .val (.int (x1 - x2)), .val (.int x5)]) rfl k_) ?_
      refine own_st (B := s₁.setTop (mkF m 66 #[.val (.ref d), .val (.int x1), .val (.int x2), .val (.int x3), .val (.long x4), .second, .val (.int x5), .val (.int (x1 - x2)), .val (.int x5)] [])) (fun t_ k_ => XS.goto X0.here hx rfl (pc0 := 20) (pc' := 66) rfl (hb hby own_b3_d20) (by decide) (by decide) k_) ?_
      refine own_st (B := s₁.setTop (mkF m 67 #[.val (.ref d), .val (.int x1), .val (.int x2), .val (.int x3), .val (.long x4), .second, .val (.int x5), .val (.int (x1 - x2)), .val (.int x5)] [(.ref d)])) (fun t_ k_ => XS.aloadN X0.here hx rfl (hb hby own_b3_d66) rfl rfl k_) ?_
      refine own_st (B := s₁.setTop (mkF m 68 #[.val (.ref d), .val (.int x1), .val (.int x2), .val (.int x3), .val (.long x4), .second, .val (.int x5), .val (.int (x1 - x2)), .val (.int x5)] [(.int x1), (.ref d)])) (fun t_ k_ => XS.iloadN X0.here hx rfl (hb hby own_b3_d67) rfl k_) ?_
      refine own_st (B := s₁.setTop (mkF m 69 #[.val (.ref d), .val (.int x1), .val (.int x2), .val (.int x3), .val (.long x4), .second, .val (.int x5), .val (.int (x1 - x2)), .val (.int x5)] [(.int (g kq))])) (fun t_ k_ => own_ldB X0 hx hZ e0 A (i := kq) hq hq13 (hb hby own_b3_d68) t_ k_) ?_
      refine own_st (B := s₁.setTop (mkF m 71 #[.val (.ref d), .val (.int x1), .val (.int x2), .val (.int x3), .val (.long x4), .second, .val (.int x5), .val (.int (x1 - x2)), .val (.int x5)] [(.int x5), (.int (g kq))])) (fun t_ k_ => XS.iload X0.here hx rfl (hb hby own_b3_d69) rfl k_) ?_
      have hc7 : (g kq) = x5 := hsp.trans (by rw [own_sp, if_pos (by omega)])
      have hd7 := own_eq32 hc7
      refine own_st (B := s₁.setTop (mkF m 74 #[.val (.ref d), .val (.int x1), .val (.int x2), .val (.int x3), .val (.long x4), .second, .val (.int x5), .val (.int (x1 - x2)), .val (.int x5)] [])) (fun t_ k_ => XS.icmpNo X0.here hx rfl (hb hby own_b3_d71) rfl (teq hc7).2 k_) ?_
      refine own_st (B := s₁.setTop (mkF m 75 #[.val (.ref d), .val (.int x1), .val (.int x2), .val (.int x3), .val (.long x4), .second, .val (.int x5), .val (.int (x1 - x2)), .val (.int x5)] [(.int (1 : Int32))])) (fun t_ k_ => XS.iconst X0.here hx rfl (hb hby own_b3_d74) k_) ?_
      refine own_st (B := s₁.setTop (mkF m 79 #[.val (.ref d), .val (.int x1), .val (.int x2), .val (.int x3), .val (.long x4), .second, .val (.int x5), .val (.int (x1 - x2)), .val (.int x5)] [(.int (1 : Int32))])) (fun t_ k_ => XS.goto X0.here hx rfl (pc0 := 75) (pc' := 79) rfl (hb hby own_b3_d75) (by decide) (by decide) k_) ?_
      refine own_retN X0 hx (t := .boolean) Bd.returns (by simp) hlk (hb hby own_b3_d79) (z' := (1 : Int32)) (by first | rfl | exact own_nb _) (by decide) (by decide) ?_
      show Q3 Z d x1 x2 x3 x4 x5 kq kp sz N g h0 n0 _ s₁.heap _
      rw [e0]
      exact ⟨rfl, N0, rfl⟩
theorem own_spec {N kp t sz : Nat} {g f : Nat → Int32} {k : Int32} (hg : ∀ j, j < 13 → g j = own_W N kp t f j) (hf : ∀ j, j < 13 → f j = k) (hs : sz = t + 1) : ∀ j, j < 13 → g j = own_sp N kp sz k j := by
  intro j hj
  rw [hg j hj, own_W, own_sp, hs]
  by_cases q : kp ≤ j ∧ j < kp + t
  · rw [if_pos q, if_neg (by omega), if_pos (by omega)]
  · rw [if_neg q]
    by_cases r : j = kp + t
    · rw [if_pos r, if_neg (by omega), if_neg (by omega), show j - kp = t by omega]
    · rw [if_neg r, if_pos (by omega), hf j hj]
theorem own_val (v : Int64) (n : Int32) : 0 ≤ (((v &&& (9223372036854775807 : Int64)).toUInt64 >>> ((n &&& (63 : Int32)) &&& 0x3f).toInt64.toUInt64).toInt64).toInt := by
  have h1 := c_maskL v 9223372036854775807 63 (by decide) (by decide)
  have h0 : (0 : Int64) ≤ v &&& 9223372036854775807 := by
    rw [Int64.le_iff_toInt_le, h1]; exact Int.emod_nonneg _ (by decide)
  have hk : ((((n &&& (63 : Int32)) &&& 0x3f).toInt64.toUInt64).toNat) < 64 := by
    have e : ((n &&& (63 : Int32)) &&& 0x3f) = n &&& 63 := by rw [Int32.and_assoc]; rfl
    rw [e]
    have b := c_and n 63 (by decide)
    rw [show (63 : Int32).toInt = 63 from rfl] at b
    have c1 := c_i2l (n &&& 63)
    have : ((n &&& 63).toInt64.toUInt64.toNat : Int) = (n &&& 63).toInt64.toInt := by
      have u := own_u64 (n &&& 63).toInt64
      have : (n &&& 63).toInt64.toUInt64.toNat = (n &&& 63).toInt64.toBitVec.toNat := rfl
      rw [this]; omega
    omega
  have := Jvm.Kit.i64_lushr h0 rfl hk
  rw [this]
  rw [Int64.le_iff_toInt_le, show (0 : Int64).toInt = 0 from rfl] at h0
  exact Int.ediv_nonneg h0 (by first | exact Int.pow_nonneg (by decide) | exact Int.le_of_lt (Int.pow_pos (by decide)))
theorem own_b13 (f g : Nat → Int32) (h : ∀ j : Fin 13, f j = g j) : ∀ j, j < 13 → f j = g j := fun j hj => h ⟨j, hj⟩
theorem own_pd0 : parseMethodDescriptor "(J)I" = some ⟨[.long], some .int⟩ := by decide +kernel
theorem own_pd1 : parseMethodDescriptor "([BIJ)I" = some ⟨[(.array .byte), .int, .long], some .int⟩ := by decide +kernel
theorem own_pd2 : parseMethodDescriptor "([BIIIJB)Z" = some ⟨[(.array .byte), .int, .int, .int, .long, .byte], some .boolean⟩ := by decide +kernel
theorem own_ef_rm0 (m : MethodId) (x0 : Int64) (x1 : Int32) (x2 : Int32) (x3 : Int32) : entryFrame m #[(.long x0), (.int x1), (.int x2), (.int x3)] maxLocals = mkF m 0 #[.val (.long x0), .second, .val (.int x1), .val (.int x2), .val (.int x3), .unset, .unset, .unset, .unset, .unset, .unset, .unset] [] := by first | (simp [entryFrame, mkF, argsToLocals, Value.category, maxLocals]; done) | rfl
def Q0 (Z : State) (u0 : Int64) (u1 : Int32) (u2 : Int32) (u3 : Int32) (h0 : Heap) (n0 : Nat) (v : Option Value) (h : Heap) (L : List Loc) : Prop := v = some (.int 1) ∧ Fr n0 L
set_option maxRecDepth 65536 in
set_option maxHeartbeats 40000000 in
theorem rm0 (l : Launch) (Z : State) (a0 : Array Value) (hw : ∀ d ∈ tables_1, d.before a0 Z = true) (ws : List Jvm.Cond) (u0 : Int64) (u1 : Int32) (u2 : Int32) (u3 : Int32) (h0 : Heap) (n0 : Nat) (Z0 : n0 ≤ h0.size) :
    MetFree l x (head1 (Jvm.Cond.code x code maxLocals ret :: ws) room_1) (fun aa_ U_ => aa_ = #[(.long u0), (.int u1), (.int u2), (.int u3)] ∧ Z.Warmed39 U_.vm ∧ U_.heap = h0) (fun _ _ _ _ _ => True) (fun _ U_ o_ U1_ => ∃ v_ L_, o_ = .returned v_ ∧ Q0 Z u0 u1 u2 u3 h0 n0 v_ U1_.heap L_ ∧ FrameEnd U_ o_ U1_ L_ 1 13) := by
  refine MetFree.of_bodySF (plainFor_of_name own_pn0) hisR ?_
  intro p e s m args below meth c s₁ Bd hml0 hP hK
  obtain ⟨rfl, hZ, hh⟩ := hP
  have hx := Bd.exec
  have hby := Bd.bytes
  have hlk := Bd.notSynchronized
  have hml : c.maxLocals = 12 := hml0
  have hown : s.vm.findClass "com/example/tidemark/tidemark/RecordFormatPutVarintPinLaw" = some m.cls := findClass_of_methodNamed Bd.named
  have hnm := (name_of_methodNamed Bd.named Bd.method).1
  have X0 : Stand p l e room_1 s m #[(.long u0), (.int u1), (.int u2), (.int u3)] below meth c s₁ [] 0 0 := Stand.of_body Bd
  have e0 : s₁.heap = h0 := by rw [← hh, Bd.state]; rfl
  have N0 := Fr.nil n0
  show own_E p e below s (Q0 Z u0 u1 u2 u3 h0 n0) 1 13 (s₁.setTop (entryFrame m #[(.long u0), (.int u1), (.int u2), (.int u3)] maxLocals))
  refine own_st (B := s₁.setTop (mkF m 0 #[.val (.long u0), .second, .val (.int u1), .val (.int u2), .val (.int u3), .unset, .unset, .unset, .unset, .unset, .unset, .unset] [])) (fun t_ k_ => castTop (own_ef_rm0 m u0 u1 u2 u3) k_) ?_
  refine own_st (B := s₁.setTop (mkF m 1 #[.val (.long u0), .second, .val (.int u1), .val (.int u2), .val (.int u3), .unset, .unset, .unset, .unset, .unset, .unset, .unset] [(.long u0)])) (fun t_ k_ => XS.lloadN X0.here hx rfl (hb hby at_0) rfl k_) ?_
  refine own_st (B := s₁.setTop (mkF m 4 #[.val (.long u0), .second, .val (.int u1), .val (.int u2), .val (.int u3), .unset, .unset, .unset, .unset, .unset, .unset, .unset] [(.long (9223372036854775807 : Int64)), (.long u0)])) (fun t_ k_ => X0.ldc2Long hx hown (mvT hZ (hw _ (List.mem_of_getElem? (i := 0) rfl))) (g := (mkF m 1 #[.val (.long u0), .second, .val (.int u1), .val (.int u2), .val (.int u3), .unset, .unset, .unset, .unset, .unset, .unset, .unset] [(.long u0)])) rfl (hb hby at_1) t_ k_) ?_
  refine own_st (B := s₁.setTop (mkF m 5 #[.val (.long u0), .second, .val (.int u1), .val (.int u2), .val (.int u3), .unset, .unset, .unset, .unset, .unset, .unset, .unset] [(.long (u0 &&& (9223372036854775807 : Int64)))])) (fun t_ k_ => XS.land X0.here hx rfl (hb hby at_4) rfl k_) ?_
  refine own_st (B := s₁.setTop (mkF m 6 #[.val (.long u0), .second, .val (.int u1), .val (.int u2), .val (.int u3), .unset, .unset, .unset, .unset, .unset, .unset, .unset] [(.int u1), (.long (u0 &&& (9223372036854775807 : Int64)))])) (fun t_ k_ => XS.iloadN X0.here hx rfl (hb hby at_5) rfl k_) ?_
  refine own_st (B := s₁.setTop (mkF m 8 #[.val (.long u0), .second, .val (.int u1), .val (.int u2), .val (.int u3), .unset, .unset, .unset, .unset, .unset, .unset, .unset] [(.int (63 : Int32)), (.int u1), (.long (u0 &&& (9223372036854775807 : Int64)))])) (fun t_ k_ => XS.bipush X0.here hx rfl (hb hby at_6) k_) ?_
  refine own_st (B := s₁.setTop (mkF m 9 #[.val (.long u0), .second, .val (.int u1), .val (.int u2), .val (.int u3), .unset, .unset, .unset, .unset, .unset, .unset, .unset] [(.int (u1 &&& (63 : Int32))), (.long (u0 &&& (9223372036854775807 : Int64)))])) (fun t_ k_ => XS.iand X0.here hx rfl (hb hby at_8) rfl k_) ?_
  refine own_st (B := s₁.setTop (mkF m 10 #[.val (.long u0), .second, .val (.int u1), .val (.int u2), .val (.int u3), .unset, .unset, .unset, .unset, .unset, .unset, .unset] [(.long (((u0 &&& (9223372036854775807 : Int64)).toUInt64 >>> ((u1 &&& (63 : Int32)) &&& 0x3f).toInt64.toUInt64).toInt64))])) (fun t_ k_ => XS.lushr X0.here hx rfl (hb hby at_9) rfl k_) ?_
  refine own_st (B := s₁.setTop (mkF m 12 #[.val (.long u0), .second, .val (.int u1), .val (.int u2), .val (.int u3), .val (.long (((u0 &&& (9223372036854775807 : Int64)).toUInt64 >>> ((u1 &&& (63 : Int32)) &&& 0x3f).toInt64.toUInt64).toInt64)), .second, .unset, .unset, .unset, .unset, .unset] [])) (fun t_ k_ => XS.lstore X0.here hx rfl (hb hby at_10) rfl (l' := #[.val (.long u0), .second, .val (.int u1), .val (.int u2), .val (.int u3), .val (.long (((u0 &&& (9223372036854775807 : Int64)).toUInt64 >>> ((u1 &&& (63 : Int32)) &&& 0x3f).toInt64.toUInt64).toInt64)), .second, .unset, .unset, .unset, .unset, .unset]) rfl k_) ?_
  have hv0 := own_val u0 u1
  obtain ⟨y5, hy5⟩ : ∃ y, y = (((u0 &&& (9223372036854775807 : Int64)).toUInt64 >>> ((u1 &&& (63 : Int32)) &&& 0x3f).toInt64.toUInt64).toInt64) := ⟨_, rfl⟩
  rw [← hy5] at hv0 ⊢
  obtain ⟨N, hN⟩ : ∃ k : Nat, y5.toInt = k := ⟨y5.toInt.toNat, by omega⟩
  have hN9 : N < 128 ^ 9 := by have := rng64 y5; simp only [Nat.reducePow]; omega
  refine own_st (B := s₁.setTop (mkF m 13 #[.val (.long u0), .second, .val (.int u1), .val (.int u2), .val (.int u3), .val (.long y5), .second, .unset, .unset, .unset, .unset, .unset] [(.int u2)])) (fun t_ k_ => XS.iloadN X0.here hx rfl (hb hby at_12) rfl k_) ?_
  refine own_st (B := s₁.setTop (mkF m 14 #[.val (.long u0), .second, .val (.int u1), .val (.int u2), .val (.int u3), .val (.long y5), .second, .unset, .unset, .unset, .unset, .unset] [(.int (3 : Int32)), (.int u2)])) (fun t_ k_ => XS.iconst X0.here hx rfl (hb hby at_13) k_) ?_
  refine own_st (B := s₁.setTop (mkF m 15 #[.val (.long u0), .second, .val (.int u1), .val (.int u2), .val (.int u3), .val (.long y5), .second, .unset, .unset, .unset, .unset, .unset] [(.int (u2 &&& (3 : Int32)))])) (fun t_ k_ => XS.iand X0.here hx rfl (hb hby at_14) rfl k_) ?_
  refine own_st (B := s₁.setTop (mkF m 17 #[.val (.long u0), .second, .val (.int u1), .val (.int u2), .val (.int u3), .val (.long y5), .second, .val (.int (u2 &&& (3 : Int32))), .unset, .unset, .unset, .unset] [])) (fun t_ k_ => XS.istore X0.here hx rfl (hb hby at_15) rfl (l' := #[.val (.long u0), .second, .val (.int u1), .val (.int u2), .val (.int u3), .val (.long y5), .second, .val (.int (u2 &&& (3 : Int32))), .unset, .unset, .unset, .unset]) rfl k_) ?_
  refine own_st (B := s₁.setTop (mkF m 19 #[.val (.long u0), .second, .val (.int u1), .val (.int u2), .val (.int u3), .val (.long y5), .second, .val (.int (u2 &&& (3 : Int32))), .unset, .unset, .unset, .unset] [(.int u3)])) (fun t_ k_ => XS.iload X0.here hx rfl (hb hby at_17) rfl k_) ?_
  refine own_st (B := s₁.setTop (mkF m 20 #[.val (.long u0), .second, .val (.int u1), .val (.int u2), .val (.int u3), .val (.long y5), .second, .val (.int (u2 &&& (3 : Int32))), .unset, .unset, .unset, .unset] [(.int (u3.toInt8.toInt32))])) (fun t_ k_ => XS.i2b X0.here hx rfl (hb hby at_19) rfl k_) ?_
  refine own_st (B := s₁.setTop (mkF m 22 #[.val (.long u0), .second, .val (.int u1), .val (.int u2), .val (.int u3), .val (.long y5), .second, .val (.int (u2 &&& (3 : Int32))), .val (.int (u3.toInt8.toInt32)), .unset, .unset, .unset] [])) (fun t_ k_ => XS.istore X0.here hx rfl (hb hby at_20) rfl (l' := #[.val (.long u0), .second, .val (.int u1), .val (.int u2), .val (.int u3), .val (.long y5), .second, .val (.int (u2 &&& (3 : Int32))), .val (.int (u3.toInt8.toInt32)), .unset, .unset, .unset]) rfl k_) ?_
  obtain ⟨kp, hkp, hkp4⟩ : ∃ kk, own_ix (u2 &&& (3 : Int32)) kk ∧ kk < 4 := ⟨_, own_ixs (own_and3 u2 3 (by decide)).1, Nat.lt_succ_of_le (own_and3 u2 3 (by decide)).2⟩
  refine own_st (B := s₁.setTop (mkF m 24 #[.val (.long u0), .second, .val (.int u1), .val (.int u2), .val (.int u3), .val (.long y5), .second, .val (.int (u2 &&& (3 : Int32))), .val (.int (u3.toInt8.toInt32)), .unset, .unset, .unset] [(.int (13 : Int32))])) (fun t_ k_ => XS.bipush X0.here hx rfl (hb hby at_22) k_) ?_
  obtain ⟨T1, h1, k1, X1, e1, E1, A1, G1, st1⟩ := newPE X0 hx hZ (hw _ (List.mem_of_getElem? (i := 1) rfl)) e0 (g := (mkF m 24 #[.val (.long u0), .second, .val (.int u1), .val (.int u2), .val (.int u3), .val (.long y5), .second, .val (.int (u2 &&& (3 : Int32))), .val (.int (u3.toInt8.toInt32)), .unset, .unset, .unset] [(.int (13 : Int32))])) rfl (hb hby at_24) rfl (by decide) (cap := 13) (by decide) (by decide) (by decide) (by decide) (ad := "[B") (by decide)
  obtain ⟨b1, g1⟩ : ∃ z, z = h0.size := ⟨_, rfl⟩
  rw [← g1] at A1 G1 st1
  have g2 : n0 ≤ b1 := Nat.le_trans Z0 (Nat.le_of_eq g1.symm)
  have Z3 := Nat.le_trans Z0 E1.1
  have X1 : Stand p l e _ s m _ below meth c T1 _ 1 13 := X1
  have a1 : own_A Z h1 b1 .byte 13 (fun _ => 0) := own_A.new A1 (by decide) rfl
  refine own_st (B := T1.setTop (mkF m 26 #[.val (.long u0), .second, .val (.int u1), .val (.int u2), .val (.int u3), .val (.long y5), .second, .val (.int (u2 &&& (3 : Int32))), .val (.int (u3.toInt8.toInt32)), .unset, .unset, .unset] [(.ref b1)])) st1 ?_
  refine own_st (B := T1.setTop (mkF m 27 #[.val (.long u0), .second, .val (.int u1), .val (.int u2), .val (.int u3), .val (.long y5), .second, .val (.int (u2 &&& (3 : Int32))), .val (.int (u3.toInt8.toInt32)), .unset, .unset, .unset] [(.ref b1), (.ref b1)])) (fun t_ k_ => XS.dup X1.here hx rfl (hb hby at_26) rfl rfl k_) ?_
  refine own_st (B := T1.setTop (mkF m 28 #[.val (.long u0), .second, .val (.int u1), .val (.int u2), .val (.int u3), .val (.long y5), .second, .val (.int (u2 &&& (3 : Int32))), .val (.int (u3.toInt8.toInt32)), .unset, .unset, .unset] [(.int (0 : Int32)), (.ref b1), (.ref b1)])) (fun t_ k_ => XS.iconst X1.here hx rfl (hb hby at_27) k_) ?_
  refine own_st (B := T1.setTop (mkF m 30 #[.val (.long u0), .second, .val (.int u1), .val (.int u2), .val (.int u3), .val (.long y5), .second, .val (.int (u2 &&& (3 : Int32))), .val (.int (u3.toInt8.toInt32)), .unset, .unset, .unset] [(.int (u3.toInt8.toInt32)), (.int (0 : Int32)), (.ref b1), (.ref b1)])) (fun t_ k_ => XS.iload X1.here hx rfl (hb hby at_28) rfl k_) ?_
  obtain ⟨T4, h4, X4, e4, W4, a4, st4⟩ := own_stB X1 hx hZ e1 a1 (i := 0) (j := (0 : Int32)) (by decide) (by decide) (pc := 30) (x := (u3.toInt8.toInt32)) (Ls := #[.val (.long u0), .second, .val (.int u1), .val (.int u2), .val (.int u3), .val (.long y5), .second, .val (.int (u2 &&& (3 : Int32))), .val (.int (u3.toInt8.toInt32)), .unset, .unset, .unset]) (rest := [(.ref b1)]) (hb hby at_30)
  have N4 := Fr.snoc X4 N0 g2
  have Z5 := Nat.le_trans Z3 (Keep.of_wr W4).1
  refine own_st (B := T4.setTop (mkF m 31 #[.val (.long u0), .second, .val (.int u1), .val (.int u2), .val (.int u3), .val (.long y5), .second, .val (.int (u2 &&& (3 : Int32))), .val (.int (u3.toInt8.toInt32)), .unset, .unset, .unset] [(.ref b1)])) st4 ?_
  refine own_st (B := T4.setTop (mkF m 32 #[.val (.long u0), .second, .val (.int u1), .val (.int u2), .val (.int u3), .val (.long y5), .second, .val (.int (u2 &&& (3 : Int32))), .val (.int (u3.toInt8.toInt32)), .unset, .unset, .unset] [(.ref b1), (.ref b1)])) (fun t_ k_ => XS.dup X4.here hx rfl (hb hby at_31) rfl rfl k_) ?_
  refine own_st (B := T4.setTop (mkF m 33 #[.val (.long u0), .second, .val (.int u1), .val (.int u2), .val (.int u3), .val (.long y5), .second, .val (.int (u2 &&& (3 : Int32))), .val (.int (u3.toInt8.toInt32)), .unset, .unset, .unset] [(.int (1 : Int32)), (.ref b1), (.ref b1)])) (fun t_ k_ => XS.iconst X4.here hx rfl (hb hby at_32) k_) ?_
  refine own_st (B := T4.setTop (mkF m 35 #[.val (.long u0), .second, .val (.int u1), .val (.int u2), .val (.int u3), .val (.long y5), .second, .val (.int (u2 &&& (3 : Int32))), .val (.int (u3.toInt8.toInt32)), .unset, .unset, .unset] [(.int (u3.toInt8.toInt32)), (.int (1 : Int32)), (.ref b1), (.ref b1)])) (fun t_ k_ => XS.iload X4.here hx rfl (hb hby at_33) rfl k_) ?_
  obtain ⟨T6, h6, X6, e6, W6, a6, st6⟩ := own_stB X4 hx hZ e4 a4 (i := 1) (j := (1 : Int32)) (by decide) (by decide) (pc := 35) (x := (u3.toInt8.toInt32)) (Ls := #[.val (.long u0), .second, .val (.int u1), .val (.int u2), .val (.int u3), .val (.long y5), .second, .val (.int (u2 &&& (3 : Int32))), .val (.int (u3.toInt8.toInt32)), .unset, .unset, .unset]) (rest := [(.ref b1)]) (hb hby at_35)
  have N6 := Fr.snoc X6 N4 g2
  have Z7 := Nat.le_trans Z5 (Keep.of_wr W6).1
  refine own_st (B := T6.setTop (mkF m 36 #[.val (.long u0), .second, .val (.int u1), .val (.int u2), .val (.int u3), .val (.long y5), .second, .val (.int (u2 &&& (3 : Int32))), .val (.int (u3.toInt8.toInt32)), .unset, .unset, .unset] [(.ref b1)])) st6 ?_
  refine own_st (B := T6.setTop (mkF m 37 #[.val (.long u0), .second, .val (.int u1), .val (.int u2), .val (.int u3), .val (.long y5), .second, .val (.int (u2 &&& (3 : Int32))), .val (.int (u3.toInt8.toInt32)), .unset, .unset, .unset] [(.ref b1), (.ref b1)])) (fun t_ k_ => XS.dup X6.here hx rfl (hb hby at_36) rfl rfl k_) ?_
  refine own_st (B := T6.setTop (mkF m 38 #[.val (.long u0), .second, .val (.int u1), .val (.int u2), .val (.int u3), .val (.long y5), .second, .val (.int (u2 &&& (3 : Int32))), .val (.int (u3.toInt8.toInt32)), .unset, .unset, .unset] [(.int (2 : Int32)), (.ref b1), (.ref b1)])) (fun t_ k_ => XS.iconst X6.here hx rfl (hb hby at_37) k_) ?_
  refine own_st (B := T6.setTop (mkF m 40 #[.val (.long u0), .second, .val (.int u1), .val (.int u2), .val (.int u3), .val (.long y5), .second, .val (.int (u2 &&& (3 : Int32))), .val (.int (u3.toInt8.toInt32)), .unset, .unset, .unset] [(.int (u3.toInt8.toInt32)), (.int (2 : Int32)), (.ref b1), (.ref b1)])) (fun t_ k_ => XS.iload X6.here hx rfl (hb hby at_38) rfl k_) ?_
  obtain ⟨T8, h8, X8, e8, W8, a8, st8⟩ := own_stB X6 hx hZ e6 a6 (i := 2) (j := (2 : Int32)) (by decide) (by decide) (pc := 40) (x := (u3.toInt8.toInt32)) (Ls := #[.val (.long u0), .second, .val (.int u1), .val (.int u2), .val (.int u3), .val (.long y5), .second, .val (.int (u2 &&& (3 : Int32))), .val (.int (u3.toInt8.toInt32)), .unset, .unset, .unset]) (rest := [(.ref b1)]) (hb hby at_40)
  have N8 := Fr.snoc X8 N6 g2
  have Z9 := Nat.le_trans Z7 (Keep.of_wr W8).1
  refine own_st (B := T8.setTop (mkF m 41 #[.val (.long u0), .second, .val (.int u1), .val (.int u2), .val (.int u3), .val (.long y5), .second, .val (.int (u2 &&& (3 : Int32))), .val (.int (u3.toInt8.toInt32)), .unset, .unset, .unset] [(.ref b1)])) st8 ?_
  refine own_st (B := T8.setTop (mkF m 42 #[.val (.long u0), .second, .val (.int u1), .val (.int u2), .val (.int u3), .val (.long y5), .second, .val (.int (u2 &&& (3 : Int32))), .val (.int (u3.toInt8.toInt32)), .unset, .unset, .unset] [(.ref b1), (.ref b1)])) (fun t_ k_ => XS.dup X8.here hx rfl (hb hby at_41) rfl rfl k_) ?_
  refine own_st (B := T8.setTop (mkF m 43 #[.val (.long u0), .second, .val (.int u1), .val (.int u2), .val (.int u3), .val (.long y5), .second, .val (.int (u2 &&& (3 : Int32))), .val (.int (u3.toInt8.toInt32)), .unset, .unset, .unset] [(.int (3 : Int32)), (.ref b1), (.ref b1)])) (fun t_ k_ => XS.iconst X8.here hx rfl (hb hby at_42) k_) ?_
  refine own_st (B := T8.setTop (mkF m 45 #[.val (.long u0), .second, .val (.int u1), .val (.int u2), .val (.int u3), .val (.long y5), .second, .val (.int (u2 &&& (3 : Int32))), .val (.int (u3.toInt8.toInt32)), .unset, .unset, .unset] [(.int (u3.toInt8.toInt32)), (.int (3 : Int32)), (.ref b1), (.ref b1)])) (fun t_ k_ => XS.iload X8.here hx rfl (hb hby at_43) rfl k_) ?_
  obtain ⟨T10, h10, X10, e10, W10, a10, st10⟩ := own_stB X8 hx hZ e8 a8 (i := 3) (j := (3 : Int32)) (by decide) (by decide) (pc := 45) (x := (u3.toInt8.toInt32)) (Ls := #[.val (.long u0), .second, .val (.int u1), .val (.int u2), .val (.int u3), .val (.long y5), .second, .val (.int (u2 &&& (3 : Int32))), .val (.int (u3.toInt8.toInt32)), .unset, .unset, .unset]) (rest := [(.ref b1)]) (hb hby at_45)
  have N10 := Fr.snoc X10 N8 g2
  have Z11 := Nat.le_trans Z9 (Keep.of_wr W10).1
  refine own_st (B := T10.setTop (mkF m 46 #[.val (.long u0), .second, .val (.int u1), .val (.int u2), .val (.int u3), .val (.long y5), .second, .val (.int (u2 &&& (3 : Int32))), .val (.int (u3.toInt8.toInt32)), .unset, .unset, .unset] [(.ref b1)])) st10 ?_
  refine own_st (B := T10.setTop (mkF m 47 #[.val (.long u0), .second, .val (.int u1), .val (.int u2), .val (.int u3), .val (.long y5), .second, .val (.int (u2 &&& (3 : Int32))), .val (.int (u3.toInt8.toInt32)), .unset, .unset, .unset] [(.ref b1), (.ref b1)])) (fun t_ k_ => XS.dup X10.here hx rfl (hb hby at_46) rfl rfl k_) ?_
  refine own_st (B := T10.setTop (mkF m 48 #[.val (.long u0), .second, .val (.int u1), .val (.int u2), .val (.int u3), .val (.long y5), .second, .val (.int (u2 &&& (3 : Int32))), .val (.int (u3.toInt8.toInt32)), .unset, .unset, .unset] [(.int (4 : Int32)), (.ref b1), (.ref b1)])) (fun t_ k_ => XS.iconst X10.here hx rfl (hb hby at_47) k_) ?_
  refine own_st (B := T10.setTop (mkF m 50 #[.val (.long u0), .second, .val (.int u1), .val (.int u2), .val (.int u3), .val (.long y5), .second, .val (.int (u2 &&& (3 : Int32))), .val (.int (u3.toInt8.toInt32)), .unset, .unset, .unset] [(.int (u3.toInt8.toInt32)), (.int (4 : Int32)), (.ref b1), (.ref b1)])) (fun t_ k_ => XS.iload X10.here hx rfl (hb hby at_48) rfl k_) ?_
  obtain ⟨T12, h12, X12, e12, W12, a12, st12⟩ := own_stB X10 hx hZ e10 a10 (i := 4) (j := (4 : Int32)) (by decide) (by decide) (pc := 50) (x := (u3.toInt8.toInt32)) (Ls := #[.val (.long u0), .second, .val (.int u1), .val (.int u2), .val (.int u3), .val (.long y5), .second, .val (.int (u2 &&& (3 : Int32))), .val (.int (u3.toInt8.toInt32)), .unset, .unset, .unset]) (rest := [(.ref b1)]) (hb hby at_50)
  have N12 := Fr.snoc X12 N10 g2
  have Z13 := Nat.le_trans Z11 (Keep.of_wr W12).1
  refine own_st (B := T12.setTop (mkF m 51 #[.val (.long u0), .second, .val (.int u1), .val (.int u2), .val (.int u3), .val (.long y5), .second, .val (.int (u2 &&& (3 : Int32))), .val (.int (u3.toInt8.toInt32)), .unset, .unset, .unset] [(.ref b1)])) st12 ?_
  refine own_st (B := T12.setTop (mkF m 52 #[.val (.long u0), .second, .val (.int u1), .val (.int u2), .val (.int u3), .val (.long y5), .second, .val (.int (u2 &&& (3 : Int32))), .val (.int (u3.toInt8.toInt32)), .unset, .unset, .unset] [(.ref b1), (.ref b1)])) (fun t_ k_ => XS.dup X12.here hx rfl (hb hby at_51) rfl rfl k_) ?_
  refine own_st (B := T12.setTop (mkF m 53 #[.val (.long u0), .second, .val (.int u1), .val (.int u2), .val (.int u3), .val (.long y5), .second, .val (.int (u2 &&& (3 : Int32))), .val (.int (u3.toInt8.toInt32)), .unset, .unset, .unset] [(.int (5 : Int32)), (.ref b1), (.ref b1)])) (fun t_ k_ => XS.iconst X12.here hx rfl (hb hby at_52) k_) ?_
  refine own_st (B := T12.setTop (mkF m 55 #[.val (.long u0), .second, .val (.int u1), .val (.int u2), .val (.int u3), .val (.long y5), .second, .val (.int (u2 &&& (3 : Int32))), .val (.int (u3.toInt8.toInt32)), .unset, .unset, .unset] [(.int (u3.toInt8.toInt32)), (.int (5 : Int32)), (.ref b1), (.ref b1)])) (fun t_ k_ => XS.iload X12.here hx rfl (hb hby at_53) rfl k_) ?_
  obtain ⟨T14, h14, X14, e14, W14, a14, st14⟩ := own_stB X12 hx hZ e12 a12 (i := 5) (j := (5 : Int32)) (by decide) (by decide) (pc := 55) (x := (u3.toInt8.toInt32)) (Ls := #[.val (.long u0), .second, .val (.int u1), .val (.int u2), .val (.int u3), .val (.long y5), .second, .val (.int (u2 &&& (3 : Int32))), .val (.int (u3.toInt8.toInt32)), .unset, .unset, .unset]) (rest := [(.ref b1)]) (hb hby at_55)
  have N14 := Fr.snoc X14 N12 g2
  have Z15 := Nat.le_trans Z13 (Keep.of_wr W14).1
  refine own_st (B := T14.setTop (mkF m 56 #[.val (.long u0), .second, .val (.int u1), .val (.int u2), .val (.int u3), .val (.long y5), .second, .val (.int (u2 &&& (3 : Int32))), .val (.int (u3.toInt8.toInt32)), .unset, .unset, .unset] [(.ref b1)])) st14 ?_
  refine own_st (B := T14.setTop (mkF m 57 #[.val (.long u0), .second, .val (.int u1), .val (.int u2), .val (.int u3), .val (.long y5), .second, .val (.int (u2 &&& (3 : Int32))), .val (.int (u3.toInt8.toInt32)), .unset, .unset, .unset] [(.ref b1), (.ref b1)])) (fun t_ k_ => XS.dup X14.here hx rfl (hb hby at_56) rfl rfl k_) ?_
  refine own_st (B := T14.setTop (mkF m 59 #[.val (.long u0), .second, .val (.int u1), .val (.int u2), .val (.int u3), .val (.long y5), .second, .val (.int (u2 &&& (3 : Int32))), .val (.int (u3.toInt8.toInt32)), .unset, .unset, .unset] [(.int (6 : Int32)), (.ref b1), (.ref b1)])) (fun t_ k_ => XS.bipush X14.here hx rfl (hb hby at_57) k_) ?_
  refine own_st (B := T14.setTop (mkF m 61 #[.val (.long u0), .second, .val (.int u1), .val (.int u2), .val (.int u3), .val (.long y5), .second, .val (.int (u2 &&& (3 : Int32))), .val (.int (u3.toInt8.toInt32)), .unset, .unset, .unset] [(.int (u3.toInt8.toInt32)), (.int (6 : Int32)), (.ref b1), (.ref b1)])) (fun t_ k_ => XS.iload X14.here hx rfl (hb hby at_59) rfl k_) ?_
  obtain ⟨T16, h16, X16, e16, W16, a16, st16⟩ := own_stB X14 hx hZ e14 a14 (i := 6) (j := (6 : Int32)) (by decide) (by decide) (pc := 61) (x := (u3.toInt8.toInt32)) (Ls := #[.val (.long u0), .second, .val (.int u1), .val (.int u2), .val (.int u3), .val (.long y5), .second, .val (.int (u2 &&& (3 : Int32))), .val (.int (u3.toInt8.toInt32)), .unset, .unset, .unset]) (rest := [(.ref b1)]) (hb hby at_61)
  have N16 := Fr.snoc X16 N14 g2
  have Z17 := Nat.le_trans Z15 (Keep.of_wr W16).1
  refine own_st (B := T16.setTop (mkF m 62 #[.val (.long u0), .second, .val (.int u1), .val (.int u2), .val (.int u3), .val (.long y5), .second, .val (.int (u2 &&& (3 : Int32))), .val (.int (u3.toInt8.toInt32)), .unset, .unset, .unset] [(.ref b1)])) st16 ?_
  refine own_st (B := T16.setTop (mkF m 63 #[.val (.long u0), .second, .val (.int u1), .val (.int u2), .val (.int u3), .val (.long y5), .second, .val (.int (u2 &&& (3 : Int32))), .val (.int (u3.toInt8.toInt32)), .unset, .unset, .unset] [(.ref b1), (.ref b1)])) (fun t_ k_ => XS.dup X16.here hx rfl (hb hby at_62) rfl rfl k_) ?_
  refine own_st (B := T16.setTop (mkF m 65 #[.val (.long u0), .second, .val (.int u1), .val (.int u2), .val (.int u3), .val (.long y5), .second, .val (.int (u2 &&& (3 : Int32))), .val (.int (u3.toInt8.toInt32)), .unset, .unset, .unset] [(.int (7 : Int32)), (.ref b1), (.ref b1)])) (fun t_ k_ => XS.bipush X16.here hx rfl (hb hby at_63) k_) ?_
  refine own_st (B := T16.setTop (mkF m 67 #[.val (.long u0), .second, .val (.int u1), .val (.int u2), .val (.int u3), .val (.long y5), .second, .val (.int (u2 &&& (3 : Int32))), .val (.int (u3.toInt8.toInt32)), .unset, .unset, .unset] [(.int (u3.toInt8.toInt32)), (.int (7 : Int32)), (.ref b1), (.ref b1)])) (fun t_ k_ => XS.iload X16.here hx rfl (hb hby at_65) rfl k_) ?_
  obtain ⟨T18, h18, X18, e18, W18, a18, st18⟩ := own_stB X16 hx hZ e16 a16 (i := 7) (j := (7 : Int32)) (by decide) (by decide) (pc := 67) (x := (u3.toInt8.toInt32)) (Ls := #[.val (.long u0), .second, .val (.int u1), .val (.int u2), .val (.int u3), .val (.long y5), .second, .val (.int (u2 &&& (3 : Int32))), .val (.int (u3.toInt8.toInt32)), .unset, .unset, .unset]) (rest := [(.ref b1)]) (hb hby at_67)
  have N18 := Fr.snoc X18 N16 g2
  have Z19 := Nat.le_trans Z17 (Keep.of_wr W18).1
  refine own_st (B := T18.setTop (mkF m 68 #[.val (.long u0), .second, .val (.int u1), .val (.int u2), .val (.int u3), .val (.long y5), .second, .val (.int (u2 &&& (3 : Int32))), .val (.int (u3.toInt8.toInt32)), .unset, .unset, .unset] [(.ref b1)])) st18 ?_
  refine own_st (B := T18.setTop (mkF m 69 #[.val (.long u0), .second, .val (.int u1), .val (.int u2), .val (.int u3), .val (.long y5), .second, .val (.int (u2 &&& (3 : Int32))), .val (.int (u3.toInt8.toInt32)), .unset, .unset, .unset] [(.ref b1), (.ref b1)])) (fun t_ k_ => XS.dup X18.here hx rfl (hb hby at_68) rfl rfl k_) ?_
  refine own_st (B := T18.setTop (mkF m 71 #[.val (.long u0), .second, .val (.int u1), .val (.int u2), .val (.int u3), .val (.long y5), .second, .val (.int (u2 &&& (3 : Int32))), .val (.int (u3.toInt8.toInt32)), .unset, .unset, .unset] [(.int (8 : Int32)), (.ref b1), (.ref b1)])) (fun t_ k_ => XS.bipush X18.here hx rfl (hb hby at_69) k_) ?_
  refine own_st (B := T18.setTop (mkF m 73 #[.val (.long u0), .second, .val (.int u1), .val (.int u2), .val (.int u3), .val (.long y5), .second, .val (.int (u2 &&& (3 : Int32))), .val (.int (u3.toInt8.toInt32)), .unset, .unset, .unset] [(.int (u3.toInt8.toInt32)), (.int (8 : Int32)), (.ref b1), (.ref b1)])) (fun t_ k_ => XS.iload X18.here hx rfl (hb hby at_71) rfl k_) ?_
  obtain ⟨T20, h20, X20, e20, W20, a20, st20⟩ := own_stB X18 hx hZ e18 a18 (i := 8) (j := (8 : Int32)) (by decide) (by decide) (pc := 73) (x := (u3.toInt8.toInt32)) (Ls := #[.val (.long u0), .second, .val (.int u1), .val (.int u2), .val (.int u3), .val (.long y5), .second, .val (.int (u2 &&& (3 : Int32))), .val (.int (u3.toInt8.toInt32)), .unset, .unset, .unset]) (rest := [(.ref b1)]) (hb hby at_73)
  have N20 := Fr.snoc X20 N18 g2
  have Z21 := Nat.le_trans Z19 (Keep.of_wr W20).1
  refine own_st (B := T20.setTop (mkF m 74 #[.val (.long u0), .second, .val (.int u1), .val (.int u2), .val (.int u3), .val (.long y5), .second, .val (.int (u2 &&& (3 : Int32))), .val (.int (u3.toInt8.toInt32)), .unset, .unset, .unset] [(.ref b1)])) st20 ?_
  refine own_st (B := T20.setTop (mkF m 75 #[.val (.long u0), .second, .val (.int u1), .val (.int u2), .val (.int u3), .val (.long y5), .second, .val (.int (u2 &&& (3 : Int32))), .val (.int (u3.toInt8.toInt32)), .unset, .unset, .unset] [(.ref b1), (.ref b1)])) (fun t_ k_ => XS.dup X20.here hx rfl (hb hby at_74) rfl rfl k_) ?_
  refine own_st (B := T20.setTop (mkF m 77 #[.val (.long u0), .second, .val (.int u1), .val (.int u2), .val (.int u3), .val (.long y5), .second, .val (.int (u2 &&& (3 : Int32))), .val (.int (u3.toInt8.toInt32)), .unset, .unset, .unset] [(.int (9 : Int32)), (.ref b1), (.ref b1)])) (fun t_ k_ => XS.bipush X20.here hx rfl (hb hby at_75) k_) ?_
  refine own_st (B := T20.setTop (mkF m 79 #[.val (.long u0), .second, .val (.int u1), .val (.int u2), .val (.int u3), .val (.long y5), .second, .val (.int (u2 &&& (3 : Int32))), .val (.int (u3.toInt8.toInt32)), .unset, .unset, .unset] [(.int (u3.toInt8.toInt32)), (.int (9 : Int32)), (.ref b1), (.ref b1)])) (fun t_ k_ => XS.iload X20.here hx rfl (hb hby at_77) rfl k_) ?_
  obtain ⟨T22, h22, X22, e22, W22, a22, st22⟩ := own_stB X20 hx hZ e20 a20 (i := 9) (j := (9 : Int32)) (by decide) (by decide) (pc := 79) (x := (u3.toInt8.toInt32)) (Ls := #[.val (.long u0), .second, .val (.int u1), .val (.int u2), .val (.int u3), .val (.long y5), .second, .val (.int (u2 &&& (3 : Int32))), .val (.int (u3.toInt8.toInt32)), .unset, .unset, .unset]) (rest := [(.ref b1)]) (hb hby at_79)
  have N22 := Fr.snoc X22 N20 g2
  have Z23 := Nat.le_trans Z21 (Keep.of_wr W22).1
  refine own_st (B := T22.setTop (mkF m 80 #[.val (.long u0), .second, .val (.int u1), .val (.int u2), .val (.int u3), .val (.long y5), .second, .val (.int (u2 &&& (3 : Int32))), .val (.int (u3.toInt8.toInt32)), .unset, .unset, .unset] [(.ref b1)])) st22 ?_
  refine own_st (B := T22.setTop (mkF m 81 #[.val (.long u0), .second, .val (.int u1), .val (.int u2), .val (.int u3), .val (.long y5), .second, .val (.int (u2 &&& (3 : Int32))), .val (.int (u3.toInt8.toInt32)), .unset, .unset, .unset] [(.ref b1), (.ref b1)])) (fun t_ k_ => XS.dup X22.here hx rfl (hb hby at_80) rfl rfl k_) ?_
  refine own_st (B := T22.setTop (mkF m 83 #[.val (.long u0), .second, .val (.int u1), .val (.int u2), .val (.int u3), .val (.long y5), .second, .val (.int (u2 &&& (3 : Int32))), .val (.int (u3.toInt8.toInt32)), .unset, .unset, .unset] [(.int (10 : Int32)), (.ref b1), (.ref b1)])) (fun t_ k_ => XS.bipush X22.here hx rfl (hb hby at_81) k_) ?_
  refine own_st (B := T22.setTop (mkF m 85 #[.val (.long u0), .second, .val (.int u1), .val (.int u2), .val (.int u3), .val (.long y5), .second, .val (.int (u2 &&& (3 : Int32))), .val (.int (u3.toInt8.toInt32)), .unset, .unset, .unset] [(.int (u3.toInt8.toInt32)), (.int (10 : Int32)), (.ref b1), (.ref b1)])) (fun t_ k_ => XS.iload X22.here hx rfl (hb hby at_83) rfl k_) ?_
  obtain ⟨T24, h24, X24, e24, W24, a24, st24⟩ := own_stB X22 hx hZ e22 a22 (i := 10) (j := (10 : Int32)) (by decide) (by decide) (pc := 85) (x := (u3.toInt8.toInt32)) (Ls := #[.val (.long u0), .second, .val (.int u1), .val (.int u2), .val (.int u3), .val (.long y5), .second, .val (.int (u2 &&& (3 : Int32))), .val (.int (u3.toInt8.toInt32)), .unset, .unset, .unset]) (rest := [(.ref b1)]) (hb hby at_85)
  have N24 := Fr.snoc X24 N22 g2
  have Z25 := Nat.le_trans Z23 (Keep.of_wr W24).1
  refine own_st (B := T24.setTop (mkF m 86 #[.val (.long u0), .second, .val (.int u1), .val (.int u2), .val (.int u3), .val (.long y5), .second, .val (.int (u2 &&& (3 : Int32))), .val (.int (u3.toInt8.toInt32)), .unset, .unset, .unset] [(.ref b1)])) st24 ?_
  refine own_st (B := T24.setTop (mkF m 87 #[.val (.long u0), .second, .val (.int u1), .val (.int u2), .val (.int u3), .val (.long y5), .second, .val (.int (u2 &&& (3 : Int32))), .val (.int (u3.toInt8.toInt32)), .unset, .unset, .unset] [(.ref b1), (.ref b1)])) (fun t_ k_ => XS.dup X24.here hx rfl (hb hby at_86) rfl rfl k_) ?_
  refine own_st (B := T24.setTop (mkF m 89 #[.val (.long u0), .second, .val (.int u1), .val (.int u2), .val (.int u3), .val (.long y5), .second, .val (.int (u2 &&& (3 : Int32))), .val (.int (u3.toInt8.toInt32)), .unset, .unset, .unset] [(.int (11 : Int32)), (.ref b1), (.ref b1)])) (fun t_ k_ => XS.bipush X24.here hx rfl (hb hby at_87) k_) ?_
  refine own_st (B := T24.setTop (mkF m 91 #[.val (.long u0), .second, .val (.int u1), .val (.int u2), .val (.int u3), .val (.long y5), .second, .val (.int (u2 &&& (3 : Int32))), .val (.int (u3.toInt8.toInt32)), .unset, .unset, .unset] [(.int (u3.toInt8.toInt32)), (.int (11 : Int32)), (.ref b1), (.ref b1)])) (fun t_ k_ => XS.iload X24.here hx rfl (hb hby at_89) rfl k_) ?_
  obtain ⟨T26, h26, X26, e26, W26, a26, st26⟩ := own_stB X24 hx hZ e24 a24 (i := 11) (j := (11 : Int32)) (by decide) (by decide) (pc := 91) (x := (u3.toInt8.toInt32)) (Ls := #[.val (.long u0), .second, .val (.int u1), .val (.int u2), .val (.int u3), .val (.long y5), .second, .val (.int (u2 &&& (3 : Int32))), .val (.int (u3.toInt8.toInt32)), .unset, .unset, .unset]) (rest := [(.ref b1)]) (hb hby at_91)
  have N26 := Fr.snoc X26 N24 g2
  have Z27 := Nat.le_trans Z25 (Keep.of_wr W26).1
  refine own_st (B := T26.setTop (mkF m 92 #[.val (.long u0), .second, .val (.int u1), .val (.int u2), .val (.int u3), .val (.long y5), .second, .val (.int (u2 &&& (3 : Int32))), .val (.int (u3.toInt8.toInt32)), .unset, .unset, .unset] [(.ref b1)])) st26 ?_
  refine own_st (B := T26.setTop (mkF m 93 #[.val (.long u0), .second, .val (.int u1), .val (.int u2), .val (.int u3), .val (.long y5), .second, .val (.int (u2 &&& (3 : Int32))), .val (.int (u3.toInt8.toInt32)), .unset, .unset, .unset] [(.ref b1), (.ref b1)])) (fun t_ k_ => XS.dup X26.here hx rfl (hb hby at_92) rfl rfl k_) ?_
  refine own_st (B := T26.setTop (mkF m 95 #[.val (.long u0), .second, .val (.int u1), .val (.int u2), .val (.int u3), .val (.long y5), .second, .val (.int (u2 &&& (3 : Int32))), .val (.int (u3.toInt8.toInt32)), .unset, .unset, .unset] [(.int (12 : Int32)), (.ref b1), (.ref b1)])) (fun t_ k_ => XS.bipush X26.here hx rfl (hb hby at_93) k_) ?_
  refine own_st (B := T26.setTop (mkF m 97 #[.val (.long u0), .second, .val (.int u1), .val (.int u2), .val (.int u3), .val (.long y5), .second, .val (.int (u2 &&& (3 : Int32))), .val (.int (u3.toInt8.toInt32)), .unset, .unset, .unset] [(.int (u3.toInt8.toInt32)), (.int (12 : Int32)), (.ref b1), (.ref b1)])) (fun t_ k_ => XS.iload X26.here hx rfl (hb hby at_95) rfl k_) ?_
  obtain ⟨T28, h28, X28, e28, W28, a28, st28⟩ := own_stB X26 hx hZ e26 a26 (i := 12) (j := (12 : Int32)) (by decide) (by decide) (pc := 97) (x := (u3.toInt8.toInt32)) (Ls := #[.val (.long u0), .second, .val (.int u1), .val (.int u2), .val (.int u3), .val (.long y5), .second, .val (.int (u2 &&& (3 : Int32))), .val (.int (u3.toInt8.toInt32)), .unset, .unset, .unset]) (rest := [(.ref b1)]) (hb hby at_97)
  have N28 := Fr.snoc X28 N26 g2
  have Z29 := Nat.le_trans Z27 (Keep.of_wr W28).1
  refine own_st (B := T28.setTop (mkF m 98 #[.val (.long u0), .second, .val (.int u1), .val (.int u2), .val (.int u3), .val (.long y5), .second, .val (.int (u2 &&& (3 : Int32))), .val (.int (u3.toInt8.toInt32)), .unset, .unset, .unset] [(.ref b1)])) st28 ?_
  obtain ⟨ff, aff, hff⟩ : ∃ ff, own_A Z h28 b1 .byte 13 ff ∧ ∀ j, j < 13 → ff j = (u3.toInt8.toInt32) := ⟨_, a28, own_b13 _ (fun _ => _) (fun j => by
      match j with
      | ⟨0, _⟩ => simp [own_up, own_nbb]
      | ⟨1, _⟩ => simp [own_up, own_nbb]
      | ⟨2, _⟩ => simp [own_up, own_nbb]
      | ⟨3, _⟩ => simp [own_up, own_nbb]
      | ⟨4, _⟩ => simp [own_up, own_nbb]
      | ⟨5, _⟩ => simp [own_up, own_nbb]
      | ⟨6, _⟩ => simp [own_up, own_nbb]
      | ⟨7, _⟩ => simp [own_up, own_nbb]
      | ⟨8, _⟩ => simp [own_up, own_nbb]
      | ⟨9, _⟩ => simp [own_up, own_nbb]
      | ⟨10, _⟩ => simp [own_up, own_nbb]
      | ⟨11, _⟩ => simp [own_up, own_nbb]
      | ⟨12, _⟩ => simp [own_up, own_nbb])⟩
  refine own_st (B := T28.setTop (mkF m 100 #[.val (.long u0), .second, .val (.int u1), .val (.int u2), .val (.int u3), .val (.long y5), .second, .val (.int (u2 &&& (3 : Int32))), .val (.int (u3.toInt8.toInt32)), .val (.ref b1), .unset, .unset] [])) (fun t_ k_ => XS.astore X28.here hx rfl (hb hby at_98) rfl rfl (l' := #[.val (.long u0), .second, .val (.int u1), .val (.int u2), .val (.int u3), .val (.long y5), .second, .val (.int (u2 &&& (3 : Int32))), .val (.int (u3.toInt8.toInt32)), .val (.ref b1), .unset, .unset]) rfl k_) ?_
  refine own_st (B := T28.setTop (mkF m 102 #[.val (.long u0), .second, .val (.int u1), .val (.int u2), .val (.int u3), .val (.long y5), .second, .val (.int (u2 &&& (3 : Int32))), .val (.int (u3.toInt8.toInt32)), .val (.ref b1), .unset, .unset] [(.long y5)])) (fun t_ k_ => XS.lload X28.here hx rfl (hb hby at_100) rfl k_) ?_
  obtain ⟨_, _, ⟨T30, L30, k30, n30⟩, -, X30, ⟨Lc30, hQ30, l30, y30, z30⟩, st30⟩ := Jvm.LawKit.callS X28 hx (y := (⟨"com/example/tidemark/tidemark/RecordFormatPutVarintPinLaw", "size", "(J)I"⟩ : MethodName)) hown (mvT hZ (hw _ (List.mem_of_getElem? (i := 2) rfl))) (mvT hZ (hw _ (List.mem_of_getElem? (i := 3) rfl))) (mvT hZ (hw _ (List.mem_of_getElem? (i := 4) rfl))) (mvT hZ (hw _ (List.mem_of_getElem? (i := 5) rfl))) (by decide) (backOf (W := 0) (rm1 l Z a0 hw [] y5 N h28 n0 Z29 hN) hZ (hw _ (List.mem_of_getElem? (i := 5) rfl)) (hw _ (List.mem_of_getElem? (i := 4) rfl)) (by decide) (by decide)) (g := (mkF m 102 #[.val (.long u0), .second, .val (.int u1), .val (.int u2), .val (.int u3), .val (.long y5), .second, .val (.int (u2 &&& (3 : Int32))), .val (.int (u3.toInt8.toInt32)), .val (.ref b1), .unset, .unset] [(.long y5)])) rfl (by rw [hml]; rfl) (argsL := [(.long y5)]) (rest := []) (lenOf own_pd0 rfl) rfl (by show 2 * 0 + _ ≤ _; exact Nat.le_of_eq rfl) (hb hby at_102) (fun _ _ => ⟨rfl, e28, (by decide : 1 + 0 ≤ _), (by decide : 13 + 0 ≤ _)⟩)
  dsimp only [Pt.U, Pt.locs, Pt.cells, Pt.slots] at X30 l30 y30 z30 st30 hQ30
  rw [l30, y30, z30] at X30
  have X30 : Stand p l e _ s m _ below meth c T30 _ 1 13 := X30
  obtain ⟨sz, rfl, hs1, hs9, hs3, hs4, N30q, eh30⟩ := hQ30
  have N30 := Fr.app N28 N30q
  refine own_st (B := T30.setTop (mkF m 105 #[.val (.long u0), .second, .val (.int u1), .val (.int u2), .val (.int u3), .val (.long y5), .second, .val (.int (u2 &&& (3 : Int32))), .val (.int (u3.toInt8.toInt32)), .val (.ref b1), .unset, .unset] [(.int (Int32.ofNat sz))])) st30 ?_
  refine own_st (B := T30.setTop (mkF m 107 #[.val (.long u0), .second, .val (.int u1), .val (.int u2), .val (.int u3), .val (.long y5), .second, .val (.int (u2 &&& (3 : Int32))), .val (.int (u3.toInt8.toInt32)), .val (.ref b1), .val (.int (Int32.ofNat sz)), .unset] [])) (fun t_ k_ => XS.istore X30.here hx rfl (hb hby at_105) rfl (l' := #[.val (.long u0), .second, .val (.int u1), .val (.int u2), .val (.int u3), .val (.long y5), .second, .val (.int (u2 &&& (3 : Int32))), .val (.int (u3.toInt8.toInt32)), .val (.ref b1), .val (.int (Int32.ofNat sz)), .unset]) rfl k_) ?_
  refine own_st (B := T30.setTop (mkF m 109 #[.val (.long u0), .second, .val (.int u1), .val (.int u2), .val (.int u3), .val (.long y5), .second, .val (.int (u2 &&& (3 : Int32))), .val (.int (u3.toInt8.toInt32)), .val (.ref b1), .val (.int (Int32.ofNat sz)), .unset] [(.ref b1)])) (fun t_ k_ => XS.aload X30.here hx rfl (hb hby at_107) rfl rfl k_) ?_
  refine own_st (B := T30.setTop (mkF m 111 #[.val (.long u0), .second, .val (.int u1), .val (.int u2), .val (.int u3), .val (.long y5), .second, .val (.int (u2 &&& (3 : Int32))), .val (.int (u3.toInt8.toInt32)), .val (.ref b1), .val (.int (Int32.ofNat sz)), .unset] [(.int (u2 &&& (3 : Int32))), (.ref b1)])) (fun t_ k_ => XS.iload X30.here hx rfl (hb hby at_109) rfl k_) ?_
  refine own_st (B := T30.setTop (mkF m 113 #[.val (.long u0), .second, .val (.int u1), .val (.int u2), .val (.int u3), .val (.long y5), .second, .val (.int (u2 &&& (3 : Int32))), .val (.int (u3.toInt8.toInt32)), .val (.ref b1), .val (.int (Int32.ofNat sz)), .unset] [(.long y5), (.int (u2 &&& (3 : Int32))), (.ref b1)])) (fun t_ k_ => XS.lload X30.here hx rfl (hb hby at_111) rfl k_) ?_
  obtain ⟨_, _, ⟨T31, L31, k31, n31⟩, -, X31, ⟨Lc31, hQ31, l31, y31, z31⟩, st31⟩ := Jvm.LawKit.callS X30 hx (y := (⟨"com/example/tidemark/tidemark/RecordFormat", "putVarint", "([BIJ)I"⟩ : MethodName)) hown (mvT hZ (hw _ (List.mem_of_getElem? (i := 7) rfl))) (mvT hZ (hw _ (List.mem_of_getElem? (i := 8) rfl))) (mvT hZ (hw _ (List.mem_of_getElem? (i := 9) rfl))) (mvT hZ (hw _ (List.mem_of_getElem? (i := 10) rfl))) (by decide) (backOf (W := 0) (rm2 l Z a0 hw [] b1 (u2 &&& (3 : Int32)) y5 kp N ff h28 n0 Z29 aff g2 hkp hkp4 hN hN9) hZ (hw _ (List.mem_of_getElem? (i := 10) rfl)) (hw _ (List.mem_of_getElem? (i := 9) rfl)) (by decide) (by decide)) (g := (mkF m 113 #[.val (.long u0), .second, .val (.int u1), .val (.int u2), .val (.int u3), .val (.long y5), .second, .val (.int (u2 &&& (3 : Int32))), .val (.int (u3.toInt8.toInt32)), .val (.ref b1), .val (.int (Int32.ofNat sz)), .unset] [(.long y5), (.int (u2 &&& (3 : Int32))), (.ref b1)])) rfl (by rw [hml]; rfl) (argsL := [(.ref b1), (.int (u2 &&& (3 : Int32))), (.long y5)]) (rest := []) (lenOf own_pd1 rfl) rfl (by show 2 * 0 + _ ≤ _; exact Nat.le_of_eq rfl) (hb hby at_113) (fun _ _ => ⟨rfl, eh30, (by decide : 1 + 0 ≤ _), (by decide : 13 + 0 ≤ _)⟩)
  dsimp only [Pt.U, Pt.locs, Pt.cells, Pt.slots] at X31 l31 y31 z31 st31 hQ31
  rw [l31, y31, z31] at X31
  have X31 : Stand p l e _ s m _ below meth c T31 _ 1 13 := X31
  obtain ⟨t', yr, gg, rfl, hyr, ht0, ht1, ht8, N31q, K31, Ag31, hgg⟩ := hQ31
  have N31 := Fr.app N30 N31q
  have Z32 := Nat.le_trans Z29 K31.1
  refine own_st (B := T31.setTop (mkF m 116 #[.val (.long u0), .second, .val (.int u1), .val (.int u2), .val (.int u3), .val (.long y5), .second, .val (.int (u2 &&& (3 : Int32))), .val (.int (u3.toInt8.toInt32)), .val (.ref b1), .val (.int (Int32.ofNat sz)), .unset] [(.int yr)])) st31 ?_
  refine own_st (B := T31.setTop (mkF m 118 #[.val (.long u0), .second, .val (.int u1), .val (.int u2), .val (.int u3), .val (.long y5), .second, .val (.int (u2 &&& (3 : Int32))), .val (.int (u3.toInt8.toInt32)), .val (.ref b1), .val (.int (Int32.ofNat sz)), .val (.int yr)] [])) (fun t_ k_ => XS.istore X31.here hx rfl (hb hby at_116) rfl (l' := #[.val (.long u0), .second, .val (.int u1), .val (.int u2), .val (.int u3), .val (.long y5), .second, .val (.int (u2 &&& (3 : Int32))), .val (.int (u3.toInt8.toInt32)), .val (.ref b1), .val (.int (Int32.ofNat sz)), .val (.int yr)]) rfl k_) ?_
  have hszt := own_sz ht0 ht1 hs3 hs4 hs1
  have hsI : (Int32.ofNat sz).toInt = sz := Int32.toInt_ofNat_of_lt (by omega)
  have hspec := own_spec hgg hff hszt
  have hkpi := own_ixI hkp; have hyri := own_ixI hyr
  have had := c_iadd (u2 &&& (3 : Int32)) (Int32.ofNat sz); have har := rng32 ((u2 &&& (3 : Int32)) + Int32.ofNat sz)
  refine own_st (B := T31.setTop (mkF m 120 #[.val (.long u0), .second, .val (.int u1), .val (.int u2), .val (.int u3), .val (.long y5), .second, .val (.int (u2 &&& (3 : Int32))), .val (.int (u3.toInt8.toInt32)), .val (.ref b1), .val (.int (Int32.ofNat sz)), .val (.int yr)] [(.int yr)])) (fun t_ k_ => XS.iload X31.here hx rfl (hb hby at_118) rfl k_) ?_
  refine own_st (B := T31.setTop (mkF m 122 #[.val (.long u0), .second, .val (.int u1), .val (.int u2), .val (.int u3), .val (.long y5), .second, .val (.int (u2 &&& (3 : Int32))), .val (.int (u3.toInt8.toInt32)), .val (.ref b1), .val (.int (Int32.ofNat sz)), .val (.int yr)] [(.int (u2 &&& (3 : Int32))), (.int yr)])) (fun t_ k_ => XS.iload X31.here hx rfl (hb hby at_120) rfl k_) ?_
  refine own_st (B := T31.setTop (mkF m 124 #[.val (.long u0), .second, .val (.int u1), .val (.int u2), .val (.int u3), .val (.long y5), .second, .val (.int (u2 &&& (3 : Int32))), .val (.int (u3.toInt8.toInt32)), .val (.ref b1), .val (.int (Int32.ofNat sz)), .val (.int yr)] [(.int (Int32.ofNat sz)), (.int (u2 &&& (3 : Int32))), (.int yr)])) (fun t_ k_ => XS.iload X31.here hx rfl (hb hby at_122) rfl k_) ?_
  refine own_st (B := T31.setTop (mkF m 125 #[.val (.long u0), .second, .val (.int u1), .val (.int u2), .val (.int u3), .val (.long y5), .second, .val (.int (u2 &&& (3 : Int32))), .val (.int (u3.toInt8.toInt32)), .val (.ref b1), .val (.int (Int32.ofNat sz)), .val (.int yr)] [(.int ((u2 &&& (3 : Int32)) + (Int32.ofNat sz))), (.int yr)])) (fun t_ k_ => XS.iadd X31.here hx rfl (hb hby at_124) rfl k_) ?_
  have hc33 : yr = ((u2 &&& (3 : Int32)) + (Int32.ofNat sz)) := Int32.toInt_inj.mp (by omega)
  have hd33 := own_eq32 hc33
  refine own_st (B := T31.setTop (mkF m 128 #[.val (.long u0), .second, .val (.int u1), .val (.int u2), .val (.int u3), .val (.long y5), .second, .val (.int (u2 &&& (3 : Int32))), .val (.int (u3.toInt8.toInt32)), .val (.ref b1), .val (.int (Int32.ofNat sz)), .val (.int yr)] [])) (fun t_ k_ => XS.icmpNo X31.here hx rfl (hb hby at_125) rfl (teq hc33).2 k_) ?_
  refine own_st (B := T31.setTop (mkF m 130 #[.val (.long u0), .second, .val (.int u1), .val (.int u2), .val (.int u3), .val (.long y5), .second, .val (.int (u2 &&& (3 : Int32))), .val (.int (u3.toInt8.toInt32)), .val (.ref b1), .val (.int (Int32.ofNat sz)), .val (.int yr)] [(.ref b1)])) (fun t_ k_ => XS.aload X31.here hx rfl (hb hby at_128) rfl rfl k_) ?_
  refine own_st (B := T31.setTop (mkF m 131 #[.val (.long u0), .second, .val (.int u1), .val (.int u2), .val (.int u3), .val (.long y5), .second, .val (.int (u2 &&& (3 : Int32))), .val (.int (u3.toInt8.toInt32)), .val (.ref b1), .val (.int (Int32.ofNat sz)), .val (.int yr)] [(.int (0 : Int32)), (.ref b1)])) (fun t_ k_ => XS.iconst X31.here hx rfl (hb hby at_130) k_) ?_
  refine own_st (B := T31.setTop (mkF m 133 #[.val (.long u0), .second, .val (.int u1), .val (.int u2), .val (.int u3), .val (.long y5), .second, .val (.int (u2 &&& (3 : Int32))), .val (.int (u3.toInt8.toInt32)), .val (.ref b1), .val (.int (Int32.ofNat sz)), .val (.int yr)] [(.int (u2 &&& (3 : Int32))), (.int (0 : Int32)), (.ref b1)])) (fun t_ k_ => XS.iload X31.here hx rfl (hb hby at_131) rfl k_) ?_
  refine own_st (B := T31.setTop (mkF m 135 #[.val (.long u0), .second, .val (.int u1), .val (.int u2), .val (.int u3), .val (.long y5), .second, .val (.int (u2 &&& (3 : Int32))), .val (.int (u3.toInt8.toInt32)), .val (.ref b1), .val (.int (Int32.ofNat sz)), .val (.int yr)] [(.int (Int32.ofNat sz)), (.int (u2 &&& (3 : Int32))), (.int (0 : Int32)), (.ref b1)])) (fun t_ k_ => XS.iload X31.here hx rfl (hb hby at_133) rfl k_) ?_
  refine own_st (B := T31.setTop (mkF m 137 #[.val (.long u0), .second, .val (.int u1), .val (.int u2), .val (.int u3), .val (.long y5), .second, .val (.int (u2 &&& (3 : Int32))), .val (.int (u3.toInt8.toInt32)), .val (.ref b1), .val (.int (Int32.ofNat sz)), .val (.int yr)] [(.long y5), (.int (Int32.ofNat sz)), (.int (u2 &&& (3 : Int32))), (.int (0 : Int32)), (.ref b1)])) (fun t_ k_ => XS.lload X31.here hx rfl (hb hby at_135) rfl k_) ?_
  refine own_st (B := T31.setTop (mkF m 139 #[.val (.long u0), .second, .val (.int u1), .val (.int u2), .val (.int u3), .val (.long y5), .second, .val (.int (u2 &&& (3 : Int32))), .val (.int (u3.toInt8.toInt32)), .val (.ref b1), .val (.int (Int32.ofNat sz)), .val (.int yr)] [(.int (u3.toInt8.toInt32)), (.long y5), (.int (Int32.ofNat sz)), (.int (u2 &&& (3 : Int32))), (.int (0 : Int32)), (.ref b1)])) (fun t_ k_ => XS.iload X31.here hx rfl (hb hby at_137) rfl k_) ?_
  obtain ⟨_, _, ⟨T34, L34, k34, n34⟩, -, X34, ⟨Lc34, hQ34, l34, y34, z34⟩, st34⟩ := Jvm.LawKit.callS X31 hx (y := (⟨"com/example/tidemark/tidemark/RecordFormatPutVarintPinLaw", "check", "([BIIIJB)Z"⟩ : MethodName)) hown (mvT hZ (hw _ (List.mem_of_getElem? (i := 12) rfl))) (mvT hZ (hw _ (List.mem_of_getElem? (i := 13) rfl))) (mvT hZ (hw _ (List.mem_of_getElem? (i := 4) rfl))) (mvT hZ (hw _ (List.mem_of_getElem? (i := 14) rfl))) (by decide) (backOf (W := 0) (rm3 l Z a0 hw [] b1 (0 : Int32) (u2 &&& (3 : Int32)) (Int32.ofNat sz) y5 (u3.toInt8.toInt32) 0 kp sz N gg T31.heap n0 Z32 Ag31 (by decide) (by decide) hkp hkp4 hsI hs1 hs9 hN hs4 (hspec 0 (by decide))) hZ (hw _ (List.mem_of_getElem? (i := 14) rfl)) (hw _ (List.mem_of_getElem? (i := 4) rfl)) (by decide) (by decide)) (g := (mkF m 139 #[.val (.long u0), .second, .val (.int u1), .val (.int u2), .val (.int u3), .val (.long y5), .second, .val (.int (u2 &&& (3 : Int32))), .val (.int (u3.toInt8.toInt32)), .val (.ref b1), .val (.int (Int32.ofNat sz)), .val (.int yr)] [(.int (u3.toInt8.toInt32)), (.long y5), (.int (Int32.ofNat sz)), (.int (u2 &&& (3 : Int32))), (.int (0 : Int32)), (.ref b1)])) rfl (by rw [hml]; rfl) (argsL := [(.ref b1), (.int (0 : Int32)), (.int (u2 &&& (3 : Int32))), (.int (Int32.ofNat sz)), (.long y5), (.int (u3.toInt8.toInt32))]) (rest := []) (lenOf own_pd2 rfl) rfl (by show 2 * 0 + _ ≤ _; exact Nat.le_of_eq rfl) (hb hby at_139) (fun _ _ => ⟨rfl, rfl, (by decide : 1 + 0 ≤ _), (by decide : 13 + 0 ≤ _)⟩)
  dsimp only [Pt.U, Pt.locs, Pt.cells, Pt.slots] at X34 l34 y34 z34 st34 hQ34
  rw [l34, y34, z34] at X34
  have X34 : Stand p l e _ s m _ below meth c T34 _ 1 13 := X34
  obtain ⟨rfl, N34q, eh34⟩ := hQ34
  have N34 := Fr.app N31 N34q
  refine own_st (B := T34.setTop (mkF m 142 #[.val (.long u0), .second, .val (.int u1), .val (.int u2), .val (.int u3), .val (.long y5), .second, .val (.int (u2 &&& (3 : Int32))), .val (.int (u3.toInt8.toInt32)), .val (.ref b1), .val (.int (Int32.ofNat sz)), .val (.int yr)] [(.int (1 : Int32))])) st34 ?_
  refine own_st (B := T34.setTop (mkF m 145 #[.val (.long u0), .second, .val (.int u1), .val (.int u2), .val (.int u3), .val (.long y5), .second, .val (.int (u2 &&& (3 : Int32))), .val (.int (u3.toInt8.toInt32)), .val (.ref b1), .val (.int (Int32.ofNat sz)), .val (.int yr)] [])) (fun t_ k_ => XS.ifNo X34.here hx rfl (hb hby at_142) rfl ((if0 _ _).trans (feq (by decide : ¬ ((1 : Int32) = (0 : Int32)))).1) k_) ?_
  refine own_st (B := T34.setTop (mkF m 147 #[.val (.long u0), .second, .val (.int u1), .val (.int u2), .val (.int u3), .val (.long y5), .second, .val (.int (u2 &&& (3 : Int32))), .val (.int (u3.toInt8.toInt32)), .val (.ref b1), .val (.int (Int32.ofNat sz)), .val (.int yr)] [(.ref b1)])) (fun t_ k_ => XS.aload X34.here hx rfl (hb hby at_145) rfl rfl k_) ?_
  refine own_st (B := T34.setTop (mkF m 148 #[.val (.long u0), .second, .val (.int u1), .val (.int u2), .val (.int u3), .val (.long y5), .second, .val (.int (u2 &&& (3 : Int32))), .val (.int (u3.toInt8.toInt32)), .val (.ref b1), .val (.int (Int32.ofNat sz)), .val (.int yr)] [(.int (1 : Int32)), (.ref b1)])) (fun t_ k_ => XS.iconst X34.here hx rfl (hb hby at_147) k_) ?_
  refine own_st (B := T34.setTop (mkF m 150 #[.val (.long u0), .second, .val (.int u1), .val (.int u2), .val (.int u3), .val (.long y5), .second, .val (.int (u2 &&& (3 : Int32))), .val (.int (u3.toInt8.toInt32)), .val (.ref b1), .val (.int (Int32.ofNat sz)), .val (.int yr)] [(.int (u2 &&& (3 : Int32))), (.int (1 : Int32)), (.ref b1)])) (fun t_ k_ => XS.iload X34.here hx rfl (hb hby at_148) rfl k_) ?_
  refine own_st (B := T34.setTop (mkF m 152 #[.val (.long u0), .second, .val (.int u1), .val (.int u2), .val (.int u3), .val (.long y5), .second, .val (.int (u2 &&& (3 : Int32))), .val (.int (u3.toInt8.toInt32)), .val (.ref b1), .val (.int (Int32.ofNat sz)), .val (.int yr)] [(.int (Int32.ofNat sz)), (.int (u2 &&& (3 : Int32))), (.int (1 : Int32)), (.ref b1)])) (fun t_ k_ => XS.iload X34.here hx rfl (hb hby at_150) rfl k_) ?_
  refine own_st (B := T34.setTop (mkF m 154 #[.val (.long u0), .second, .val (.int u1), .val (.int u2), .val (.int u3), .val (.long y5), .second, .val (.int (u2 &&& (3 : Int32))), .val (.int (u3.toInt8.toInt32)), .val (.ref b1), .val (.int (Int32.ofNat sz)), .val (.int yr)] [(.long y5), (.int (Int32.ofNat sz)), (.int (u2 &&& (3 : Int32))), (.int (1 : Int32)), (.ref b1)])) (fun t_ k_ => XS.lload X34.here hx rfl (hb hby at_152) rfl k_) ?_
  refine own_st (B := T34.setTop (mkF m 156 #[.val (.long u0), .second, .val (.int u1), .val (.int u2), .val (.int u3), .val (.long y5), .second, .val (.int (u2 &&& (3 : Int32))), .val (.int (u3.toInt8.toInt32)), .val (.ref b1), .val (.int (Int32.ofNat sz)), .val (.int yr)] [(.int (u3.toInt8.toInt32)), (.long y5), (.int (Int32.ofNat sz)), (.int (u2 &&& (3 : Int32))), (.int (1 : Int32)), (.ref b1)])) (fun t_ k_ => XS.iload X34.here hx rfl (hb hby at_154) rfl k_) ?_
  obtain ⟨_, _, ⟨T35, L35, k35, n35⟩, -, X35, ⟨Lc35, hQ35, l35, y35, z35⟩, st35⟩ := Jvm.LawKit.callS X34 hx (y := (⟨"com/example/tidemark/tidemark/RecordFormatPutVarintPinLaw", "check", "([BIIIJB)Z"⟩ : MethodName)) hown (mvT hZ (hw _ (List.mem_of_getElem? (i := 12) rfl))) (mvT hZ (hw _ (List.mem_of_getElem? (i := 13) rfl))) (mvT hZ (hw _ (List.mem_of_getElem? (i := 4) rfl))) (mvT hZ (hw _ (List.mem_of_getElem? (i := 14) rfl))) (by decide) (backOf (W := 0) (rm3 l Z a0 hw [] b1 (1 : Int32) (u2 &&& (3 : Int32)) (Int32.ofNat sz) y5 (u3.toInt8.toInt32) 1 kp sz N gg T31.heap n0 Z32 Ag31 (by decide) (by decide) hkp hkp4 hsI hs1 hs9 hN hs4 (hspec 1 (by decide))) hZ (hw _ (List.mem_of_getElem? (i := 14) rfl)) (hw _ (List.mem_of_getElem? (i := 4) rfl)) (by decide) (by decide)) (g := (mkF m 156 #[.val (.long u0), .second, .val (.int u1), .val (.int u2), .val (.int u3), .val (.long y5), .second, .val (.int (u2 &&& (3 : Int32))), .val (.int (u3.toInt8.toInt32)), .val (.ref b1), .val (.int (Int32.ofNat sz)), .val (.int yr)] [(.int (u3.toInt8.toInt32)), (.long y5), (.int (Int32.ofNat sz)), (.int (u2 &&& (3 : Int32))), (.int (1 : Int32)), (.ref b1)])) rfl (by rw [hml]; rfl) (argsL := [(.ref b1), (.int (1 : Int32)), (.int (u2 &&& (3 : Int32))), (.int (Int32.ofNat sz)), (.long y5), (.int (u3.toInt8.toInt32))]) (rest := []) (lenOf own_pd2 rfl) rfl (by show 2 * 0 + _ ≤ _; exact Nat.le_of_eq rfl) (hb hby at_156) (fun _ _ => ⟨rfl, eh34, (by decide : 1 + 0 ≤ _), (by decide : 13 + 0 ≤ _)⟩)
  dsimp only [Pt.U, Pt.locs, Pt.cells, Pt.slots] at X35 l35 y35 z35 st35 hQ35
  rw [l35, y35, z35] at X35
  have X35 : Stand p l e _ s m _ below meth c T35 _ 1 13 := X35
  obtain ⟨rfl, N35q, eh35⟩ := hQ35
  have N35 := Fr.app N34 N35q
  refine own_st (B := T35.setTop (mkF m 159 #[.val (.long u0), .second, .val (.int u1), .val (.int u2), .val (.int u3), .val (.long y5), .second, .val (.int (u2 &&& (3 : Int32))), .val (.int (u3.toInt8.toInt32)), .val (.ref b1), .val (.int (Int32.ofNat sz)), .val (.int yr)] [(.int (1 : Int32))])) st35 ?_
  refine own_st (B := T35.setTop (mkF m 162 #[.val (.long u0), .second, .val (.int u1), .val (.int u2), .val (.int u3), .val (.long y5), .second, .val (.int (u2 &&& (3 : Int32))), .val (.int (u3.toInt8.toInt32)), .val (.ref b1), .val (.int (Int32.ofNat sz)), .val (.int yr)] [])) (fun t_ k_ => XS.ifNo X35.here hx rfl (hb hby at_159) rfl ((if0 _ _).trans (feq (by decide : ¬ ((1 : Int32) = (0 : Int32)))).1) k_) ?_
  refine own_st (B := T35.setTop (mkF m 164 #[.val (.long u0), .second, .val (.int u1), .val (.int u2), .val (.int u3), .val (.long y5), .second, .val (.int (u2 &&& (3 : Int32))), .val (.int (u3.toInt8.toInt32)), .val (.ref b1), .val (.int (Int32.ofNat sz)), .val (.int yr)] [(.ref b1)])) (fun t_ k_ => XS.aload X35.here hx rfl (hb hby at_162) rfl rfl k_) ?_
  refine own_st (B := T35.setTop (mkF m 165 #[.val (.long u0), .second, .val (.int u1), .val (.int u2), .val (.int u3), .val (.long y5), .second, .val (.int (u2 &&& (3 : Int32))), .val (.int (u3.toInt8.toInt32)), .val (.ref b1), .val (.int (Int32.ofNat sz)), .val (.int yr)] [(.int (2 : Int32)), (.ref b1)])) (fun t_ k_ => XS.iconst X35.here hx rfl (hb hby at_164) k_) ?_
  refine own_st (B := T35.setTop (mkF m 167 #[.val (.long u0), .second, .val (.int u1), .val (.int u2), .val (.int u3), .val (.long y5), .second, .val (.int (u2 &&& (3 : Int32))), .val (.int (u3.toInt8.toInt32)), .val (.ref b1), .val (.int (Int32.ofNat sz)), .val (.int yr)] [(.int (u2 &&& (3 : Int32))), (.int (2 : Int32)), (.ref b1)])) (fun t_ k_ => XS.iload X35.here hx rfl (hb hby at_165) rfl k_) ?_
  refine own_st (B := T35.setTop (mkF m 169 #[.val (.long u0), .second, .val (.int u1), .val (.int u2), .val (.int u3), .val (.long y5), .second, .val (.int (u2 &&& (3 : Int32))), .val (.int (u3.toInt8.toInt32)), .val (.ref b1), .val (.int (Int32.ofNat sz)), .val (.int yr)] [(.int (Int32.ofNat sz)), (.int (u2 &&& (3 : Int32))), (.int (2 : Int32)), (.ref b1)])) (fun t_ k_ => XS.iload X35.here hx rfl (hb hby at_167) rfl k_) ?_
  refine own_st (B := T35.setTop (mkF m 171 #[.val (.long u0), .second, .val (.int u1), .val (.int u2), .val (.int u3), .val (.long y5), .second, .val (.int (u2 &&& (3 : Int32))), .val (.int (u3.toInt8.toInt32)), .val (.ref b1), .val (.int (Int32.ofNat sz)), .val (.int yr)] [(.long y5), (.int (Int32.ofNat sz)), (.int (u2 &&& (3 : Int32))), (.int (2 : Int32)), (.ref b1)])) (fun t_ k_ => XS.lload X35.here hx rfl (hb hby at_169) rfl k_) ?_
  refine own_st (B := T35.setTop (mkF m 173 #[.val (.long u0), .second, .val (.int u1), .val (.int u2), .val (.int u3), .val (.long y5), .second, .val (.int (u2 &&& (3 : Int32))), .val (.int (u3.toInt8.toInt32)), .val (.ref b1), .val (.int (Int32.ofNat sz)), .val (.int yr)] [(.int (u3.toInt8.toInt32)), (.long y5), (.int (Int32.ofNat sz)), (.int (u2 &&& (3 : Int32))), (.int (2 : Int32)), (.ref b1)])) (fun t_ k_ => XS.iload X35.here hx rfl (hb hby at_171) rfl k_) ?_
  obtain ⟨_, _, ⟨T36, L36, k36, n36⟩, -, X36, ⟨Lc36, hQ36, l36, y36, z36⟩, st36⟩ := Jvm.LawKit.callS X35 hx (y := (⟨"com/example/tidemark/tidemark/RecordFormatPutVarintPinLaw", "check", "([BIIIJB)Z"⟩ : MethodName)) hown (mvT hZ (hw _ (List.mem_of_getElem? (i := 12) rfl))) (mvT hZ (hw _ (List.mem_of_getElem? (i := 13) rfl))) (mvT hZ (hw _ (List.mem_of_getElem? (i := 4) rfl))) (mvT hZ (hw _ (List.mem_of_getElem? (i := 14) rfl))) (by decide) (backOf (W := 0) (rm3 l Z a0 hw [] b1 (2 : Int32) (u2 &&& (3 : Int32)) (Int32.ofNat sz) y5 (u3.toInt8.toInt32) 2 kp sz N gg T31.heap n0 Z32 Ag31 (by decide) (by decide) hkp hkp4 hsI hs1 hs9 hN hs4 (hspec 2 (by decide))) hZ (hw _ (List.mem_of_getElem? (i := 14) rfl)) (hw _ (List.mem_of_getElem? (i := 4) rfl)) (by decide) (by decide)) (g := (mkF m 173 #[.val (.long u0), .second, .val (.int u1), .val (.int u2), .val (.int u3), .val (.long y5), .second, .val (.int (u2 &&& (3 : Int32))), .val (.int (u3.toInt8.toInt32)), .val (.ref b1), .val (.int (Int32.ofNat sz)), .val (.int yr)] [(.int (u3.toInt8.toInt32)), (.long y5), (.int (Int32.ofNat sz)), (.int (u2 &&& (3 : Int32))), (.int (2 : Int32)), (.ref b1)])) rfl (by rw [hml]; rfl) (argsL := [(.ref b1), (.int (2 : Int32)), (.int (u2 &&& (3 : Int32))), (.int (Int32.ofNat sz)), (.long y5), (.int (u3.toInt8.toInt32))]) (rest := []) (lenOf own_pd2 rfl) rfl (by show 2 * 0 + _ ≤ _; exact Nat.le_of_eq rfl) (hb hby at_173) (fun _ _ => ⟨rfl, eh35, (by decide : 1 + 0 ≤ _), (by decide : 13 + 0 ≤ _)⟩)
  dsimp only [Pt.U, Pt.locs, Pt.cells, Pt.slots] at X36 l36 y36 z36 st36 hQ36
  rw [l36, y36, z36] at X36
  have X36 : Stand p l e _ s m _ below meth c T36 _ 1 13 := X36
  obtain ⟨rfl, N36q, eh36⟩ := hQ36
  have N36 := Fr.app N35 N36q
  refine own_st (B := T36.setTop (mkF m 176 #[.val (.long u0), .second, .val (.int u1), .val (.int u2), .val (.int u3), .val (.long y5), .second, .val (.int (u2 &&& (3 : Int32))), .val (.int (u3.toInt8.toInt32)), .val (.ref b1), .val (.int (Int32.ofNat sz)), .val (.int yr)] [(.int (1 : Int32))])) st36 ?_
  refine own_st (B := T36.setTop (mkF m 179 #[.val (.long u0), .second, .val (.int u1), .val (.int u2), .val (.int u3), .val (.long y5), .second, .val (.int (u2 &&& (3 : Int32))), .val (.int (u3.toInt8.toInt32)), .val (.ref b1), .val (.int (Int32.ofNat sz)), .val (.int yr)] [])) (fun t_ k_ => XS.ifNo X36.here hx rfl (hb hby at_176) rfl ((if0 _ _).trans (feq (by decide : ¬ ((1 : Int32) = (0 : Int32)))).1) k_) ?_
  refine own_st (B := T36.setTop (mkF m 181 #[.val (.long u0), .second, .val (.int u1), .val (.int u2), .val (.int u3), .val (.long y5), .second, .val (.int (u2 &&& (3 : Int32))), .val (.int (u3.toInt8.toInt32)), .val (.ref b1), .val (.int (Int32.ofNat sz)), .val (.int yr)] [(.ref b1)])) (fun t_ k_ => XS.aload X36.here hx rfl (hb hby at_179) rfl rfl k_) ?_
  refine own_st (B := T36.setTop (mkF m 182 #[.val (.long u0), .second, .val (.int u1), .val (.int u2), .val (.int u3), .val (.long y5), .second, .val (.int (u2 &&& (3 : Int32))), .val (.int (u3.toInt8.toInt32)), .val (.ref b1), .val (.int (Int32.ofNat sz)), .val (.int yr)] [(.int (3 : Int32)), (.ref b1)])) (fun t_ k_ => XS.iconst X36.here hx rfl (hb hby at_181) k_) ?_
  refine own_st (B := T36.setTop (mkF m 184 #[.val (.long u0), .second, .val (.int u1), .val (.int u2), .val (.int u3), .val (.long y5), .second, .val (.int (u2 &&& (3 : Int32))), .val (.int (u3.toInt8.toInt32)), .val (.ref b1), .val (.int (Int32.ofNat sz)), .val (.int yr)] [(.int (u2 &&& (3 : Int32))), (.int (3 : Int32)), (.ref b1)])) (fun t_ k_ => XS.iload X36.here hx rfl (hb hby at_182) rfl k_) ?_
  refine own_st (B := T36.setTop (mkF m 186 #[.val (.long u0), .second, .val (.int u1), .val (.int u2), .val (.int u3), .val (.long y5), .second, .val (.int (u2 &&& (3 : Int32))), .val (.int (u3.toInt8.toInt32)), .val (.ref b1), .val (.int (Int32.ofNat sz)), .val (.int yr)] [(.int (Int32.ofNat sz)), (.int (u2 &&& (3 : Int32))), (.int (3 : Int32)), (.ref b1)])) (fun t_ k_ => XS.iload X36.here hx rfl (hb hby at_184) rfl k_) ?_
  refine own_st (B := T36.setTop (mkF m 188 #[.val (.long u0), .second, .val (.int u1), .val (.int u2), .val (.int u3), .val (.long y5), .second, .val (.int (u2 &&& (3 : Int32))), .val (.int (u3.toInt8.toInt32)), .val (.ref b1), .val (.int (Int32.ofNat sz)), .val (.int yr)] [(.long y5), (.int (Int32.ofNat sz)), (.int (u2 &&& (3 : Int32))), (.int (3 : Int32)), (.ref b1)])) (fun t_ k_ => XS.lload X36.here hx rfl (hb hby at_186) rfl k_) ?_
  refine own_st (B := T36.setTop (mkF m 190 #[.val (.long u0), .second, .val (.int u1), .val (.int u2), .val (.int u3), .val (.long y5), .second, .val (.int (u2 &&& (3 : Int32))), .val (.int (u3.toInt8.toInt32)), .val (.ref b1), .val (.int (Int32.ofNat sz)), .val (.int yr)] [(.int (u3.toInt8.toInt32)), (.long y5), (.int (Int32.ofNat sz)), (.int (u2 &&& (3 : Int32))), (.int (3 : Int32)), (.ref b1)])) (fun t_ k_ => XS.iload X36.here hx rfl (hb hby at_188) rfl k_) ?_
  obtain ⟨_, _, ⟨T37, L37, k37, n37⟩, -, X37, ⟨Lc37, hQ37, l37, y37, z37⟩, st37⟩ := Jvm.LawKit.callS X36 hx (y := (⟨"com/example/tidemark/tidemark/RecordFormatPutVarintPinLaw", "check", "([BIIIJB)Z"⟩ : MethodName)) hown (mvT hZ (hw _ (List.mem_of_getElem? (i := 12) rfl))) (mvT hZ (hw _ (List.mem_of_getElem? (i := 13) rfl))) (mvT hZ (hw _ (List.mem_of_getElem? (i := 4) rfl))) (mvT hZ (hw _ (List.mem_of_getElem? (i := 14) rfl))) (by decide) (backOf (W := 0) (rm3 l Z a0 hw [] b1 (3 : Int32) (u2 &&& (3 : Int32)) (Int32.ofNat sz) y5 (u3.toInt8.toInt32) 3 kp sz N gg T31.heap n0 Z32 Ag31 (by decide) (by decide) hkp hkp4 hsI hs1 hs9 hN hs4 (hspec 3 (by decide))) hZ (hw _ (List.mem_of_getElem? (i := 14) rfl)) (hw _ (List.mem_of_getElem? (i := 4) rfl)) (by decide) (by decide)) (g := (mkF m 190 #[.val (.long u0), .second, .val (.int u1), .val (.int u2), .val (.int u3), .val (.long y5), .second, .val (.int (u2 &&& (3 : Int32))), .val (.int (u3.toInt8.toInt32)), .val (.ref b1), .val (.int (Int32.ofNat sz)), .val (.int yr)] [(.int (u3.toInt8.toInt32)), (.long y5), (.int (Int32.ofNat sz)), (.int (u2 &&& (3 : Int32))), (.int (3 : Int32)), (.ref b1)])) rfl (by rw [hml]; rfl) (argsL := [(.ref b1), (.int (3 : Int32)), (.int (u2 &&& (3 : Int32))), (.int (Int32.ofNat sz)), (.long y5), (.int (u3.toInt8.toInt32))]) (rest := []) (lenOf own_pd2 rfl) rfl (by show 2 * 0 + _ ≤ _; exact Nat.le_of_eq rfl) (hb hby at_190) (fun _ _ => ⟨rfl, eh36, (by decide : 1 + 0 ≤ _), (by decide : 13 + 0 ≤ _)⟩)
  dsimp only [Pt.U, Pt.locs, Pt.cells, Pt.slots] at X37 l37 y37 z37 st37 hQ37
  rw [l37, y37, z37] at X37
  have X37 : Stand p l e _ s m _ below meth c T37 _ 1 13 := X37
  obtain ⟨rfl, N37q, eh37⟩ := hQ37
  have N37 := Fr.app N36 N37q
  refine own_st (B := T37.setTop (mkF m 193 #[.val (.long u0), .second, .val (.int u1), .val (.int u2), .val (.int u3), .val (.long y5), .second, .val (.int (u2 &&& (3 : Int32))), .val (.int (u3.toInt8.toInt32)), .val (.ref b1), .val (.int (Int32.ofNat sz)), .val (.int yr)] [(.int (1 : Int32))])) st37 ?_
  refine own_st (B := T37.setTop (mkF m 196 #[.val (.long u0), .second, .val (.int u1), .val (.int u2), .val (.int u3), .val (.long y5), .second, .val (.int (u2 &&& (3 : Int32))), .val (.int (u3.toInt8.toInt32)), .val (.ref b1), .val (.int (Int32.ofNat sz)), .val (.int yr)] [])) (fun t_ k_ => XS.ifNo X37.here hx rfl (hb hby at_193) rfl ((if0 _ _).trans (feq (by decide : ¬ ((1 : Int32) = (0 : Int32)))).1) k_) ?_
  refine own_st (B := T37.setTop (mkF m 198 #[.val (.long u0), .second, .val (.int u1), .val (.int u2), .val (.int u3), .val (.long y5), .second, .val (.int (u2 &&& (3 : Int32))), .val (.int (u3.toInt8.toInt32)), .val (.ref b1), .val (.int (Int32.ofNat sz)), .val (.int yr)] [(.ref b1)])) (fun t_ k_ => XS.aload X37.here hx rfl (hb hby at_196) rfl rfl k_) ?_
  refine own_st (B := T37.setTop (mkF m 199 #[.val (.long u0), .second, .val (.int u1), .val (.int u2), .val (.int u3), .val (.long y5), .second, .val (.int (u2 &&& (3 : Int32))), .val (.int (u3.toInt8.toInt32)), .val (.ref b1), .val (.int (Int32.ofNat sz)), .val (.int yr)] [(.int (4 : Int32)), (.ref b1)])) (fun t_ k_ => XS.iconst X37.here hx rfl (hb hby at_198) k_) ?_
  refine own_st (B := T37.setTop (mkF m 201 #[.val (.long u0), .second, .val (.int u1), .val (.int u2), .val (.int u3), .val (.long y5), .second, .val (.int (u2 &&& (3 : Int32))), .val (.int (u3.toInt8.toInt32)), .val (.ref b1), .val (.int (Int32.ofNat sz)), .val (.int yr)] [(.int (u2 &&& (3 : Int32))), (.int (4 : Int32)), (.ref b1)])) (fun t_ k_ => XS.iload X37.here hx rfl (hb hby at_199) rfl k_) ?_
  refine own_st (B := T37.setTop (mkF m 203 #[.val (.long u0), .second, .val (.int u1), .val (.int u2), .val (.int u3), .val (.long y5), .second, .val (.int (u2 &&& (3 : Int32))), .val (.int (u3.toInt8.toInt32)), .val (.ref b1), .val (.int (Int32.ofNat sz)), .val (.int yr)] [(.int (Int32.ofNat sz)), (.int (u2 &&& (3 : Int32))), (.int (4 : Int32)), (.ref b1)])) (fun t_ k_ => XS.iload X37.here hx rfl (hb hby at_201) rfl k_) ?_
  refine own_st (B := T37.setTop (mkF m 205 #[.val (.long u0), .second, .val (.int u1), .val (.int u2), .val (.int u3), .val (.long y5), .second, .val (.int (u2 &&& (3 : Int32))), .val (.int (u3.toInt8.toInt32)), .val (.ref b1), .val (.int (Int32.ofNat sz)), .val (.int yr)] [(.long y5), (.int (Int32.ofNat sz)), (.int (u2 &&& (3 : Int32))), (.int (4 : Int32)), (.ref b1)])) (fun t_ k_ => XS.lload X37.here hx rfl (hb hby at_203) rfl k_) ?_
  refine own_st (B := T37.setTop (mkF m 207 #[.val (.long u0), .second, .val (.int u1), .val (.int u2), .val (.int u3), .val (.long y5), .second, .val (.int (u2 &&& (3 : Int32))), .val (.int (u3.toInt8.toInt32)), .val (.ref b1), .val (.int (Int32.ofNat sz)), .val (.int yr)] [(.int (u3.toInt8.toInt32)), (.long y5), (.int (Int32.ofNat sz)), (.int (u2 &&& (3 : Int32))), (.int (4 : Int32)), (.ref b1)])) (fun t_ k_ => XS.iload X37.here hx rfl (hb hby at_205) rfl k_) ?_
  obtain ⟨_, _, ⟨T38, L38, k38, n38⟩, -, X38, ⟨Lc38, hQ38, l38, y38, z38⟩, st38⟩ := Jvm.LawKit.callS X37 hx (y := (⟨"com/example/tidemark/tidemark/RecordFormatPutVarintPinLaw", "check", "([BIIIJB)Z"⟩ : MethodName)) hown (mvT hZ (hw _ (List.mem_of_getElem? (i := 12) rfl))) (mvT hZ (hw _ (List.mem_of_getElem? (i := 13) rfl))) (mvT hZ (hw _ (List.mem_of_getElem? (i := 4) rfl))) (mvT hZ (hw _ (List.mem_of_getElem? (i := 14) rfl))) (by decide) (backOf (W := 0) (rm3 l Z a0 hw [] b1 (4 : Int32) (u2 &&& (3 : Int32)) (Int32.ofNat sz) y5 (u3.toInt8.toInt32) 4 kp sz N gg T31.heap n0 Z32 Ag31 (by decide) (by decide) hkp hkp4 hsI hs1 hs9 hN hs4 (hspec 4 (by decide))) hZ (hw _ (List.mem_of_getElem? (i := 14) rfl)) (hw _ (List.mem_of_getElem? (i := 4) rfl)) (by decide) (by decide)) (g := (mkF m 207 #[.val (.long u0), .second, .val (.int u1), .val (.int u2), .val (.int u3), .val (.long y5), .second, .val (.int (u2 &&& (3 : Int32))), .val (.int (u3.toInt8.toInt32)), .val (.ref b1), .val (.int (Int32.ofNat sz)), .val (.int yr)] [(.int (u3.toInt8.toInt32)), (.long y5), (.int (Int32.ofNat sz)), (.int (u2 &&& (3 : Int32))), (.int (4 : Int32)), (.ref b1)])) rfl (by rw [hml]; rfl) (argsL := [(.ref b1), (.int (4 : Int32)), (.int (u2 &&& (3 : Int32))), (.int (Int32.ofNat sz)), (.long y5), (.int (u3.toInt8.toInt32))]) (rest := []) (lenOf own_pd2 rfl) rfl (by show 2 * 0 + _ ≤ _; exact Nat.le_of_eq rfl) (hb hby at_207) (fun _ _ => ⟨rfl, eh37, (by decide : 1 + 0 ≤ _), (by decide : 13 + 0 ≤ _)⟩)
  dsimp only [Pt.U, Pt.locs, Pt.cells, Pt.slots] at X38 l38 y38 z38 st38 hQ38
  rw [l38, y38, z38] at X38
  have X38 : Stand p l e _ s m _ below meth c T38 _ 1 13 := X38
  obtain ⟨rfl, N38q, eh38⟩ := hQ38
  have N38 := Fr.app N37 N38q
  refine own_st (B := T38.setTop (mkF m 210 #[.val (.long u0), .second, .val (.int u1), .val (.int u2), .val (.int u3), .val (.long y5), .second, .val (.int (u2 &&& (3 : Int32))), .val (.int (u3.toInt8.toInt32)), .val (.ref b1), .val (.int (Int32.ofNat sz)), .val (.int yr)] [(.int (1 : Int32))])) st38 ?_
  refine own_st (B := T38.setTop (mkF m 213 #[.val (.long u0), .second, .val (.int u1), .val (.int u2), .val (.int u3), .val (.long y5), .second, .val (.int (u2 &&& (3 : Int32))), .val (.int (u3.toInt8.toInt32)), .val (.ref b1), .val (.int (Int32.ofNat sz)), .val (.int yr)] [])) (fun t_ k_ => XS.ifNo X38.here hx rfl (hb hby at_210) rfl ((if0 _ _).trans (feq (by decide : ¬ ((1 : Int32) = (0 : Int32)))).1) k_) ?_
  refine own_st (B := T38.setTop (mkF m 215 #[.val (.long u0), .second, .val (.int u1), .val (.int u2), .val (.int u3), .val (.long y5), .second, .val (.int (u2 &&& (3 : Int32))), .val (.int (u3.toInt8.toInt32)), .val (.ref b1), .val (.int (Int32.ofNat sz)), .val (.int yr)] [(.ref b1)])) (fun t_ k_ => XS.aload X38.here hx rfl (hb hby at_213) rfl rfl k_) ?_
  refine own_st (B := T38.setTop (mkF m 216 #[.val (.long u0), .second, .val (.int u1), .val (.int u2), .val (.int u3), .val (.long y5), .second, .val (.int (u2 &&& (3 : Int32))), .val (.int (u3.toInt8.toInt32)), .val (.ref b1), .val (.int (Int32.ofNat sz)), .val (.int yr)] [(.int (5 : Int32)), (.ref b1)])) (fun t_ k_ => XS.iconst X38.here hx rfl (hb hby at_215) k_) ?_
  refine own_st (B := T38.setTop (mkF m 218 #[.val (.long u0), .second, .val (.int u1), .val (.int u2), .val (.int u3), .val (.long y5), .second, .val (.int (u2 &&& (3 : Int32))), .val (.int (u3.toInt8.toInt32)), .val (.ref b1), .val (.int (Int32.ofNat sz)), .val (.int yr)] [(.int (u2 &&& (3 : Int32))), (.int (5 : Int32)), (.ref b1)])) (fun t_ k_ => XS.iload X38.here hx rfl (hb hby at_216) rfl k_) ?_
  refine own_st (B := T38.setTop (mkF m 220 #[.val (.long u0), .second, .val (.int u1), .val (.int u2), .val (.int u3), .val (.long y5), .second, .val (.int (u2 &&& (3 : Int32))), .val (.int (u3.toInt8.toInt32)), .val (.ref b1), .val (.int (Int32.ofNat sz)), .val (.int yr)] [(.int (Int32.ofNat sz)), (.int (u2 &&& (3 : Int32))), (.int (5 : Int32)), (.ref b1)])) (fun t_ k_ => XS.iload X38.here hx rfl (hb hby at_218) rfl k_) ?_
  refine own_st (B := T38.setTop (mkF m 222 #[.val (.long u0), .second, .val (.int u1), .val (.int u2), .val (.int u3), .val (.long y5), .second, .val (.int (u2 &&& (3 : Int32))), .val (.int (u3.toInt8.toInt32)), .val (.ref b1), .val (.int (Int32.ofNat sz)), .val (.int yr)] [(.long y5), (.int (Int32.ofNat sz)), (.int (u2 &&& (3 : Int32))), (.int (5 : Int32)), (.ref b1)])) (fun t_ k_ => XS.lload X38.here hx rfl (hb hby at_220) rfl k_) ?_
  refine own_st (B := T38.setTop (mkF m 224 #[.val (.long u0), .second, .val (.int u1), .val (.int u2), .val (.int u3), .val (.long y5), .second, .val (.int (u2 &&& (3 : Int32))), .val (.int (u3.toInt8.toInt32)), .val (.ref b1), .val (.int (Int32.ofNat sz)), .val (.int yr)] [(.int (u3.toInt8.toInt32)), (.long y5), (.int (Int32.ofNat sz)), (.int (u2 &&& (3 : Int32))), (.int (5 : Int32)), (.ref b1)])) (fun t_ k_ => XS.iload X38.here hx rfl (hb hby at_222) rfl k_) ?_
  obtain ⟨_, _, ⟨T39, L39, k39, n39⟩, -, X39, ⟨Lc39, hQ39, l39, y39, z39⟩, st39⟩ := Jvm.LawKit.callS X38 hx (y := (⟨"com/example/tidemark/tidemark/RecordFormatPutVarintPinLaw", "check", "([BIIIJB)Z"⟩ : MethodName)) hown (mvT hZ (hw _ (List.mem_of_getElem? (i := 12) rfl))) (mvT hZ (hw _ (List.mem_of_getElem? (i := 13) rfl))) (mvT hZ (hw _ (List.mem_of_getElem? (i := 4) rfl))) (mvT hZ (hw _ (List.mem_of_getElem? (i := 14) rfl))) (by decide) (backOf (W := 0) (rm3 l Z a0 hw [] b1 (5 : Int32) (u2 &&& (3 : Int32)) (Int32.ofNat sz) y5 (u3.toInt8.toInt32) 5 kp sz N gg T31.heap n0 Z32 Ag31 (by decide) (by decide) hkp hkp4 hsI hs1 hs9 hN hs4 (hspec 5 (by decide))) hZ (hw _ (List.mem_of_getElem? (i := 14) rfl)) (hw _ (List.mem_of_getElem? (i := 4) rfl)) (by decide) (by decide)) (g := (mkF m 224 #[.val (.long u0), .second, .val (.int u1), .val (.int u2), .val (.int u3), .val (.long y5), .second, .val (.int (u2 &&& (3 : Int32))), .val (.int (u3.toInt8.toInt32)), .val (.ref b1), .val (.int (Int32.ofNat sz)), .val (.int yr)] [(.int (u3.toInt8.toInt32)), (.long y5), (.int (Int32.ofNat sz)), (.int (u2 &&& (3 : Int32))), (.int (5 : Int32)), (.ref b1)])) rfl (by rw [hml]; rfl) (argsL := [(.ref b1), (.int (5 : Int32)), (.int (u2 &&& (3 : Int32))), (.int (Int32.ofNat sz)), (.long y5), (.int (u3.toInt8.toInt32))]) (rest := []) (lenOf own_pd2 rfl) rfl (by show 2 * 0 + _ ≤ _; exact Nat.le_of_eq rfl) (hb hby at_224) (fun _ _ => ⟨rfl, eh38, (by decide : 1 + 0 ≤ _), (by decide : 13 + 0 ≤ _)⟩)
  dsimp only [Pt.U, Pt.locs, Pt.cells, Pt.slots] at X39 l39 y39 z39 st39 hQ39
  rw [l39, y39, z39] at X39
  have X39 : Stand p l e _ s m _ below meth c T39 _ 1 13 := X39
  obtain ⟨rfl, N39q, eh39⟩ := hQ39
  have N39 := Fr.app N38 N39q
  refine own_st (B := T39.setTop (mkF m 227 #[.val (.long u0), .second, .val (.int u1), .val (.int u2), .val (.int u3), .val (.long y5), .second, .val (.int (u2 &&& (3 : Int32))), .val (.int (u3.toInt8.toInt32)), .val (.ref b1), .val (.int (Int32.ofNat sz)), .val (.int yr)] [(.int (1 : Int32))])) st39 ?_
  refine own_st (B := T39.setTop (mkF m 230 #[.val (.long u0), .second, .val (.int u1), .val (.int u2), .val (.int u3), .val (.long y5), .second, .val (.int (u2 &&& (3 : Int32))), .val (.int (u3.toInt8.toInt32)), .val (.ref b1), .val (.int (Int32.ofNat sz)), .val (.int yr)] [])) (fun t_ k_ => XS.ifNo X39.here hx rfl (hb hby at_227) rfl ((if0 _ _).trans (feq (by decide : ¬ ((1 : Int32) = (0 : Int32)))).1) k_) ?_
  refine own_st (B := T39.setTop (mkF m 232 #[.val (.long u0), .second, .val (.int u1), .val (.int u2), .val (.int u3), .val (.long y5), .second, .val (.int (u2 &&& (3 : Int32))), .val (.int (u3.toInt8.toInt32)), .val (.ref b1), .val (.int (Int32.ofNat sz)), .val (.int yr)] [(.ref b1)])) (fun t_ k_ => XS.aload X39.here hx rfl (hb hby at_230) rfl rfl k_) ?_
  refine own_st (B := T39.setTop (mkF m 234 #[.val (.long u0), .second, .val (.int u1), .val (.int u2), .val (.int u3), .val (.long y5), .second, .val (.int (u2 &&& (3 : Int32))), .val (.int (u3.toInt8.toInt32)), .val (.ref b1), .val (.int (Int32.ofNat sz)), .val (.int yr)] [(.int (6 : Int32)), (.ref b1)])) (fun t_ k_ => XS.bipush X39.here hx rfl (hb hby at_232) k_) ?_
  refine own_st (B := T39.setTop (mkF m 236 #[.val (.long u0), .second, .val (.int u1), .val (.int u2), .val (.int u3), .val (.long y5), .second, .val (.int (u2 &&& (3 : Int32))), .val (.int (u3.toInt8.toInt32)), .val (.ref b1), .val (.int (Int32.ofNat sz)), .val (.int yr)] [(.int (u2 &&& (3 : Int32))), (.int (6 : Int32)), (.ref b1)])) (fun t_ k_ => XS.iload X39.here hx rfl (hb hby at_234) rfl k_) ?_
  refine own_st (B := T39.setTop (mkF m 238 #[.val (.long u0), .second, .val (.int u1), .val (.int u2), .val (.int u3), .val (.long y5), .second, .val (.int (u2 &&& (3 : Int32))), .val (.int (u3.toInt8.toInt32)), .val (.ref b1), .val (.int (Int32.ofNat sz)), .val (.int yr)] [(.int (Int32.ofNat sz)), (.int (u2 &&& (3 : Int32))), (.int (6 : Int32)), (.ref b1)])) (fun t_ k_ => XS.iload X39.here hx rfl (hb hby at_236) rfl k_) ?_
  refine own_st (B := T39.setTop (mkF m 240 #[.val (.long u0), .second, .val (.int u1), .val (.int u2), .val (.int u3), .val (.long y5), .second, .val (.int (u2 &&& (3 : Int32))), .val (.int (u3.toInt8.toInt32)), .val (.ref b1), .val (.int (Int32.ofNat sz)), .val (.int yr)] [(.long y5), (.int (Int32.ofNat sz)), (.int (u2 &&& (3 : Int32))), (.int (6 : Int32)), (.ref b1)])) (fun t_ k_ => XS.lload X39.here hx rfl (hb hby at_238) rfl k_) ?_
  refine own_st (B := T39.setTop (mkF m 242 #[.val (.long u0), .second, .val (.int u1), .val (.int u2), .val (.int u3), .val (.long y5), .second, .val (.int (u2 &&& (3 : Int32))), .val (.int (u3.toInt8.toInt32)), .val (.ref b1), .val (.int (Int32.ofNat sz)), .val (.int yr)] [(.int (u3.toInt8.toInt32)), (.long y5), (.int (Int32.ofNat sz)), (.int (u2 &&& (3 : Int32))), (.int (6 : Int32)), (.ref b1)])) (fun t_ k_ => XS.iload X39.here hx rfl (hb hby at_240) rfl k_) ?_
  obtain ⟨_, _, ⟨T40, L40, k40, n40⟩, -, X40, ⟨Lc40, hQ40, l40, y40, z40⟩, st40⟩ := Jvm.LawKit.callS X39 hx (y := (⟨"com/example/tidemark/tidemark/RecordFormatPutVarintPinLaw", "check", "([BIIIJB)Z"⟩ : MethodName)) hown (mvT hZ (hw _ (List.mem_of_getElem? (i := 12) rfl))) (mvT hZ (hw _ (List.mem_of_getElem? (i := 13) rfl))) (mvT hZ (hw _ (List.mem_of_getElem? (i := 4) rfl))) (mvT hZ (hw _ (List.mem_of_getElem? (i := 14) rfl))) (by decide) (backOf (W := 0) (rm3 l Z a0 hw [] b1 (6 : Int32) (u2 &&& (3 : Int32)) (Int32.ofNat sz) y5 (u3.toInt8.toInt32) 6 kp sz N gg T31.heap n0 Z32 Ag31 (by decide) (by decide) hkp hkp4 hsI hs1 hs9 hN hs4 (hspec 6 (by decide))) hZ (hw _ (List.mem_of_getElem? (i := 14) rfl)) (hw _ (List.mem_of_getElem? (i := 4) rfl)) (by decide) (by decide)) (g := (mkF m 242 #[.val (.long u0), .second, .val (.int u1), .val (.int u2), .val (.int u3), .val (.long y5), .second, .val (.int (u2 &&& (3 : Int32))), .val (.int (u3.toInt8.toInt32)), .val (.ref b1), .val (.int (Int32.ofNat sz)), .val (.int yr)] [(.int (u3.toInt8.toInt32)), (.long y5), (.int (Int32.ofNat sz)), (.int (u2 &&& (3 : Int32))), (.int (6 : Int32)), (.ref b1)])) rfl (by rw [hml]; rfl) (argsL := [(.ref b1), (.int (6 : Int32)), (.int (u2 &&& (3 : Int32))), (.int (Int32.ofNat sz)), (.long y5), (.int (u3.toInt8.toInt32))]) (rest := []) (lenOf own_pd2 rfl) rfl (by show 2 * 0 + _ ≤ _; exact Nat.le_of_eq rfl) (hb hby at_242) (fun _ _ => ⟨rfl, eh39, (by decide : 1 + 0 ≤ _), (by decide : 13 + 0 ≤ _)⟩)
  dsimp only [Pt.U, Pt.locs, Pt.cells, Pt.slots] at X40 l40 y40 z40 st40 hQ40
  rw [l40, y40, z40] at X40
  have X40 : Stand p l e _ s m _ below meth c T40 _ 1 13 := X40
  obtain ⟨rfl, N40q, eh40⟩ := hQ40
  have N40 := Fr.app N39 N40q
  refine own_st (B := T40.setTop (mkF m 245 #[.val (.long u0), .second, .val (.int u1), .val (.int u2), .val (.int u3), .val (.long y5), .second, .val (.int (u2 &&& (3 : Int32))), .val (.int (u3.toInt8.toInt32)), .val (.ref b1), .val (.int (Int32.ofNat sz)), .val (.int yr)] [(.int (1 : Int32))])) st40 ?_
  refine own_st (B := T40.setTop (mkF m 248 #[.val (.long u0), .second, .val (.int u1), .val (.int u2), .val (.int u3), .val (.long y5), .second, .val (.int (u2 &&& (3 : Int32))), .val (.int (u3.toInt8.toInt32)), .val (.ref b1), .val (.int (Int32.ofNat sz)), .val (.int yr)] [])) (fun t_ k_ => XS.ifNo X40.here hx rfl (hb hby at_245) rfl ((if0 _ _).trans (feq (by decide : ¬ ((1 : Int32) = (0 : Int32)))).1) k_) ?_
  refine own_st (B := T40.setTop (mkF m 250 #[.val (.long u0), .second, .val (.int u1), .val (.int u2), .val (.int u3), .val (.long y5), .second, .val (.int (u2 &&& (3 : Int32))), .val (.int (u3.toInt8.toInt32)), .val (.ref b1), .val (.int (Int32.ofNat sz)), .val (.int yr)] [(.ref b1)])) (fun t_ k_ => XS.aload X40.here hx rfl (hb hby at_248) rfl rfl k_) ?_
  refine own_st (B := T40.setTop (mkF m 252 #[.val (.long u0), .second, .val (.int u1), .val (.int u2), .val (.int u3), .val (.long y5), .second, .val (.int (u2 &&& (3 : Int32))), .val (.int (u3.toInt8.toInt32)), .val (.ref b1), .val (.int (Int32.ofNat sz)), .val (.int yr)] [(.int (7 : Int32)), (.ref b1)])) (fun t_ k_ => XS.bipush X40.here hx rfl (hb hby at_250) k_) ?_
  refine own_st (B := T40.setTop (mkF m 254 #[.val (.long u0), .second, .val (.int u1), .val (.int u2), .val (.int u3), .val (.long y5), .second, .val (.int (u2 &&& (3 : Int32))), .val (.int (u3.toInt8.toInt32)), .val (.ref b1), .val (.int (Int32.ofNat sz)), .val (.int yr)] [(.int (u2 &&& (3 : Int32))), (.int (7 : Int32)), (.ref b1)])) (fun t_ k_ => XS.iload X40.here hx rfl (hb hby at_252) rfl k_) ?_
  refine own_st (B := T40.setTop (mkF m 256 #[.val (.long u0), .second, .val (.int u1), .val (.int u2), .val (.int u3), .val (.long y5), .second, .val (.int (u2 &&& (3 : Int32))), .val (.int (u3.toInt8.toInt32)), .val (.ref b1), .val (.int (Int32.ofNat sz)), .val (.int yr)] [(.int (Int32.ofNat sz)), (.int (u2 &&& (3 : Int32))), (.int (7 : Int32)), (.ref b1)])) (fun t_ k_ => XS.iload X40.here hx rfl (hb hby at_254) rfl k_) ?_
  refine own_st (B := T40.setTop (mkF m 258 #[.val (.long u0), .second, .val (.int u1), .val (.int u2), .val (.int u3), .val (.long y5), .second, .val (.int (u2 &&& (3 : Int32))), .val (.int (u3.toInt8.toInt32)), .val (.ref b1), .val (.int (Int32.ofNat sz)), .val (.int yr)] [(.long y5), (.int (Int32.ofNat sz)), (.int (u2 &&& (3 : Int32))), (.int (7 : Int32)), (.ref b1)])) (fun t_ k_ => XS.lload X40.here hx rfl (hb hby at_256) rfl k_) ?_
  refine own_st (B := T40.setTop (mkF m 260 #[.val (.long u0), .second, .val (.int u1), .val (.int u2), .val (.int u3), .val (.long y5), .second, .val (.int (u2 &&& (3 : Int32))), .val (.int (u3.toInt8.toInt32)), .val (.ref b1), .val (.int (Int32.ofNat sz)), .val (.int yr)] [(.int (u3.toInt8.toInt32)), (.long y5), (.int (Int32.ofNat sz)), (.int (u2 &&& (3 : Int32))), (.int (7 : Int32)), (.ref b1)])) (fun t_ k_ => XS.iload X40.here hx rfl (hb hby at_258) rfl k_) ?_
  obtain ⟨_, _, ⟨T41, L41, k41, n41⟩, -, X41, ⟨Lc41, hQ41, l41, y41, z41⟩, st41⟩ := Jvm.LawKit.callS X40 hx (y := (⟨"com/example/tidemark/tidemark/RecordFormatPutVarintPinLaw", "check", "([BIIIJB)Z"⟩ : MethodName)) hown (mvT hZ (hw _ (List.mem_of_getElem? (i := 12) rfl))) (mvT hZ (hw _ (List.mem_of_getElem? (i := 13) rfl))) (mvT hZ (hw _ (List.mem_of_getElem? (i := 4) rfl))) (mvT hZ (hw _ (List.mem_of_getElem? (i := 14) rfl))) (by decide) (backOf (W := 0) (rm3 l Z a0 hw [] b1 (7 : Int32) (u2 &&& (3 : Int32)) (Int32.ofNat sz) y5 (u3.toInt8.toInt32) 7 kp sz N gg T31.heap n0 Z32 Ag31 (by decide) (by decide) hkp hkp4 hsI hs1 hs9 hN hs4 (hspec 7 (by decide))) hZ (hw _ (List.mem_of_getElem? (i := 14) rfl)) (hw _ (List.mem_of_getElem? (i := 4) rfl)) (by decide) (by decide)) (g := (mkF m 260 #[.val (.long u0), .second, .val (.int u1), .val (.int u2), .val (.int u3), .val (.long y5), .second, .val (.int (u2 &&& (3 : Int32))), .val (.int (u3.toInt8.toInt32)), .val (.ref b1), .val (.int (Int32.ofNat sz)), .val (.int yr)] [(.int (u3.toInt8.toInt32)), (.long y5), (.int (Int32.ofNat sz)), (.int (u2 &&& (3 : Int32))), (.int (7 : Int32)), (.ref b1)])) rfl (by rw [hml]; rfl) (argsL := [(.ref b1), (.int (7 : Int32)), (.int (u2 &&& (3 : Int32))), (.int (Int32.ofNat sz)), (.long y5), (.int (u3.toInt8.toInt32))]) (rest := []) (lenOf own_pd2 rfl) rfl (by show 2 * 0 + _ ≤ _; exact Nat.le_of_eq rfl) (hb hby at_260) (fun _ _ => ⟨rfl, eh40, (by decide : 1 + 0 ≤ _), (by decide : 13 + 0 ≤ _)⟩)
  dsimp only [Pt.U, Pt.locs, Pt.cells, Pt.slots] at X41 l41 y41 z41 st41 hQ41
  rw [l41, y41, z41] at X41
  have X41 : Stand p l e _ s m _ below meth c T41 _ 1 13 := X41
  obtain ⟨rfl, N41q, eh41⟩ := hQ41
  have N41 := Fr.app N40 N41q
  refine own_st (B := T41.setTop (mkF m 263 #[.val (.long u0), .second, .val (.int u1), .val (.int u2), .val (.int u3), .val (.long y5), .second, .val (.int (u2 &&& (3 : Int32))), .val (.int (u3.toInt8.toInt32)), .val (.ref b1), .val (.int (Int32.ofNat sz)), .val (.int yr)] [(.int (1 : Int32))])) st41 ?_
  refine own_st (B := T41.setTop (mkF m 266 #[.val (.long u0), .second, .val (.int u1), .val (.int u2), .val (.int u3), .val (.long y5), .second, .val (.int (u2 &&& (3 : Int32))), .val (.int (u3.toInt8.toInt32)), .val (.ref b1), .val (.int (Int32.ofNat sz)), .val (.int yr)] [])) (fun t_ k_ => XS.ifNo X41.here hx rfl (hb hby at_263) rfl ((if0 _ _).trans (feq (by decide : ¬ ((1 : Int32) = (0 : Int32)))).1) k_) ?_
  refine own_st (B := T41.setTop (mkF m 268 #[.val (.long u0), .second, .val (.int u1), .val (.int u2), .val (.int u3), .val (.long y5), .second, .val (.int (u2 &&& (3 : Int32))), .val (.int (u3.toInt8.toInt32)), .val (.ref b1), .val (.int (Int32.ofNat sz)), .val (.int yr)] [(.ref b1)])) (fun t_ k_ => XS.aload X41.here hx rfl (hb hby at_266) rfl rfl k_) ?_
  refine own_st (B := T41.setTop (mkF m 270 #[.val (.long u0), .second, .val (.int u1), .val (.int u2), .val (.int u3), .val (.long y5), .second, .val (.int (u2 &&& (3 : Int32))), .val (.int (u3.toInt8.toInt32)), .val (.ref b1), .val (.int (Int32.ofNat sz)), .val (.int yr)] [(.int (8 : Int32)), (.ref b1)])) (fun t_ k_ => XS.bipush X41.here hx rfl (hb hby at_268) k_) ?_
  refine own_st (B := T41.setTop (mkF m 272 #[.val (.long u0), .second, .val (.int u1), .val (.int u2), .val (.int u3), .val (.long y5), .second, .val (.int (u2 &&& (3 : Int32))), .val (.int (u3.toInt8.toInt32)), .val (.ref b1), .val (.int (Int32.ofNat sz)), .val (.int yr)] [(.int (u2 &&& (3 : Int32))), (.int (8 : Int32)), (.ref b1)])) (fun t_ k_ => XS.iload X41.here hx rfl (hb hby at_270) rfl k_) ?_
  refine own_st (B := T41.setTop (mkF m 274 #[.val (.long u0), .second, .val (.int u1), .val (.int u2), .val (.int u3), .val (.long y5), .second, .val (.int (u2 &&& (3 : Int32))), .val (.int (u3.toInt8.toInt32)), .val (.ref b1), .val (.int (Int32.ofNat sz)), .val (.int yr)] [(.int (Int32.ofNat sz)), (.int (u2 &&& (3 : Int32))), (.int (8 : Int32)), (.ref b1)])) (fun t_ k_ => XS.iload X41.here hx rfl (hb hby at_272) rfl k_) ?_
  refine own_st (B := T41.setTop (mkF m 276 #[.val (.long u0), .second, .val (.int u1), .val (.int u2), .val (.int u3), .val (.long y5), .second, .val (.int (u2 &&& (3 : Int32))), .val (.int (u3.toInt8.toInt32)), .val (.ref b1), .val (.int (Int32.ofNat sz)), .val (.int yr)] [(.long y5), (.int (Int32.ofNat sz)), (.int (u2 &&& (3 : Int32))), (.int (8 : Int32)), (.ref b1)])) (fun t_ k_ => XS.lload X41.here hx rfl (hb hby at_274) rfl k_) ?_
  refine own_st (B := T41.setTop (mkF m 278 #[.val (.long u0), .second, .val (.int u1), .val (.int u2), .val (.int u3), .val (.long y5), .second, .val (.int (u2 &&& (3 : Int32))), .val (.int (u3.toInt8.toInt32)), .val (.ref b1), .val (.int (Int32.ofNat sz)), .val (.int yr)] [(.int (u3.toInt8.toInt32)), (.long y5), (.int (Int32.ofNat sz)), (.int (u2 &&& (3 : Int32))), (.int (8 : Int32)), (.ref b1)])) (fun t_ k_ => XS.iload X41.here hx rfl (hb hby at_276) rfl k_) ?_
  obtain ⟨_, _, ⟨T42, L42, k42, n42⟩, -, X42, ⟨Lc42, hQ42, l42, y42, z42⟩, st42⟩ := Jvm.LawKit.callS X41 hx (y := (⟨"com/example/tidemark/tidemark/RecordFormatPutVarintPinLaw", "check", "([BIIIJB)Z"⟩ : MethodName)) hown (mvT hZ (hw _ (List.mem_of_getElem? (i := 12) rfl))) (mvT hZ (hw _ (List.mem_of_getElem? (i := 13) rfl))) (mvT hZ (hw _ (List.mem_of_getElem? (i := 4) rfl))) (mvT hZ (hw _ (List.mem_of_getElem? (i := 14) rfl))) (by decide) (backOf (W := 0) (rm3 l Z a0 hw [] b1 (8 : Int32) (u2 &&& (3 : Int32)) (Int32.ofNat sz) y5 (u3.toInt8.toInt32) 8 kp sz N gg T31.heap n0 Z32 Ag31 (by decide) (by decide) hkp hkp4 hsI hs1 hs9 hN hs4 (hspec 8 (by decide))) hZ (hw _ (List.mem_of_getElem? (i := 14) rfl)) (hw _ (List.mem_of_getElem? (i := 4) rfl)) (by decide) (by decide)) (g := (mkF m 278 #[.val (.long u0), .second, .val (.int u1), .val (.int u2), .val (.int u3), .val (.long y5), .second, .val (.int (u2 &&& (3 : Int32))), .val (.int (u3.toInt8.toInt32)), .val (.ref b1), .val (.int (Int32.ofNat sz)), .val (.int yr)] [(.int (u3.toInt8.toInt32)), (.long y5), (.int (Int32.ofNat sz)), (.int (u2 &&& (3 : Int32))), (.int (8 : Int32)), (.ref b1)])) rfl (by rw [hml]; rfl) (argsL := [(.ref b1), (.int (8 : Int32)), (.int (u2 &&& (3 : Int32))), (.int (Int32.ofNat sz)), (.long y5), (.int (u3.toInt8.toInt32))]) (rest := []) (lenOf own_pd2 rfl) rfl (by show 2 * 0 + _ ≤ _; exact Nat.le_of_eq rfl) (hb hby at_278) (fun _ _ => ⟨rfl, eh41, (by decide : 1 + 0 ≤ _), (by decide : 13 + 0 ≤ _)⟩)
  dsimp only [Pt.U, Pt.locs, Pt.cells, Pt.slots] at X42 l42 y42 z42 st42 hQ42
  rw [l42, y42, z42] at X42
  have X42 : Stand p l e _ s m _ below meth c T42 _ 1 13 := X42
  obtain ⟨rfl, N42q, eh42⟩ := hQ42
  have N42 := Fr.app N41 N42q
  refine own_st (B := T42.setTop (mkF m 281 #[.val (.long u0), .second, .val (.int u1), .val (.int u2), .val (.int u3), .val (.long y5), .second, .val (.int (u2 &&& (3 : Int32))), .val (.int (u3.toInt8.toInt32)), .val (.ref b1), .val (.int (Int32.ofNat sz)), .val (.int yr)] [(.int (1 : Int32))])) st42 ?_
  refine own_st (B := T42.setTop (mkF m 284 #[.val (.long u0), .second, .val (.int u1), .val (.int u2), .val (.int u3), .val (.long y5), .second, .val (.int (u2 &&& (3 : Int32))), .val (.int (u3.toInt8.toInt32)), .val (.ref b1), .val (.int (Int32.ofNat sz)), .val (.int yr)] [])) (fun t_ k_ => XS.ifNo X42.here hx rfl (hb hby at_281) rfl ((if0 _ _).trans (feq (by decide : ¬ ((1 : Int32) = (0 : Int32)))).1) k_) ?_
  refine own_st (B := T42.setTop (mkF m 286 #[.val (.long u0), .second, .val (.int u1), .val (.int u2), .val (.int u3), .val (.long y5), .second, .val (.int (u2 &&& (3 : Int32))), .val (.int (u3.toInt8.toInt32)), .val (.ref b1), .val (.int (Int32.ofNat sz)), .val (.int yr)] [(.ref b1)])) (fun t_ k_ => XS.aload X42.here hx rfl (hb hby at_284) rfl rfl k_) ?_
  refine own_st (B := T42.setTop (mkF m 288 #[.val (.long u0), .second, .val (.int u1), .val (.int u2), .val (.int u3), .val (.long y5), .second, .val (.int (u2 &&& (3 : Int32))), .val (.int (u3.toInt8.toInt32)), .val (.ref b1), .val (.int (Int32.ofNat sz)), .val (.int yr)] [(.int (9 : Int32)), (.ref b1)])) (fun t_ k_ => XS.bipush X42.here hx rfl (hb hby at_286) k_) ?_
  refine own_st (B := T42.setTop (mkF m 290 #[.val (.long u0), .second, .val (.int u1), .val (.int u2), .val (.int u3), .val (.long y5), .second, .val (.int (u2 &&& (3 : Int32))), .val (.int (u3.toInt8.toInt32)), .val (.ref b1), .val (.int (Int32.ofNat sz)), .val (.int yr)] [(.int (u2 &&& (3 : Int32))), (.int (9 : Int32)), (.ref b1)])) (fun t_ k_ => XS.iload X42.here hx rfl (hb hby at_288) rfl k_) ?_
  refine own_st (B := T42.setTop (mkF m 292 #[.val (.long u0), .second, .val (.int u1), .val (.int u2), .val (.int u3), .val (.long y5), .second, .val (.int (u2 &&& (3 : Int32))), .val (.int (u3.toInt8.toInt32)), .val (.ref b1), .val (.int (Int32.ofNat sz)), .val (.int yr)] [(.int (Int32.ofNat sz)), (.int (u2 &&& (3 : Int32))), (.int (9 : Int32)), (.ref b1)])) (fun t_ k_ => XS.iload X42.here hx rfl (hb hby at_290) rfl k_) ?_
  refine own_st (B := T42.setTop (mkF m 294 #[.val (.long u0), .second, .val (.int u1), .val (.int u2), .val (.int u3), .val (.long y5), .second, .val (.int (u2 &&& (3 : Int32))), .val (.int (u3.toInt8.toInt32)), .val (.ref b1), .val (.int (Int32.ofNat sz)), .val (.int yr)] [(.long y5), (.int (Int32.ofNat sz)), (.int (u2 &&& (3 : Int32))), (.int (9 : Int32)), (.ref b1)])) (fun t_ k_ => XS.lload X42.here hx rfl (hb hby at_292) rfl k_) ?_
  refine own_st (B := T42.setTop (mkF m 296 #[.val (.long u0), .second, .val (.int u1), .val (.int u2), .val (.int u3), .val (.long y5), .second, .val (.int (u2 &&& (3 : Int32))), .val (.int (u3.toInt8.toInt32)), .val (.ref b1), .val (.int (Int32.ofNat sz)), .val (.int yr)] [(.int (u3.toInt8.toInt32)), (.long y5), (.int (Int32.ofNat sz)), (.int (u2 &&& (3 : Int32))), (.int (9 : Int32)), (.ref b1)])) (fun t_ k_ => XS.iload X42.here hx rfl (hb hby at_294) rfl k_) ?_
  obtain ⟨_, _, ⟨T43, L43, k43, n43⟩, -, X43, ⟨Lc43, hQ43, l43, y43, z43⟩, st43⟩ := Jvm.LawKit.callS X42 hx (y := (⟨"com/example/tidemark/tidemark/RecordFormatPutVarintPinLaw", "check", "([BIIIJB)Z"⟩ : MethodName)) hown (mvT hZ (hw _ (List.mem_of_getElem? (i := 12) rfl))) (mvT hZ (hw _ (List.mem_of_getElem? (i := 13) rfl))) (mvT hZ (hw _ (List.mem_of_getElem? (i := 4) rfl))) (mvT hZ (hw _ (List.mem_of_getElem? (i := 14) rfl))) (by decide) (backOf (W := 0) (rm3 l Z a0 hw [] b1 (9 : Int32) (u2 &&& (3 : Int32)) (Int32.ofNat sz) y5 (u3.toInt8.toInt32) 9 kp sz N gg T31.heap n0 Z32 Ag31 (by decide) (by decide) hkp hkp4 hsI hs1 hs9 hN hs4 (hspec 9 (by decide))) hZ (hw _ (List.mem_of_getElem? (i := 14) rfl)) (hw _ (List.mem_of_getElem? (i := 4) rfl)) (by decide) (by decide)) (g := (mkF m 296 #[.val (.long u0), .second, .val (.int u1), .val (.int u2), .val (.int u3), .val (.long y5), .second, .val (.int (u2 &&& (3 : Int32))), .val (.int (u3.toInt8.toInt32)), .val (.ref b1), .val (.int (Int32.ofNat sz)), .val (.int yr)] [(.int (u3.toInt8.toInt32)), (.long y5), (.int (Int32.ofNat sz)), (.int (u2 &&& (3 : Int32))), (.int (9 : Int32)), (.ref b1)])) rfl (by rw [hml]; rfl) (argsL := [(.ref b1), (.int (9 : Int32)), (.int (u2 &&& (3 : Int32))), (.int (Int32.ofNat sz)), (.long y5), (.int (u3.toInt8.toInt32))]) (rest := []) (lenOf own_pd2 rfl) rfl (by show 2 * 0 + _ ≤ _; exact Nat.le_of_eq rfl) (hb hby at_296) (fun _ _ => ⟨rfl, eh42, (by decide : 1 + 0 ≤ _), (by decide : 13 + 0 ≤ _)⟩)
  dsimp only [Pt.U, Pt.locs, Pt.cells, Pt.slots] at X43 l43 y43 z43 st43 hQ43
  rw [l43, y43, z43] at X43
  have X43 : Stand p l e _ s m _ below meth c T43 _ 1 13 := X43
  obtain ⟨rfl, N43q, eh43⟩ := hQ43
  have N43 := Fr.app N42 N43q
  refine own_st (B := T43.setTop (mkF m 299 #[.val (.long u0), .second, .val (.int u1), .val (.int u2), .val (.int u3), .val (.long y5), .second, .val (.int (u2 &&& (3 : Int32))), .val (.int (u3.toInt8.toInt32)), .val (.ref b1), .val (.int (Int32.ofNat sz)), .val (.int yr)] [(.int (1 : Int32))])) st43 ?_
  refine own_st (B := T43.setTop (mkF m 302 #[.val (.long u0), .second, .val (.int u1), .val (.int u2), .val (.int u3), .val (.long y5), .second, .val (.int (u2 &&& (3 : Int32))), .val (.int (u3.toInt8.toInt32)), .val (.ref b1), .val (.int (Int32.ofNat sz)), .val (.int yr)] [])) (fun t_ k_ => XS.ifNo X43.here hx rfl (hb hby at_299) rfl ((if0 _ _).trans (feq (by decide : ¬ ((1 : Int32) = (0 : Int32)))).1) k_) ?_
  refine own_st (B := T43.setTop (mkF m 304 #[.val (.long u0), .second, .val (.int u1), .val (.int u2), .val (.int u3), .val (.long y5), .second, .val (.int (u2 &&& (3 : Int32))), .val (.int (u3.toInt8.toInt32)), .val (.ref b1), .val (.int (Int32.ofNat sz)), .val (.int yr)] [(.ref b1)])) (fun t_ k_ => XS.aload X43.here hx rfl (hb hby at_302) rfl rfl k_) ?_
  refine own_st (B := T43.setTop (mkF m 306 #[.val (.long u0), .second, .val (.int u1), .val (.int u2), .val (.int u3), .val (.long y5), .second, .val (.int (u2 &&& (3 : Int32))), .val (.int (u3.toInt8.toInt32)), .val (.ref b1), .val (.int (Int32.ofNat sz)), .val (.int yr)] [(.int (10 : Int32)), (.ref b1)])) (fun t_ k_ => XS.bipush X43.here hx rfl (hb hby at_304) k_) ?_
  refine own_st (B := T43.setTop (mkF m 308 #[.val (.long u0), .second, .val (.int u1), .val (.int u2), .val (.int u3), .val (.long y5), .second, .val (.int (u2 &&& (3 : Int32))), .val (.int (u3.toInt8.toInt32)), .val (.ref b1), .val (.int (Int32.ofNat sz)), .val (.int yr)] [(.int (u2 &&& (3 : Int32))), (.int (10 : Int32)), (.ref b1)])) (fun t_ k_ => XS.iload X43.here hx rfl (hb hby at_306) rfl k_) ?_
  refine own_st (B := T43.setTop (mkF m 310 #[.val (.long u0), .second, .val (.int u1), .val (.int u2), .val (.int u3), .val (.long y5), .second, .val (.int (u2 &&& (3 : Int32))), .val (.int (u3.toInt8.toInt32)), .val (.ref b1), .val (.int (Int32.ofNat sz)), .val (.int yr)] [(.int (Int32.ofNat sz)), (.int (u2 &&& (3 : Int32))), (.int (10 : Int32)), (.ref b1)])) (fun t_ k_ => XS.iload X43.here hx rfl (hb hby at_308) rfl k_) ?_
  refine own_st (B := T43.setTop (mkF m 312 #[.val (.long u0), .second, .val (.int u1), .val (.int u2), .val (.int u3), .val (.long y5), .second, .val (.int (u2 &&& (3 : Int32))), .val (.int (u3.toInt8.toInt32)), .val (.ref b1), .val (.int (Int32.ofNat sz)), .val (.int yr)] [(.long y5), (.int (Int32.ofNat sz)), (.int (u2 &&& (3 : Int32))), (.int (10 : Int32)), (.ref b1)])) (fun t_ k_ => XS.lload X43.here hx rfl (hb hby at_310) rfl k_) ?_
  refine own_st (B := T43.setTop (mkF m 314 #[.val (.long u0), .second, .val (.int u1), .val (.int u2), .val (.int u3), .val (.long y5), .second, .val (.int (u2 &&& (3 : Int32))), .val (.int (u3.toInt8.toInt32)), .val (.ref b1), .val (.int (Int32.ofNat sz)), .val (.int yr)] [(.int (u3.toInt8.toInt32)), (.long y5), (.int (Int32.ofNat sz)), (.int (u2 &&& (3 : Int32))), (.int (10 : Int32)), (.ref b1)])) (fun t_ k_ => XS.iload X43.here hx rfl (hb hby at_312) rfl k_) ?_
  obtain ⟨_, _, ⟨T44, L44, k44, n44⟩, -, X44, ⟨Lc44, hQ44, l44, y44, z44⟩, st44⟩ := Jvm.LawKit.callS X43 hx (y := (⟨"com/example/tidemark/tidemark/RecordFormatPutVarintPinLaw", "check", "([BIIIJB)Z"⟩ : MethodName)) hown (mvT hZ (hw _ (List.mem_of_getElem? (i := 12) rfl))) (mvT hZ (hw _ (List.mem_of_getElem? (i := 13) rfl))) (mvT hZ (hw _ (List.mem_of_getElem? (i := 4) rfl))) (mvT hZ (hw _ (List.mem_of_getElem? (i := 14) rfl))) (by decide) (backOf (W := 0) (rm3 l Z a0 hw [] b1 (10 : Int32) (u2 &&& (3 : Int32)) (Int32.ofNat sz) y5 (u3.toInt8.toInt32) 10 kp sz N gg T31.heap n0 Z32 Ag31 (by decide) (by decide) hkp hkp4 hsI hs1 hs9 hN hs4 (hspec 10 (by decide))) hZ (hw _ (List.mem_of_getElem? (i := 14) rfl)) (hw _ (List.mem_of_getElem? (i := 4) rfl)) (by decide) (by decide)) (g := (mkF m 314 #[.val (.long u0), .second, .val (.int u1), .val (.int u2), .val (.int u3), .val (.long y5), .second, .val (.int (u2 &&& (3 : Int32))), .val (.int (u3.toInt8.toInt32)), .val (.ref b1), .val (.int (Int32.ofNat sz)), .val (.int yr)] [(.int (u3.toInt8.toInt32)), (.long y5), (.int (Int32.ofNat sz)), (.int (u2 &&& (3 : Int32))), (.int (10 : Int32)), (.ref b1)])) rfl (by rw [hml]; rfl) (argsL := [(.ref b1), (.int (10 : Int32)), (.int (u2 &&& (3 : Int32))), (.int (Int32.ofNat sz)), (.long y5), (.int (u3.toInt8.toInt32))]) (rest := []) (lenOf own_pd2 rfl) rfl (by show 2 * 0 + _ ≤ _; exact Nat.le_of_eq rfl) (hb hby at_314) (fun _ _ => ⟨rfl, eh43, (by decide : 1 + 0 ≤ _), (by decide : 13 + 0 ≤ _)⟩)
  dsimp only [Pt.U, Pt.locs, Pt.cells, Pt.slots] at X44 l44 y44 z44 st44 hQ44
  rw [l44, y44, z44] at X44
  have X44 : Stand p l e _ s m _ below meth c T44 _ 1 13 := X44
  obtain ⟨rfl, N44q, eh44⟩ := hQ44
  have N44 := Fr.app N43 N44q
  refine own_st (B := T44.setTop (mkF m 317 #[.val (.long u0), .second, .val (.int u1), .val (.int u2), .val (.int u3), .val (.long y5), .second, .val (.int (u2 &&& (3 : Int32))), .val (.int (u3.toInt8.toInt32)), .val (.ref b1), .val (.int (Int32.ofNat sz)), .val (.int yr)] [(.int (1 : Int32))])) st44 ?_
  refine own_st (B := T44.setTop (mkF m 320 #[.val (.long u0), .second, .val (.int u1), .val (.int u2), .val (.int u3), .val (.long y5), .second, .val (.int (u2 &&& (3 : Int32))), .val (.int (u3.toInt8.toInt32)), .val (.ref b1), .val (.int (Int32.ofNat sz)), .val (.int yr)] [])) (fun t_ k_ => XS.ifNo X44.here hx rfl (hb hby at_317) rfl ((if0 _ _).trans (feq (by decide : ¬ ((1 : Int32) = (0 : Int32)))).1) k_) ?_
  refine own_st (B := T44.setTop (mkF m 322 #[.val (.long u0), .second, .val (.int u1), .val (.int u2), .val (.int u3), .val (.long y5), .second, .val (.int (u2 &&& (3 : Int32))), .val (.int (u3.toInt8.toInt32)), .val (.ref b1), .val (.int (Int32.ofNat sz)), .val (.int yr)] [(.ref b1)])) (fun t_ k_ => XS.aload X44.here hx rfl (hb hby at_320) rfl rfl k_) ?_
  refine own_st (B := T44.setTop (mkF m 324 #[.val (.long u0), .second, .val (.int u1), .val (.int u2), .val (.int u3), .val (.long y5), .second, .val (.int (u2 &&& (3 : Int32))), .val (.int (u3.toInt8.toInt32)), .val (.ref b1), .val (.int (Int32.ofNat sz)), .val (.int yr)] [(.int (11 : Int32)), (.ref b1)])) (fun t_ k_ => XS.bipush X44.here hx rfl (hb hby at_322) k_) ?_
  refine own_st (B := T44.setTop (mkF m 326 #[.val (.long u0), .second, .val (.int u1), .val (.int u2), .val (.int u3), .val (.long y5), .second, .val (.int (u2 &&& (3 : Int32))), .val (.int (u3.toInt8.toInt32)), .val (.ref b1), .val (.int (Int32.ofNat sz)), .val (.int yr)] [(.int (u2 &&& (3 : Int32))), (.int (11 : Int32)), (.ref b1)])) (fun t_ k_ => XS.iload X44.here hx rfl (hb hby at_324) rfl k_) ?_
  refine own_st (B := T44.setTop (mkF m 328 #[.val (.long u0), .second, .val (.int u1), .val (.int u2), .val (.int u3), .val (.long y5), .second, .val (.int (u2 &&& (3 : Int32))), .val (.int (u3.toInt8.toInt32)), .val (.ref b1), .val (.int (Int32.ofNat sz)), .val (.int yr)] [(.int (Int32.ofNat sz)), (.int (u2 &&& (3 : Int32))), (.int (11 : Int32)), (.ref b1)])) (fun t_ k_ => XS.iload X44.here hx rfl (hb hby at_326) rfl k_) ?_
  refine own_st (B := T44.setTop (mkF m 330 #[.val (.long u0), .second, .val (.int u1), .val (.int u2), .val (.int u3), .val (.long y5), .second, .val (.int (u2 &&& (3 : Int32))), .val (.int (u3.toInt8.toInt32)), .val (.ref b1), .val (.int (Int32.ofNat sz)), .val (.int yr)] [(.long y5), (.int (Int32.ofNat sz)), (.int (u2 &&& (3 : Int32))), (.int (11 : Int32)), (.ref b1)])) (fun t_ k_ => XS.lload X44.here hx rfl (hb hby at_328) rfl k_) ?_
  refine own_st (B := T44.setTop (mkF m 332 #[.val (.long u0), .second, .val (.int u1), .val (.int u2), .val (.int u3), .val (.long y5), .second, .val (.int (u2 &&& (3 : Int32))), .val (.int (u3.toInt8.toInt32)), .val (.ref b1), .val (.int (Int32.ofNat sz)), .val (.int yr)] [(.int (u3.toInt8.toInt32)), (.long y5), (.int (Int32.ofNat sz)), (.int (u2 &&& (3 : Int32))), (.int (11 : Int32)), (.ref b1)])) (fun t_ k_ => XS.iload X44.here hx rfl (hb hby at_330) rfl k_) ?_
  obtain ⟨_, _, ⟨T45, L45, k45, n45⟩, -, X45, ⟨Lc45, hQ45, l45, y45, z45⟩, st45⟩ := Jvm.LawKit.callS X44 hx (y := (⟨"com/example/tidemark/tidemark/RecordFormatPutVarintPinLaw", "check", "([BIIIJB)Z"⟩ : MethodName)) hown (mvT hZ (hw _ (List.mem_of_getElem? (i := 12) rfl))) (mvT hZ (hw _ (List.mem_of_getElem? (i := 13) rfl))) (mvT hZ (hw _ (List.mem_of_getElem? (i := 4) rfl))) (mvT hZ (hw _ (List.mem_of_getElem? (i := 14) rfl))) (by decide) (backOf (W := 0) (rm3 l Z a0 hw [] b1 (11 : Int32) (u2 &&& (3 : Int32)) (Int32.ofNat sz) y5 (u3.toInt8.toInt32) 11 kp sz N gg T31.heap n0 Z32 Ag31 (by decide) (by decide) hkp hkp4 hsI hs1 hs9 hN hs4 (hspec 11 (by decide))) hZ (hw _ (List.mem_of_getElem? (i := 14) rfl)) (hw _ (List.mem_of_getElem? (i := 4) rfl)) (by decide) (by decide)) (g := (mkF m 332 #[.val (.long u0), .second, .val (.int u1), .val (.int u2), .val (.int u3), .val (.long y5), .second, .val (.int (u2 &&& (3 : Int32))), .val (.int (u3.toInt8.toInt32)), .val (.ref b1), .val (.int (Int32.ofNat sz)), .val (.int yr)] [(.int (u3.toInt8.toInt32)), (.long y5), (.int (Int32.ofNat sz)), (.int (u2 &&& (3 : Int32))), (.int (11 : Int32)), (.ref b1)])) rfl (by rw [hml]; rfl) (argsL := [(.ref b1), (.int (11 : Int32)), (.int (u2 &&& (3 : Int32))), (.int (Int32.ofNat sz)), (.long y5), (.int (u3.toInt8.toInt32))]) (rest := []) (lenOf own_pd2 rfl) rfl (by show 2 * 0 + _ ≤ _; exact Nat.le_of_eq rfl) (hb hby at_332) (fun _ _ => ⟨rfl, eh44, (by decide : 1 + 0 ≤ _), (by decide : 13 + 0 ≤ _)⟩)
  dsimp only [Pt.U, Pt.locs, Pt.cells, Pt.slots] at X45 l45 y45 z45 st45 hQ45
  rw [l45, y45, z45] at X45
  have X45 : Stand p l e _ s m _ below meth c T45 _ 1 13 := X45
  obtain ⟨rfl, N45q, eh45⟩ := hQ45
  have N45 := Fr.app N44 N45q
  refine own_st (B := T45.setTop (mkF m 335 #[.val (.long u0), .second, .val (.int u1), .val (.int u2), .val (.int u3), .val (.long y5), .second, .val (.int (u2 &&& (3 : Int32))), .val (.int (u3.toInt8.toInt32)), .val (.ref b1), .val (.int (Int32.ofNat sz)), .val (.int yr)] [(.int (1 : Int32))])) st45 ?_
  refine own_st (B := T45.setTop (mkF m 338 #[.val (.long u0), .second, .val (.int u1), .val (.int u2), .val (.int u3), .val (.long y5), .second, .val (.int (u2 &&& (3 : Int32))), .val (.int (u3.toInt8.toInt32)), .val (.ref b1), .val (.int (Int32.ofNat sz)), .val (.int yr)] [])) (fun t_ k_ => XS.ifNo X45.here hx rfl (hb hby at_335) rfl ((if0 _ _).trans (feq (by decide : ¬ ((1 : Int32) = (0 : Int32)))).1) k_) ?_
  refine own_st (B := T45.setTop (mkF m 340 #[.val (.long u0), .second, .val (.int u1), .val (.int u2), .val (.int u3), .val (.long y5), .second, .val (.int (u2 &&& (3 : Int32))), .val (.int (u3.toInt8.toInt32)), .val (.ref b1), .val (.int (Int32.ofNat sz)), .val (.int yr)] [(.ref b1)])) (fun t_ k_ => XS.aload X45.here hx rfl (hb hby at_338) rfl rfl k_) ?_
  refine own_st (B := T45.setTop (mkF m 342 #[.val (.long u0), .second, .val (.int u1), .val (.int u2), .val (.int u3), .val (.long y5), .second, .val (.int (u2 &&& (3 : Int32))), .val (.int (u3.toInt8.toInt32)), .val (.ref b1), .val (.int (Int32.ofNat sz)), .val (.int yr)] [(.int (12 : Int32)), (.ref b1)])) (fun t_ k_ => XS.bipush X45.here hx rfl (hb hby at_340) k_) ?_
  refine own_st (B := T45.setTop (mkF m 344 #[.val (.long u0), .second, .val (.int u1), .val (.int u2), .val (.int u3), .val (.long y5), .second, .val (.int (u2 &&& (3 : Int32))), .val (.int (u3.toInt8.toInt32)), .val (.ref b1), .val (.int (Int32.ofNat sz)), .val (.int yr)] [(.int (u2 &&& (3 : Int32))), (.int (12 : Int32)), (.ref b1)])) (fun t_ k_ => XS.iload X45.here hx rfl (hb hby at_342) rfl k_) ?_
  refine own_st (B := T45.setTop (mkF m 346 #[.val (.long u0), .second, .val (.int u1), .val (.int u2), .val (.int u3), .val (.long y5), .second, .val (.int (u2 &&& (3 : Int32))), .val (.int (u3.toInt8.toInt32)), .val (.ref b1), .val (.int (Int32.ofNat sz)), .val (.int yr)] [(.int (Int32.ofNat sz)), (.int (u2 &&& (3 : Int32))), (.int (12 : Int32)), (.ref b1)])) (fun t_ k_ => XS.iload X45.here hx rfl (hb hby at_344) rfl k_) ?_
  refine own_st (B := T45.setTop (mkF m 348 #[.val (.long u0), .second, .val (.int u1), .val (.int u2), .val (.int u3), .val (.long y5), .second, .val (.int (u2 &&& (3 : Int32))), .val (.int (u3.toInt8.toInt32)), .val (.ref b1), .val (.int (Int32.ofNat sz)), .val (.int yr)] [(.long y5), (.int (Int32.ofNat sz)), (.int (u2 &&& (3 : Int32))), (.int (12 : Int32)), (.ref b1)])) (fun t_ k_ => XS.lload X45.here hx rfl (hb hby at_346) rfl k_) ?_
  refine own_st (B := T45.setTop (mkF m 350 #[.val (.long u0), .second, .val (.int u1), .val (.int u2), .val (.int u3), .val (.long y5), .second, .val (.int (u2 &&& (3 : Int32))), .val (.int (u3.toInt8.toInt32)), .val (.ref b1), .val (.int (Int32.ofNat sz)), .val (.int yr)] [(.int (u3.toInt8.toInt32)), (.long y5), (.int (Int32.ofNat sz)), (.int (u2 &&& (3 : Int32))), (.int (12 : Int32)), (.ref b1)])) (fun t_ k_ => XS.iload X45.here hx rfl (hb hby at_348) rfl k_) ?_
  obtain ⟨_, _, ⟨T46, L46, k46, n46⟩, -, X46, ⟨Lc46, hQ46, l46, y46, z46⟩, st46⟩ := Jvm.LawKit.callS X45 hx (y := (⟨"com/example/tidemark/tidemark/RecordFormatPutVarintPinLaw", "check", "([BIIIJB)Z"⟩ : MethodName)) hown (mvT hZ (hw _ (List.mem_of_getElem? (i := 12) rfl))) (mvT hZ (hw _ (List.mem_of_getElem? (i := 13) rfl))) (mvT hZ (hw _ (List.mem_of_getElem? (i := 4) rfl))) (mvT hZ (hw _ (List.mem_of_getElem? (i := 14) rfl))) (by decide) (backOf (W := 0) (rm3 l Z a0 hw [] b1 (12 : Int32) (u2 &&& (3 : Int32)) (Int32.ofNat sz) y5 (u3.toInt8.toInt32) 12 kp sz N gg T31.heap n0 Z32 Ag31 (by decide) (by decide) hkp hkp4 hsI hs1 hs9 hN hs4 (hspec 12 (by decide))) hZ (hw _ (List.mem_of_getElem? (i := 14) rfl)) (hw _ (List.mem_of_getElem? (i := 4) rfl)) (by decide) (by decide)) (g := (mkF m 350 #[.val (.long u0), .second, .val (.int u1), .val (.int u2), .val (.int u3), .val (.long y5), .second, .val (.int (u2 &&& (3 : Int32))), .val (.int (u3.toInt8.toInt32)), .val (.ref b1), .val (.int (Int32.ofNat sz)), .val (.int yr)] [(.int (u3.toInt8.toInt32)), (.long y5), (.int (Int32.ofNat sz)), (.int (u2 &&& (3 : Int32))), (.int (12 : Int32)), (.ref b1)])) rfl (by rw [hml]; rfl) (argsL := [(.ref b1), (.int (12 : Int32)), (.int (u2 &&& (3 : Int32))), (.int (Int32.ofNat sz)), (.long y5), (.int (u3.toInt8.toInt32))]) (rest := []) (lenOf own_pd2 rfl) rfl (by show 2 * 0 + _ ≤ _; exact Nat.le_of_eq rfl) (hb hby at_350) (fun _ _ => ⟨rfl, eh45, (by decide : 1 + 0 ≤ _), (by decide : 13 + 0 ≤ _)⟩)
  dsimp only [Pt.U, Pt.locs, Pt.cells, Pt.slots] at X46 l46 y46 z46 st46 hQ46
  rw [l46, y46, z46] at X46
  have X46 : Stand p l e _ s m _ below meth c T46 _ 1 13 := X46
  obtain ⟨rfl, N46q, eh46⟩ := hQ46
  have N46 := Fr.app N45 N46q
  refine own_st (B := T46.setTop (mkF m 353 #[.val (.long u0), .second, .val (.int u1), .val (.int u2), .val (.int u3), .val (.long y5), .second, .val (.int (u2 &&& (3 : Int32))), .val (.int (u3.toInt8.toInt32)), .val (.ref b1), .val (.int (Int32.ofNat sz)), .val (.int yr)] [(.int (1 : Int32))])) st46 ?_
  refine own_st (B := T46.setTop (mkF m 356 #[.val (.long u0), .second, .val (.int u1), .val (.int u2), .val (.int u3), .val (.long y5), .second, .val (.int (u2 &&& (3 : Int32))), .val (.int (u3.toInt8.toInt32)), .val (.ref b1), .val (.int (Int32.ofNat sz)), .val (.int yr)] [])) (fun t_ k_ => XS.ifNo X46.here hx rfl (hb hby at_353) rfl ((if0 _ _).trans (feq (by decide : ¬ ((1 : Int32) = (0 : Int32)))).1) k_) ?_
  refine own_st (B := T46.setTop (mkF m 357 #[.val (.long u0), .second, .val (.int u1), .val (.int u2), .val (.int u3), .val (.long y5), .second, .val (.int (u2 &&& (3 : Int32))), .val (.int (u3.toInt8.toInt32)), .val (.ref b1), .val (.int (Int32.ofNat sz)), .val (.int yr)] [(.int (1 : Int32))])) (fun t_ k_ => XS.iconst X46.here hx rfl (hb hby at_356) k_) ?_
  refine own_st (B := T46.setTop (mkF m 361 #[.val (.long u0), .second, .val (.int u1), .val (.int u2), .val (.int u3), .val (.long y5), .second, .val (.int (u2 &&& (3 : Int32))), .val (.int (u3.toInt8.toInt32)), .val (.ref b1), .val (.int (Int32.ofNat sz)), .val (.int yr)] [(.int (1 : Int32))])) (fun t_ k_ => XS.goto X46.here hx rfl (pc0 := 357) (pc' := 361) rfl (hb hby at_357) (by decide) (by decide) k_) ?_
  refine own_retN X46 hx (t := .boolean) Bd.returns (by simp) hlk (hb hby at_361) (z' := (1 : Int32)) (by first | rfl | exact own_nb _) (by decide) (by decide) ?_
  show Q0 Z u0 u1 u2 u3 h0 n0 _ T46.heap _
  rw [eh46]
  exact ⟨rfl, N46⟩
set_option maxRecDepth 65536 in
set_option maxHeartbeats 40000000 in
theorem comes_1 {Post : Tables → Env → Array Value → State → Outcome → State → Prop} (hpost : ∀ tb e args s v u, (limb_1_1.after args s (.returned v) u = true ∧ limb_1_2.after args s (.returned v) u = true ∧ True) → FrameEnd s (.returned v) u (Jvm.fieldLocs frame_1_writes args s ++ Jvm.arrayLocs frame_1_arrays args s ++ Jvm.staticLocs frame_1_statics s) 16 128 → Post tb e args s (.returned v) u) :
    ArmFor flags0 classFile x code maxLocals ret World_1 tables_1 room_1 Calls_1 rest_1 Pre_1 Post := by
  intro l hfl _ _ p e ha hc hk s m args below hf hA hF happ hP
  obtain ⟨hcalls, hrest, hpre⟩ := hP
  obtain ⟨-, -, -, hnamed, -, -, -, hat⟩ := (Spec.applies_iff hf).mp happ
  obtain ⟨hg, hn⟩ := and_e (Cond.before_iff.mp (show (Jvm.Cond.and given_1 narrow_1).before args s = true from hpre))
  obtain ⟨gg1, gg2⟩ := and_e hg
  obtain ⟨gg3, gg4⟩ := and_e gg2
  obtain ⟨gg5, gg6⟩ := and_e gg4
  obtain ⟨gg7, gg8⟩ := and_e gg6
  obtain ⟨w0, w1, w2, w3, rfl⟩ : ∃ w0 w1 w2 w3 : Value, args = #[w0, w1, w2, w3] := by
    have hs : args.size = 4 := by simpa [Cond.value, given_1] using gg1
    obtain ⟨L⟩ := args
    match L, hs with
    | [w0, w1, w2, w3], _ => exact ⟨w0, w1, w2, w3, rfl⟩
  have hw := fun d (hd : d ∈ tables_1) => atoms_spec (ws := Jvm.Cond.code x code maxLocals ret :: tables_1) hat d (List.mem_cons_of_mem _ hd)
  have hfit : Fit s := fun {y c} hc i hi => by
    obtain ⟨ha, rfl⟩ := Array.getElem?_eq_some_iff.mp hc
    have q := List.all_eq_true.mp ((Array.all_eq_true_iff_forall_mem.mp hF) _ (Array.getElem_mem ha)) i (List.mem_range.mpr hi)
    simpa [Array.getElem?_eq_getElem hi] using q
  obtain ⟨i0, ei0⟩ := isL_v gg3
  obtain rfl : w0 = (.long i0) := Option.some.inj ei0
  obtain ⟨i1, ei1⟩ := is_v gg5
  obtain rfl : w1 = (.int i1) := Option.some.inj ei1
  obtain ⟨i2, ei2⟩ := is_v gg7
  obtain rfl : w2 = (.int i2) := Option.some.inj ei2
  obtain ⟨i3, ei3⟩ := is_v gg8
  obtain rfl : w3 = (.int i3) := Option.some.inj ei3
  obtain ⟨n, o, h1, h2, h3, _, L, rfl, ⟨rfl, N⟩, hq⟩ := rm0 l s _ hw tables_1 i0 i1 i2 i3 s.heap s.heap.size (Nat.le_refl _)  p e ha hc hk s m _ below hf ((Spec.applies_iff_loose hf).mp happ).1 ⟨rfl, State.Warmed39.refl s, rfl⟩ trivial
  refine ⟨n, _, h1, h2, h3, hpost _ _ _ _ _ _ ⟨Cond.after_iff.mpr rfl, Cond.after_iff.mpr (eq_i res_at (Term.int_eval (1)) rfl), trivial⟩ ⟨hq.1, hq.2.1, (hq.2.2.sift fun y hy => Or.inr (N y hy)).mono (by decide) (by decide)⟩⟩
theorem main_1_1 : Claimed_1_1 := comes_1 fun _ _ _ _ _ _ h hF => ⟨h.1, hF⟩
theorem main_1_2 : Claimed_1_2 := comes_1 fun _ _ _ _ _ _ h hF => ⟨h.2.1, hF⟩
end Jvm.Pilot.@@N@@
namespace Jvm.Pilot.@@N@@
open Jvm Jvm.ClassFile Sem Op Lib Jvm.Free Jvm.Stand Jvm.Pilot.@@N@@.Jvm.D
/-! MADE BY PROGRAM (witnessworld.py) out of the Statement's table words and the real class files: 9 classes; the members and pool entries that the words name. The judged class is class 1, her method 1. -/
namespace start1
open Jvm.ClassFile
def u (s : String) : CpInfo := .utf8 (stringToUtf16 s)
/-- a pool by its gaps: so many unusable entries, then the entry; so many at the end -/
def gap : Nat → List CpInfo → List CpInfo
  | 0, r => r
  | n + 1, r => .unusable :: gap n r
def poolList (es : List (Nat × CpInfo)) (last : Nat) : List CpInfo := es.foldr (fun e r => gap e.1 (e.2 :: r)) (gap last [])
def pool (es : List (Nat × CpInfo)) (last : Nat) : Array CpInfo := ⟨poolList es last⟩
def fileOf (pool : Array CpInfo) (this : Nat) (attrs : Array Attribute := #[]) (ms : Array MethodInfo := #[]) (fl : Nat := 33) (sup : Nat := 0) (ifs : Array Nat := #[]) (fds : Array FieldInfo := #[]) : ClassFile where
  minorVersion := 0
  majorVersion := 65
  constantPool := pool
  accessFlags := fl
  thisClass := this
  superClass := sup
  interfaces := ifs
  fields := fds
  methods := ms
  attributes := attrs
def plain (name : String) (sup : Option ClassId) : Class where
  name := name
  kind := .ordinary
  loader := none
  accessFlags := 33
  super := sup
  interfaces := #[]
  cf := none
  fields := #[]
  methods := #[]
  instanceTypes := #[]
  staticTypes := #[]
  resolved := #[]
  callSites := []
  init := .initialized
  statics := none
  mirror := none

def pool0 : Array CpInfo := pool [(5, u "<init>"), (0, u "()V"), (1, .class_ 10), (1, u "java/lang/Object")] 113

def k0m0 : Method := { name := "<init>", desc := "()V", sig := { parameters := [], returnType := none }, accessFlags := 1, code := none }
/-- java/lang/Object -/
def k0 : Class := { plain "java/lang/Object" none with
  accessFlags := 33
  interfaces := #[]
  cf := some (fileOf pool0 8 #[] #[{ accessFlags := 1, nameIndex := 5, descriptorIndex := 6, attributes := #[] }] 33 0 #[] #[])
  fields := #[]
  methods := #[k0m0]
  instanceTypes := #[]
  staticTypes := #[]
  resolved := Array.replicate 124 none
  statics := none }

def pool1 : Array CpInfo := pool [(2, .class_ 4), (1, u "java/lang/Object"), (0, u "<init>"), (0, u "()V"), (2, .long 9223372036854775807), (1, .methodref 12 13), (0, .class_ 14), (0, .nameAndType 15 16), (0, u "com/example/tidemark/tidemark/RecordFormatPutVarintPinLaw"), (0, u "size"), (0, u "(J)I"), (0, .methodref 18 19), (0, .class_ 20), (0, .nameAndType 21 22), (0, u "com/example/tidemark/tidemark/RecordFormat"), (0, u "putVarint"), (0, u "([BIJ)I"), (0, .methodref 12 24), (0, .nameAndType 25 26), (0, u "check"), (0, u "([BIIIJB)Z"), (0, .long 128), (1, .long 16384), (1, .long 2097152), (1, .long 268435456), (1, .long 34359738368), (1, .long 4398046511104), (1, .long 562949953421312), (1, .long 72057594037927936), (1, .long 127), (3, u "law"), (0, u "(JIII)Z")] 5

def k1m0 : Method := { name := "<init>", desc := "()V", sig := { parameters := [], returnType := none }, accessFlags := 2, code := none }
def k1c1 : Code := { maxStack := 7, maxLocals := 12, code := code, exceptionTable := #[], attributes := #[] }
def k1m1 : Method := { name := "law", desc := "(JIII)Z", sig := { parameters := [.long, .int, .int, .int], returnType := some .boolean }, accessFlags := 9, code := some k1c1 }
def k1c2 : Code := { maxStack := 4, maxLocals := 2, code := method_3_code, exceptionTable := #[], attributes := #[] }
def k1m2 : Method := { name := "size", desc := "(J)I", sig := { parameters := [.long], returnType := some .int }, accessFlags := 10, code := some k1c2 }
def k1c3 : Code := { maxStack := 4, maxLocals := 9, code := method_4_code, exceptionTable := #[], attributes := #[] }
def k1m3 : Method := { name := "check", desc := "([BIIIJB)Z", sig := { parameters := [(.array .byte), .int, .int, .int, .long, .byte], returnType := some .boolean }, accessFlags := 10, code := some k1c3 }
/-- com/example/tidemark/tidemark/RecordFormatPutVarintPinLaw -/
def k1 : Class := { plain "com/example/tidemark/tidemark/RecordFormatPutVarintPinLaw" (some 0) with
  accessFlags := 49
  interfaces := #[]
  cf := some (fileOf pool1 12 #[] #[{ accessFlags := 2, nameIndex := 5, descriptorIndex := 6, attributes := #[] }, { accessFlags := 9, nameIndex := 47, descriptorIndex := 48, attributes := #[] }, { accessFlags := 10, nameIndex := 15, descriptorIndex := 16, attributes := #[] }, { accessFlags := 10, nameIndex := 25, descriptorIndex := 26, attributes := #[] }] 49 2 #[] #[])
  fields := #[]
  methods := #[k1m0, k1m1, k1m2, k1m3]
  instanceTypes := #[]
  staticTypes := #[]
  resolved := Array.replicate 54 none
  statics := none }

def pool2 : Array CpInfo := pool [(1, .class_ 2), (0, u "com/example/tidemark/tidemark/RecordFormat"), (1, .class_ 6), (1, u "java/lang/Object"), (0, u "<init>"), (0, u "()V"), (20, .class_ 31), (1, u "com/example/tidemark/tidemark/RecordFormat$Checks"), (73, u "[B"), (12, u "HEADER_OFFSET"), (0, u "I"), (5, u "SEAL_OFFSET"), (71, u "MAGIC"), (3, u "([BIJ)I"), (43, .long 128), (7, u "putVarint"), (163, u "FRAME_SIZE"), (2, u "TRAILER_SIZE"), (1, u "OVERHEAD"), (1, u "SECTOR_SIZE"), (1, u "ZEROS_CHUNK_SIZE"), (1, u "VARINT_MAX_SIZE"), (1, u "VARINT_BITS"), (1, u "VARINT_MORE")] 125

def k2m0 : Method := { name := "<init>", desc := "()V", sig := { parameters := [], returnType := none }, accessFlags := 2, code := none }
def k2c1 : Code := { maxStack := 6, maxLocals := 7, code := prog_92_method_32_code, exceptionTable := #[], attributes := #[] }
def k2m1 : Method := { name := "putVarint", desc := "([BIJ)I", sig := { parameters := [(.array .byte), .int, .long], returnType := some .int }, accessFlags := 8, code := some k2c1 }
/-- com/example/tidemark/tidemark/RecordFormat -/
def k2 : Class := { plain "com/example/tidemark/tidemark/RecordFormat" (some 0) with
  accessFlags := 48
  interfaces := #[]
  cf := some (fileOf pool2 1 #[.nestMembers #[29]] #[{ accessFlags := 2, nameIndex := 7, descriptorIndex := 8, attributes := #[] }, { accessFlags := 8, nameIndex := 253, descriptorIndex := 201, attributes := #[] }] 48 4 #[] #[{ accessFlags := 24, nameIndex := 197, descriptorIndex := 105, attributes := #[] }, { accessFlags := 24, nameIndex := 125, descriptorIndex := 119, attributes := #[] }, { accessFlags := 24, nameIndex := 118, descriptorIndex := 119, attributes := #[] }, { accessFlags := 24, nameIndex := 417, descriptorIndex := 119, attributes := #[] }, { accessFlags := 24, nameIndex := 420, descriptorIndex := 119, attributes := #[] }, { accessFlags := 24, nameIndex := 422, descriptorIndex := 119, attributes := #[] }, { accessFlags := 24, nameIndex := 424, descriptorIndex := 119, attributes := #[] }, { accessFlags := 26, nameIndex := 426, descriptorIndex := 119, attributes := #[] }, { accessFlags := 24, nameIndex := 428, descriptorIndex := 119, attributes := #[] }, { accessFlags := 26, nameIndex := 430, descriptorIndex := 119, attributes := #[] }, { accessFlags := 26, nameIndex := 432, descriptorIndex := 119, attributes := #[] }])
  fields := #[{ name := "MAGIC", type := (.array .byte), accessFlags := 24, slot := 0, constantValue := 0 }, { name := "SEAL_OFFSET", type := .int, accessFlags := 24, slot := 1, constantValue := 0 }, { name := "HEADER_OFFSET", type := .int, accessFlags := 24, slot := 2, constantValue := 0 }, { name := "FRAME_SIZE", type := .int, accessFlags := 24, slot := 3, constantValue := 0 }, { name := "TRAILER_SIZE", type := .int, accessFlags := 24, slot := 4, constantValue := 0 }, { name := "OVERHEAD", type := .int, accessFlags := 24, slot := 5, constantValue := 0 }, { name := "SECTOR_SIZE", type := .int, accessFlags := 24, slot := 6, constantValue := 0 }, { name := "ZEROS_CHUNK_SIZE", type := .int, accessFlags := 26, slot := 7, constantValue := 0 }, { name := "VARINT_MAX_SIZE", type := .int, accessFlags := 24, slot := 8, constantValue := 0 }, { name := "VARINT_BITS", type := .int, accessFlags := 26, slot := 9, constantValue := 0 }, { name := "VARINT_MORE", type := .int, accessFlags := 26, slot := 10, constantValue := 0 }]
  methods := #[k2m0, k2m1]
  instanceTypes := #[]
  staticTypes := #[(.array .byte), .int, .int, .int, .int, .int, .int, .int, .int, .int, .int]
  resolved := Array.replicate 558 none
  statics := none }

def pool3 : Array CpInfo := pool [(1, u "java/lang/Cloneable"), (0, .class_ 1), (0, u "java/lang/Object"), (0, .class_ 3)] 3

/-- java/lang/Cloneable -/
def k3 : Class := { plain "java/lang/Cloneable" (some 0) with
  accessFlags := 1537
  interfaces := #[]
  cf := some (fileOf pool3 2 #[] #[] 1537 4 #[] #[])
  fields := #[]
  methods := #[]
  instanceTypes := #[]
  staticTypes := #[]
  resolved := Array.replicate 8 none
  statics := none }

def pool4 : Array CpInfo := pool [(1, u "java/io/Serializable"), (0, .class_ 1), (0, u "java/lang/Object"), (0, .class_ 3)] 3

/-- java/io/Serializable -/
def k4 : Class := { plain "java/io/Serializable" (some 0) with
  accessFlags := 1537
  interfaces := #[]
  cf := some (fileOf pool4 2 #[] #[] 1537 4 #[] #[])
  fields := #[]
  methods := #[]
  instanceTypes := #[]
  staticTypes := #[]
  resolved := Array.replicate 8 none
  statics := none }

/-- the primitive byte -/
def k5 : Class := { plain "byte" none with kind := .primitive 'B', accessFlags := 0x411 }
/-- [B -/
def k6 : Class := { plain "[B" (some 0) with kind := .array 5 .byte, interfaces := #[3, 4], accessFlags := 1041 }

/-- the primitive int -/
def k7 : Class := { plain "int" none with kind := .primitive 'I', accessFlags := 0x411 }
/-- [I -/
def k8 : Class := { plain "[I" (some 0) with kind := .array 7 .int, interfaces := #[3, 4], accessFlags := 1041 }

def heap : Heap := #[]
def classes : Array Class := #[k0, k1, k2, k3, k4, k5, k6, k7, k8]
def interned : List (Array UInt16 × Addr) := []
def slotsUsed : Nat := 0
def theMethod : MethodId := ⟨1, 1⟩
def args0 : Array Value := #[.long 5, .int 6, .int 7, .int 8]
def aboutOver (below : List Frame) : State where
  vm := { classes := classes, interned := interned.toArray }
  heap := heap
  slotsUsed := slotsUsed
  threads := #[{ frames := .invoking theMethod args0 :: below }]
def below0 : List Frame := [.native { method := ⟨0, 0⟩, args := #[] }]
def about1 : State := aboutOver below0
def p0 : Program := .bare "" "" ""
def e0 : Env := launch0.env 0 0 0
theorem w_frames : about1.frames = Frame.invoking theMethod args0 :: below0 := rfl
set_option maxRecDepth 65536 in
theorem w_args : argsFit about1.vm theMethod args0 = true := by decide +kernel
set_option maxRecDepth 65536 in
theorem w_heap : heapFits about1 = true := by decide +kernel
set_option maxRecDepth 65536 in
theorem w_runnable : about1.curStatus? = some .runnable := by decide +kernel
set_option maxRecDepth 65536 in
theorem w_alone : about1.alone = true := by decide +kernel
set_option maxRecDepth 65536 in
theorem w_named : about1.methodNamed? x = some theMethod := by decide +kernel
set_option maxRecDepth 65536 in
theorem w_hears : about1.hears theMethod below0 = true := by decide +kernel
set_option maxRecDepth 65536 in
theorem w_ripe : about1.ripe theMethod args0 below0 = true := by decide +kernel
theorem w_running : about1.status = .running := rfl
set_option maxRecDepth 65536 in
theorem w_room : about1.hasRoom e0.platform room_1 = true :=
  launch0.hasRoom_least _ room_1 (by decide +kernel) (by decide +kernel) (by decide +kernel) (by decide +kernel) (by decide +kernel) (by decide +kernel)
theorem allAtoms_all (ts : List Jvm.Cond) (a : Array Jvm.Value) (st : Jvm.State) : (allAtoms ts).before a st = ts.all (fun c => c.before a st) := by
  induction ts with
  | nil => rfl
  | cons c t ih =>
    show (Jvm.Cond.and c (allAtoms t)).before a st = _
    rw [Jvm.Cond.before_and, ih, List.all_cons]
def words1 : List Jvm.Cond := Jvm.Cond.code x code maxLocals ret :: tables_1
/-- a 'code' word, met by the world's own term for the bytes: nothing is compared byte by byte -/
theorem code_word {y : MethodName} {bytes : ByteArray} {mx : Nat} {rt : Option FieldType} {a : Array Value} {s : State} {m : MethodId} {meth : Method} {c : Code} (h1 : s.methodNamed? y = some m) (h2 : s.vm.method? m = some meth) (h3 : meth.code = some c) (h4 : c.code = bytes)
    (h5 : (c.maxLocals == mx && c.exceptionTable.isEmpty && decide (c.maxStack ≤ mostOperands) && decide (meth.sig.returnType = rt) && !meth.locks && decide (parseMethodDescriptor y.desc = some meth.sig)) = true) : (Jvm.Cond.code y bytes mx rt).before a s = true := by
  simp only [Bool.and_eq_true, beq_iff_eq, Bool.not_eq_true', decide_eq_true_eq] at h5
  obtain ⟨⟨⟨⟨⟨g1, g2⟩, g3⟩, g4⟩, g5⟩, g6⟩ := h5
  simp [Cond.before, Cond.holds, Cond.value, h1, h2, h3, h4, g1, g2, g3, g4, g5, g6]
def isCode : Jvm.Cond → Bool
  | .code _ _ _ _ => true
  | _ => false
theorem all_split {L : List Jvm.Cond} {P : Jvm.Cond → Bool} (h1 : L.all (fun c => isCode c || P c) = true) (h2 : ∀ c ∈ L.filter isCode, P c = true) : L.all P = true := by
  refine List.all_eq_true.mpr fun c hc => ?_
  have h := List.all_eq_true.mp h1 c hc
  rcases Bool.eq_false_or_eq_true (isCode c) with hi | hi
  · exact h2 c (List.mem_filter.mpr ⟨hc, hi⟩)
  · simpa [hi] using h
set_option maxRecDepth 65536 in
theorem w_c0 : (Jvm.Cond.code x code maxLocals ret).before args0 about1 = true := code_word (m := ⟨1, 1⟩) (meth := k1m1) (c := k1c1) (by decide +kernel) rfl rfl rfl (by decide +kernel)
set_option maxRecDepth 65536 in
theorem w_c1 : (Jvm.Cond.code ({ cls := "com/example/tidemark/tidemark/RecordFormatPutVarintPinLaw", name := "size", desc := "(J)I" } : Jvm.MethodName) method_3_code (2 : Nat) (Option.some Jvm.ClassFile.FieldType.int)).before args0 about1 = true := code_word (m := ⟨1, 2⟩) (meth := k1m2) (c := k1c2) (by decide +kernel) rfl rfl rfl (by decide +kernel)
set_option maxRecDepth 65536 in
theorem w_c2 : (Jvm.Cond.code ({ cls := "com/example/tidemark/tidemark/RecordFormat", name := "putVarint", desc := "([BIJ)I" } : Jvm.MethodName) prog_92_method_32_code (7 : Nat) (Option.some Jvm.ClassFile.FieldType.int)).before args0 about1 = true := code_word (m := ⟨2, 1⟩) (meth := k2m1) (c := k2c1) (by decide +kernel) rfl rfl rfl (by decide +kernel)
set_option maxRecDepth 65536 in
theorem w_c3 : (Jvm.Cond.code ({ cls := "com/example/tidemark/tidemark/RecordFormatPutVarintPinLaw", name := "check", desc := "([BIIIJB)Z" } : Jvm.MethodName) method_4_code (9 : Nat) (Option.some Jvm.ClassFile.FieldType.boolean)).before args0 about1 = true := code_word (m := ⟨1, 3⟩) (meth := k1m3) (c := k1c3) (by decide +kernel) rfl rfl rfl (by decide +kernel)
def codes1 : List Jvm.Cond := [Jvm.Cond.code x code maxLocals ret, Jvm.Cond.code ({ cls := "com/example/tidemark/tidemark/RecordFormatPutVarintPinLaw", name := "size", desc := "(J)I" } : Jvm.MethodName) method_3_code (2 : Nat) (Option.some Jvm.ClassFile.FieldType.int), Jvm.Cond.code ({ cls := "com/example/tidemark/tidemark/RecordFormat", name := "putVarint", desc := "([BIJ)I" } : Jvm.MethodName) prog_92_method_32_code (7 : Nat) (Option.some Jvm.ClassFile.FieldType.int), Jvm.Cond.code ({ cls := "com/example/tidemark/tidemark/RecordFormatPutVarintPinLaw", name := "check", desc := "([BIIIJB)Z" } : Jvm.MethodName) method_4_code (9 : Nat) (Option.some Jvm.ClassFile.FieldType.boolean)]
set_option maxRecDepth 65536 in
theorem codes_eq : words1.filter isCode = codes1 := rfl
theorem w_codes : ∀ c ∈ words1.filter isCode, c.before args0 about1 = true := by
  rw [codes_eq]
  intro c hc
  simp only [codes1, List.mem_cons, List.not_mem_nil, or_false] at hc
  rcases hc with rfl | rfl | rfl | rfl
  · exact w_c0
  · exact w_c1
  · exact w_c2
  · exact w_c3
set_option maxRecDepth 65536 in
theorem w_t1 : words1.all (fun c => isCode c || c.before args0 about1) = true := by decide +kernel
theorem w_tables : (allAtoms (Jvm.Cond.code x code maxLocals ret :: tables_1)).before args0 about1 = true := by
  rw [allAtoms_all]
  show words1.all (fun c => c.before args0 about1) = true
  refine all_split ?_ w_codes
  rw [w_t1]
set_option maxRecDepth 65536 in
theorem w_case : (Jvm.Cond.and given_1 narrow_1).before args0 about1 = true := by decide +kernel
theorem w_applies : (headSpec (Jvm.Cond.code x code maxLocals ret :: tables_1) room_1).applies x e0.platform about1 = true :=
  (Spec.applies_iff w_frames).mpr ⟨w_running, w_runnable, w_alone, w_named, w_hears, w_ripe, w_room, w_tables⟩
theorem atStart : AtStart classFile x code maxLocals ret World_1 tables_1 room_1 Calls_1 rest_1 Pre_1 launch0 p0 e0 about1 theMethod args0 below0 :=
  ⟨lists_1, trivial, launch0.admits_env _ _ _, launch0.least_env, fairChoices_fair.cas, fairChoices_fair.clock, w_frames, w_args, w_heap, w_applies, trivial, trivial, w_case⟩
end start1
theorem witness_1 : WitnessClaimed_1 := ⟨start1.p0, start1.e0, start1.about1, start1.theMethod, start1.args0, start1.below0, start1.atStart⟩
end Jvm.Pilot.@@N@@
