import JvmDerived
import JvmDerived.Pilot.@@N@@Statement
import JvmDerived.Pilot.@@N@@Code
set_option linter.unusedVariables false
set_option linter.unusedSimpArgs false
namespace Jvm.Own
open Jvm Jvm.ClassFile Sem Op Lib Jvm.Free Jvm.Stand Jvm.LawKit Jvm.RoadKit Bundle

/-! a calculus of walks, over the library's step laws -/
def Wk (Z : State) (own nm : String) (bytes : ByteArray) (ml : Nat) (ret : Option FieldType) (R : Room) (n0 : Nat) (p : Program) (l : Launch) (e : Env) (s : State) (m : MethodId) (args : Array Value) (below : List Frame) (meth : Method) (c : Code) (T : State) (cells slots : Nat) (h : Heap) : Prop :=
  ∃ locs, Stand p l e R s m args below meth c T locs cells slots ∧ Fr n0 locs ∧ T.heap = h ∧ n0 ≤ s.heap.size ∧ p.tables.exec = Jvm.exec ∧ Z.Warmed39 s.vm ∧ c.code = bytes ∧ c.maxLocals = ml ∧ s.vm.findClass own = some m.cls ∧ meth.name = nm ∧ meth.sig.returnType = ret ∧ meth.locks = false
def Goes (p : Program) (e : Env) (below : List Frame) (s : State) (R : Room) (n0 : Nat) (Q : Option Value → Heap → Prop) (t : State) : Prop :=
  ∃ s₂ o, Steps p.tables e below t s₂ ∧ s₂.status = .running ∧ Ended s₂ below o ∧ ∃ v L, o = .returned v ∧ (Fr n0 L ∧ Q v s₂.heap) ∧ FrameEnd s o s₂ L R.cells R.slots
def Met (l : Launch) (Z : State) (y : MethodName) (bytes : ByteArray) (ml : Nat) (ret : Option FieldType) (R : Room) (ws : List Jvm.Cond) (n0 : Nat) (as : Array Value) (h0 : Heap) (Q : Option Value → Heap → Prop) : Prop :=
  MetFree l y (head1 (Jvm.Cond.code y bytes ml ret :: ws) R) (fun a U => a = as ∧ Z.Warmed39 U.vm ∧ U.heap = h0) (fun _ _ _ _ _ => True) (fun _ U o U' => ∃ v L, o = .returned v ∧ (Fr n0 L ∧ Q v U'.heap) ∧ FrameEnd U o U' L R.cells R.slots)
def bI (c : Prop) [Decidable c] : Int32 := if c then 1 else 0
theorem bI_t {c : Prop} [Decidable c] (h : c) : (1 : Int32) = bI c := (if_pos h).symm
theorem bI_f {c : Prop} [Decidable c] (h : ¬ c) : (0 : Int32) = bI c := (if_neg h).symm
theorem bI_01 (c : Prop) [Decidable c] : bI c = 0 ∨ bI c = 1 := by unfold bI; split <;> simp
theorem bI_eq0 (c : Prop) [Decidable c] : bI c = 0 ↔ ¬ c := by unfold bI; split <;> simp_all
theorem bI_eq1 (c : Prop) [Decidable c] : bI c = 1 ↔ c := by unfold bI; split <;> simp_all
theorem bI_inj (c d : Prop) [Decidable c] [Decidable d] : bI c = bI d ↔ (c ↔ d) := by unfold bI; split <;> split <;> simp_all
theorem bI_cong {c d : Prop} [Decidable c] [Decidable d] (h : c ↔ d) : bI c = bI d := (bI_inj c d).mpr h
def pcI (cd : ClassFile.Cond) (x y : Int32) : Prop := match cd with
  | .lt | .ge => x < y
  | .gt | .le => y < x
  | .eq | .ne => x = y
def pcJ (cd : ClassFile.Cond) (x y : Int64) : Prop := match cd with
  | .lt | .ge => x < y
  | .gt | .le => y < x
  | .eq | .ne => x = y

theorem own_selP {Z : State} {a0 : Array Value} {y : MethodName} {n : Nat} (wi : (Jvm.Cond.instantiable y.cls n).before a0 Z = true) (w6 : (Jvm.Cond.instanceMethod y).before a0 Z = true) (w7 : (Jvm.Cond.privateMethod y).before a0 Z = true) (hy : y.cls ≠ "java/lang/invoke/MethodHandle" ∧ y.cls ≠ "java/lang/invoke/VarHandle") : (Jvm.Cond.selects y.cls y y).before a0 Z = true := by
  obtain ⟨c, k, hc, hk, -, hf, -⟩ := Cond.instantiable_spec (show (Jvm.Cond.instantiable y.cls n).holds a0 Z none Z [] = true from wi)
  exact selects_self_of_private hc hk ((Bool.or_eq_false_iff.mp hf).1) (Cond.privateMethod_at w7) w6 hy
theorem own_bI01 (c : Prop) [Decidable c] : (c ∧ (bI c).toInt = 1) ∨ (¬ c ∧ (bI c).toInt = 0) := by unfold bI; split <;> simp_all
theorem own_mask' (m x : Int32) (k : Nat) (hk : k ≤ 31) (hm : m.toBitVec.toNat = 2 ^ k - 1) : (m &&& x).toInt = x.toInt % (2 ^ k : Nat) := by rw [Int32.and_comm]; exact c_mask x m k hk hm
theorem own_maskL' (m x : Int64) (k : Nat) (hk : k ≤ 63) (hm : m.toBitVec.toNat = 2 ^ k - 1) : (m &&& x).toInt = x.toInt % (2 ^ k : Nat) := by rw [Int64.and_comm]; exact c_maskL x m k hk hm
theorem own_mB (x m : Int32) (k : Nat) (hk : k ≤ 31) (hm : m.toBitVec.toNat = 2 ^ k - 1) (M : Nat) (hM : M + 1 = 2 ^ k) : 0 ≤ (x &&& m).toInt ∧ (x &&& m).toInt ≤ M := by
  rw [c_mask x m k hk hm, ← hM]; have a := Int.emod_nonneg x.toInt (b := ((M + 1 : Nat) : Int)) (by omega); have b := Int.emod_lt_of_pos x.toInt (b := ((M + 1 : Nat) : Int)) (by omega); omega
theorem own_mBL (x m : Int64) (k : Nat) (hk : k ≤ 63) (hm : m.toBitVec.toNat = 2 ^ k - 1) (M : Nat) (hM : M + 1 = 2 ^ k) : 0 ≤ (x &&& m).toInt ∧ (x &&& m).toInt ≤ M := by
  rw [c_maskL x m k hk hm, ← hM]; have a := Int.emod_nonneg x.toInt (b := ((M + 1 : Nat) : Int)) (by omega); have b := Int.emod_lt_of_pos x.toInt (b := ((M + 1 : Nat) : Int)) (by omega); omega
theorem own_mB' (m x : Int32) (k : Nat) (hk : k ≤ 31) (hm : m.toBitVec.toNat = 2 ^ k - 1) (M : Nat) (hM : M + 1 = 2 ^ k) : 0 ≤ (m &&& x).toInt ∧ (m &&& x).toInt ≤ M := by rw [Int32.and_comm]; exact own_mB x m k hk hm M hM
theorem own_mBL' (m x : Int64) (k : Nat) (hk : k ≤ 63) (hm : m.toBitVec.toNat = 2 ^ k - 1) (M : Nat) (hM : M + 1 = 2 ^ k) : 0 ≤ (m &&& x).toInt ∧ (m &&& x).toInt ≤ M := by rw [Int64.and_comm]; exact own_mBL x m k hk hm M hM
theorem own_iaddE (x y : Int32) (h : -2147483648 ≤ x.toInt + y.toInt ∧ x.toInt + y.toInt < 2147483648) : (x + y).toInt = x.toInt + y.toInt := by
  have a := c_iadd x y; have b := rng32 (x + y); omega
theorem own_isubE (x y : Int32) (h : -2147483648 ≤ x.toInt - y.toInt ∧ x.toInt - y.toInt < 2147483648) : (x - y).toInt = x.toInt - y.toInt := by
  have a := c_isub x y; have b := rng32 (x - y); omega
theorem own_imulE (x y : Int32) (h : -2147483648 ≤ x.toInt * y.toInt ∧ x.toInt * y.toInt < 2147483648) : (x * y).toInt = x.toInt * y.toInt := by
  have a := c_imul x y; have b := rng32 (x * y); omega
theorem own_inegE (x : Int32) (h : -2147483648 ≤ -x.toInt ∧ -x.toInt < 2147483648) : (-x).toInt = -x.toInt := by
  have a := c_ineg x; have b := rng32 (-x); omega
theorem own_laddE (x y : Int64) (h : -9223372036854775808 ≤ x.toInt + y.toInt ∧ x.toInt + y.toInt < 9223372036854775808) : (x + y).toInt = x.toInt + y.toInt := by
  have a := c_ladd x y; have b := rng64 (x + y); omega
theorem own_lsubE (x y : Int64) (h : -9223372036854775808 ≤ x.toInt - y.toInt ∧ x.toInt - y.toInt < 9223372036854775808) : (x - y).toInt = x.toInt - y.toInt := by
  have a := c_lsub x y; have b := rng64 (x - y); omega
theorem own_lmulE (x y : Int64) (h : -9223372036854775808 ≤ x.toInt * y.toInt ∧ x.toInt * y.toInt < 9223372036854775808) : (x * y).toInt = x.toInt * y.toInt := by
  have a := c_lmul x y; have b := rng64 (x * y); omega
theorem own_lnegE (x : Int64) (h : -9223372036854775808 ≤ -x.toInt ∧ -x.toInt < 9223372036854775808) : (-x).toInt = -x.toInt := by
  have a := c_lneg x; have b := rng64 (-x); omega
theorem own_l2iE (x : Int64) (h : -2147483648 ≤ x.toInt ∧ x.toInt < 2147483648) : x.toInt32.toInt = x.toInt := by
  have a := c_l2i x; have b := rng32 x.toInt32; omega
theorem own_ushB (x q : Int32) (k : Nat) (hk : q.toBitVec.toNat % 32 = k) (h0 : 0 < k) (M : Nat) (hM : M * 2 ^ k = 4294967296) : 0 ≤ ((x.toUInt32 >>> (q &&& 31).toUInt32).toInt32).toInt ∧ ((x.toUInt32 >>> (q &&& 31).toUInt32).toInt32).toInt < M := by
  rw [c_iushr x q k hk h0]
  have h2 : (0 : Int) < ((2 ^ k : Nat) : Int) := Int.natCast_pos.mpr (Nat.pow_pos (by decide))
  refine ⟨Int.ediv_nonneg (by omega) (Int.le_of_lt h2), Int.ediv_lt_of_lt_mul h2 ?_⟩
  have q : ((M : Int)) * ((2 ^ k : Nat) : Int) = 4294967296 := by rw [← Int.natCast_mul, hM]; rfl
  omega
theorem own_irem (x y : Int32) (d : Int) (hy : y.toInt = d) : (0 ≤ x.toInt → (x % y).toInt = x.toInt % d) ∧ (x.toInt < 0 → (x % y).toInt = -((-x.toInt) % d)) := c_irem x y d hy
theorem own_lrem (x y : Int64) (d : Int) (hy : y.toInt = d) : (0 ≤ x.toInt → (x % y).toInt = x.toInt % d) ∧ (x.toInt < 0 → (x % y).toInt = -((-x.toInt) % d)) := by rw [← lrem_mod]; exact c_lrem x y d hy
theorem own_iremV (x y : Int32) : (0 ≤ x.toInt → 0 < y.toInt → 0 ≤ (x % y).toInt ∧ (x % y).toInt < y.toInt ∧ (x % y).toInt ≤ x.toInt) := fun h1 h2 => ⟨((c_iremV x y).1 h1 h2).1, ((c_iremV x y).1 h1 h2).2.1, ((c_iremV x y).1 h1 h2).2.2.1⟩
theorem own_emod_le {a b : Int} (h1 : 0 ≤ a) (h2 : 0 < b) : a % b ≤ a := by
  have q := Int.emod_add_mul_ediv a b; have z : 0 ≤ b * (a / b) := Int.mul_nonneg (Int.le_of_lt h2) (Int.ediv_nonneg h1 (Int.le_of_lt h2)); omega
theorem own_lremV (x y : Int64) : (0 ≤ x.toInt → 0 < y.toInt → 0 ≤ (x % y).toInt ∧ (x % y).toInt < y.toInt ∧ (x % y).toInt ≤ x.toInt) := fun h1 h2 => by
  rw [Int64.toInt_mod, Int.tmod_eq_emod_of_nonneg h1]
  exact ⟨Int.emod_nonneg _ (by omega), Int.emod_lt_of_pos _ h2, own_emod_le h1 h2⟩
theorem own_iremP (x y : Int32) (d : Int) (hy : y.toInt = d) (h0 : 0 ≤ x.toInt) : (x % y).toInt = x.toInt % d := (own_irem x y d hy).1 h0
theorem own_iremB (x y : Int32) (d : Int) (hy : y.toInt = d) (hd : 0 < d) (h0 : 0 ≤ x.toInt) : 0 ≤ (x % y).toInt ∧ (x % y).toInt < d ∧ (x % y).toInt ≤ x.toInt := by
  rw [own_iremP x y d hy h0]; exact ⟨Int.emod_nonneg _ (by omega), Int.emod_lt_of_pos _ hd, own_emod_le h0 hd⟩
theorem own_iremM (x y : Int32) (d : Int) (hy : y.toInt = d) (hd : 0 < d) : -d < (x % y).toInt ∧ (x % y).toInt < d := by
  rcases Int.lt_or_le x.toInt 0 with h | h
  · rw [(own_irem x y d hy).2 h]; have a := Int.emod_nonneg (-x.toInt) (b := d) (by omega); have b := Int.emod_lt_of_pos (-x.toInt) hd; omega
  · have q := own_iremB x y d hy hd h; omega
theorem own_lremP (x y : Int64) (d : Int) (hy : y.toInt = d) (h0 : 0 ≤ x.toInt) : (x % y).toInt = x.toInt % d := (own_lrem x y d hy).1 h0
theorem own_lremB (x y : Int64) (d : Int) (hy : y.toInt = d) (hd : 0 < d) (h0 : 0 ≤ x.toInt) : 0 ≤ (x % y).toInt ∧ (x % y).toInt < d ∧ (x % y).toInt ≤ x.toInt := by
  rw [own_lremP x y d hy h0]; exact ⟨Int.emod_nonneg _ (by omega), Int.emod_lt_of_pos _ hd, own_emod_le h0 hd⟩
theorem own_lremM (x y : Int64) (d : Int) (hy : y.toInt = d) (hd : 0 < d) : -d < (x % y).toInt ∧ (x % y).toInt < d := by
  rcases Int.lt_or_le x.toInt 0 with h | h
  · rw [(own_lrem x y d hy).2 h]; have a := Int.emod_nonneg (-x.toInt) (b := d) (by omega); have b := Int.emod_lt_of_pos (-x.toInt) hd; omega
  · have q := own_lremB x y d hy hd h; omega
theorem own_bor (A B : Prop) [Decidable A] [Decidable B] : bI A ||| bI B = bI (A ∨ B) := by unfold bI; by_cases a : A <;> by_cases b : B <;> simp [a, b] <;> decide
theorem own_band (A B : Prop) [Decidable A] [Decidable B] : bI A &&& bI B = bI (A ∧ B) := by unfold bI; by_cases a : A <;> by_cases b : B <;> simp [a, b] <;> decide
def Apart (a b : Addr) : Prop := a ≠ b
theorem own_apS {a b : Addr} (h : Apart a b) : Apart b a := Ne.symm h
theorem own_new {h : Heap} {a b : Addr} (hb : b = h.size) (ha : a < h.size) : Apart a b := by subst hb; exact Nat.ne_of_lt ha
theorem own_sz {h0 h : Heap} {b : Addr} {ws : List Addr} (hb : b = h.size) (K : Keep h0 h ws) : h0.size ≤ b := by subst hb; exact K.1
theorem own_far {h : Heap} {a b : Addr} (ha : a < h.size) (hb : h.size ≤ b) : Apart a b := Nat.ne_of_lt (Nat.lt_of_lt_of_le ha hb)
theorem own_narZ {z : Int32} (hz : z = 0 ∨ z = 1) : narrow .boolean (.int z) = .int z := by rcases hz with rfl | rfl <;> rfl
theorem own_fitZ {z : Int32} (hz : z = 0 ∨ z = 1) : fits .boolean (.int z) = true := by rcases hz with rfl | rfl <;> rfl
theorem own_narZ' {z : Int32} (hz : z = 0 ∨ z = 1) : nar .boolean z = z := by rcases hz with rfl | rfl <;> rfl
theorem own_fin {c : Prop} [Decidable c] (h : c) : (some (Value.int (bI c))) = some (Value.int 1) := by rw [← bI_t h]
def own_up {α : Type} (f : Nat → α) (i : Nat) (x : α) : Nat → α := fun k => if k = i then x else f k
def AI (Z : State) (h : Heap) (a : Addr) (ty : FieldType) (n : Nat) (f : Nat → Int32) : Prop := n < 2 ^ 31 ∧ ∃ c : Cell, Arr Z h a c ty ∧ c.slots.size = n ∧ ∀ j, j < n → c.slots[j]? = some (.int (f j))
def AJ (Z : State) (h : Heap) (a : Addr) (n : Nat) (f : Nat → Int64) : Prop := n < 2 ^ 31 ∧ ∃ c : Cell, Arr Z h a c .long ∧ c.slots.size = n ∧ ∀ j, j < n → c.slots[j]? = some (.long (f j))
theorem AI.lt {Z : State} {h : Heap} {a : Addr} {ty : FieldType} {n : Nat} {f : Nat → Int32} (A : AI Z h a ty n f) : a < h.size := by obtain ⟨_, c, A, _⟩ := A; exact A.lt
theorem AI.ext {Z : State} {h h' : Heap} {a : Addr} {ty : FieldType} {n : Nat} {f : Nat → Int32} (A : AI Z h a ty n f) (E : Ext h h') : AI Z h' a ty n f := by obtain ⟨q, c, A, r⟩ := A; exact ⟨q, c, A.ext E, r⟩
theorem AI.keep {Z : State} {h h' : Heap} {a : Addr} {ws : List Addr} {ty : FieldType} {n : Nat} {f : Nat → Int32} (A : AI Z h a ty n f) (K : Keep h h' ws) (q : a ∉ ws) : AI Z h' a ty n f := by obtain ⟨z, c, A, r⟩ := A; exact ⟨z, c, ⟨K.2.1 a c A.1 q, A.2⟩, r⟩
theorem AI.other {Z : State} {h h' : Heap} {a b : Addr} {sl : Nat} {w : Value} {ty : FieldType} {n : Nat} {f : Nat → Int32} (A : AI Z h a ty n f) (W : Wr h h' b sl w) (q : a ≠ b) : AI Z h' a ty n f := by obtain ⟨z, c, A, r⟩ := A; exact ⟨z, c, A.other W q, r⟩
theorem AI.set {Z : State} {h h' : Heap} {a : Addr} {i : Nat} {x : Int32} {ty : FieldType} {n : Nat} {f : Nat → Int32} (A : AI Z h a ty n f) (W : Wr h h' a i (.int x)) : AI Z h' a ty n (own_up f i x) := by
  obtain ⟨z, c, A, r1, r2⟩ := A
  refine ⟨z, _, A.same W, by rw [sz_set]; exact r1, fun j hj => ?_⟩
  by_cases q : j = i
  · subst q; simp [Cell.setSlot, own_up, r1, hj]
  · simp only [Cell.setSlot, own_up, if_neg q]; rw [Array.getElem?_setIfInBounds_ne (Ne.symm q)]; exact r2 j hj
theorem AI.to {Z : State} {h : Heap} {a : Addr} {ty : FieldType} {n : Nat} {f g : Nat → Int32} (A : AI Z h a ty n f) (q : ∀ j, j < n → f j = g j) : AI Z h a ty n g := by obtain ⟨z, c, A, r1, r2⟩ := A; exact ⟨z, c, A, r1, fun j hj => by rw [← q j hj]; exact r2 j hj⟩
theorem AJ.lt {Z : State} {h : Heap} {a : Addr} {n : Nat} {f : Nat → Int64} (A : AJ Z h a n f) : a < h.size := by obtain ⟨_, c, A, _⟩ := A; exact A.lt
theorem AJ.ext {Z : State} {h h' : Heap} {a : Addr} {n : Nat} {f : Nat → Int64} (A : AJ Z h a n f) (E : Ext h h') : AJ Z h' a n f := by obtain ⟨q, c, A, r⟩ := A; exact ⟨q, c, A.ext E, r⟩
theorem AJ.keep {Z : State} {h h' : Heap} {a : Addr} {ws : List Addr} {n : Nat} {f : Nat → Int64} (A : AJ Z h a n f) (K : Keep h h' ws) (q : a ∉ ws) : AJ Z h' a n f := by obtain ⟨z, c, A, r⟩ := A; exact ⟨z, c, ⟨K.2.1 a c A.1 q, A.2⟩, r⟩
theorem AJ.other {Z : State} {h h' : Heap} {a b : Addr} {sl : Nat} {w : Value} {n : Nat} {f : Nat → Int64} (A : AJ Z h a n f) (W : Wr h h' b sl w) (q : a ≠ b) : AJ Z h' a n f := by obtain ⟨z, c, A, r⟩ := A; exact ⟨z, c, A.other W q, r⟩
theorem AJ.set {Z : State} {h h' : Heap} {a : Addr} {i : Nat} {x : Int64} {n : Nat} {f : Nat → Int64} (A : AJ Z h a n f) (W : Wr h h' a i (.long x)) : AJ Z h' a n (own_up f i x) := by
  obtain ⟨z, c, A, r1, r2⟩ := A
  refine ⟨z, _, A.same W, by rw [sz_set]; exact r1, fun j hj => ?_⟩
  by_cases q : j = i
  · subst q; simp [Cell.setSlot, own_up, r1, hj]
  · simp only [Cell.setSlot, own_up, if_neg q]; rw [Array.getElem?_setIfInBounds_ne (Ne.symm q)]; exact r2 j hj
theorem AJ.to {Z : State} {h : Heap} {a : Addr} {n : Nat} {f g : Nat → Int64} (A : AJ Z h a n f) (q : ∀ j, j < n → f j = g j) : AJ Z h a n g := by obtain ⟨z, c, A, r1, r2⟩ := A; exact ⟨z, c, A, r1, fun j hj => by rw [← q j hj]; exact r2 j hj⟩
theorem own_clN {n : Nat} (z : n < 2 ^ 31) : (Int32.ofNat n).toNatClampNeg = n ∧ ¬ Int32.ofNat n < 0 := by
  have q : (Int32.ofNat n).toInt = n := Int32.toInt_ofNat_small z
  constructor
  · simp only [Int32.toNatClampNeg, q]; omega
  · rw [Int32.lt_iff_toInt_lt, q]; simp only [Int32.reduceToInt]; omega
theorem own_rg (n : Nat) (f : Nat → Value) (d : Value) (i : Nat) (hi : i < n) : ((List.range n).map f).getD i d = f i := by simp [List.getD_eq_getElem?_getD, hi]
theorem own_arv {Z : State} {h : Heap} {a : Addr} {n : Nat} {f : Nat → Int64} (A : AJ Z h a n f) : ∃ k, Arv Z h a k .long (Int32.ofNat n) ((List.range n).map fun j => Value.long (f j)) (.long 0) := by
  obtain ⟨z, c, A, s1, e1⟩ := A
  have q := own_clN z
  refine ⟨c.cls, c, A, rfl, by rw [q.1]; exact s1, q.2, fun i hi => ?_, fun i hi => ?_⟩
  · rw [own_rg n _ _ i (by omega)]; exact e1 i (by omega)
  · rw [own_rg n _ _ i (by omega)]; rfl
theorem own_arvB {Z : State} {h : Heap} {b : Addr} {k : ClassId} {n : Nat} {vs : List Value} {f : Nat → Int64} (z : n < 2 ^ 31) (B : Arv Z h b k .long (Int32.ofNat n) vs (.long 0)) (q : ∀ j, j < n → vs.getD j (.long 0) = .long (f j)) : AJ Z h b n f := by
  obtain ⟨c, B1, -, s, -, H, -⟩ := B
  rw [(own_clN z).1] at s
  exact ⟨z, c, B1, s, fun j hj => by rw [H j (by omega), q j hj]⟩
theorem own_cpl (n n' k : Nat) (f f' : Nat → Int64) (h1 : k ≤ n) (h2 : k ≤ n') (j : Nat) (hj : j < n') : (((List.range n').map fun j => Value.long (f' j)).take 0 ++ ((List.range k).map fun i => ((List.range n).map fun j => Value.long (f j)).getD (0 + i) (.long 0)) ++ ((List.range n').map fun j => Value.long (f' j)).drop (0 + k)).getD j (.long 0) = .long (if j < k then f j else f' j) := by
  rw [List.take_zero, List.nil_append, List.getD_eq_getElem?_getD]
  by_cases q : j < k
  · rw [List.getElem?_append_left (by simpa using q), if_pos q, List.getElem?_map, List.getElem?_range q, Option.map_some, Option.getD_some, Nat.zero_add, own_rg n _ _ j (by omega)]
  · rw [List.getElem?_append_right (by simpa using q), if_neg q, List.getElem?_drop, List.length_map, List.length_range, Nat.zero_add, List.getElem?_map, show k + (j - k) = j by omega, List.getElem?_range hj, Option.map_some, Option.getD_some]
theorem own_ix {j : Int32} {n k : Nat} (hk : k = n) (q : 0 ≤ j.toInt ∧ j.toInt < n) : ¬ (j < 0 ∨ k ≤ j.toNatClampNeg) := by
  simp only [Int32.lt_iff_toInt_lt, Int32.toNatClampNeg, Int32.reduceToInt]; omega
theorem own_ixn {j : Int32} {n : Nat} (q : 0 ≤ j.toInt ∧ j.toInt < n) : j.toNatClampNeg < n := by simp only [Int32.toNatClampNeg]; omega
section Walk
variable {Z : State} {a0 : Array Value} {own nm : String} {bytes : ByteArray} {ml : Nat} {ret : Option FieldType} {R : Room} {n0 : Nat} {p : Program} {l : Launch} {e : Env} {s : State} {m : MethodId} {args : Array Value} {below : List Frame} {meth : Method} {c : Code} {T : State} {cells slots : Nat} {h : Heap} {Q : Option Value → Heap → Prop}
theorem Met.intro {y : MethodName} {as : Array Value} {h0 : Heap} {ws : List Jvm.Cond} (hp : plainFor y = true) (hn : n0 ≤ h0.size)
    (body : ∀ p e s m below meth c T, Wk Z y.cls y.name bytes ml ret R n0 p l e s m as below meth c T 0 0 h0 → Goes p e below s R n0 Q (T.setTop (entryFrame m as ml))) : Met l Z y bytes ml ret R ws n0 as h0 Q := by
  refine MetFree.of_bodySF hp hisR ?_
  intro p e s m args below meth c s₁ Bd hml0 hP hK
  obtain ⟨rfl, hZ, hh⟩ := hP
  have e0 : s₁.heap = h0 := by rw [← hh, Bd.state]; rfl
  exact body p e s m below meth c s₁ ⟨[], Stand.of_body Bd, Fr.nil n0, e0, by rw [hh]; exact hn, Bd.exec, hZ, Bd.bytes, hml0, findClass_of_methodNamed Bd.named, (name_of_methodNamed Bd.named Bd.method).1, Bd.returns, Bd.notSynchronized⟩
theorem g_of {A B : State} (hs : ∀ t, Steps p.tables e below A t → Steps p.tables e below B t) (k : Goes p e below s R n0 Q A) : Goes p e below s R n0 Q B := by
  obtain ⟨s2, o, h1, h2⟩ := k
  exact ⟨s2, o, hs _ h1, h2⟩
theorem g_cast {g g' : JFrame} (q : g = g') (k : Goes p e below s R n0 Q (T.setTop g')) : Goes p e below s R n0 Q (T.setTop g) := q ▸ k
theorem g_eqI {pc : Nat} {Ls : Array Slot} {x y : Int32} {rest : List Value} (q : x = y) (k : Goes p e below s R n0 Q (T.setTop (mkF m pc Ls (.int y :: rest)))) : Goes p e below s R n0 Q (T.setTop (mkF m pc Ls (.int x :: rest))) := q ▸ k
theorem g_eqJ {pc : Nat} {Ls : Array Slot} {x y : Int64} {rest : List Value} (q : x = y) (k : Goes p e below s R n0 Q (T.setTop (mkF m pc Ls (.long y :: rest)))) : Goes p e below s R n0 Q (T.setTop (mkF m pc Ls (.long x :: rest))) := q ▸ k
theorem g_letJ {pc : Nat} {Ls : Array Slot} {x : Int64} {rest : List Value} (k : ∀ y, y = x → Goes p e below s R n0 Q (T.setTop (mkF m pc Ls (.long y :: rest)))) : Goes p e below s R n0 Q (T.setTop (mkF m pc Ls (.long x :: rest))) := k x rfl
theorem g_letI {pc : Nat} {Ls : Array Slot} {x : Int32} {rest : List Value} (k : ∀ y, y = x → Goes p e below s R n0 Q (T.setTop (mkF m pc Ls (.int y :: rest)))) : Goes p e below s R n0 Q (T.setTop (mkF m pc Ls (.int x :: rest))) := k x rfl
theorem Wk.size (X : Wk Z own nm bytes ml ret R n0 p l e s m args below meth c T cells slots h) : n0 ≤ h.size := by
  obtain ⟨locs, X, N, eh, hn, hx, hZ, hby, hml, hown, hnm, hret, hlk⟩ := X
  have q : s.heap.size ≤ T.heap.size := X.same.2.1
  rw [eh] at q
  exact Nat.le_trans hn q
theorem Wk.mono (X : Wk Z own nm bytes ml ret R n0 p l e s m args below meth c T cells slots h) {cells' slots' : Nat} (hc : cells ≤ cells') (hs : slots ≤ slots') : Wk Z own nm bytes ml ret R n0 p l e s m args below meth c T cells' slots' h := by
  obtain ⟨locs, X, N, eh, hn, hx, hZ, hby, hml, hown, hnm, hret, hlk⟩ := X
  exact ⟨locs, X.mono hc hs, N, eh, hn, hx, hZ, hby, hml, hown, hnm, hret, hlk⟩
theorem g_out (X : Wk Z own nm bytes ml ret R n0 p l e s m args below meth c T cells slots h) {g : JFrame} {v : Option Value} (hv : ret = none → v = none) (hc : cells ≤ R.cells) (hs : slots ≤ R.slots)
    (st : ∀ locs, Stand p l e R s m args below meth c T locs cells slots → p.tables.exec = Jvm.exec → meth.sig.returnType = ret → c.code = bytes → ∀ fs, (∀ (f : JFrame) (acts : List Action), f.method = m → f.locked = none → f.entered = [] → (doReturn e (T.setTop f) acts v).1 = T.setFrames fs) → Steps p.tables e below (T.setTop g) (T.setFrames fs))
    (hQ : Q v h) : Goes p e below s R n0 Q (T.setTop g) := by
  obtain ⟨locs, X, N, eh, hn, hx, hZ, hby, hml, hown, hnm, hret, hlk⟩ := X
  obtain ⟨fs, hr, hrun, hended, hW, hsame⟩ := X.leave (v := v) (fun q => hv (hret ▸ q)) hlk
  exact ⟨_, _, st _ X hx hret hby fs hr, hrun, hended, _, _, rfl, ⟨N, by rw [show (T.setFrames fs).heap = T.heap from rfl, eh]; exact hQ⟩, ⟨_, rfl⟩, hW, hsame.mono hc hs⟩
theorem g_retI (X : Wk Z own nm bytes ml (some .int) R n0 p l e s m args below meth c T cells slots h) {pc : Nat} {Ls : Array Slot} {z : Int32} {rest : List Value} (hd : decode bytes pc = .ok (.ireturn, 1)) (hc : cells ≤ R.cells) (hs : slots ≤ R.slots) (hQ : Q (some (.int z)) h) : Goes p e below s R n0 Q (T.setTop (mkF m pc Ls (.int z :: rest))) :=
  g_out X nofun hc hs (fun _ Y hx hr hb fs hl => retOut Y hx hr rfl (Or.inl ⟨rfl, Or.inl rfl, _, rfl⟩) (hb ▸ hd) hl) hQ
theorem g_retZ (X : Wk Z own nm bytes ml (some .boolean) R n0 p l e s m args below meth c T cells slots h) {pc : Nat} {Ls : Array Slot} {z : Int32} {rest : List Value} (hd : decode bytes pc = .ok (.ireturn, 1)) (hc : cells ≤ R.cells) (hs : slots ≤ R.slots) (hz : z = 0 ∨ z = 1) (hQ : Q (some (.int z)) h) : Goes p e below s R n0 Q (T.setTop (mkF m pc Ls (.int z :: rest))) :=
  g_out X nofun hc hs (fun _ Y hx hr hb fs hl => retOut Y hx hr (by rcases hz with rfl | rfl <;> rfl) (Or.inl ⟨rfl, Or.inr (Or.inl rfl), _, rfl⟩) (hb ▸ hd) hl) hQ
theorem g_retJ (X : Wk Z own nm bytes ml (some .long) R n0 p l e s m args below meth c T cells slots h) {pc : Nat} {Ls : Array Slot} {z : Int64} {rest : List Value} (hd : decode bytes pc = .ok (.lreturn, 1)) (hc : cells ≤ R.cells) (hs : slots ≤ R.slots) (hQ : Q (some (.long z)) h) : Goes p e below s R n0 Q (T.setTop (mkF m pc Ls (.long z :: rest))) :=
  g_out X nofun hc hs (fun _ Y hx hr hb fs hl => retOut Y hx hr rfl (Or.inr (Or.inl ⟨rfl, rfl, _, rfl⟩)) (hb ▸ hd) hl) hQ
theorem g_retA {t : FieldType} (X : Wk Z own nm bytes ml (some t) R n0 p l e s m args below meth c T cells slots h) (ht : t.isReference = true) {pc : Nat} {Ls : Array Slot} {w : Value} (hw : w.isRef = true) {rest : List Value} (hd : decode bytes pc = .ok (.areturn, 1)) (hc : cells ≤ R.cells) (hs : slots ≤ R.slots) (hQ : Q (some w) h) : Goes p e below s R n0 Q (T.setTop (mkF m pc Ls (w :: rest))) :=
  g_out X nofun hc hs (fun _ Y hx hr hb fs hl => retOut Y hx hr (by cases t <;> simp_all [narrow, FieldType.isReference]) (Or.inr (Or.inr (Or.inr (Or.inr ⟨rfl, ht, hw⟩)))) (hb ▸ hd) hl) hQ
theorem g_ret0 (X : Wk Z own nm bytes ml none R n0 p l e s m args below meth c T cells slots h) {pc : Nat} {Ls : Array Slot} (hd : decode bytes pc = .ok (.return_, 1)) (hc : cells ≤ R.cells) (hs : slots ≤ R.slots) (hQ : Q none h) : Goes p e below s R n0 Q (T.setTop (mkF m pc Ls [])) :=
  g_out X (fun _ => rfl) hc hs (fun _ Y hx hr hb fs hl => Y.returnOut hx hr (hb ▸ hd) hl) hQ
theorem g_lcmp (X : Wk Z own nm bytes ml ret R n0 p l e s m args below meth c T cells slots h) {pc q : Nat} {Ls : Array Slot} {rest : List Value} {x y : Int64} (hd : decode bytes pc = .ok (.lcmp, 1)) (hq : pc + 1 = q) (k : Goes p e below s R n0 Q (T.setTop (mkF m q Ls (.int (lcmpW x y) :: rest)))) : Goes p e below s R n0 Q (T.setTop (mkF m pc Ls (.long y :: .long x :: rest))) := by
  obtain ⟨locs, X, N, eh, hn, hx, hZ, hby, hml, hown, hnm, hret, hlk⟩ := X
  subst hby hq
  exact g_of (fun t r => XS.lcmp X.here hx rfl hd rfl r) k
theorem g_iadd (X : Wk Z own nm bytes ml ret R n0 p l e s m args below meth c T cells slots h) {pc q : Nat} {Ls : Array Slot} {rest : List Value} {x y : Int32} (hd : decode bytes pc = .ok (.iadd, 1)) (hq : pc + 1 = q) (k : Goes p e below s R n0 Q (T.setTop (mkF m q Ls (.int (x + y) :: rest)))) : Goes p e below s R n0 Q (T.setTop (mkF m pc Ls (.int y :: .int x :: rest))) := by
  obtain ⟨locs, X, N, eh, hn, hx, hZ, hby, hml, hown, hnm, hret, hlk⟩ := X
  subst hby hq
  exact g_of (fun t r => XS.iadd X.here hx rfl hd rfl r) k
theorem g_isub (X : Wk Z own nm bytes ml ret R n0 p l e s m args below meth c T cells slots h) {pc q : Nat} {Ls : Array Slot} {rest : List Value} {x y : Int32} (hd : decode bytes pc = .ok (.isub, 1)) (hq : pc + 1 = q) (k : Goes p e below s R n0 Q (T.setTop (mkF m q Ls (.int (x - y) :: rest)))) : Goes p e below s R n0 Q (T.setTop (mkF m pc Ls (.int y :: .int x :: rest))) := by
  obtain ⟨locs, X, N, eh, hn, hx, hZ, hby, hml, hown, hnm, hret, hlk⟩ := X
  subst hby hq
  exact g_of (fun t r => XS.isub X.here hx rfl hd rfl r) k
theorem g_imul (X : Wk Z own nm bytes ml ret R n0 p l e s m args below meth c T cells slots h) {pc q : Nat} {Ls : Array Slot} {rest : List Value} {x y : Int32} (hd : decode bytes pc = .ok (.imul, 1)) (hq : pc + 1 = q) (k : Goes p e below s R n0 Q (T.setTop (mkF m q Ls (.int (x * y) :: rest)))) : Goes p e below s R n0 Q (T.setTop (mkF m pc Ls (.int y :: .int x :: rest))) := by
  obtain ⟨locs, X, N, eh, hn, hx, hZ, hby, hml, hown, hnm, hret, hlk⟩ := X
  subst hby hq
  exact g_of (fun t r => XS.imul X.here hx rfl hd rfl r) k
theorem g_iand (X : Wk Z own nm bytes ml ret R n0 p l e s m args below meth c T cells slots h) {pc q : Nat} {Ls : Array Slot} {rest : List Value} {x y : Int32} (hd : decode bytes pc = .ok (.iand, 1)) (hq : pc + 1 = q) (k : Goes p e below s R n0 Q (T.setTop (mkF m q Ls (.int (x &&& y) :: rest)))) : Goes p e below s R n0 Q (T.setTop (mkF m pc Ls (.int y :: .int x :: rest))) := by
  obtain ⟨locs, X, N, eh, hn, hx, hZ, hby, hml, hown, hnm, hret, hlk⟩ := X
  subst hby hq
  exact g_of (fun t r => XS.iand X.here hx rfl hd rfl r) k
theorem g_ior (X : Wk Z own nm bytes ml ret R n0 p l e s m args below meth c T cells slots h) {pc q : Nat} {Ls : Array Slot} {rest : List Value} {x y : Int32} (hd : decode bytes pc = .ok (.ior, 1)) (hq : pc + 1 = q) (k : Goes p e below s R n0 Q (T.setTop (mkF m q Ls (.int (x ||| y) :: rest)))) : Goes p e below s R n0 Q (T.setTop (mkF m pc Ls (.int y :: .int x :: rest))) := by
  obtain ⟨locs, X, N, eh, hn, hx, hZ, hby, hml, hown, hnm, hret, hlk⟩ := X
  subst hby hq
  exact g_of (fun t r => XS.ior X.here hx rfl hd rfl r) k
theorem g_ixor (X : Wk Z own nm bytes ml ret R n0 p l e s m args below meth c T cells slots h) {pc q : Nat} {Ls : Array Slot} {rest : List Value} {x y : Int32} (hd : decode bytes pc = .ok (.ixor, 1)) (hq : pc + 1 = q) (k : Goes p e below s R n0 Q (T.setTop (mkF m q Ls (.int (x ^^^ y) :: rest)))) : Goes p e below s R n0 Q (T.setTop (mkF m pc Ls (.int y :: .int x :: rest))) := by
  obtain ⟨locs, X, N, eh, hn, hx, hZ, hby, hml, hown, hnm, hret, hlk⟩ := X
  subst hby hq
  exact g_of (fun t r => XS.ixor X.here hx rfl hd rfl r) k
theorem g_ladd (X : Wk Z own nm bytes ml ret R n0 p l e s m args below meth c T cells slots h) {pc q : Nat} {Ls : Array Slot} {rest : List Value} {x y : Int64} (hd : decode bytes pc = .ok (.ladd, 1)) (hq : pc + 1 = q) (k : Goes p e below s R n0 Q (T.setTop (mkF m q Ls (.long (x + y) :: rest)))) : Goes p e below s R n0 Q (T.setTop (mkF m pc Ls (.long y :: .long x :: rest))) := by
  obtain ⟨locs, X, N, eh, hn, hx, hZ, hby, hml, hown, hnm, hret, hlk⟩ := X
  subst hby hq
  exact g_of (fun t r => XS.ladd X.here hx rfl hd rfl r) k
theorem g_lsub (X : Wk Z own nm bytes ml ret R n0 p l e s m args below meth c T cells slots h) {pc q : Nat} {Ls : Array Slot} {rest : List Value} {x y : Int64} (hd : decode bytes pc = .ok (.lsub, 1)) (hq : pc + 1 = q) (k : Goes p e below s R n0 Q (T.setTop (mkF m q Ls (.long (x - y) :: rest)))) : Goes p e below s R n0 Q (T.setTop (mkF m pc Ls (.long y :: .long x :: rest))) := by
  obtain ⟨locs, X, N, eh, hn, hx, hZ, hby, hml, hown, hnm, hret, hlk⟩ := X
  subst hby hq
  exact g_of (fun t r => XS.lsub X.here hx rfl hd rfl r) k
theorem g_lmul (X : Wk Z own nm bytes ml ret R n0 p l e s m args below meth c T cells slots h) {pc q : Nat} {Ls : Array Slot} {rest : List Value} {x y : Int64} (hd : decode bytes pc = .ok (.lmul, 1)) (hq : pc + 1 = q) (k : Goes p e below s R n0 Q (T.setTop (mkF m q Ls (.long (x * y) :: rest)))) : Goes p e below s R n0 Q (T.setTop (mkF m pc Ls (.long y :: .long x :: rest))) := by
  obtain ⟨locs, X, N, eh, hn, hx, hZ, hby, hml, hown, hnm, hret, hlk⟩ := X
  subst hby hq
  exact g_of (fun t r => XS.lmul X.here hx rfl hd rfl r) k
theorem g_land (X : Wk Z own nm bytes ml ret R n0 p l e s m args below meth c T cells slots h) {pc q : Nat} {Ls : Array Slot} {rest : List Value} {x y : Int64} (hd : decode bytes pc = .ok (.land, 1)) (hq : pc + 1 = q) (k : Goes p e below s R n0 Q (T.setTop (mkF m q Ls (.long (x &&& y) :: rest)))) : Goes p e below s R n0 Q (T.setTop (mkF m pc Ls (.long y :: .long x :: rest))) := by
  obtain ⟨locs, X, N, eh, hn, hx, hZ, hby, hml, hown, hnm, hret, hlk⟩ := X
  subst hby hq
  exact g_of (fun t r => XS.land X.here hx rfl hd rfl r) k
theorem g_lor (X : Wk Z own nm bytes ml ret R n0 p l e s m args below meth c T cells slots h) {pc q : Nat} {Ls : Array Slot} {rest : List Value} {x y : Int64} (hd : decode bytes pc = .ok (.lor, 1)) (hq : pc + 1 = q) (k : Goes p e below s R n0 Q (T.setTop (mkF m q Ls (.long (x ||| y) :: rest)))) : Goes p e below s R n0 Q (T.setTop (mkF m pc Ls (.long y :: .long x :: rest))) := by
  obtain ⟨locs, X, N, eh, hn, hx, hZ, hby, hml, hown, hnm, hret, hlk⟩ := X
  subst hby hq
  exact g_of (fun t r => XS.lor X.here hx rfl hd rfl r) k
theorem g_lxor (X : Wk Z own nm bytes ml ret R n0 p l e s m args below meth c T cells slots h) {pc q : Nat} {Ls : Array Slot} {rest : List Value} {x y : Int64} (hd : decode bytes pc = .ok (.lxor, 1)) (hq : pc + 1 = q) (k : Goes p e below s R n0 Q (T.setTop (mkF m q Ls (.long (x ^^^ y) :: rest)))) : Goes p e below s R n0 Q (T.setTop (mkF m pc Ls (.long y :: .long x :: rest))) := by
  obtain ⟨locs, X, N, eh, hn, hx, hZ, hby, hml, hown, hnm, hret, hlk⟩ := X
  subst hby hq
  exact g_of (fun t r => XS.lxor X.here hx rfl hd rfl r) k
theorem g_idiv (X : Wk Z own nm bytes ml ret R n0 p l e s m args below meth c T cells slots h) {pc q : Nat} {Ls : Array Slot} {rest : List Value} {x y : Int32} (hd : decode bytes pc = .ok (.idiv, 1)) (hq : pc + 1 = q) (hy : y ≠ 0) (k : Goes p e below s R n0 Q (T.setTop (mkF m q Ls (.int (x / y) :: rest)))) : Goes p e below s R n0 Q (T.setTop (mkF m pc Ls (.int y :: .int x :: rest))) := by
  obtain ⟨locs, X, N, eh, hn, hx, hZ, hby, hml, hown, hnm, hret, hlk⟩ := X
  subst hby hq
  exact g_of (fun t r => XS.idiv X.here hx rfl hd rfl hy r) k
theorem g_irem (X : Wk Z own nm bytes ml ret R n0 p l e s m args below meth c T cells slots h) {pc q : Nat} {Ls : Array Slot} {rest : List Value} {x y : Int32} (hd : decode bytes pc = .ok (.irem, 1)) (hq : pc + 1 = q) (hy : y ≠ 0) (k : Goes p e below s R n0 Q (T.setTop (mkF m q Ls (.int (x % y) :: rest)))) : Goes p e below s R n0 Q (T.setTop (mkF m pc Ls (.int y :: .int x :: rest))) := by
  obtain ⟨locs, X, N, eh, hn, hx, hZ, hby, hml, hown, hnm, hret, hlk⟩ := X
  subst hby hq
  exact g_of (fun t r => XS.irem X.here hx rfl hd rfl hy (by rw [irem_eq_mod x y]; exact r)) k
theorem g_ldiv (X : Wk Z own nm bytes ml ret R n0 p l e s m args below meth c T cells slots h) {pc q : Nat} {Ls : Array Slot} {rest : List Value} {x y : Int64} (hd : decode bytes pc = .ok (.ldiv, 1)) (hq : pc + 1 = q) (hy : y ≠ 0) (k : Goes p e below s R n0 Q (T.setTop (mkF m q Ls (.long (x / y) :: rest)))) : Goes p e below s R n0 Q (T.setTop (mkF m pc Ls (.long y :: .long x :: rest))) := by
  obtain ⟨locs, X, N, eh, hn, hx, hZ, hby, hml, hown, hnm, hret, hlk⟩ := X
  subst hby hq
  exact g_of (fun t r => XS.ldiv X.here hx rfl hd rfl hy r) k
theorem g_lrem (X : Wk Z own nm bytes ml ret R n0 p l e s m args below meth c T cells slots h) {pc q : Nat} {Ls : Array Slot} {rest : List Value} {x y : Int64} (hd : decode bytes pc = .ok (.lrem, 1)) (hq : pc + 1 = q) (hy : y ≠ 0) (k : Goes p e below s R n0 Q (T.setTop (mkF m q Ls (.long (x % y) :: rest)))) : Goes p e below s R n0 Q (T.setTop (mkF m pc Ls (.long y :: .long x :: rest))) := by
  obtain ⟨locs, X, N, eh, hn, hx, hZ, hby, hml, hown, hnm, hret, hlk⟩ := X
  subst hby hq
  exact g_of (fun t r => XS.lrem X.here hx rfl hd rfl hy (by rw [lrem_mod x y]; exact r)) k
theorem g_ineg (X : Wk Z own nm bytes ml ret R n0 p l e s m args below meth c T cells slots h) {pc q : Nat} {Ls : Array Slot} {rest : List Value} {x : Int32} (hd : decode bytes pc = .ok (.ineg, 1)) (hq : pc + 1 = q) (k : Goes p e below s R n0 Q (T.setTop (mkF m q Ls (.int (-x) :: rest)))) : Goes p e below s R n0 Q (T.setTop (mkF m pc Ls (.int x :: rest))) := by
  obtain ⟨locs, X, N, eh, hn, hx, hZ, hby, hml, hown, hnm, hret, hlk⟩ := X
  subst hby hq
  exact g_of (fun t r => XS.ineg X.here hx rfl hd rfl r) k
theorem g_lneg (X : Wk Z own nm bytes ml ret R n0 p l e s m args below meth c T cells slots h) {pc q : Nat} {Ls : Array Slot} {rest : List Value} {x : Int64} (hd : decode bytes pc = .ok (.lneg, 1)) (hq : pc + 1 = q) (k : Goes p e below s R n0 Q (T.setTop (mkF m q Ls (.long (-x) :: rest)))) : Goes p e below s R n0 Q (T.setTop (mkF m pc Ls (.long x :: rest))) := by
  obtain ⟨locs, X, N, eh, hn, hx, hZ, hby, hml, hown, hnm, hret, hlk⟩ := X
  subst hby hq
  exact g_of (fun t r => XS.lneg X.here hx rfl hd rfl r) k
theorem g_i2l (X : Wk Z own nm bytes ml ret R n0 p l e s m args below meth c T cells slots h) {pc q : Nat} {Ls : Array Slot} {rest : List Value} {x : Int32} (hd : decode bytes pc = .ok (.i2l, 1)) (hq : pc + 1 = q) (k : Goes p e below s R n0 Q (T.setTop (mkF m q Ls (.long x.toInt64 :: rest)))) : Goes p e below s R n0 Q (T.setTop (mkF m pc Ls (.int x :: rest))) := by
  obtain ⟨locs, X, N, eh, hn, hx, hZ, hby, hml, hown, hnm, hret, hlk⟩ := X
  subst hby hq
  exact g_of (fun t r => XS.i2l X.here hx rfl hd rfl r) k
theorem g_l2i (X : Wk Z own nm bytes ml ret R n0 p l e s m args below meth c T cells slots h) {pc q : Nat} {Ls : Array Slot} {rest : List Value} {x : Int64} (hd : decode bytes pc = .ok (.l2i, 1)) (hq : pc + 1 = q) (k : Goes p e below s R n0 Q (T.setTop (mkF m q Ls (.int x.toInt32 :: rest)))) : Goes p e below s R n0 Q (T.setTop (mkF m pc Ls (.long x :: rest))) := by
  obtain ⟨locs, X, N, eh, hn, hx, hZ, hby, hml, hown, hnm, hret, hlk⟩ := X
  subst hby hq
  exact g_of (fun t r => XS.l2i X.here hx rfl hd rfl r) k
theorem g_i2b (X : Wk Z own nm bytes ml ret R n0 p l e s m args below meth c T cells slots h) {pc q : Nat} {Ls : Array Slot} {rest : List Value} {x : Int32} (hd : decode bytes pc = .ok (.i2b, 1)) (hq : pc + 1 = q) (k : Goes p e below s R n0 Q (T.setTop (mkF m q Ls (.int x.toInt8.toInt32 :: rest)))) : Goes p e below s R n0 Q (T.setTop (mkF m pc Ls (.int x :: rest))) := by
  obtain ⟨locs, X, N, eh, hn, hx, hZ, hby, hml, hown, hnm, hret, hlk⟩ := X
  subst hby hq
  exact g_of (fun t r => XS.i2b X.here hx rfl hd rfl r) k
theorem g_i2s (X : Wk Z own nm bytes ml ret R n0 p l e s m args below meth c T cells slots h) {pc q : Nat} {Ls : Array Slot} {rest : List Value} {x : Int32} (hd : decode bytes pc = .ok (.i2s, 1)) (hq : pc + 1 = q) (k : Goes p e below s R n0 Q (T.setTop (mkF m q Ls (.int x.toInt16.toInt32 :: rest)))) : Goes p e below s R n0 Q (T.setTop (mkF m pc Ls (.int x :: rest))) := by
  obtain ⟨locs, X, N, eh, hn, hx, hZ, hby, hml, hown, hnm, hret, hlk⟩ := X
  subst hby hq
  exact g_of (fun t r => XS.i2s X.here hx rfl hd rfl r) k
theorem g_ishl (X : Wk Z own nm bytes ml ret R n0 p l e s m args below meth c T cells slots h) {pc q : Nat} {Ls : Array Slot} {rest : List Value} {x y : Int32} (hd : decode bytes pc = .ok (.ishl, 1)) (hq : pc + 1 = q) (k : Goes p e below s R n0 Q (T.setTop (mkF m q Ls (.int (x <<< (y &&& 31)) :: rest)))) : Goes p e below s R n0 Q (T.setTop (mkF m pc Ls (.int y :: .int x :: rest))) := by
  obtain ⟨locs, X, N, eh, hn, hx, hZ, hby, hml, hown, hnm, hret, hlk⟩ := X
  subst hby hq
  exact g_of (fun t r => XS.ishl X.here hx rfl hd rfl r) k
theorem g_ishr (X : Wk Z own nm bytes ml ret R n0 p l e s m args below meth c T cells slots h) {pc q : Nat} {Ls : Array Slot} {rest : List Value} {x y : Int32} (hd : decode bytes pc = .ok (.ishr, 1)) (hq : pc + 1 = q) (k : Goes p e below s R n0 Q (T.setTop (mkF m q Ls (.int (x >>> (y &&& 31)) :: rest)))) : Goes p e below s R n0 Q (T.setTop (mkF m pc Ls (.int y :: .int x :: rest))) := by
  obtain ⟨locs, X, N, eh, hn, hx, hZ, hby, hml, hown, hnm, hret, hlk⟩ := X
  subst hby hq
  exact g_of (fun t r => XS.ishr X.here hx rfl hd rfl r) k
theorem g_iushr (X : Wk Z own nm bytes ml ret R n0 p l e s m args below meth c T cells slots h) {pc q : Nat} {Ls : Array Slot} {rest : List Value} {x y : Int32} (hd : decode bytes pc = .ok (.iushr, 1)) (hq : pc + 1 = q) (k : Goes p e below s R n0 Q (T.setTop (mkF m q Ls (.int ((x.toUInt32 >>> (y &&& 31).toUInt32).toInt32) :: rest)))) : Goes p e below s R n0 Q (T.setTop (mkF m pc Ls (.int y :: .int x :: rest))) := by
  obtain ⟨locs, X, N, eh, hn, hx, hZ, hby, hml, hown, hnm, hret, hlk⟩ := X
  subst hby hq
  exact g_of (fun t r => XS.iushr X.here hx rfl hd rfl r) k
theorem g_lshl (X : Wk Z own nm bytes ml ret R n0 p l e s m args below meth c T cells slots h) {pc q : Nat} {Ls : Array Slot} {rest : List Value} {x : Int64} {y : Int32} (hd : decode bytes pc = .ok (.lshl, 1)) (hq : pc + 1 = q) (k : Goes p e below s R n0 Q (T.setTop (mkF m q Ls (.long (x <<< (y &&& 0x3f).toInt64) :: rest)))) : Goes p e below s R n0 Q (T.setTop (mkF m pc Ls (.int y :: .long x :: rest))) := by
  obtain ⟨locs, X, N, eh, hn, hx, hZ, hby, hml, hown, hnm, hret, hlk⟩ := X
  subst hby hq
  exact g_of (fun t r => XS.lshl X.here hx rfl hd rfl r) k
theorem g_lshr (X : Wk Z own nm bytes ml ret R n0 p l e s m args below meth c T cells slots h) {pc q : Nat} {Ls : Array Slot} {rest : List Value} {x : Int64} {y : Int32} (hd : decode bytes pc = .ok (.lshr, 1)) (hq : pc + 1 = q) (k : Goes p e below s R n0 Q (T.setTop (mkF m q Ls (.long (x >>> (y &&& 0x3f).toInt64) :: rest)))) : Goes p e below s R n0 Q (T.setTop (mkF m pc Ls (.int y :: .long x :: rest))) := by
  obtain ⟨locs, X, N, eh, hn, hx, hZ, hby, hml, hown, hnm, hret, hlk⟩ := X
  subst hby hq
  exact g_of (fun t r => XS.lshr X.here hx rfl hd rfl r) k
theorem g_lushr (X : Wk Z own nm bytes ml ret R n0 p l e s m args below meth c T cells slots h) {pc q : Nat} {Ls : Array Slot} {rest : List Value} {x : Int64} {y : Int32} (hd : decode bytes pc = .ok (.lushr, 1)) (hq : pc + 1 = q) (k : Goes p e below s R n0 Q (T.setTop (mkF m q Ls (.long ((x.toUInt64 >>> (y &&& 0x3f).toInt64.toUInt64).toInt64) :: rest)))) : Goes p e below s R n0 Q (T.setTop (mkF m pc Ls (.int y :: .long x :: rest))) := by
  obtain ⟨locs, X, N, eh, hn, hx, hZ, hby, hml, hown, hnm, hret, hlk⟩ := X
  subst hby hq
  exact g_of (fun t r => XS.lushr X.here hx rfl hd rfl r) k
theorem g_iload (X : Wk Z own nm bytes ml ret R n0 p l e s m args below meth c T cells slots h) {pc q : Nat} {Ls : Array Slot} {st : List Value} {i : Nat} {v : Int32} (hd : decode bytes pc = .ok (.iload i, 2)) (hq : pc + 2 = q) (hl : Ls[i]? = some (.val (.int v))) (k : Goes p e below s R n0 Q (T.setTop (mkF m q Ls (.int v :: st)))) : Goes p e below s R n0 Q (T.setTop (mkF m pc Ls st)) := by
  obtain ⟨locs, X, N, eh, hn, hx, hZ, hby, hml, hown, hnm, hret, hlk⟩ := X
  subst hby hq
  exact g_of (fun t r => XS.iload X.here hx rfl hd hl r) k
theorem g_iloadN (X : Wk Z own nm bytes ml ret R n0 p l e s m args below meth c T cells slots h) {pc q : Nat} {Ls : Array Slot} {st : List Value} {i : Fin 4} {v : Int32} (hd : decode bytes pc = .ok (.iload_n i, 1)) (hq : pc + 1 = q) (hl : Ls[i.val]? = some (.val (.int v))) (k : Goes p e below s R n0 Q (T.setTop (mkF m q Ls (.int v :: st)))) : Goes p e below s R n0 Q (T.setTop (mkF m pc Ls st)) := by
  obtain ⟨locs, X, N, eh, hn, hx, hZ, hby, hml, hown, hnm, hret, hlk⟩ := X
  subst hby hq
  exact g_of (fun t r => XS.iloadN X.here hx rfl hd hl r) k
theorem g_lload (X : Wk Z own nm bytes ml ret R n0 p l e s m args below meth c T cells slots h) {pc q : Nat} {Ls : Array Slot} {st : List Value} {i : Nat} {v : Int64} (hd : decode bytes pc = .ok (.lload i, 2)) (hq : pc + 2 = q) (hl : Ls[i]? = some (.val (.long v))) (k : Goes p e below s R n0 Q (T.setTop (mkF m q Ls (.long v :: st)))) : Goes p e below s R n0 Q (T.setTop (mkF m pc Ls st)) := by
  obtain ⟨locs, X, N, eh, hn, hx, hZ, hby, hml, hown, hnm, hret, hlk⟩ := X
  subst hby hq
  exact g_of (fun t r => XS.lload X.here hx rfl hd hl r) k
theorem g_lloadN (X : Wk Z own nm bytes ml ret R n0 p l e s m args below meth c T cells slots h) {pc q : Nat} {Ls : Array Slot} {st : List Value} {i : Fin 4} {v : Int64} (hd : decode bytes pc = .ok (.lload_n i, 1)) (hq : pc + 1 = q) (hl : Ls[i.val]? = some (.val (.long v))) (k : Goes p e below s R n0 Q (T.setTop (mkF m q Ls (.long v :: st)))) : Goes p e below s R n0 Q (T.setTop (mkF m pc Ls st)) := by
  obtain ⟨locs, X, N, eh, hn, hx, hZ, hby, hml, hown, hnm, hret, hlk⟩ := X
  subst hby hq
  exact g_of (fun t r => XS.lloadN X.here hx rfl hd hl r) k
theorem g_aload (X : Wk Z own nm bytes ml ret R n0 p l e s m args below meth c T cells slots h) {pc q : Nat} {Ls : Array Slot} {st : List Value} {i : Nat} {v : Value} (hd : decode bytes pc = .ok (.aload i, 2)) (hq : pc + 2 = q) (hl : Ls[i]? = some (.val v)) (hv : v.isRef = true) (k : Goes p e below s R n0 Q (T.setTop (mkF m q Ls (v :: st)))) : Goes p e below s R n0 Q (T.setTop (mkF m pc Ls st)) := by
  obtain ⟨locs, X, N, eh, hn, hx, hZ, hby, hml, hown, hnm, hret, hlk⟩ := X
  subst hby hq
  exact g_of (fun t r => XS.aload X.here hx rfl hd hl hv r) k
theorem g_aloadN (X : Wk Z own nm bytes ml ret R n0 p l e s m args below meth c T cells slots h) {pc q : Nat} {Ls : Array Slot} {st : List Value} {i : Fin 4} {v : Value} (hd : decode bytes pc = .ok (.aload_n i, 1)) (hq : pc + 1 = q) (hl : Ls[i.val]? = some (.val v)) (hv : v.isRef = true) (k : Goes p e below s R n0 Q (T.setTop (mkF m q Ls (v :: st)))) : Goes p e below s R n0 Q (T.setTop (mkF m pc Ls st)) := by
  obtain ⟨locs, X, N, eh, hn, hx, hZ, hby, hml, hown, hnm, hret, hlk⟩ := X
  subst hby hq
  exact g_of (fun t r => XS.aloadN X.here hx rfl hd hl hv r) k
theorem g_istore (X : Wk Z own nm bytes ml ret R n0 p l e s m args below meth c T cells slots h) {pc q : Nat} {Ls : Array Slot} {rest : List Value} {i : Nat} {v : Int32} {L' : Array Slot} (hd : decode bytes pc = .ok (.istore i, 2)) (hq : pc + 2 = q) (hl : storeLocals Ls i (.int v) = some L') (k : Goes p e below s R n0 Q (T.setTop (mkF m q L' rest))) : Goes p e below s R n0 Q (T.setTop (mkF m pc Ls (.int v :: rest))) := by
  obtain ⟨locs, X, N, eh, hn, hx, hZ, hby, hml, hown, hnm, hret, hlk⟩ := X
  subst hby hq
  exact g_of (fun t r => XS.istore X.here hx rfl hd rfl hl r) k
theorem g_istoreN (X : Wk Z own nm bytes ml ret R n0 p l e s m args below meth c T cells slots h) {pc q : Nat} {Ls : Array Slot} {rest : List Value} {i : Fin 4} {v : Int32} {L' : Array Slot} (hd : decode bytes pc = .ok (.istore_n i, 1)) (hq : pc + 1 = q) (hl : storeLocals Ls i.val (.int v) = some L') (k : Goes p e below s R n0 Q (T.setTop (mkF m q L' rest))) : Goes p e below s R n0 Q (T.setTop (mkF m pc Ls (.int v :: rest))) := by
  obtain ⟨locs, X, N, eh, hn, hx, hZ, hby, hml, hown, hnm, hret, hlk⟩ := X
  subst hby hq
  exact g_of (fun t r => XS.istoreN X.here hx rfl hd rfl hl r) k
theorem g_lstore (X : Wk Z own nm bytes ml ret R n0 p l e s m args below meth c T cells slots h) {pc q : Nat} {Ls : Array Slot} {rest : List Value} {i : Nat} {v : Int64} {L' : Array Slot} (hd : decode bytes pc = .ok (.lstore i, 2)) (hq : pc + 2 = q) (hl : storeLocals Ls i (.long v) = some L') (k : Goes p e below s R n0 Q (T.setTop (mkF m q L' rest))) : Goes p e below s R n0 Q (T.setTop (mkF m pc Ls (.long v :: rest))) := by
  obtain ⟨locs, X, N, eh, hn, hx, hZ, hby, hml, hown, hnm, hret, hlk⟩ := X
  subst hby hq
  exact g_of (fun t r => XS.lstore X.here hx rfl hd rfl hl r) k
theorem g_lstoreN (X : Wk Z own nm bytes ml ret R n0 p l e s m args below meth c T cells slots h) {pc q : Nat} {Ls : Array Slot} {rest : List Value} {i : Fin 4} {v : Int64} {L' : Array Slot} (hd : decode bytes pc = .ok (.lstore_n i, 1)) (hq : pc + 1 = q) (hl : storeLocals Ls i.val (.long v) = some L') (k : Goes p e below s R n0 Q (T.setTop (mkF m q L' rest))) : Goes p e below s R n0 Q (T.setTop (mkF m pc Ls (.long v :: rest))) := by
  obtain ⟨locs, X, N, eh, hn, hx, hZ, hby, hml, hown, hnm, hret, hlk⟩ := X
  subst hby hq
  exact g_of (fun t r => XS.lstoreN X.here hx rfl hd rfl hl r) k
theorem g_astore (X : Wk Z own nm bytes ml ret R n0 p l e s m args below meth c T cells slots h) {pc q : Nat} {Ls : Array Slot} {rest : List Value} {i : Nat} {v : Value} {L' : Array Slot} (hd : decode bytes pc = .ok (.astore i, 2)) (hq : pc + 2 = q) (hv : v.isRef = true) (hl : storeLocals Ls i v = some L') (k : Goes p e below s R n0 Q (T.setTop (mkF m q L' rest))) : Goes p e below s R n0 Q (T.setTop (mkF m pc Ls (v :: rest))) := by
  obtain ⟨locs, X, N, eh, hn, hx, hZ, hby, hml, hown, hnm, hret, hlk⟩ := X
  subst hby hq
  exact g_of (fun t r => XS.astore X.here hx rfl hd rfl hv hl r) k
theorem g_astoreN (X : Wk Z own nm bytes ml ret R n0 p l e s m args below meth c T cells slots h) {pc q : Nat} {Ls : Array Slot} {rest : List Value} {i : Fin 4} {v : Value} {L' : Array Slot} (hd : decode bytes pc = .ok (.astore_n i, 1)) (hq : pc + 1 = q) (hv : v.isRef = true) (hl : storeLocals Ls i.val v = some L') (k : Goes p e below s R n0 Q (T.setTop (mkF m q L' rest))) : Goes p e below s R n0 Q (T.setTop (mkF m pc Ls (v :: rest))) := by
  obtain ⟨locs, X, N, eh, hn, hx, hZ, hby, hml, hown, hnm, hret, hlk⟩ := X
  subst hby hq
  exact g_of (fun t r => XS.astoreN X.here hx rfl hd rfl hv hl r) k
theorem g_iconst (X : Wk Z own nm bytes ml ret R n0 p l e s m args below meth c T cells slots h) {pc q : Nat} {Ls : Array Slot} {st : List Value} {i : Int} {v : Int32} (hd : decode bytes pc = .ok (.iconst i, 1)) (hq : pc + 1 = q) (hv : Int32.ofInt i = v) (k : Goes p e below s R n0 Q (T.setTop (mkF m q Ls (.int v :: st)))) : Goes p e below s R n0 Q (T.setTop (mkF m pc Ls st)) := by
  obtain ⟨locs, X, N, eh, hn, hx, hZ, hby, hml, hown, hnm, hret, hlk⟩ := X
  subst hby hq
  exact g_of (fun t r => XS.iconst X.here hx rfl hd (by rw [hv]; exact r)) k
theorem g_bipush (X : Wk Z own nm bytes ml ret R n0 p l e s m args below meth c T cells slots h) {pc q : Nat} {Ls : Array Slot} {st : List Value} {i : Int} {v : Int32} (hd : decode bytes pc = .ok (.bipush i, 2)) (hq : pc + 2 = q) (hv : (Int8.ofInt i).toInt32 = v) (k : Goes p e below s R n0 Q (T.setTop (mkF m q Ls (.int v :: st)))) : Goes p e below s R n0 Q (T.setTop (mkF m pc Ls st)) := by
  obtain ⟨locs, X, N, eh, hn, hx, hZ, hby, hml, hown, hnm, hret, hlk⟩ := X
  subst hby hq
  exact g_of (fun t r => XS.bipush X.here hx rfl hd (by rw [hv]; exact r)) k
theorem g_sipush (X : Wk Z own nm bytes ml ret R n0 p l e s m args below meth c T cells slots h) {pc q : Nat} {Ls : Array Slot} {st : List Value} {i : Int} {v : Int32} (hd : decode bytes pc = .ok (.sipush i, 3)) (hq : pc + 3 = q) (hv : (Int16.ofInt i).toInt32 = v) (k : Goes p e below s R n0 Q (T.setTop (mkF m q Ls (.int v :: st)))) : Goes p e below s R n0 Q (T.setTop (mkF m pc Ls st)) := by
  obtain ⟨locs, X, N, eh, hn, hx, hZ, hby, hml, hown, hnm, hret, hlk⟩ := X
  subst hby hq
  exact g_of (fun t r => XS.sipush X.here hx rfl hd (by rw [hv]; exact r)) k
theorem g_lconst (X : Wk Z own nm bytes ml ret R n0 p l e s m args below meth c T cells slots h) {pc q : Nat} {Ls : Array Slot} {st : List Value} {i : Fin 2} {v : Int64} (hd : decode bytes pc = .ok (.lconst i, 1)) (hq : pc + 1 = q) (hv : Int64.ofNat i = v) (k : Goes p e below s R n0 Q (T.setTop (mkF m q Ls (.long v :: st)))) : Goes p e below s R n0 Q (T.setTop (mkF m pc Ls st)) := by
  obtain ⟨locs, X, N, eh, hn, hx, hZ, hby, hml, hown, hnm, hret, hlk⟩ := X
  subst hby hq
  exact g_of (fun t r => XS.lconst X.here hx rfl hd (by rw [hv]; exact r)) k
theorem g_aconst_null (X : Wk Z own nm bytes ml ret R n0 p l e s m args below meth c T cells slots h) {pc q : Nat} {Ls : Array Slot} {st : List Value} (hd : decode bytes pc = .ok (.aconst_null, 1)) (hq : pc + 1 = q) (k : Goes p e below s R n0 Q (T.setTop (mkF m q Ls (.null :: st)))) : Goes p e below s R n0 Q (T.setTop (mkF m pc Ls st)) := by
  obtain ⟨locs, X, N, eh, hn, hx, hZ, hby, hml, hown, hnm, hret, hlk⟩ := X
  subst hby hq
  exact g_of (fun t r => XS.aconstNull X.here hx rfl hd r) k
theorem g_dup (X : Wk Z own nm bytes ml ret R n0 p l e s m args below meth c T cells slots h) {pc q : Nat} {Ls : Array Slot} {rest : List Value} {v : Value} (hd : decode bytes pc = .ok (.dup, 1)) (hq : pc + 1 = q) (hv : v.category = 1) (k : Goes p e below s R n0 Q (T.setTop (mkF m q Ls (v :: v :: rest)))) : Goes p e below s R n0 Q (T.setTop (mkF m pc Ls (v :: rest))) := by
  obtain ⟨locs, X, N, eh, hn, hx, hZ, hby, hml, hown, hnm, hret, hlk⟩ := X
  subst hby hq
  exact g_of (fun t r => XS.dup X.here hx rfl hd rfl hv r) k
theorem g_dup_x1 (X : Wk Z own nm bytes ml ret R n0 p l e s m args below meth c T cells slots h) {pc q : Nat} {Ls : Array Slot} {rest : List Value} {v w : Value} (hd : decode bytes pc = .ok (.dup_x1, 1)) (hq : pc + 1 = q) (hv : v.category = 1) (hw : w.category = 1) (k : Goes p e below s R n0 Q (T.setTop (mkF m q Ls (v :: w :: v :: rest)))) : Goes p e below s R n0 Q (T.setTop (mkF m pc Ls (v :: w :: rest))) := by
  obtain ⟨locs, X, N, eh, hn, hx, hZ, hby, hml, hown, hnm, hret, hlk⟩ := X
  subst hby hq
  exact g_of (fun t r => XS.dupX1 X.here hx rfl hd rfl hv hw r) k
theorem g_dup2 (X : Wk Z own nm bytes ml ret R n0 p l e s m args below meth c T cells slots h) {pc q : Nat} {Ls : Array Slot} {rest : List Value} {v w : Value} (hd : decode bytes pc = .ok (.dup2, 1)) (hq : pc + 1 = q) (hv : v.category = 1) (hw : w.category = 1) (k : Goes p e below s R n0 Q (T.setTop (mkF m q Ls (v :: w :: v :: w :: rest)))) : Goes p e below s R n0 Q (T.setTop (mkF m pc Ls (v :: w :: rest))) := by
  obtain ⟨locs, X, N, eh, hn, hx, hZ, hby, hml, hown, hnm, hret, hlk⟩ := X
  subst hby hq
  exact g_of (fun t r => Jvm.Free.XT.dup2 X.here hx rfl hd rfl hv hw r) k
theorem g_dup2L (X : Wk Z own nm bytes ml ret R n0 p l e s m args below meth c T cells slots h) {pc q : Nat} {Ls : Array Slot} {rest : List Value} {x : Int64} (hd : decode bytes pc = .ok (.dup2, 1)) (hq : pc + 1 = q) (k : Goes p e below s R n0 Q (T.setTop (mkF m q Ls (.long x :: .long x :: rest)))) : Goes p e below s R n0 Q (T.setTop (mkF m pc Ls (.long x :: rest))) := by
  obtain ⟨locs, X, N, eh, hn, hx, hZ, hby, hml, hown, hnm, hret, hlk⟩ := X
  subst hby hq
  exact g_of (fun t r => Jvm.Free.XT.dup2L X.here hx rfl hd rfl r) k
theorem g_pop (X : Wk Z own nm bytes ml ret R n0 p l e s m args below meth c T cells slots h) {pc q : Nat} {Ls : Array Slot} {rest : List Value} {v : Value} (hd : decode bytes pc = .ok (.pop, 1)) (hq : pc + 1 = q) (hv : v.category = 1) (k : Goes p e below s R n0 Q (T.setTop (mkF m q Ls rest))) : Goes p e below s R n0 Q (T.setTop (mkF m pc Ls (v :: rest))) := by
  obtain ⟨locs, X, N, eh, hn, hx, hZ, hby, hml, hown, hnm, hret, hlk⟩ := X
  subst hby hq
  exact g_of (fun t r => XS.pop X.here hx rfl hd rfl hv r) k
theorem g_iinc (X : Wk Z own nm bytes ml ret R n0 p l e s m args below meth c T cells slots h) {pc q : Nat} {Ls L' : Array Slot} {st : List Value} {i : Nat} {cst : Int} {x d : Int32} (hd : decode bytes pc = .ok (.iinc i cst, 3)) (hq : pc + 3 = q) (hl : Ls[i]? = some (.val (.int x))) (hc : Int32.ofInt cst = d) (hl' : storeLocals Ls i (.int (x + d)) = some L') (k : Goes p e below s R n0 Q (T.setTop (mkF m q L' st))) : Goes p e below s R n0 Q (T.setTop (mkF m pc Ls st)) := by
  obtain ⟨locs, X, N, eh, hn, hx, hZ, hby, hml, hown, hnm, hret, hlk⟩ := X
  subst hby hq hc
  exact g_of (fun t r => XS.iinc X.here hx rfl hd hl hl' r) k
theorem g_goto (X : Wk Z own nm bytes ml ret R n0 p l e s m args below meth c T cells slots h) {pc q : Nat} {Ls : Array Slot} {st : List Value} {o : Int} (hd : decode bytes pc = .ok (.goto o, 3)) (ho : 0 ≤ (pc : Int) + o) (hq : ((pc : Int) + o).toNat = q) (k : Goes p e below s R n0 Q (T.setTop (mkF m q Ls st))) : Goes p e below s R n0 Q (T.setTop (mkF m pc Ls st)) := by
  obtain ⟨locs, X, N, eh, hn, hx, hZ, hby, hml, hown, hnm, hret, hlk⟩ := X
  subst hby
  exact g_of (fun t r => XS.goto X.here hx rfl (pc0 := pc) rfl hd ho hq r) k
theorem g_bor (X : Wk Z own nm bytes ml ret R n0 p l e s m args below meth c T cells slots h) {pc q : Nat} {Ls : Array Slot} {rest : List Value} {A B : Prop} [Decidable A] [Decidable B] (hd : decode bytes pc = .ok (.ior, 1)) (hq : pc + 1 = q) (k : Goes p e below s R n0 Q (T.setTop (mkF m q Ls (.int (bI (A ∨ B)) :: rest)))) : Goes p e below s R n0 Q (T.setTop (mkF m pc Ls (.int (bI B) :: .int (bI A) :: rest))) :=
  g_ior X hd hq (by rw [show bI A ||| bI B = bI (A ∨ B) from own_bor A B]; exact k)
theorem g_band (X : Wk Z own nm bytes ml ret R n0 p l e s m args below meth c T cells slots h) {pc q : Nat} {Ls : Array Slot} {rest : List Value} {A B : Prop} [Decidable A] [Decidable B] (hd : decode bytes pc = .ok (.iand, 1)) (hq : pc + 1 = q) (k : Goes p e below s R n0 Q (T.setTop (mkF m q Ls (.int (bI (A ∧ B)) :: rest)))) : Goes p e below s R n0 Q (T.setTop (mkF m pc Ls (.int (bI B) :: .int (bI A) :: rest))) :=
  g_iand X hd hq (by rw [show bI A &&& bI B = bI (A ∧ B) from own_band A B]; exact k)
theorem hI {cd : ClassFile.Cond} {x y : Int32} (hcd : cd = .lt ∨ cd = .gt ∨ cd = .eq) : (pcI cd x y → if_icmp.holds cd x y = true) ∧ (¬ pcI cd x y → if_icmp.holds cd x y = false) := by
  rcases hcd with rfl | rfl | rfl
  · exact ⟨fun q => (tlt q).1, fun q => (flt q).1⟩
  · exact ⟨fun q => (tlt q).2.2.1, fun q => (flt q).2.2.1⟩
  · exact ⟨fun q => (teq q).1, fun q => (feq q).1⟩
theorem hN {cd : ClassFile.Cond} {x y : Int32} (hcd : cd = .ge ∨ cd = .le ∨ cd = .ne) : (pcI cd x y → if_icmp.holds cd x y = false) ∧ (¬ pcI cd x y → if_icmp.holds cd x y = true) := by
  rcases hcd with rfl | rfl | rfl
  · exact ⟨fun q => (tlt q).2.1, fun q => (flt q).2.1⟩
  · exact ⟨fun q => (tlt q).2.2.2, fun q => (flt q).2.2.2⟩
  · exact ⟨fun q => (teq q).2, fun q => (feq q).2⟩
theorem pcL {cd : ClassFile.Cond} {x y : Int64} : pcI cd (lcmpW x y) 0 ↔ pcJ cd x y := by
  cases cd
  · exact lw_eq x y
  · exact lw_eq x y
  · exact lw_lt x y
  · exact lw_lt x y
  · exact lw_gt x y
  · exact lw_gt x y
instance pcI_dec (cd : ClassFile.Cond) (x y : Int32) : Decidable (pcI cd x y) := by cases cd <;> (unfold pcI; infer_instance)
theorem g_icmpA (X : Wk Z own nm bytes ml ret R n0 p l e s m args below meth c T cells slots h) {pc q t : Nat} {Ls : Array Slot} {rest : List Value} {o : Int} {cd : ClassFile.Cond} {x y : Int32} (hd : decode bytes pc = .ok (.if_icmp cd o, 3)) (hcd : cd = .lt ∨ cd = .gt ∨ cd = .eq) (hq : pc + 3 = q) (ho : 0 ≤ (pc : Int) + o) (ht : ((pc : Int) + o).toNat = t) (kP : pcI cd x y → Goes p e below s R n0 Q (T.setTop (mkF m t Ls rest))) (kN : ¬ pcI cd x y → Goes p e below s R n0 Q (T.setTop (mkF m q Ls rest))) : Goes p e below s R n0 Q (T.setTop (mkF m pc Ls (.int y :: .int x :: rest))) := by
  obtain ⟨locs, X, N, eh, hn, hx, hZ, hby, hml, hown, hnm, hret, hlk⟩ := X
  subst hby hq
  by_cases hP : pcI cd x y
  · exact g_of (fun _ r => XS.icmpYes X.here hx rfl (pc0 := pc) rfl hd rfl ((hI hcd).1 hP) ho ht r) (kP hP)
  · exact g_of (fun _ r => XS.icmpNo X.here hx rfl hd rfl ((hI hcd).2 hP) r) (kN hP)
theorem g_ifA (X : Wk Z own nm bytes ml ret R n0 p l e s m args below meth c T cells slots h) {pc q t : Nat} {Ls : Array Slot} {rest : List Value} {o : Int} {cd : ClassFile.Cond} {x : Int32} (hd : decode bytes pc = .ok (.ifCond cd o, 3)) (hcd : cd = .lt ∨ cd = .gt ∨ cd = .eq) (hq : pc + 3 = q) (ho : 0 ≤ (pc : Int) + o) (ht : ((pc : Int) + o).toNat = t) (kP : pcI cd x 0 → Goes p e below s R n0 Q (T.setTop (mkF m t Ls rest))) (kN : ¬ pcI cd x 0 → Goes p e below s R n0 Q (T.setTop (mkF m q Ls rest))) : Goes p e below s R n0 Q (T.setTop (mkF m pc Ls (.int x :: rest))) := by
  obtain ⟨locs, X, N, eh, hn, hx, hZ, hby, hml, hown, hnm, hret, hlk⟩ := X
  subst hby hq
  by_cases hP : pcI cd x 0
  · exact g_of (fun _ r => XS.ifYes X.here hx rfl (pc0 := pc) rfl hd rfl ((if0 _ _).trans ((hI hcd).1 hP)) ho ht r) (kP hP)
  · exact g_of (fun _ r => XS.ifNo X.here hx rfl hd rfl ((if0 _ _).trans ((hI hcd).2 hP)) r) (kN hP)
theorem g_lcmpA (X : Wk Z own nm bytes ml ret R n0 p l e s m args below meth c T cells slots h) {pc q t : Nat} {Ls : Array Slot} {rest : List Value} {o : Int} {cd : ClassFile.Cond} {x y : Int64} {q1 : Nat} (hd0 : decode bytes pc = .ok (.lcmp, 1)) (hq1 : pc + 1 = q1) (hd : decode bytes q1 = .ok (.ifCond cd o, 3)) (hcd : cd = .lt ∨ cd = .gt ∨ cd = .eq) (hq : q1 + 3 = q) (ho : 0 ≤ (q1 : Int) + o) (ht : ((q1 : Int) + o).toNat = t) (kP : pcJ cd x y → Goes p e below s R n0 Q (T.setTop (mkF m t Ls rest))) (kN : ¬ pcJ cd x y → Goes p e below s R n0 Q (T.setTop (mkF m q Ls rest))) : Goes p e below s R n0 Q (T.setTop (mkF m pc Ls (.long y :: .long x :: rest))) := by
  refine g_lcmp X hd0 hq1 (g_ifA X hd hcd hq ho ht (fun z => kP (pcL.mp z)) (fun z => kN (fun w => z (pcL.mpr w))))
theorem g_icmpB (X : Wk Z own nm bytes ml ret R n0 p l e s m args below meth c T cells slots h) {pc q t : Nat} {Ls : Array Slot} {rest : List Value} {o : Int} {cd : ClassFile.Cond} {x y : Int32} (hd : decode bytes pc = .ok (.if_icmp cd o, 3)) (hcd : cd = .ge ∨ cd = .le ∨ cd = .ne) (hq : pc + 3 = q) (ho : 0 ≤ (pc : Int) + o) (ht : ((pc : Int) + o).toNat = t) (kP : pcI cd x y → Goes p e below s R n0 Q (T.setTop (mkF m q Ls rest))) (kN : ¬ pcI cd x y → Goes p e below s R n0 Q (T.setTop (mkF m t Ls rest))) : Goes p e below s R n0 Q (T.setTop (mkF m pc Ls (.int y :: .int x :: rest))) := by
  obtain ⟨locs, X, N, eh, hn, hx, hZ, hby, hml, hown, hnm, hret, hlk⟩ := X
  subst hby hq
  by_cases hP : pcI cd x y
  · exact g_of (fun _ r => XS.icmpNo X.here hx rfl hd rfl ((hN hcd).1 hP) r) (kP hP)
  · exact g_of (fun _ r => XS.icmpYes X.here hx rfl (pc0 := pc) rfl hd rfl ((hN hcd).2 hP) ho ht r) (kN hP)
theorem g_ifB (X : Wk Z own nm bytes ml ret R n0 p l e s m args below meth c T cells slots h) {pc q t : Nat} {Ls : Array Slot} {rest : List Value} {o : Int} {cd : ClassFile.Cond} {x : Int32} (hd : decode bytes pc = .ok (.ifCond cd o, 3)) (hcd : cd = .ge ∨ cd = .le ∨ cd = .ne) (hq : pc + 3 = q) (ho : 0 ≤ (pc : Int) + o) (ht : ((pc : Int) + o).toNat = t) (kP : pcI cd x 0 → Goes p e below s R n0 Q (T.setTop (mkF m q Ls rest))) (kN : ¬ pcI cd x 0 → Goes p e below s R n0 Q (T.setTop (mkF m t Ls rest))) : Goes p e below s R n0 Q (T.setTop (mkF m pc Ls (.int x :: rest))) := by
  obtain ⟨locs, X, N, eh, hn, hx, hZ, hby, hml, hown, hnm, hret, hlk⟩ := X
  subst hby hq
  by_cases hP : pcI cd x 0
  · exact g_of (fun _ r => XS.ifNo X.here hx rfl hd rfl ((if0 _ _).trans ((hN hcd).1 hP)) r) (kP hP)
  · exact g_of (fun _ r => XS.ifYes X.here hx rfl (pc0 := pc) rfl hd rfl ((if0 _ _).trans ((hN hcd).2 hP)) ho ht r) (kN hP)
theorem g_lcmpB (X : Wk Z own nm bytes ml ret R n0 p l e s m args below meth c T cells slots h) {pc q t : Nat} {Ls : Array Slot} {rest : List Value} {o : Int} {cd : ClassFile.Cond} {x y : Int64} {q1 : Nat} (hd0 : decode bytes pc = .ok (.lcmp, 1)) (hq1 : pc + 1 = q1) (hd : decode bytes q1 = .ok (.ifCond cd o, 3)) (hcd : cd = .ge ∨ cd = .le ∨ cd = .ne) (hq : q1 + 3 = q) (ho : 0 ≤ (q1 : Int) + o) (ht : ((q1 : Int) + o).toNat = t) (kP : pcJ cd x y → Goes p e below s R n0 Q (T.setTop (mkF m q Ls rest))) (kN : ¬ pcJ cd x y → Goes p e below s R n0 Q (T.setTop (mkF m t Ls rest))) : Goes p e below s R n0 Q (T.setTop (mkF m pc Ls (.long y :: .long x :: rest))) := by
  refine g_lcmp X hd0 hq1 (g_ifB X hd hcd hq ho ht (fun z => kP (pcL.mp z)) (fun z => kN (fun w => z (pcL.mpr w))))
theorem g_bne (X : Wk Z own nm bytes ml ret R n0 p l e s m args below meth c T cells slots h) {pc q t : Nat} {Ls : Array Slot} {rest : List Value} {o : Int} {c' : Prop} [Decidable c'] (hd : decode bytes pc = .ok (.ifCond .ne o, 3)) (hq : pc + 3 = q) (ho : 0 ≤ (pc : Int) + o) (ht : ((pc : Int) + o).toNat = t) (kP : c' → Goes p e below s R n0 Q (T.setTop (mkF m t Ls rest))) (kN : ¬ c' → Goes p e below s R n0 Q (T.setTop (mkF m q Ls rest))) : Goes p e below s R n0 Q (T.setTop (mkF m pc Ls (.int (bI c') :: rest))) :=
  g_ifB X hd (Or.inr (Or.inr rfl)) hq ho ht (fun z => kN ((bI_eq0 c').mp z)) (fun z => kP (Decidable.of_not_not fun w => z ((bI_eq0 c').mpr w)))
theorem g_beq (X : Wk Z own nm bytes ml ret R n0 p l e s m args below meth c T cells slots h) {pc q t : Nat} {Ls : Array Slot} {rest : List Value} {o : Int} {c' : Prop} [Decidable c'] (hd : decode bytes pc = .ok (.ifCond .eq o, 3)) (hq : pc + 3 = q) (ho : 0 ≤ (pc : Int) + o) (ht : ((pc : Int) + o).toNat = t) (kP : c' → Goes p e below s R n0 Q (T.setTop (mkF m q Ls rest))) (kN : ¬ c' → Goes p e below s R n0 Q (T.setTop (mkF m t Ls rest))) : Goes p e below s R n0 Q (T.setTop (mkF m pc Ls (.int (bI c') :: rest))) :=
  g_ifA X hd (Or.inr (Or.inr rfl)) hq ho ht (fun z => kN ((bI_eq0 c').mp z)) (fun z => kP (Decidable.of_not_not fun w => z ((bI_eq0 c').mpr w)))
theorem g_ifnullY (X : Wk Z own nm bytes ml ret R n0 p l e s m args below meth c T cells slots h) {pc q : Nat} {Ls : Array Slot} {rest : List Value} {o : Int} (hd : decode bytes pc = .ok (.ifnull o, 3)) (ho : 0 ≤ (pc : Int) + o) (hq : ((pc : Int) + o).toNat = q) (k : Goes p e below s R n0 Q (T.setTop (mkF m q Ls rest))) : Goes p e below s R n0 Q (T.setTop (mkF m pc Ls (.null :: rest))) := by
  obtain ⟨locs, X, N, eh, hn, hx, hZ, hby, hml, hown, hnm, hret, hlk⟩ := X
  subst hby
  exact g_of (fun t r => XS.ifnullYes X.here hx rfl (pc0 := pc) rfl hd rfl ho hq r) k
theorem g_ifnullN (X : Wk Z own nm bytes ml ret R n0 p l e s m args below meth c T cells slots h) {pc q : Nat} {Ls : Array Slot} {rest : List Value} {o : Int} {b : Addr} (hd : decode bytes pc = .ok (.ifnull o, 3)) (hq : pc + 3 = q) (k : Goes p e below s R n0 Q (T.setTop (mkF m q Ls rest))) : Goes p e below s R n0 Q (T.setTop (mkF m pc Ls (.ref b :: rest))) := by
  obtain ⟨locs, X, N, eh, hn, hx, hZ, hby, hml, hown, hnm, hret, hlk⟩ := X
  subst hby hq
  exact g_of (fun t r => XS.ifnullNo X.here hx rfl hd rfl r) k
theorem g_ifnonnullY (X : Wk Z own nm bytes ml ret R n0 p l e s m args below meth c T cells slots h) {pc q : Nat} {Ls : Array Slot} {rest : List Value} {o : Int} {b : Addr} (hd : decode bytes pc = .ok (.ifnonnull o, 3)) (ho : 0 ≤ (pc : Int) + o) (hq : ((pc : Int) + o).toNat = q) (k : Goes p e below s R n0 Q (T.setTop (mkF m q Ls rest))) : Goes p e below s R n0 Q (T.setTop (mkF m pc Ls (.ref b :: rest))) := by
  obtain ⟨locs, X, N, eh, hn, hx, hZ, hby, hml, hown, hnm, hret, hlk⟩ := X
  subst hby
  exact g_of (fun t r => XS.ifnonnullYes X.here hx rfl (pc0 := pc) rfl hd rfl ho hq r) k
theorem g_ifnonnullN (X : Wk Z own nm bytes ml ret R n0 p l e s m args below meth c T cells slots h) {pc q : Nat} {Ls : Array Slot} {rest : List Value} {o : Int} (hd : decode bytes pc = .ok (.ifnonnull o, 3)) (hq : pc + 3 = q) (k : Goes p e below s R n0 Q (T.setTop (mkF m q Ls rest))) : Goes p e below s R n0 Q (T.setTop (mkF m pc Ls (.null :: rest))) := by
  obtain ⟨locs, X, N, eh, hn, hx, hZ, hby, hml, hown, hnm, hret, hlk⟩ := X
  subst hby hq
  exact g_of (fun t r => XS.ifnonnullNo X.here hx rfl hd rfl r) k
theorem g_acmp (X : Wk Z own nm bytes ml ret R n0 p l e s m args below meth c T cells slots h) {pc q : Nat} {Ls : Array Slot} {rest : List Value} {o : Int} {cd : ACond} {x y : Value} {same : Bool} (hd : decode bytes pc = .ok (.if_acmp cd o, 3)) (h1 : x.isRef = true) (h2 : y.isRef = true) (hs : decide (x = y) = same) (ho : 0 ≤ (pc : Int) + o) (hq : q = if acV cd same = true then ((pc : Int) + o).toNat else pc + 3) (k : Goes p e below s R n0 Q (T.setTop (mkF m q Ls rest))) : Goes p e below s R n0 Q (T.setTop (mkF m pc Ls (y :: x :: rest))) := by
  obtain ⟨locs, X, N, eh, hn, hx, hZ, hby, hml, hown, hnm, hret, hlk⟩ := X
  subst hby
  exact g_of (fun t r => Jvm.RoadKit.acmp (g := mkF m pc Ls (y :: x :: rest)) X hx rfl h1 h2 (pc0 := pc) rfl hd rfl hs ho hq r) k

theorem g_ldc2 (X : Wk Z own nm bytes ml ret R n0 p l e s m args below meth c T cells slots h) {index : Nat} {v : Int64} (w : (Jvm.Cond.constantLong own index v).before a0 Z = true) {pc q : Nat} {Ls : Array Slot} {st : List Value} (hd : decode bytes pc = .ok (.ldc2_w index, 3)) (hq : pc + 3 = q) (k : Goes p e below s R n0 Q (T.setTop (mkF m q Ls (.long v :: st)))) : Goes p e below s R n0 Q (T.setTop (mkF m pc Ls st)) := by
  obtain ⟨locs, X, N, eh, hn, hx, hZ, hby, hml, hown, hnm, hret, hlk⟩ := X
  subst hby hq
  exact g_of (fun t r => X.ldc2Long hx hown (mvT hZ w) (g := mkF m pc Ls st) rfl hd t r) k
theorem g_ldc (X : Wk Z own nm bytes ml ret R n0 p l e s m args below meth c T cells slots h) {index : Nat} {v : Int32} (w : (Jvm.Cond.constant own index v).before a0 Z = true) {pc q : Nat} {Ls : Array Slot} {st : List Value} (hd : decode bytes pc = .ok (.ldc index, 2)) (hq : pc + 2 = q) (k : Goes p e below s R n0 Q (T.setTop (mkF m q Ls (.int v :: st)))) : Goes p e below s R n0 Q (T.setTop (mkF m pc Ls st)) := by
  obtain ⟨locs, X, N, eh, hn, hx, hZ, hby, hml, hown, hnm, hret, hlk⟩ := X
  subst hby hq
  exact g_of (fun t r => X.ldcInt hx hown (mvT hZ w) (g := mkF m pc Ls st) rfl hd t r) k
theorem g_ldcw (X : Wk Z own nm bytes ml ret R n0 p l e s m args below meth c T cells slots h) {index : Nat} {v : Int32} (w : (Jvm.Cond.constant own index v).before a0 Z = true) {pc q : Nat} {Ls : Array Slot} {st : List Value} (hd : decode bytes pc = .ok (.ldc_w index, 3)) (hq : pc + 3 = q) (k : Goes p e below s R n0 Q (T.setTop (mkF m q Ls (.int v :: st)))) : Goes p e below s R n0 Q (T.setTop (mkF m pc Ls st)) := by
  obtain ⟨locs, X, N, eh, hn, hx, hZ, hby, hml, hown, hnm, hret, hlk⟩ := X
  subst hby hq
  exact g_of (fun t r => X.ldcwInt hx hown (mvT hZ w) (g := mkF m pc Ls st) rfl hd t r) k
theorem g_getF (X : Wk Z own nm bytes ml ret R n0 p l e s m args below meth c T cells slots h) {index : Nat} {R0 O n d : String} (w : (Jvm.Cond.fieldLink own index R0 n d).before a0 Z = true) (via : Via Z R0 O n d) {a : Addr} {v : Value} (F : Fld Z h a O n d v) {pc q : Nat} {Ls : Array Slot} {rest : List Value} (hd : decode bytes pc = .ok (.getfield index, 3)) (hq : pc + 3 = q)
    (k : ∀ T', Wk Z own nm bytes ml ret R n0 p l e s m args below meth c T' cells slots h → Goes p e below s R n0 Q (T'.setTop (mkF m q Ls (v :: rest)))) : Goes p e below s R n0 Q (T.setTop (mkF m pc Ls (.ref a :: rest))) := by
  obtain ⟨locs, X, N, eh, hn, hx, hZ, hby, hml, hown, hnm, hret, hlk⟩ := X
  subst hby hq
  obtain ⟨T', X', e', st⟩ := getF X hx hZ hown (host := "") (Or.inl w) via eh F (g := mkF m pc Ls (.ref a :: rest)) rfl rfl hd
  exact g_of st (k T' ⟨locs, X', N, e', hn, hx, hZ, rfl, hml, hown, hnm, hret, hlk⟩)
theorem g_putF (X : Wk Z own nm bytes ml ret R n0 p l e s m args below meth c T cells slots h) {index kk : Nat} {R0 O n d C : String} {ty : FieldType} (w : (Jvm.Cond.fieldLink own index R0 n d).before a0 Z = true) (via : Via Z R0 O n d) {a : Addr} {v old : Value} (F : Fld Z h a O n d old) (E : Exa Z h a C) (L : (Jvm.Cond.lays C O n d).before a0 Z = true ∨ ((Jvm.Cond.laysFinal C O n d).before a0 Z = true ∧ own = O ∧ nm = "<init>")) (wi : (Jvm.Cond.instantiable C kk).before a0 Z = true) (hty : parseFieldDescriptor d = some ty) (hnr : narrow ty v = v) (hf : fits ty v = true) (ga : n0 ≤ a) {pc q : Nat} {Ls : Array Slot} {rest : List Value} (hd : decode bytes pc = .ok (.putfield index, 3)) (hq : pc + 3 = q)
    (k : ∀ T' h', Wk Z own nm bytes ml ret R n0 p l e s m args below meth c T' cells slots h' → Wr h h' a (Jvm.RoadKit.slotOf Z O n d) v → Goes p e below s R n0 Q (T'.setTop (mkF m q Ls rest))) : Goes p e below s R n0 Q (T.setTop (mkF m pc Ls (v :: .ref a :: rest))) := by
  obtain ⟨locs, X, N, eh, hn, hx, hZ, hby, hml, hown, hnm, hret, hlk⟩ := X
  subst hby hq
  obtain ⟨T', h', X', e', W', st⟩ := putF X hx hZ hown (host := "") (Or.inl w) via eh F E (L.imp id fun z => ⟨z.1, z.2.1, hnm.trans z.2.2⟩) wi hty hnr hf (g := mkF m pc Ls (v :: .ref a :: rest)) rfl rfl hd
  exact g_of st (k T' h' ⟨_, X', Fr.snoc X' N ga, e', hn, hx, hZ, rfl, hml, hown, hnm, hret, hlk⟩ W')
theorem g_new (X : Wk Z own nm bytes ml ret R n0 p l e s m args below meth c T cells slots h) {index n : Nat} {C : String} (w : (Jvm.Cond.classLink own index C).before a0 Z = true) (wi : (Jvm.Cond.instantiable C n).before a0 Z = true) (wz : (Jvm.Cond.initialized C).before a0 Z = true) {pc q c2 s2 : Nat} {Ls : Array Slot} {st : List Value} (hd : decode bytes pc = .ok (.new index, 3)) (hq : pc + 3 = q) (hc : cells + 1 = c2) (hs : slots + n = s2) (hcR : c2 ≤ R.cells) (hsR : s2 ≤ R.slots)
    (k : ∀ T' h' b, Wk Z own nm bytes ml ret R n0 p l e s m args below meth c T' c2 s2 h' → b = h.size → n0 ≤ b → Ext h h' → Exa Z h' b C → (∀ {O nm d : String} {ty : FieldType}, Laid Z a0 C O nm d → parseFieldDescriptor d = some ty → Fld Z h' b O nm d (defaultValue ty)) → Goes p e below s R n0 Q (T'.setTop (mkF m q Ls (.ref b :: st)))) : Goes p e below s R n0 Q (T.setTop (mkF m pc Ls st)) := by
  obtain ⟨locs, X, N, eh, hn, hx, hZ, hby, hml, hown, hnm, hret, hlk⟩ := X
  subst hby hq hc hs
  obtain ⟨T', h', X', e', E', A', D', -, stp⟩ := newO X hx hZ hown w wi wz eh (g := mkF m pc Ls st) rfl hd hcR hsR
  exact g_of stp (k T' h' _ ⟨locs, X', N, e', hn, hx, hZ, rfl, hml, hown, hnm, hret, hlk⟩ rfl (Wk.size ⟨locs, X, N, eh, hn, hx, hZ, rfl, hml, hown, hnm, hret, hlk⟩) E' A' D')
theorem g_initO (X : Wk Z own nm bytes ml ret R n0 p l e s m args below meth c T cells slots h) {index : Nat} (w1 : (Jvm.Cond.methodLink own index Lib.objectInit).before a0 Z = true) (w2 : (Jvm.Cond.instanceMethod Lib.objectInit).before a0 Z = true) (w3 : (Jvm.Cond.code Lib.objectInit ⟨#[0xb1]⟩ 1 none).before a0 Z = true) {a : Addr} {pc q W : Nat} {Ls : Array Slot} {rest : List Value} (hd : decode bytes pc = .ok (.invokespecial index, 3)) (hq : pc + 3 = q) (hLs : Ls.size = ml) (hf : 1 ≤ R.frames) (hW : (rest.map fun v => v.category).sum = W) (hl : W + 12 ≤ R.locals)
    (k : ∀ T', Wk Z own nm bytes ml ret R n0 p l e s m args below meth c T' cells slots h → Goes p e below s R n0 Q (T'.setTop (mkF m q Ls rest))) : Goes p e below s R n0 Q (T.setTop (mkF m pc Ls (.ref a :: rest))) := by
  obtain ⟨locs, X, N, eh, hn, hx, hZ, hby, hml, hown, hnm, hret, hlk⟩ := X
  subst hby hq
  obtain ⟨T', X', e', st⟩ := initO X hx hZ hown w1 w2 w3 eh (g := mkF m pc Ls (.ref a :: rest)) rfl (hLs.trans hml.symm) rfl hd hf (W := W) (by show 2 * 0 + _ ≤ _; omega) hl
  exact g_of st (k T' ⟨locs, X', N, e', hn, hx, hZ, rfl, hml, hown, hnm, hret, hlk⟩)
theorem own_back {index W : Nat} {y : MethodName} {yb : ByteArray} {yml : Nat} {yret : Option FieldType} {Ry : Room} {as' : Array Value} {len : Nat} {Qy : Option Value → Heap → Prop} (hZ : Z.Warmed39 s.vm) (w3 : (Jvm.Cond.initialized y.cls).before a0 Z = true) (w4 : (Jvm.Cond.code y yb yml yret).before a0 Z = true) (hM : Met l Z y yb yml yret Ry [] n0 as' h Qy) (hf : Ry.frames + 1 ≤ R.frames) (hlc : W + (yml + 11) + Ry.locals ≤ R.locals) :
    Back l R p e below s args y len W (fun A a => a = as' ∧ A.U.heap = h ∧ A.cells + Ry.cells ≤ R.cells ∧ A.slots + Ry.slots ≤ R.slots)
      (fun A _ v B => ∃ L, (Fr n0 L ∧ Qy v B.U.heap) ∧ B.locs = A.locs ++ L ∧ B.cells = A.cells + Ry.cells ∧ B.slots = A.slots + Ry.slots) :=
  backOf (Q := fun v h L => Fr n0 L ∧ Qy v h) hM hZ w4 w3 hf hlc
theorem g_callS (X : Wk Z own nm bytes ml ret R n0 p l e s m args below meth c T cells slots h) {index : Nat} {y : MethodName} {yb : ByteArray} {yml : Nat} {yret : Option FieldType} {Ry : Room} {Qy : Option Value → Heap → Prop} {ps : List FieldType} {r : Option FieldType} (as rest : List Value) (w1 : (Jvm.Cond.methodLink own index y).before a0 Z = true) (w2 : (Jvm.Cond.static y).before a0 Z = true) (w3 : (Jvm.Cond.initialized y.cls).before a0 Z = true) (w4 : (Jvm.Cond.code y yb yml yret).before a0 Z = true) (hy : y.cls ≠ "java/lang/invoke/MethodHandle" ∧ y.cls ≠ "java/lang/invoke/VarHandle") (hM : Met l Z y yb yml yret Ry [] n0 as.toArray h Qy) (hp : parseMethodDescriptor y.desc = some ⟨ps, r⟩) (hl : as.length = ps.length)
    {pc q c2 s2 W : Nat} {Ls : Array Slot} {st : List Value} (hst : st = as.reverse ++ rest) (hLs : Ls.size = ml) (hd : decode bytes pc = .ok (.invokestatic index, 3)) (hq : pc + 3 = q) (hW : (rest.map fun v => v.category).sum = W) (hf : Ry.frames + 1 ≤ R.frames) (hlc : W + (yml + 11) + Ry.locals ≤ R.locals) (hc : cells + Ry.cells = c2) (hs : slots + Ry.slots = s2) (hcR : c2 ≤ R.cells) (hsR : s2 ≤ R.slots)
    (k : ∀ v T' h', Wk Z own nm bytes ml ret R n0 p l e s m args below meth c T' c2 s2 h' → Qy v h' → Goes p e below s R n0 Q (T'.setTop (mkF m q Ls (v.toList ++ rest)))) : Goes p e below s R n0 Q (T.setTop (mkF m pc Ls st)) := by
  obtain ⟨locs, X, N, eh, hn, hx, hZ, hby, hml, hown, hnm, hret, hlk⟩ := X
  subst hby hq hc hs hst
  obtain ⟨v, _, ⟨T', L', k', n'⟩, -, X', ⟨Lc, ⟨hF, hQy⟩, l', y', z'⟩, stp⟩ := Jvm.LawKit.callS X hx (y := y) hown (mvT hZ w1) (mvT hZ w2) (mvT hZ w3) (mvT hZ w4) hy (own_back (index := index) (W := W) hZ w3 w4 hM hf hlc) (g := mkF m pc Ls (as.reverse ++ rest)) rfl (hLs.trans hml.symm) (argsL := as) (rest := rest) (lenOf hp hl) rfl (by show 2 * 0 + _ ≤ _; omega) hd (fun _ _ => ⟨rfl, eh, hcR, hsR⟩)
  dsimp only [Pt.U, Pt.locs, Pt.cells, Pt.slots] at X' l' y' z' stp hQy
  subst l' y' z'
  exact g_of stp (k v T' _ ⟨_, X', Fr.app N hF, rfl, hn, hx, hZ, rfl, hml, hown, hnm, hret, hlk⟩ hQy)
theorem g_callI (X : Wk Z own nm bytes ml ret R n0 p l e s m args below meth c T cells slots h) {index : Nat} {y : MethodName} {yb : ByteArray} {yml : Nat} {Ry : Room} {Qy : Option Value → Heap → Prop} {ps : List FieldType} {r : Option FieldType} {a : Addr} (as rest : List Value) (hy1 : y.name = "<init>") (w1 : (Jvm.Cond.methodLink own index y).before a0 Z = true) (w2 : (Jvm.Cond.instanceMethod y).before a0 Z = true) (w3 : (Jvm.Cond.initialized y.cls).before a0 Z = true) (w4 : (Jvm.Cond.code y yb yml none).before a0 Z = true) (hy : y.cls ≠ "java/lang/invoke/MethodHandle" ∧ y.cls ≠ "java/lang/invoke/VarHandle") (hM : Met l Z y yb yml none Ry [] n0 (.ref a :: as).toArray h Qy) (hp : parseMethodDescriptor y.desc = some ⟨ps, r⟩) (hl : as.length = ps.length)
    {pc q c2 s2 W : Nat} {Ls : Array Slot} {st : List Value} (hst : st = as.reverse ++ .ref a :: rest) (hLs : Ls.size = ml) (hd : decode bytes pc = .ok (.invokespecial index, 3)) (hq : pc + 3 = q) (hW : (rest.map fun v => v.category).sum = W) (hf : Ry.frames + 1 ≤ R.frames) (hlc : W + (yml + 11) + Ry.locals ≤ R.locals) (hc : cells + Ry.cells = c2) (hs : slots + Ry.slots = s2) (hcR : c2 ≤ R.cells) (hsR : s2 ≤ R.slots)
    (k : ∀ v T' h', Wk Z own nm bytes ml ret R n0 p l e s m args below meth c T' c2 s2 h' → Qy v h' → Goes p e below s R n0 Q (T'.setTop (mkF m q Ls (v.toList ++ rest)))) : Goes p e below s R n0 Q (T.setTop (mkF m pc Ls st)) := by
  obtain ⟨locs, X, N, eh, hn, hx, hZ, hby, hml, hown, hnm, hret, hlk⟩ := X
  subst hby hq hc hs hst
  obtain ⟨v, _, ⟨T', L', k', n'⟩, -, X', ⟨Lc, ⟨hF, hQy⟩, l', y', z'⟩, stp⟩ := X.specialBack hx (y := y) hy1 hown (mvT hZ w1) (mvT hZ w2) (mvT hZ w4) hy (own_back (index := index) (W := W) hZ w3 w4 hM hf hlc) (g := mkF m pc Ls (as.reverse ++ .ref a :: rest)) rfl (hLs.trans hml.symm) (Steps.refl _) (a := a) (argsL := as) (rest := rest) (lenOf hp hl) rfl (by show 2 * 0 + _ ≤ _; omega) hd (fun _ _ => ⟨rfl, eh, hcR, hsR⟩)
  dsimp only [Pt.U, Pt.locs, Pt.cells, Pt.slots] at X' l' y' z' stp hQy
  subst l' y' z'
  exact g_of (fun _ r => stp.trans r) (k v T' _ ⟨_, X', Fr.app N hF, rfl, hn, hx, hZ, rfl, hml, hown, hnm, hret, hlk⟩ hQy)
theorem g_callV (X : Wk Z own nm bytes ml ret R n0 p l e s m args below meth c T cells slots h) {index : Nat} {y : MethodName} {yb : ByteArray} {yml : Nat} {yret : Option FieldType} {Ry : Room} {Qy : Option Value → Heap → Prop} {ps : List FieldType} {r : Option FieldType} {a : Addr} {C : String} (E : Exa Z h a C) (as rest : List Value) (w1 : (Jvm.Cond.methodLink own index y).before a0 Z = true) (w2 : (Jvm.Cond.declares y).before a0 Z = true) (w5 : (Jvm.Cond.selects C y y).before a0 Z = true) (w6 : (Jvm.Cond.instanceMethod y).before a0 Z = true) (w3 : (Jvm.Cond.initialized y.cls).before a0 Z = true) (w4 : (Jvm.Cond.code y yb yml yret).before a0 Z = true) (hy : y.cls ≠ "java/lang/invoke/MethodHandle" ∧ y.cls ≠ "java/lang/invoke/VarHandle") (hM : Met l Z y yb yml yret Ry [] n0 (.ref a :: as).toArray h Qy) (hp : parseMethodDescriptor y.desc = some ⟨ps, r⟩) (hl : as.length = ps.length)
    {pc q c2 s2 W : Nat} {Ls : Array Slot} {st : List Value} (hst : st = as.reverse ++ .ref a :: rest) (hLs : Ls.size = ml) (hd : decode bytes pc = .ok (.invokevirtual index, 3)) (hq : pc + 3 = q) (hW : (rest.map fun v => v.category).sum = W) (hf : Ry.frames + 1 ≤ R.frames) (hlc : W + (yml + 11) + Ry.locals ≤ R.locals) (hc : cells + Ry.cells = c2) (hs : slots + Ry.slots = s2) (hcR : c2 ≤ R.cells) (hsR : s2 ≤ R.slots)
    (k : ∀ v T' h', Wk Z own nm bytes ml ret R n0 p l e s m args below meth c T' c2 s2 h' → Qy v h' → Goes p e below s R n0 Q (T'.setTop (mkF m q Ls (v.toList ++ rest)))) : Goes p e below s R n0 Q (T.setTop (mkF m pc Ls st)) := by
  obtain ⟨locs, X, N, eh, hn, hx, hZ, hby, hml, hown, hnm, hret, hlk⟩ := X
  subst hby hq hc hs hst
  obtain ⟨cq, kq, qa, qb, qc⟩ := isOf hZ eh E
  obtain ⟨v, _, ⟨T', L', k', n'⟩, -, X', ⟨Lc, ⟨hF, hQy⟩, l', y', z'⟩, stp⟩ := X.virtualBack hx (y := y) (z := y) hown (mvT hZ w1) (mvT hZ w2) (notFace_of_selects (args := #[]) (mvT hZ w5)) (mvT hZ w5) (mvT hZ w6) hy (own_back (index := index) (W := W) hZ w3 w4 hM hf hlc) qa qc (g := mkF m pc Ls (as.reverse ++ .ref a :: rest)) rfl (hLs.trans hml.symm) (Steps.refl _) (argsL := as) (rest := rest) (lenOf hp hl) rfl (by show 2 * 0 + _ ≤ _; omega) hd (fun _ _ => ⟨rfl, eh, hcR, hsR⟩)
  dsimp only [Pt.U, Pt.locs, Pt.cells, Pt.slots] at X' l' y' z' stp hQy
  subst l' y' z'
  exact g_of (fun _ r => stp.trans r) (k v T' _ ⟨_, X', Fr.app N hF, rfl, hn, hx, hZ, rfl, hml, hown, hnm, hret, hlk⟩ hQy)
theorem g_callP (X : Wk Z own nm bytes ml ret R n0 p l e s m args below meth c T cells slots h) {index : Nat} {y : MethodName} {yb : ByteArray} {yml : Nat} {yret : Option FieldType} {Ry : Room} {Qy : Option Value → Heap → Prop} {ps : List FieldType} {r : Option FieldType} {a : Addr} {C : String} (E : Exa Z h a C) (as rest : List Value) (w1 : (Jvm.Cond.methodLink own index y).before a0 Z = true) (w5 : (Jvm.Cond.selects y.cls y y).before a0 Z = true) (w6 : (Jvm.Cond.instanceMethod y).before a0 Z = true) (w7 : (Jvm.Cond.privateMethod y).before a0 Z = true) (w3 : (Jvm.Cond.initialized y.cls).before a0 Z = true) (w4 : (Jvm.Cond.code y yb yml yret).before a0 Z = true) (hy : y.cls ≠ "java/lang/invoke/MethodHandle" ∧ y.cls ≠ "java/lang/invoke/VarHandle") (hM : Met l Z y yb yml yret Ry [] n0 (.ref a :: as).toArray h Qy) (hp : parseMethodDescriptor y.desc = some ⟨ps, r⟩) (hl : as.length = ps.length)
    {pc q c2 s2 W : Nat} {Ls : Array Slot} {st : List Value} (hst : st = as.reverse ++ .ref a :: rest) (hLs : Ls.size = ml) (hd : decode bytes pc = .ok (.invokevirtual index, 3)) (hq : pc + 3 = q) (hW : (rest.map fun v => v.category).sum = W) (hf : Ry.frames + 1 ≤ R.frames) (hlc : W + (yml + 11) + Ry.locals ≤ R.locals) (hc : cells + Ry.cells = c2) (hs : slots + Ry.slots = s2) (hcR : c2 ≤ R.cells) (hsR : s2 ≤ R.slots)
    (k : ∀ v T' h', Wk Z own nm bytes ml ret R n0 p l e s m args below meth c T' c2 s2 h' → Qy v h' → Goes p e below s R n0 Q (T'.setTop (mkF m q Ls (v.toList ++ rest)))) : Goes p e below s R n0 Q (T.setTop (mkF m pc Ls st)) := by
  obtain ⟨locs, X, N, eh, hn, hx, hZ, hby, hml, hown, hnm, hret, hlk⟩ := X
  subst hby hq hc hs hst
  obtain ⟨cq, q1, q2⟩ := E.cell
  obtain ⟨v, _, ⟨T', L', k', n'⟩, -, X', ⟨Lc, ⟨hF, hQy⟩, l', y', z'⟩, stp⟩ := X.privateBack hx (y := y) hown (mvT hZ w1) (mvT hZ w6) (mvT hZ w5) (Cond.privateMethod_at (mvP hZ w7 (args := #[]))) (mvT hZ w4) hy (own_back (index := index) (W := W) hZ w3 w4 hM hf hlc) (g := mkF m pc Ls (as.reverse ++ .ref a :: rest)) rfl (hLs.trans hml.symm) (Steps.refl _) (a := a) (by rw [eh]; exact q1) q2 (argsL := as) (rest := rest) (lenOf hp hl) rfl (by show 2 * 0 + _ ≤ _; omega) hd (fun _ _ => ⟨rfl, eh, hcR, hsR⟩)
  dsimp only [Pt.U, Pt.locs, Pt.cells, Pt.slots] at X' l' y' z' stp hQy
  subst l' y' z'
  exact g_of (fun _ r => stp.trans r) (k v T' _ ⟨_, X', Fr.app N hF, rfl, hn, hx, hZ, rfl, hml, hown, hnm, hret, hlk⟩ hQy)

theorem g_alenI (X : Wk Z own nm bytes ml ret R n0 p l e s m args below meth c T cells slots h) {a : Addr} {ty : FieldType} {n : Nat} {f : Nat → Int32} (A : AI Z h a ty n f) {pc q : Nat} {Ls : Array Slot} {rest : List Value} (hd : decode bytes pc = .ok (.arraylength, 1)) (hq : pc + 1 = q) (k : Goes p e below s R n0 Q (T.setTop (mkF m q Ls (.int n.toInt32 :: rest)))) : Goes p e below s R n0 Q (T.setTop (mkF m pc Ls (.ref a :: rest))) := by
  obtain ⟨locs, X, N, eh, hn, hx, hZ, hby, hml, hown, hnm, hret, hlk⟩ := X
  obtain ⟨z, cl, A, r1, r2⟩ := A
  subst hby hq r1
  exact g_of (fun t r => X.arraylength hx (by rw [eh]; exact A.1) (State.isArrayOf_alike hZ.alike A.2.1) (g := mkF m pc Ls (.ref a :: rest)) rfl rfl hd t r) k
theorem g_alenJ (X : Wk Z own nm bytes ml ret R n0 p l e s m args below meth c T cells slots h) {a : Addr} {n : Nat} {f : Nat → Int64} (A : AJ Z h a n f) {pc q : Nat} {Ls : Array Slot} {rest : List Value} (hd : decode bytes pc = .ok (.arraylength, 1)) (hq : pc + 1 = q) (k : Goes p e below s R n0 Q (T.setTop (mkF m q Ls (.int n.toInt32 :: rest)))) : Goes p e below s R n0 Q (T.setTop (mkF m pc Ls (.ref a :: rest))) := by
  obtain ⟨locs, X, N, eh, hn, hx, hZ, hby, hml, hown, hnm, hret, hlk⟩ := X
  obtain ⟨z, cl, A, r1, r2⟩ := A
  subst hby hq r1
  exact g_of (fun t r => X.arraylength hx (by rw [eh]; exact A.1) (State.isArrayOf_alike hZ.alike A.2.1) (g := mkF m pc Ls (.ref a :: rest)) rfl rfl hd t r) k
theorem g_iaload (X : Wk Z own nm bytes ml ret R n0 p l e s m args below meth c T cells slots h) {a : Addr} {n : Nat} {f : Nat → Int32} (A : AI Z h a .int n f) {j : Int32} (hj : 0 ≤ j.toInt ∧ j.toInt < n) {pc q : Nat} {Ls : Array Slot} {rest : List Value} (hd : decode bytes pc = .ok (.iaload, 1)) (hq : pc + 1 = q) (k : Goes p e below s R n0 Q (T.setTop (mkF m q Ls (.int (f j.toNatClampNeg) :: rest)))) : Goes p e below s R n0 Q (T.setTop (mkF m pc Ls (.int j :: .ref a :: rest))) := by
  obtain ⟨locs, X, N, eh, hn, hx, hZ, hby, hml, hown, hnm, hret, hlk⟩ := X
  obtain ⟨z, cl, A, r1, r2⟩ := A
  subst hby hq
  exact g_of (fun t r => X.iaload hx (j := j) (by rw [eh]; exact A.1) (State.isArrayOf_alike hZ.alike A.2.1) A.2.2 (own_ix r1 hj) (r2 _ (own_ixn hj)) (g := mkF m pc Ls (.int j :: .ref a :: rest)) rfl rfl hd t r) k
theorem g_laload (X : Wk Z own nm bytes ml ret R n0 p l e s m args below meth c T cells slots h) {a : Addr} {n : Nat} {f : Nat → Int64} (A : AJ Z h a n f) {j : Int32} (hj : 0 ≤ j.toInt ∧ j.toInt < n) {pc q : Nat} {Ls : Array Slot} {rest : List Value} (hd : decode bytes pc = .ok (.laload, 1)) (hq : pc + 1 = q) (k : Goes p e below s R n0 Q (T.setTop (mkF m q Ls (.long (f j.toNatClampNeg) :: rest)))) : Goes p e below s R n0 Q (T.setTop (mkF m pc Ls (.int j :: .ref a :: rest))) := by
  obtain ⟨locs, X, N, eh, hn, hx, hZ, hby, hml, hown, hnm, hret, hlk⟩ := X
  obtain ⟨z, cl, A, r1, r2⟩ := A
  subst hby hq
  exact g_of (fun t r => X.laload hx (j := j) (by rw [eh]; exact A.1) (State.isArrayOf_alike hZ.alike A.2.1) A.2.2 (own_ix r1 hj) (r2 _ (own_ixn hj)) (g := mkF m pc Ls (.int j :: .ref a :: rest)) rfl rfl hd t r) k
theorem g_baload (X : Wk Z own nm bytes ml ret R n0 p l e s m args below meth c T cells slots h) {a : Addr} {n : Nat} {f : Nat → Int32} (A : AI Z h a .byte n f) {j : Int32} (hj : 0 ≤ j.toInt ∧ j.toInt < n) {pc q : Nat} {Ls : Array Slot} {rest : List Value} (hd : decode bytes pc = .ok (.baload, 1)) (hq : pc + 1 = q) (k : Goes p e below s R n0 Q (T.setTop (mkF m q Ls (.int (f j.toNatClampNeg) :: rest)))) : Goes p e below s R n0 Q (T.setTop (mkF m pc Ls (.int j :: .ref a :: rest))) := by
  obtain ⟨locs, X, N, eh, hn, hx, hZ, hby, hml, hown, hnm, hret, hlk⟩ := X
  obtain ⟨z, cl, A, r1, r2⟩ := A
  subst hby hq
  exact g_of (fun t r => X.baloadBytes hx (j := j) (by rw [eh]; exact A.1) (State.isArrayOf_alike hZ.alike A.2.1) A.2.2 (own_ix r1 hj) (r2 _ (own_ixn hj)) (g := mkF m pc Ls (.int j :: .ref a :: rest)) rfl rfl hd t r) k
theorem g_zaload (X : Wk Z own nm bytes ml ret R n0 p l e s m args below meth c T cells slots h) {a : Addr} {n : Nat} {f : Nat → Int32} (A : AI Z h a .boolean n f) {j : Int32} (hj : 0 ≤ j.toInt ∧ j.toInt < n) {pc q : Nat} {Ls : Array Slot} {rest : List Value} (hd : decode bytes pc = .ok (.baload, 1)) (hq : pc + 1 = q) (k : Goes p e below s R n0 Q (T.setTop (mkF m q Ls (.int (f j.toNatClampNeg) :: rest)))) : Goes p e below s R n0 Q (T.setTop (mkF m pc Ls (.int j :: .ref a :: rest))) := by
  obtain ⟨locs, X, N, eh, hn, hx, hZ, hby, hml, hown, hnm, hret, hlk⟩ := X
  obtain ⟨z, cl, A, r1, r2⟩ := A
  subst hby hq
  exact g_of (fun t r => X.baloadBooleans hx (j := j) (by rw [eh]; exact A.1) (State.isArrayOf_alike hZ.alike A.2.1) A.2.2 (own_ix r1 hj) (r2 _ (own_ixn hj)) (g := mkF m pc Ls (.int j :: .ref a :: rest)) rfl rfl hd t r) k
theorem g_iastore (X : Wk Z own nm bytes ml ret R n0 p l e s m args below meth c T cells slots h) {a : Addr} {n : Nat} {f : Nat → Int32} (A : AI Z h a .int n f) {j : Int32} {x : Int32} (hj : 0 ≤ j.toInt ∧ j.toInt < n) (ga : n0 ≤ a) {pc q : Nat} {Ls : Array Slot} {rest : List Value} (hd : decode bytes pc = .ok (.iastore, 1)) (hq : pc + 1 = q) (k : ∀ T' h', Wk Z own nm bytes ml ret R n0 p l e s m args below meth c T' cells slots h' → Wr h h' a j.toNatClampNeg (.int x) → Goes p e below s R n0 Q (T'.setTop (mkF m q Ls rest))) : Goes p e below s R n0 Q (T.setTop (mkF m pc Ls (.int x :: .int j :: .ref a :: rest))) := by
  obtain ⟨locs, X, N, eh, hn, hx, hZ, hby, hml, hown, hnm, hret, hlk⟩ := X
  obtain ⟨z, cl, A, r1, r2⟩ := A
  subst hby hq
  obtain ⟨T', h', X', e', W', st⟩ := stI X hx hZ eh A (j := j) (own_ix r1 hj) (g := mkF m pc Ls (.int x :: .int j :: .ref a :: rest)) rfl rfl hd
  exact g_of st (k T' h' ⟨_, X', Fr.snoc X' N ga, e', hn, hx, hZ, rfl, hml, hown, hnm, hret, hlk⟩ W')
theorem g_lastore (X : Wk Z own nm bytes ml ret R n0 p l e s m args below meth c T cells slots h) {a : Addr} {n : Nat} {f : Nat → Int64} (A : AJ Z h a n f) {j : Int32} {x : Int64} (hj : 0 ≤ j.toInt ∧ j.toInt < n) (ga : n0 ≤ a) {pc q : Nat} {Ls : Array Slot} {rest : List Value} (hd : decode bytes pc = .ok (.lastore, 1)) (hq : pc + 1 = q) (k : ∀ T' h', Wk Z own nm bytes ml ret R n0 p l e s m args below meth c T' cells slots h' → Wr h h' a j.toNatClampNeg (.long x) → Goes p e below s R n0 Q (T'.setTop (mkF m q Ls rest))) : Goes p e below s R n0 Q (T.setTop (mkF m pc Ls (.long x :: .int j :: .ref a :: rest))) := by
  obtain ⟨locs, X, N, eh, hn, hx, hZ, hby, hml, hown, hnm, hret, hlk⟩ := X
  obtain ⟨z, cl, A, r1, r2⟩ := A
  subst hby hq
  obtain ⟨T', h', X', e', W', st⟩ := stJ X hx hZ eh A (j := j) (own_ix r1 hj) (g := mkF m pc Ls (.long x :: .int j :: .ref a :: rest)) rfl rfl hd
  exact g_of st (k T' h' ⟨_, X', Fr.snoc X' N ga, e', hn, hx, hZ, rfl, hml, hown, hnm, hret, hlk⟩ W')
theorem g_bastore (X : Wk Z own nm bytes ml ret R n0 p l e s m args below meth c T cells slots h) {a : Addr} {n : Nat} {f : Nat → Int32} (A : AI Z h a .byte n f) {j : Int32} {x : Int32} (hj : 0 ≤ j.toInt ∧ j.toInt < n) (ga : n0 ≤ a) {pc q : Nat} {Ls : Array Slot} {rest : List Value} (hd : decode bytes pc = .ok (.bastore, 1)) (hq : pc + 1 = q) (k : ∀ T' h', Wk Z own nm bytes ml ret R n0 p l e s m args below meth c T' cells slots h' → Wr h h' a j.toNatClampNeg (.int (nar .byte x)) → Goes p e below s R n0 Q (T'.setTop (mkF m q Ls rest))) : Goes p e below s R n0 Q (T.setTop (mkF m pc Ls (.int x :: .int j :: .ref a :: rest))) := by
  obtain ⟨locs, X, N, eh, hn, hx, hZ, hby, hml, hown, hnm, hret, hlk⟩ := X
  obtain ⟨z, cl, A, r1, r2⟩ := A
  subst hby hq
  obtain ⟨T', h', X', e', W', st⟩ := stB X hx hZ eh A (j := j) (own_ix r1 hj) (g := mkF m pc Ls (.int x :: .int j :: .ref a :: rest)) rfl rfl hd
  exact g_of st (k T' h' ⟨_, X', Fr.snoc X' N ga, e', hn, hx, hZ, rfl, hml, hown, hnm, hret, hlk⟩ W')
theorem g_zastore (X : Wk Z own nm bytes ml ret R n0 p l e s m args below meth c T cells slots h) {a : Addr} {n : Nat} {f : Nat → Int32} (A : AI Z h a .boolean n f) {j : Int32} {x : Int32} (hj : 0 ≤ j.toInt ∧ j.toInt < n) (ga : n0 ≤ a) {pc q : Nat} {Ls : Array Slot} {rest : List Value} (hd : decode bytes pc = .ok (.bastore, 1)) (hq : pc + 1 = q) (hz : x = 0 ∨ x = 1) (k : ∀ T' h', Wk Z own nm bytes ml ret R n0 p l e s m args below meth c T' cells slots h' → Wr h h' a j.toNatClampNeg (.int x) → Goes p e below s R n0 Q (T'.setTop (mkF m q Ls rest))) : Goes p e below s R n0 Q (T.setTop (mkF m pc Ls (.int x :: .int j :: .ref a :: rest))) := by
  obtain ⟨locs, X, N, eh, hn, hx, hZ, hby, hml, hown, hnm, hret, hlk⟩ := X
  obtain ⟨z, cl, A, r1, r2⟩ := A
  subst hby hq
  obtain ⟨T', h', X', e', W', st⟩ := stZ X hx hZ eh A (j := j) (own_ix r1 hj) (g := mkF m pc Ls (.int x :: .int j :: .ref a :: rest)) rfl rfl hd
  rw [own_narZ' hz] at W'
  exact g_of st (k T' h' ⟨_, X', Fr.snoc X' N ga, e', hn, hx, hZ, rfl, hml, hown, hnm, hret, hlk⟩ W')
theorem g_newarrI (X : Wk Z own nm bytes ml ret R n0 p l e s m args below meth c T cells slots h) {aty : ArrayType} (ht : defaultValue (newarray.typeOf aty) = .int 0) (w : (Jvm.Cond.arrayClass (newarray.typeOf aty)).before a0 Z = true) {n : Int32} {pc q c2 s2 cap : Nat} {Ls : Array Slot} {rest : List Value} (hd : decode bytes pc = .ok (.newarray aty, 2)) (hq : pc + 2 = q) (h0n : ¬ n < 0) (hcap : n.toNatClampNeg ≤ cap) (hbig : cap * 8 ≤ 536870912) (hc : cells + 1 = c2) (hs : slots + cap = s2) (hcR : c2 ≤ R.cells) (hsR : s2 ≤ R.slots)
    (k : ∀ T' h' b, Wk Z own nm bytes ml ret R n0 p l e s m args below meth c T' c2 s2 h' → b = h.size → n0 ≤ b → Ext h h' → AI Z h' b (newarray.typeOf aty) n.toNatClampNeg (fun _ => 0) → Goes p e below s R n0 Q (T'.setTop (mkF m q Ls (.ref b :: rest)))) : Goes p e below s R n0 Q (T.setTop (mkF m pc Ls (.int n :: rest))) := by
  obtain ⟨locs, X, N, eh, hn, hx, hZ, hby, hml, hown, hnm, hret, hlk⟩ := X
  subst hby hq hc hs
  obtain ⟨T', h', cA, X', e', E', A', stp⟩ := newP X hx hZ (aty := aty) w eh (g := mkF m pc Ls (.int n :: rest)) rfl hd rfl h0n hcap hbig hcR hsR
  refine g_of stp (k T' h' _ ⟨locs, X', N, e', hn, hx, hZ, rfl, hml, hown, hnm, hret, hlk⟩ rfl (Wk.size ⟨locs, X, N, eh, hn, hx, hZ, rfl, hml, hown, hnm, hret, hlk⟩) E' ⟨(back32 h0n).2, _, A', sz_new _ _ _, fun j hj => ?_⟩)
  simp only [newA, Array.getElem?_replicate, hj, if_true]
  rw [ht]
theorem g_newarrJ (X : Wk Z own nm bytes ml ret R n0 p l e s m args below meth c T cells slots h)  (w : (Jvm.Cond.arrayClass .long).before a0 Z = true) {n : Int32} {pc q c2 s2 cap : Nat} {Ls : Array Slot} {rest : List Value} (hd : decode bytes pc = .ok (.newarray .long, 2)) (hq : pc + 2 = q) (h0n : ¬ n < 0) (hcap : n.toNatClampNeg ≤ cap) (hbig : cap * 8 ≤ 536870912) (hc : cells + 1 = c2) (hs : slots + cap = s2) (hcR : c2 ≤ R.cells) (hsR : s2 ≤ R.slots)
    (k : ∀ T' h' b, Wk Z own nm bytes ml ret R n0 p l e s m args below meth c T' c2 s2 h' → b = h.size → n0 ≤ b → Ext h h' → AJ Z h' b n.toNatClampNeg (fun _ => 0) → Goes p e below s R n0 Q (T'.setTop (mkF m q Ls (.ref b :: rest)))) : Goes p e below s R n0 Q (T.setTop (mkF m pc Ls (.int n :: rest))) := by
  obtain ⟨locs, X, N, eh, hn, hx, hZ, hby, hml, hown, hnm, hret, hlk⟩ := X
  subst hby hq hc hs
  obtain ⟨T', h', cA, X', e', E', A', stp⟩ := newP X hx hZ (aty := .long) w eh (g := mkF m pc Ls (.int n :: rest)) rfl hd rfl h0n hcap hbig hcR hsR
  refine g_of stp (k T' h' _ ⟨locs, X', N, e', hn, hx, hZ, rfl, hml, hown, hnm, hret, hlk⟩ rfl (Wk.size ⟨locs, X, N, eh, hn, hx, hZ, rfl, hml, hown, hnm, hret, hlk⟩) E' ⟨(back32 h0n).2, _, A', sz_new _ _ _, fun j hj => ?_⟩)
  simp only [newA, Array.getElem?_replicate, hj, if_true]
  rfl
theorem g_acopyJ (X : Wk Z own nm bytes ml ret R n0 p l e s m args below meth c T cells slots h) {index : Nat} (w1 : (Jvm.Cond.methodLink own index Jvm.Stand.acN).before a0 Z = true) (w2 : (Jvm.Cond.native Jvm.Stand.acN).before a0 Z = true) (w3 : (Jvm.Cond.static Jvm.Stand.acN).before a0 Z = true) (w4 : (Jvm.Cond.initialized "java/lang/System").before a0 Z = true) {a b : Addr} {n n' : Nat} {f f' : Nat → Int64} (A : AJ Z h a n f) (B : AJ Z h b n' f') {nn : Int32} (h3 : ¬ nn < 0) (h4 : nn.toNatClampNeg ≤ n) (h5 : nn.toNatClampNeg ≤ n') (ga : n0 ≤ b) {pc q W : Nat} {Ls : Array Slot} {rest : List Value} (hLs : Ls.size = ml) (hd : decode bytes pc = .ok (.invokestatic index, 3)) (hq : pc + 3 = q) (hW : (rest.map fun v => v.category).sum = W) (hf : 1 ≤ R.frames) (hlo : W + 18 ≤ R.locals)
    (k : ∀ T' h', Wk Z own nm bytes ml ret R n0 p l e s m args below meth c T' cells slots h' → Keep h h' [b] → AJ Z h' b n' (fun j => if j < nn.toNatClampNeg then f j else f' j) → Goes p e below s R n0 Q (T'.setTop (mkF m q Ls rest))) : Goes p e below s R n0 Q (T.setTop (mkF m pc Ls (.int nn :: .int 0 :: .ref b :: .int 0 :: .ref a :: rest))) := by
  obtain ⟨locs, X, N, eh, hn, hx, hZ, hby, hml, hown, hnm, hret, hlk⟩ := X
  subst hby hq
  have zA := A.1
  have zB := B.1
  obtain ⟨kA, A'⟩ := own_arv A
  obtain ⟨kB, B'⟩ := own_arv B
  have qA := (own_clN zA).1
  have qB := (own_clN zB).1
  obtain ⟨T', h', L, X', e', N', K', C', st⟩ := cpA X hx hZ hown w1 w2 w3 w4 eh (sp := 0) (dp := 0) (nn := nn) A' B' (Or.inl ⟨rfl, rfl⟩) (by decide) (by decide) h3 (by rw [qA]; show 0 + _ ≤ _; omega) (by rw [qB]; show 0 + _ ≤ _; omega) rfl (by rw [List.length_map, List.length_range]; show 0 + _ ≤ _; omega) N ga (g := mkF m pc Ls (.int nn :: .int 0 :: .ref b :: .int 0 :: .ref a :: rest)) rfl (hLs.trans hml.symm) (rest := rest) rfl hd hf (W := W) (by show 2 * 0 + _ ≤ _; omega) (by show W + (7 + 11) ≤ _; omega)
  exact g_of st (k T' h' ⟨L, X', N', e', hn, hx, hZ, rfl, hml, hown, hnm, hret, hlk⟩ K' (own_arvB zB C' (fun j hj => own_cpl n n' nn.toNatClampNeg f f' h4 h5 j hj)))
theorem g_jT0 (X : Wk Z own nm bytes ml ret R n0 p l e s m args below meth c T cells slots h) {J : Nat} {g : JFrame} (L : Array Slot) (S : List Value) (rest : ∀ T', Wk Z own nm bytes ml ret R n0 p l e s m args below meth c T' cells slots h → Goes p e below s R n0 Q (T'.setTop (mkF m J (L) (S)))) (here : (∀ T', Wk Z own nm bytes ml ret R n0 p l e s m args below meth c T' cells slots h → Goes p e below s R n0 Q (T'.setTop (mkF m J (L) (S)))) → Goes p e below s R n0 Q (T.setTop g)) : Goes p e below s R n0 Q (T.setTop g) := here rest
theorem g_jT1 {α : Type} (X : Wk Z own nm bytes ml ret R n0 p l e s m args below meth c T cells slots h) {J : Nat} {g : JFrame} (P : α → Prop) (L : α → Array Slot) (S : α → List Value) (rest : ∀ T', Wk Z own nm bytes ml ret R n0 p l e s m args below meth c T' cells slots h → ∀ a, P a → Goes p e below s R n0 Q (T'.setTop (mkF m J (L a) (S a)))) (here : (∀ T', Wk Z own nm bytes ml ret R n0 p l e s m args below meth c T' cells slots h → ∀ a, P a → Goes p e below s R n0 Q (T'.setTop (mkF m J (L a) (S a)))) → Goes p e below s R n0 Q (T.setTop g)) : Goes p e below s R n0 Q (T.setTop g) := here rest
theorem g_jT2 {α β : Type} (X : Wk Z own nm bytes ml ret R n0 p l e s m args below meth c T cells slots h) {J : Nat} {g : JFrame} (P : α → β → Prop) (L : α → β → Array Slot) (S : α → β → List Value) (rest : ∀ T', Wk Z own nm bytes ml ret R n0 p l e s m args below meth c T' cells slots h → ∀ a b, P a b → Goes p e below s R n0 Q (T'.setTop (mkF m J (L a b) (S a b)))) (here : (∀ T', Wk Z own nm bytes ml ret R n0 p l e s m args below meth c T' cells slots h → ∀ a b, P a b → Goes p e below s R n0 Q (T'.setTop (mkF m J (L a b) (S a b)))) → Goes p e below s R n0 Q (T.setTop g)) : Goes p e below s R n0 Q (T.setTop g) := here rest
theorem g_jT3 {α β γ : Type} (X : Wk Z own nm bytes ml ret R n0 p l e s m args below meth c T cells slots h) {J : Nat} {g : JFrame} (P : α → β → γ → Prop) (L : α → β → γ → Array Slot) (S : α → β → γ → List Value) (rest : ∀ T', Wk Z own nm bytes ml ret R n0 p l e s m args below meth c T' cells slots h → ∀ a b c', P a b c' → Goes p e below s R n0 Q (T'.setTop (mkF m J (L a b c') (S a b c')))) (here : (∀ T', Wk Z own nm bytes ml ret R n0 p l e s m args below meth c T' cells slots h → ∀ a b c', P a b c' → Goes p e below s R n0 Q (T'.setTop (mkF m J (L a b c') (S a b c')))) → Goes p e below s R n0 Q (T.setTop g)) : Goes p e below s R n0 Q (T.setTop g) := here rest
theorem g_jT4 {α β γ δ : Type} (X : Wk Z own nm bytes ml ret R n0 p l e s m args below meth c T cells slots h) {J : Nat} {g : JFrame} (P : α → β → γ → δ → Prop) (L : α → β → γ → δ → Array Slot) (S : α → β → γ → δ → List Value) (rest : ∀ T', Wk Z own nm bytes ml ret R n0 p l e s m args below meth c T' cells slots h → ∀ a b c' d, P a b c' d → Goes p e below s R n0 Q (T'.setTop (mkF m J (L a b c' d) (S a b c' d)))) (here : (∀ T', Wk Z own nm bytes ml ret R n0 p l e s m args below meth c T' cells slots h → ∀ a b c' d, P a b c' d → Goes p e below s R n0 Q (T'.setTop (mkF m J (L a b c' d) (S a b c' d)))) → Goes p e below s R n0 Q (T.setTop g)) : Goes p e below s R n0 Q (T.setTop g) := here rest
theorem g_loop1 {α : Type} (X : Wk Z own nm bytes ml ret R n0 p l e s m args below meth c T cells slots h) {H : Nat} (ms : α → Nat) (I : α → Heap → Prop) (L : α → Array Slot) (S : α → List Value) (a : α) (i0 : I a h) (turn : ∀ a T' h', Wk Z own nm bytes ml ret R n0 p l e s m args below meth c T' cells slots h' → I a h' → (∀ a' T'' h'', Wk Z own nm bytes ml ret R n0 p l e s m args below meth c T'' cells slots h'' → I a' h'' → ms a' < ms a → Goes p e below s R n0 Q (T''.setTop (mkF m H (L a') (S a')))) → Goes p e below s R n0 Q (T'.setTop (mkF m H (L a) (S a)))) : Goes p e below s R n0 Q (T.setTop (mkF m H (L a) (S a))) := by
  induction hk : ms a using Nat.strongRecOn generalizing a T h with
  | _ k ih => exact turn a T h X i0 (fun a' T2 h2 X2 i2 lt => ih _ (hk ▸ lt) X2 a' i2 rfl)
theorem g_loop2 {α β : Type} (X : Wk Z own nm bytes ml ret R n0 p l e s m args below meth c T cells slots h) {H : Nat} (ms : α → β → Nat) (I : α → β → Heap → Prop) (L : α → β → Array Slot) (S : α → β → List Value) (a : α) (b : β) (i0 : I a b h) (turn : ∀ a b T' h', Wk Z own nm bytes ml ret R n0 p l e s m args below meth c T' cells slots h' → I a b h' → (∀ a' b' T'' h'', Wk Z own nm bytes ml ret R n0 p l e s m args below meth c T'' cells slots h'' → I a' b' h'' → ms a' b' < ms a b → Goes p e below s R n0 Q (T''.setTop (mkF m H (L a' b') (S a' b')))) → Goes p e below s R n0 Q (T'.setTop (mkF m H (L a b) (S a b)))) : Goes p e below s R n0 Q (T.setTop (mkF m H (L a b) (S a b))) := by
  induction hk : ms a b using Nat.strongRecOn generalizing a b T h with
  | _ k ih => exact turn a b T h X i0 (fun a' b' T2 h2 X2 i2 lt => ih _ (hk ▸ lt) X2 a' b' i2 rfl)
theorem g_loop3 {α β γ : Type} (X : Wk Z own nm bytes ml ret R n0 p l e s m args below meth c T cells slots h) {H : Nat} (ms : α → β → γ → Nat) (I : α → β → γ → Heap → Prop) (L : α → β → γ → Array Slot) (S : α → β → γ → List Value) (a : α) (b : β) (u : γ) (i0 : I a b u h) (turn : ∀ a b u T' h', Wk Z own nm bytes ml ret R n0 p l e s m args below meth c T' cells slots h' → I a b u h' → (∀ a' b' u' T'' h'', Wk Z own nm bytes ml ret R n0 p l e s m args below meth c T'' cells slots h'' → I a' b' u' h'' → ms a' b' u' < ms a b u → Goes p e below s R n0 Q (T''.setTop (mkF m H (L a' b' u') (S a' b' u')))) → Goes p e below s R n0 Q (T'.setTop (mkF m H (L a b u) (S a b u)))) : Goes p e below s R n0 Q (T.setTop (mkF m H (L a b u) (S a b u))) := by
  induction hk : ms a b u using Nat.strongRecOn generalizing a b u T h with
  | _ k ih => exact turn a b u T h X i0 (fun a' b' u' T2 h2 X2 i2 lt => ih _ (hk ▸ lt) X2 a' b' u' i2 rfl)
theorem g_loop4 {α β γ δ : Type} (X : Wk Z own nm bytes ml ret R n0 p l e s m args below meth c T cells slots h) {H : Nat} (ms : α → β → γ → δ → Nat) (I : α → β → γ → δ → Heap → Prop) (L : α → β → γ → δ → Array Slot) (S : α → β → γ → δ → List Value) (a : α) (b : β) (u : γ) (w : δ) (i0 : I a b u w h) (turn : ∀ a b u w T' h', Wk Z own nm bytes ml ret R n0 p l e s m args below meth c T' cells slots h' → I a b u w h' → (∀ a' b' u' w' T'' h'', Wk Z own nm bytes ml ret R n0 p l e s m args below meth c T'' cells slots h'' → I a' b' u' w' h'' → ms a' b' u' w' < ms a b u w → Goes p e below s R n0 Q (T''.setTop (mkF m H (L a' b' u' w') (S a' b' u' w')))) → Goes p e below s R n0 Q (T'.setTop (mkF m H (L a b u w) (S a b u w)))) : Goes p e below s R n0 Q (T.setTop (mkF m H (L a b u w) (S a b u w))) := by
  induction hk : ms a b u w using Nat.strongRecOn generalizing a b u w T h with
  | _ k ih => exact turn a b u w T h X i0 (fun a' b' u' w' T2 h2 X2 i2 lt => ih _ (hk ▸ lt) X2 a' b' u' w' i2 rfl)
theorem g_loop5 {α β γ δ ε : Type} (X : Wk Z own nm bytes ml ret R n0 p l e s m args below meth c T cells slots h) {H : Nat} (ms : α → β → γ → δ → ε → Nat) (I : α → β → γ → δ → ε → Heap → Prop) (L : α → β → γ → δ → ε → Array Slot) (S : α → β → γ → δ → ε → List Value) (a : α) (b : β) (u : γ) (w : δ) (z : ε) (i0 : I a b u w z h) (turn : ∀ a b u w z T' h', Wk Z own nm bytes ml ret R n0 p l e s m args below meth c T' cells slots h' → I a b u w z h' → (∀ a' b' u' w' z' T'' h'', Wk Z own nm bytes ml ret R n0 p l e s m args below meth c T'' cells slots h'' → I a' b' u' w' z' h'' → ms a' b' u' w' z' < ms a b u w z → Goes p e below s R n0 Q (T''.setTop (mkF m H (L a' b' u' w' z') (S a' b' u' w' z')))) → Goes p e below s R n0 Q (T'.setTop (mkF m H (L a b u w z) (S a b u w z)))) : Goes p e below s R n0 Q (T.setTop (mkF m H (L a b u w z) (S a b u w z))) := by
  induction hk : ms a b u w z using Nat.strongRecOn generalizing a b u w z T h with
  | _ k ih => exact turn a b u w z T h X i0 (fun a' b' u' w' z' T2 h2 X2 i2 lt => ih _ (hk ▸ lt) X2 a' b' u' w' z' i2 rfl)
end Walk
end Jvm.Own
namespace Jvm.Pilot.@@N@@
open Jvm Jvm.ClassFile Sem Op Lib Jvm.Free Jvm.Stand Jvm.LawKit Jvm.RoadKit Bundle Jvm.Own Jvm.Pilot.@@N@@.Jvm.D

theorem tw0 {Z : State} {a0 : Array Value} (hw : ∀ d ∈ tables_1, d.before a0 Z = true) : ((Jvm.Cond.constantLong "com/example/teddington/teddington/WindowCountsTotalPinLaw" (9 : Nat) (9223372036854775807 : Int64))).before a0 Z = true := hw _ (List.mem_of_getElem? (i := 0) rfl)
theorem tw1 {Z : State} {a0 : Array Value} (hw : ∀ d ∈ tables_1, d.before a0 Z = true) : ((Jvm.Cond.classLink "com/example/teddington/teddington/WindowCountsTotalPinLaw" (11 : Nat) "com/example/teddington/teddington/WindowCounts")).before a0 Z = true := hw _ (List.mem_of_getElem? (i := 1) rfl)
theorem tw2 {Z : State} {a0 : Array Value} (hw : ∀ d ∈ tables_1, d.before a0 Z = true) : ((Jvm.Cond.instantiable "com/example/teddington/teddington/WindowCounts" (7 : Nat))).before a0 Z = true := hw _ (List.mem_of_getElem? (i := 2) rfl)
theorem tw3 {Z : State} {a0 : Array Value} (hw : ∀ d ∈ tables_1, d.before a0 Z = true) : ((Jvm.Cond.initialized "com/example/teddington/teddington/WindowCounts")).before a0 Z = true := hw _ (List.mem_of_getElem? (i := 3) rfl)
theorem tw4 {Z : State} {a0 : Array Value} (hw : ∀ d ∈ tables_1, d.before a0 Z = true) : ((Jvm.Cond.methodLink "com/example/teddington/teddington/WindowCountsTotalPinLaw" (13 : Nat) ({ cls := "com/example/teddington/teddington/WindowCounts", name := "<init>", desc := "(J)V" } : Jvm.MethodName))).before a0 Z = true := hw _ (List.mem_of_getElem? (i := 4) rfl)
theorem tw5 {Z : State} {a0 : Array Value} (hw : ∀ d ∈ tables_1, d.before a0 Z = true) : ((Jvm.Cond.instanceMethod ({ cls := "com/example/teddington/teddington/WindowCounts", name := "<init>", desc := "(J)V" } : Jvm.MethodName))).before a0 Z = true := hw _ (List.mem_of_getElem? (i := 5) rfl)
theorem tw6 {Z : State} {a0 : Array Value} (hw : ∀ d ∈ tables_1, d.before a0 Z = true) : ((Jvm.Cond.code ({ cls := "com/example/teddington/teddington/WindowCounts", name := "<init>", desc := "(J)V" } : Jvm.MethodName) prog_47_method_1_code (3 : Nat) (Option.none : Option Jvm.ClassFile.FieldType))).before a0 Z = true := hw _ (List.mem_of_getElem? (i := 6) rfl)
theorem tw7 {Z : State} {a0 : Array Value} (hw : ∀ d ∈ tables_1, d.before a0 Z = true) : ((Jvm.Cond.methodLink "com/example/teddington/teddington/WindowCounts" (1 : Nat) ({ cls := "java/lang/Object", name := "<init>", desc := "()V" } : Jvm.MethodName))).before a0 Z = true := hw _ (List.mem_of_getElem? (i := 7) rfl)
theorem tw8 {Z : State} {a0 : Array Value} (hw : ∀ d ∈ tables_1, d.before a0 Z = true) : ((Jvm.Cond.instanceMethod ({ cls := "java/lang/Object", name := "<init>", desc := "()V" } : Jvm.MethodName))).before a0 Z = true := hw _ (List.mem_of_getElem? (i := 8) rfl)
theorem tw9 {Z : State} {a0 : Array Value} (hw : ∀ d ∈ tables_1, d.before a0 Z = true) : ((Jvm.Cond.code ({ cls := "java/lang/Object", name := "<init>", desc := "()V" } : Jvm.MethodName) object_method_1_code (1 : Nat) (Option.none : Option Jvm.ClassFile.FieldType))).before a0 Z = true := hw _ (List.mem_of_getElem? (i := 9) rfl)
theorem tw10 {Z : State} {a0 : Array Value} (hw : ∀ d ∈ tables_1, d.before a0 Z = true) : ((Jvm.Cond.arrayClass Jvm.ClassFile.FieldType.long)).before a0 Z = true := hw _ (List.mem_of_getElem? (i := 10) rfl)
theorem tw11 {Z : State} {a0 : Array Value} (hw : ∀ d ∈ tables_1, d.before a0 Z = true) : ((Jvm.Cond.fieldLink "com/example/teddington/teddington/WindowCounts" (9 : Nat) "com/example/teddington/teddington/WindowCounts" "indexes" "[J")).before a0 Z = true := hw _ (List.mem_of_getElem? (i := 11) rfl)
theorem tw12 {Z : State} {a0 : Array Value} (hw : ∀ d ∈ tables_1, d.before a0 Z = true) : ((Jvm.Cond.lays "com/example/teddington/teddington/WindowCounts" "com/example/teddington/teddington/WindowCounts" "indexes" "[J")).before a0 Z = true := hw _ (List.mem_of_getElem? (i := 12) rfl)
theorem tw13 {Z : State} {a0 : Array Value} (hw : ∀ d ∈ tables_1, d.before a0 Z = true) : ((Jvm.Cond.fieldLink "com/example/teddington/teddington/WindowCounts" (13 : Nat) "com/example/teddington/teddington/WindowCounts" "counts" "[J")).before a0 Z = true := hw _ (List.mem_of_getElem? (i := 13) rfl)
theorem tw14 {Z : State} {a0 : Array Value} (hw : ∀ d ∈ tables_1, d.before a0 Z = true) : ((Jvm.Cond.lays "com/example/teddington/teddington/WindowCounts" "com/example/teddington/teddington/WindowCounts" "counts" "[J")).before a0 Z = true := hw _ (List.mem_of_getElem? (i := 14) rfl)
theorem tw15 {Z : State} {a0 : Array Value} (hw : ∀ d ∈ tables_1, d.before a0 Z = true) : ((Jvm.Cond.fieldLink "com/example/teddington/teddington/WindowCounts" (16 : Nat) "com/example/teddington/teddington/WindowCounts" "clock" "J")).before a0 Z = true := hw _ (List.mem_of_getElem? (i := 15) rfl)
theorem tw16 {Z : State} {a0 : Array Value} (hw : ∀ d ∈ tables_1, d.before a0 Z = true) : ((Jvm.Cond.lays "com/example/teddington/teddington/WindowCounts" "com/example/teddington/teddington/WindowCounts" "clock" "J")).before a0 Z = true := hw _ (List.mem_of_getElem? (i := 16) rfl)
theorem tw17 {Z : State} {a0 : Array Value} (hw : ∀ d ∈ tables_1, d.before a0 Z = true) : ((Jvm.Cond.methodLink "com/example/teddington/teddington/WindowCountsTotalPinLaw" (16 : Nat) ({ cls := "com/example/teddington/teddington/WindowCounts", name := "add", desc := "(JJ)V" } : Jvm.MethodName))).before a0 Z = true := hw _ (List.mem_of_getElem? (i := 17) rfl)
theorem tw18 {Z : State} {a0 : Array Value} (hw : ∀ d ∈ tables_1, d.before a0 Z = true) : ((Jvm.Cond.declares ({ cls := "com/example/teddington/teddington/WindowCounts", name := "add", desc := "(JJ)V" } : Jvm.MethodName))).before a0 Z = true := hw _ (List.mem_of_getElem? (i := 18) rfl)
theorem tw19 {Z : State} {a0 : Array Value} (hw : ∀ d ∈ tables_1, d.before a0 Z = true) : ((Jvm.Cond.instanceMethod ({ cls := "com/example/teddington/teddington/WindowCounts", name := "add", desc := "(JJ)V" } : Jvm.MethodName))).before a0 Z = true := hw _ (List.mem_of_getElem? (i := 19) rfl)
theorem tw20 {Z : State} {a0 : Array Value} (hw : ∀ d ∈ tables_1, d.before a0 Z = true) : ((Jvm.Cond.selects "com/example/teddington/teddington/WindowCounts" ({ cls := "com/example/teddington/teddington/WindowCounts", name := "add", desc := "(JJ)V" } : Jvm.MethodName) ({ cls := "com/example/teddington/teddington/WindowCounts", name := "add", desc := "(JJ)V" } : Jvm.MethodName))).before a0 Z = true := hw _ (List.mem_of_getElem? (i := 20) rfl)
theorem tw21 {Z : State} {a0 : Array Value} (hw : ∀ d ∈ tables_1, d.before a0 Z = true) : ((Jvm.Cond.code ({ cls := "com/example/teddington/teddington/WindowCounts", name := "add", desc := "(JJ)V" } : Jvm.MethodName) prog_47_method_12_code (9 : Nat) (Option.none : Option Jvm.ClassFile.FieldType))).before a0 Z = true := hw _ (List.mem_of_getElem? (i := 21) rfl)
theorem tw22 {Z : State} {a0 : Array Value} (hw : ∀ d ∈ tables_1, d.before a0 Z = true) : ((Jvm.Cond.fieldLink "com/example/teddington/teddington/WindowCounts" (29 : Nat) "com/example/teddington/teddington/WindowCounts" "size" "I")).before a0 Z = true := hw _ (List.mem_of_getElem? (i := 22) rfl)
theorem tw23 {Z : State} {a0 : Array Value} (hw : ∀ d ∈ tables_1, d.before a0 Z = true) : ((Jvm.Cond.lays "com/example/teddington/teddington/WindowCounts" "com/example/teddington/teddington/WindowCounts" "size" "I")).before a0 Z = true := hw _ (List.mem_of_getElem? (i := 23) rfl)
theorem tw24 {Z : State} {a0 : Array Value} (hw : ∀ d ∈ tables_1, d.before a0 Z = true) : ((Jvm.Cond.methodLink "com/example/teddington/teddington/WindowCounts" (48 : Nat) ({ cls := "com/example/teddington/teddington/WindowCounts", name := "at", desc := "(I)I" } : Jvm.MethodName))).before a0 Z = true := hw _ (List.mem_of_getElem? (i := 24) rfl)
theorem tw25 {Z : State} {a0 : Array Value} (hw : ∀ d ∈ tables_1, d.before a0 Z = true) : ((Jvm.Cond.instanceMethod ({ cls := "com/example/teddington/teddington/WindowCounts", name := "at", desc := "(I)I" } : Jvm.MethodName))).before a0 Z = true := hw _ (List.mem_of_getElem? (i := 25) rfl)
theorem tw26 {Z : State} {a0 : Array Value} (hw : ∀ d ∈ tables_1, d.before a0 Z = true) : ((Jvm.Cond.privateMethod ({ cls := "com/example/teddington/teddington/WindowCounts", name := "at", desc := "(I)I" } : Jvm.MethodName))).before a0 Z = true := hw _ (List.mem_of_getElem? (i := 26) rfl)
theorem tw27 {Z : State} {a0 : Array Value} (hw : ∀ d ∈ tables_1, d.before a0 Z = true) : ((Jvm.Cond.code ({ cls := "com/example/teddington/teddington/WindowCounts", name := "at", desc := "(I)I" } : Jvm.MethodName) prog_47_method_15_code (2 : Nat) (Option.some Jvm.ClassFile.FieldType.int))).before a0 Z = true := hw _ (List.mem_of_getElem? (i := 27) rfl)
theorem tw28 {Z : State} {a0 : Array Value} (hw : ∀ d ∈ tables_1, d.before a0 Z = true) : ((Jvm.Cond.fieldLink "com/example/teddington/teddington/WindowCounts" (25 : Nat) "com/example/teddington/teddington/WindowCounts" "oldest" "I")).before a0 Z = true := hw _ (List.mem_of_getElem? (i := 28) rfl)
theorem tw29 {Z : State} {a0 : Array Value} (hw : ∀ d ∈ tables_1, d.before a0 Z = true) : ((Jvm.Cond.lays "com/example/teddington/teddington/WindowCounts" "com/example/teddington/teddington/WindowCounts" "oldest" "I")).before a0 Z = true := hw _ (List.mem_of_getElem? (i := 29) rfl)
theorem tw30 {Z : State} {a0 : Array Value} (hw : ∀ d ∈ tables_1, d.before a0 Z = true) : ((Jvm.Cond.fieldLink "com/example/teddington/teddington/WindowCounts" (32 : Nat) "com/example/teddington/teddington/WindowCounts" "total" "J")).before a0 Z = true := hw _ (List.mem_of_getElem? (i := 30) rfl)
theorem tw31 {Z : State} {a0 : Array Value} (hw : ∀ d ∈ tables_1, d.before a0 Z = true) : ((Jvm.Cond.lays "com/example/teddington/teddington/WindowCounts" "com/example/teddington/teddington/WindowCounts" "total" "J")).before a0 Z = true := hw _ (List.mem_of_getElem? (i := 31) rfl)
theorem tw32 {Z : State} {a0 : Array Value} (hw : ∀ d ∈ tables_1, d.before a0 Z = true) : ((Jvm.Cond.fieldLink "com/example/teddington/teddington/WindowCounts" (35 : Nat) "com/example/teddington/teddington/WindowCounts" "beyond" "J")).before a0 Z = true := hw _ (List.mem_of_getElem? (i := 32) rfl)
theorem tw33 {Z : State} {a0 : Array Value} (hw : ∀ d ∈ tables_1, d.before a0 Z = true) : ((Jvm.Cond.lays "com/example/teddington/teddington/WindowCounts" "com/example/teddington/teddington/WindowCounts" "beyond" "J")).before a0 Z = true := hw _ (List.mem_of_getElem? (i := 33) rfl)
theorem tw34 {Z : State} {a0 : Array Value} (hw : ∀ d ∈ tables_1, d.before a0 Z = true) : ((Jvm.Cond.constantLong "com/example/teddington/teddington/WindowCounts" (40 : Nat) (9223372036854775807 : Int64))).before a0 Z = true := hw _ (List.mem_of_getElem? (i := 34) rfl)
theorem tw35 {Z : State} {a0 : Array Value} (hw : ∀ d ∈ tables_1, d.before a0 Z = true) : ((Jvm.Cond.methodLink "com/example/teddington/teddington/WindowCounts" (59 : Nat) ({ cls := "com/example/teddington/teddington/WindowCounts", name := "index", desc := "(I)J" } : Jvm.MethodName))).before a0 Z = true := hw _ (List.mem_of_getElem? (i := 35) rfl)
theorem tw36 {Z : State} {a0 : Array Value} (hw : ∀ d ∈ tables_1, d.before a0 Z = true) : ((Jvm.Cond.declares ({ cls := "com/example/teddington/teddington/WindowCounts", name := "index", desc := "(I)J" } : Jvm.MethodName))).before a0 Z = true := hw _ (List.mem_of_getElem? (i := 36) rfl)
theorem tw37 {Z : State} {a0 : Array Value} (hw : ∀ d ∈ tables_1, d.before a0 Z = true) : ((Jvm.Cond.instanceMethod ({ cls := "com/example/teddington/teddington/WindowCounts", name := "index", desc := "(I)J" } : Jvm.MethodName))).before a0 Z = true := hw _ (List.mem_of_getElem? (i := 37) rfl)
theorem tw38 {Z : State} {a0 : Array Value} (hw : ∀ d ∈ tables_1, d.before a0 Z = true) : ((Jvm.Cond.selects "com/example/teddington/teddington/WindowCounts" ({ cls := "com/example/teddington/teddington/WindowCounts", name := "index", desc := "(I)J" } : Jvm.MethodName) ({ cls := "com/example/teddington/teddington/WindowCounts", name := "index", desc := "(I)J" } : Jvm.MethodName))).before a0 Z = true := hw _ (List.mem_of_getElem? (i := 38) rfl)
theorem tw39 {Z : State} {a0 : Array Value} (hw : ∀ d ∈ tables_1, d.before a0 Z = true) : ((Jvm.Cond.code ({ cls := "com/example/teddington/teddington/WindowCounts", name := "index", desc := "(I)J" } : Jvm.MethodName) prog_47_method_7_code (2 : Nat) (Option.some Jvm.ClassFile.FieldType.long))).before a0 Z = true := hw _ (List.mem_of_getElem? (i := 39) rfl)
theorem tw40 {Z : State} {a0 : Array Value} (hw : ∀ d ∈ tables_1, d.before a0 Z = true) : ((Jvm.Cond.methodLink "com/example/teddington/teddington/WindowCounts" (52 : Nat) ({ cls := "com/example/teddington/teddington/WindowCounts", name := "count", desc := "(I)J" } : Jvm.MethodName))).before a0 Z = true := hw _ (List.mem_of_getElem? (i := 40) rfl)
theorem tw41 {Z : State} {a0 : Array Value} (hw : ∀ d ∈ tables_1, d.before a0 Z = true) : ((Jvm.Cond.declares ({ cls := "com/example/teddington/teddington/WindowCounts", name := "count", desc := "(I)J" } : Jvm.MethodName))).before a0 Z = true := hw _ (List.mem_of_getElem? (i := 41) rfl)
theorem tw42 {Z : State} {a0 : Array Value} (hw : ∀ d ∈ tables_1, d.before a0 Z = true) : ((Jvm.Cond.instanceMethod ({ cls := "com/example/teddington/teddington/WindowCounts", name := "count", desc := "(I)J" } : Jvm.MethodName))).before a0 Z = true := hw _ (List.mem_of_getElem? (i := 42) rfl)
theorem tw43 {Z : State} {a0 : Array Value} (hw : ∀ d ∈ tables_1, d.before a0 Z = true) : ((Jvm.Cond.selects "com/example/teddington/teddington/WindowCounts" ({ cls := "com/example/teddington/teddington/WindowCounts", name := "count", desc := "(I)J" } : Jvm.MethodName) ({ cls := "com/example/teddington/teddington/WindowCounts", name := "count", desc := "(I)J" } : Jvm.MethodName))).before a0 Z = true := hw _ (List.mem_of_getElem? (i := 43) rfl)
theorem tw44 {Z : State} {a0 : Array Value} (hw : ∀ d ∈ tables_1, d.before a0 Z = true) : ((Jvm.Cond.code ({ cls := "com/example/teddington/teddington/WindowCounts", name := "count", desc := "(I)J" } : Jvm.MethodName) prog_47_method_8_code (2 : Nat) (Option.some Jvm.ClassFile.FieldType.long))).before a0 Z = true := hw _ (List.mem_of_getElem? (i := 44) rfl)
theorem tw45 {Z : State} {a0 : Array Value} (hw : ∀ d ∈ tables_1, d.before a0 Z = true) : ((Jvm.Cond.methodLink "com/example/teddington/teddington/WindowCounts" (56 : Nat) ({ cls := "com/example/teddington/teddington/WindowCounts", name := "sum", desc := "(JJ)J" } : Jvm.MethodName))).before a0 Z = true := hw _ (List.mem_of_getElem? (i := 45) rfl)
theorem tw46 {Z : State} {a0 : Array Value} (hw : ∀ d ∈ tables_1, d.before a0 Z = true) : ((Jvm.Cond.static ({ cls := "com/example/teddington/teddington/WindowCounts", name := "sum", desc := "(JJ)J" } : Jvm.MethodName))).before a0 Z = true := hw _ (List.mem_of_getElem? (i := 46) rfl)
theorem tw47 {Z : State} {a0 : Array Value} (hw : ∀ d ∈ tables_1, d.before a0 Z = true) : ((Jvm.Cond.code ({ cls := "com/example/teddington/teddington/WindowCounts", name := "sum", desc := "(JJ)J" } : Jvm.MethodName) prog_47_method_3_code (6 : Nat) (Option.some Jvm.ClassFile.FieldType.long))).before a0 Z = true := hw _ (List.mem_of_getElem? (i := 47) rfl)
theorem tw48 {Z : State} {a0 : Array Value} (hw : ∀ d ∈ tables_1, d.before a0 Z = true) : ((Jvm.Cond.methodLink "com/example/teddington/teddington/WindowCountsTotalPinLaw" (20 : Nat) ({ cls := "com/example/teddington/teddington/WindowCounts", name := "dropBefore", desc := "(J)V" } : Jvm.MethodName))).before a0 Z = true := hw _ (List.mem_of_getElem? (i := 48) rfl)
theorem tw49 {Z : State} {a0 : Array Value} (hw : ∀ d ∈ tables_1, d.before a0 Z = true) : ((Jvm.Cond.declares ({ cls := "com/example/teddington/teddington/WindowCounts", name := "dropBefore", desc := "(J)V" } : Jvm.MethodName))).before a0 Z = true := hw _ (List.mem_of_getElem? (i := 49) rfl)
theorem tw50 {Z : State} {a0 : Array Value} (hw : ∀ d ∈ tables_1, d.before a0 Z = true) : ((Jvm.Cond.instanceMethod ({ cls := "com/example/teddington/teddington/WindowCounts", name := "dropBefore", desc := "(J)V" } : Jvm.MethodName))).before a0 Z = true := hw _ (List.mem_of_getElem? (i := 50) rfl)
theorem tw51 {Z : State} {a0 : Array Value} (hw : ∀ d ∈ tables_1, d.before a0 Z = true) : ((Jvm.Cond.selects "com/example/teddington/teddington/WindowCounts" ({ cls := "com/example/teddington/teddington/WindowCounts", name := "dropBefore", desc := "(J)V" } : Jvm.MethodName) ({ cls := "com/example/teddington/teddington/WindowCounts", name := "dropBefore", desc := "(J)V" } : Jvm.MethodName))).before a0 Z = true := hw _ (List.mem_of_getElem? (i := 51) rfl)
theorem tw52 {Z : State} {a0 : Array Value} (hw : ∀ d ∈ tables_1, d.before a0 Z = true) : ((Jvm.Cond.code ({ cls := "com/example/teddington/teddington/WindowCounts", name := "dropBefore", desc := "(J)V" } : Jvm.MethodName) prog_47_method_13_code (5 : Nat) (Option.none : Option Jvm.ClassFile.FieldType))).before a0 Z = true := hw _ (List.mem_of_getElem? (i := 52) rfl)
theorem tw53 {Z : State} {a0 : Array Value} (hw : ∀ d ∈ tables_1, d.before a0 Z = true) : ((Jvm.Cond.methodLink "com/example/teddington/teddington/WindowCountsTotalPinLaw" (23 : Nat) ({ cls := "com/example/teddington/teddington/WindowCounts", name := "total", desc := "()J" } : Jvm.MethodName))).before a0 Z = true := hw _ (List.mem_of_getElem? (i := 53) rfl)
theorem tw54 {Z : State} {a0 : Array Value} (hw : ∀ d ∈ tables_1, d.before a0 Z = true) : ((Jvm.Cond.declares ({ cls := "com/example/teddington/teddington/WindowCounts", name := "total", desc := "()J" } : Jvm.MethodName))).before a0 Z = true := hw _ (List.mem_of_getElem? (i := 54) rfl)
theorem tw55 {Z : State} {a0 : Array Value} (hw : ∀ d ∈ tables_1, d.before a0 Z = true) : ((Jvm.Cond.instanceMethod ({ cls := "com/example/teddington/teddington/WindowCounts", name := "total", desc := "()J" } : Jvm.MethodName))).before a0 Z = true := hw _ (List.mem_of_getElem? (i := 55) rfl)
theorem tw56 {Z : State} {a0 : Array Value} (hw : ∀ d ∈ tables_1, d.before a0 Z = true) : ((Jvm.Cond.selects "com/example/teddington/teddington/WindowCounts" ({ cls := "com/example/teddington/teddington/WindowCounts", name := "total", desc := "()J" } : Jvm.MethodName) ({ cls := "com/example/teddington/teddington/WindowCounts", name := "total", desc := "()J" } : Jvm.MethodName))).before a0 Z = true := hw _ (List.mem_of_getElem? (i := 56) rfl)
theorem tw57 {Z : State} {a0 : Array Value} (hw : ∀ d ∈ tables_1, d.before a0 Z = true) : ((Jvm.Cond.code ({ cls := "com/example/teddington/teddington/WindowCounts", name := "total", desc := "()J" } : Jvm.MethodName) prog_47_method_9_code (1 : Nat) (Option.some Jvm.ClassFile.FieldType.long))).before a0 Z = true := hw _ (List.mem_of_getElem? (i := 57) rfl)
theorem tw58 {Z : State} {a0 : Array Value} (hw : ∀ d ∈ tables_1, d.before a0 Z = true) : ((Jvm.Cond.methodLink "com/example/teddington/teddington/WindowCountsTotalPinLaw" (27 : Nat) ({ cls := "com/example/teddington/teddington/WindowCountsTotalPinLaw", name := "sat", desc := "(JJ)J" } : Jvm.MethodName))).before a0 Z = true := hw _ (List.mem_of_getElem? (i := 58) rfl)
theorem tw59 {Z : State} {a0 : Array Value} (hw : ∀ d ∈ tables_1, d.before a0 Z = true) : ((Jvm.Cond.static ({ cls := "com/example/teddington/teddington/WindowCountsTotalPinLaw", name := "sat", desc := "(JJ)J" } : Jvm.MethodName))).before a0 Z = true := hw _ (List.mem_of_getElem? (i := 59) rfl)
theorem tw60 {Z : State} {a0 : Array Value} (hw : ∀ d ∈ tables_1, d.before a0 Z = true) : ((Jvm.Cond.initialized "com/example/teddington/teddington/WindowCountsTotalPinLaw")).before a0 Z = true := hw _ (List.mem_of_getElem? (i := 60) rfl)
theorem tw61 {Z : State} {a0 : Array Value} (hw : ∀ d ∈ tables_1, d.before a0 Z = true) : ((Jvm.Cond.code ({ cls := "com/example/teddington/teddington/WindowCountsTotalPinLaw", name := "sat", desc := "(JJ)J" } : Jvm.MethodName) method_2_code (4 : Nat) (Option.some Jvm.ClassFile.FieldType.long))).before a0 Z = true := hw _ (List.mem_of_getElem? (i := 61) rfl)
theorem tw62 {Z : State} {a0 : Array Value} (hw : ∀ d ∈ tables_1, d.before a0 Z = true) : ((Jvm.Cond.methodLink "com/example/teddington/teddington/WindowCountsTotalPinLaw" (33 : Nat) ({ cls := "com/example/teddington/teddington/WindowCountsTotalPinLaw", name := "keep", desc := "(JJJ)J" } : Jvm.MethodName))).before a0 Z = true := hw _ (List.mem_of_getElem? (i := 62) rfl)
theorem tw63 {Z : State} {a0 : Array Value} (hw : ∀ d ∈ tables_1, d.before a0 Z = true) : ((Jvm.Cond.static ({ cls := "com/example/teddington/teddington/WindowCountsTotalPinLaw", name := "keep", desc := "(JJJ)J" } : Jvm.MethodName))).before a0 Z = true := hw _ (List.mem_of_getElem? (i := 63) rfl)
theorem tw64 {Z : State} {a0 : Array Value} (hw : ∀ d ∈ tables_1, d.before a0 Z = true) : ((Jvm.Cond.code ({ cls := "com/example/teddington/teddington/WindowCountsTotalPinLaw", name := "keep", desc := "(JJJ)J" } : Jvm.MethodName) method_3_code (6 : Nat) (Option.some Jvm.ClassFile.FieldType.long))).before a0 Z = true := hw _ (List.mem_of_getElem? (i := 64) rfl)
theorem tw65 {Z : State} {a0 : Array Value} (hw : ∀ d ∈ tables_1, d.before a0 Z = true) : ((Jvm.Cond.constantLong "com/example/teddington/teddington/WindowCountsTotalPinLaw" (37 : Nat) (2 : Int64))).before a0 Z = true := hw _ (List.mem_of_getElem? (i := 65) rfl)
theorem tw66 {Z : State} {a0 : Array Value} (hw : ∀ d ∈ tables_1, d.before a0 Z = true) : ((Jvm.Cond.methodLink "com/example/teddington/teddington/WindowCounts" (71 : Nat) ({ cls := "com/example/teddington/teddington/WindowCounts", name := "resize", desc := "(I)V" } : Jvm.MethodName))).before a0 Z = true := hw _ (List.mem_of_getElem? (i := 66) rfl)
theorem tw67 {Z : State} {a0 : Array Value} (hw : ∀ d ∈ tables_1, d.before a0 Z = true) : ((Jvm.Cond.instanceMethod ({ cls := "com/example/teddington/teddington/WindowCounts", name := "resize", desc := "(I)V" } : Jvm.MethodName))).before a0 Z = true := hw _ (List.mem_of_getElem? (i := 67) rfl)
theorem tw68 {Z : State} {a0 : Array Value} (hw : ∀ d ∈ tables_1, d.before a0 Z = true) : ((Jvm.Cond.privateMethod ({ cls := "com/example/teddington/teddington/WindowCounts", name := "resize", desc := "(I)V" } : Jvm.MethodName))).before a0 Z = true := hw _ (List.mem_of_getElem? (i := 68) rfl)
theorem tw69 {Z : State} {a0 : Array Value} (hw : ∀ d ∈ tables_1, d.before a0 Z = true) : ((Jvm.Cond.code ({ cls := "com/example/teddington/teddington/WindowCounts", name := "resize", desc := "(I)V" } : Jvm.MethodName) prog_47_method_16_code (5 : Nat) (Option.none : Option Jvm.ClassFile.FieldType))).before a0 Z = true := hw _ (List.mem_of_getElem? (i := 69) rfl)
theorem pd0 : parseMethodDescriptor "(J)V" = some ⟨[.long], none⟩ := by decide +kernel
theorem pd1 : parseMethodDescriptor "(I)I" = some ⟨[.int], some .int⟩ := by decide +kernel
theorem pd2 : parseMethodDescriptor "(JJ)V" = some ⟨[.long, .long], none⟩ := by decide +kernel
theorem pd3 : parseMethodDescriptor "(I)J" = some ⟨[.int], some .long⟩ := by decide +kernel
theorem pd4 : parseMethodDescriptor "(JJ)J" = some ⟨[.long, .long], some .long⟩ := by decide +kernel
theorem pd5 : parseMethodDescriptor "()J" = some ⟨[], some .long⟩ := by decide +kernel
theorem pd6 : parseMethodDescriptor "(JJJ)J" = some ⟨[.long, .long, .long], some .long⟩ := by decide +kernel
theorem pd7 : parseMethodDescriptor "(I)V" = some ⟨[.int], none⟩ := by decide +kernel
theorem d1_0 : decode prog_47_method_1_code 0 = .ok (.aload_n 0, 1) := by decide +kernel
theorem d1_1 : decode prog_47_method_1_code 1 = .ok (.invokespecial 1, 3) := by decide +kernel
theorem d1_4 : decode prog_47_method_1_code 4 = .ok (.aload_n 0, 1) := by decide +kernel
theorem d1_5 : decode prog_47_method_1_code 5 = .ok (.iconst 2, 1) := by decide +kernel
theorem d1_6 : decode prog_47_method_1_code 6 = .ok (.newarray .long, 2) := by decide +kernel
theorem d1_8 : decode prog_47_method_1_code 8 = .ok (.putfield 9, 3) := by decide +kernel
theorem d1_11 : decode prog_47_method_1_code 11 = .ok (.aload_n 0, 1) := by decide +kernel
theorem d1_12 : decode prog_47_method_1_code 12 = .ok (.iconst 2, 1) := by decide +kernel
theorem d1_13 : decode prog_47_method_1_code 13 = .ok (.newarray .long, 2) := by decide +kernel
theorem d1_15 : decode prog_47_method_1_code 15 = .ok (.putfield 13, 3) := by decide +kernel
theorem d1_18 : decode prog_47_method_1_code 18 = .ok (.aload_n 0, 1) := by decide +kernel
theorem d1_19 : decode prog_47_method_1_code 19 = .ok (.lload_n 1, 1) := by decide +kernel
theorem d1_20 : decode prog_47_method_1_code 20 = .ok (.putfield 16, 3) := by decide +kernel
theorem d1_23 : decode prog_47_method_1_code 23 = .ok (.return_, 1) := by decide +kernel
theorem d3_0 : decode prog_47_method_12_code 0 = .ok (.lload_n 3, 1) := by decide +kernel
theorem d3_1 : decode prog_47_method_12_code 1 = .ok (.lconst 0, 1) := by decide +kernel
theorem d3_2 : decode prog_47_method_12_code 2 = .ok (.lcmp, 1) := by decide +kernel
theorem d3_3 : decode prog_47_method_12_code 3 = .ok (.ifCond .lt 25, 3) := by decide +kernel
theorem d3_6 : decode prog_47_method_12_code 6 = .ok (.aload_n 0, 1) := by decide +kernel
theorem d3_7 : decode prog_47_method_12_code 7 = .ok (.getfield 29, 3) := by decide +kernel
theorem d3_10 : decode prog_47_method_12_code 10 = .ok (.ifCond .le 33, 3) := by decide +kernel
theorem d3_13 : decode prog_47_method_12_code 13 = .ok (.lload_n 1, 1) := by decide +kernel
theorem d3_14 : decode prog_47_method_12_code 14 = .ok (.aload_n 0, 1) := by decide +kernel
theorem d3_15 : decode prog_47_method_12_code 15 = .ok (.aload_n 0, 1) := by decide +kernel
theorem d3_16 : decode prog_47_method_12_code 16 = .ok (.getfield 29, 3) := by decide +kernel
theorem d3_19 : decode prog_47_method_12_code 19 = .ok (.iconst 1, 1) := by decide +kernel
theorem d3_20 : decode prog_47_method_12_code 20 = .ok (.isub, 1) := by decide +kernel
theorem d3_21 : decode prog_47_method_12_code 21 = .ok (.invokevirtual 59, 3) := by decide +kernel
theorem d3_24 : decode prog_47_method_12_code 24 = .ok (.lcmp, 1) := by decide +kernel
theorem d3_25 : decode prog_47_method_12_code 25 = .ok (.ifCond .ge 18, 3) := by decide +kernel
theorem d3_43 : decode prog_47_method_12_code 43 = .ok (.lload_n 3, 1) := by decide +kernel
theorem d3_44 : decode prog_47_method_12_code 44 = .ok (.lstore 5, 2) := by decide +kernel
theorem d3_46 : decode prog_47_method_12_code 46 = .ok (.aload_n 0, 1) := by decide +kernel
theorem d3_47 : decode prog_47_method_12_code 47 = .ok (.getfield 29, 3) := by decide +kernel
theorem d3_50 : decode prog_47_method_12_code 50 = .ok (.ifCond .le 69, 3) := by decide +kernel
theorem d3_53 : decode prog_47_method_12_code 53 = .ok (.lload_n 1, 1) := by decide +kernel
theorem d3_54 : decode prog_47_method_12_code 54 = .ok (.aload_n 0, 1) := by decide +kernel
theorem d3_55 : decode prog_47_method_12_code 55 = .ok (.aload_n 0, 1) := by decide +kernel
theorem d3_56 : decode prog_47_method_12_code 56 = .ok (.getfield 29, 3) := by decide +kernel
theorem d3_59 : decode prog_47_method_12_code 59 = .ok (.iconst 1, 1) := by decide +kernel
theorem d3_60 : decode prog_47_method_12_code 60 = .ok (.isub, 1) := by decide +kernel
theorem d3_61 : decode prog_47_method_12_code 61 = .ok (.invokevirtual 59, 3) := by decide +kernel
theorem d3_64 : decode prog_47_method_12_code 64 = .ok (.lcmp, 1) := by decide +kernel
theorem d3_65 : decode prog_47_method_12_code 65 = .ok (.ifCond .ne 54, 3) := by decide +kernel
theorem d3_68 : decode prog_47_method_12_code 68 = .ok (.aload_n 0, 1) := by decide +kernel
theorem d3_69 : decode prog_47_method_12_code 69 = .ok (.aload_n 0, 1) := by decide +kernel
theorem d3_70 : decode prog_47_method_12_code 70 = .ok (.getfield 29, 3) := by decide +kernel
theorem d3_73 : decode prog_47_method_12_code 73 = .ok (.iconst 1, 1) := by decide +kernel
theorem d3_74 : decode prog_47_method_12_code 74 = .ok (.isub, 1) := by decide +kernel
theorem d3_75 : decode prog_47_method_12_code 75 = .ok (.invokevirtual 52, 3) := by decide +kernel
theorem d3_78 : decode prog_47_method_12_code 78 = .ok (.lstore 7, 2) := by decide +kernel
theorem d3_80 : decode prog_47_method_12_code 80 = .ok (.aload_n 0, 1) := by decide +kernel
theorem d3_81 : decode prog_47_method_12_code 81 = .ok (.getfield 13, 3) := by decide +kernel
theorem d3_84 : decode prog_47_method_12_code 84 = .ok (.aload_n 0, 1) := by decide +kernel
theorem d3_85 : decode prog_47_method_12_code 85 = .ok (.aload_n 0, 1) := by decide +kernel
theorem d3_86 : decode prog_47_method_12_code 86 = .ok (.getfield 29, 3) := by decide +kernel
theorem d3_89 : decode prog_47_method_12_code 89 = .ok (.iconst 1, 1) := by decide +kernel
theorem d3_90 : decode prog_47_method_12_code 90 = .ok (.isub, 1) := by decide +kernel
theorem d3_91 : decode prog_47_method_12_code 91 = .ok (.invokevirtual 48, 3) := by decide +kernel
theorem d3_94 : decode prog_47_method_12_code 94 = .ok (.lload 7, 2) := by decide +kernel
theorem d3_96 : decode prog_47_method_12_code 96 = .ok (.lload_n 3, 1) := by decide +kernel
theorem d3_97 : decode prog_47_method_12_code 97 = .ok (.invokestatic 56, 3) := by decide +kernel
theorem d3_100 : decode prog_47_method_12_code 100 = .ok (.lastore, 1) := by decide +kernel
theorem d3_101 : decode prog_47_method_12_code 101 = .ok (.aload_n 0, 1) := by decide +kernel
theorem d3_102 : decode prog_47_method_12_code 102 = .ok (.aload_n 0, 1) := by decide +kernel
theorem d3_103 : decode prog_47_method_12_code 103 = .ok (.getfield 29, 3) := by decide +kernel
theorem d3_106 : decode prog_47_method_12_code 106 = .ok (.iconst 1, 1) := by decide +kernel
theorem d3_107 : decode prog_47_method_12_code 107 = .ok (.isub, 1) := by decide +kernel
theorem d3_108 : decode prog_47_method_12_code 108 = .ok (.invokevirtual 52, 3) := by decide +kernel
theorem d3_111 : decode prog_47_method_12_code 111 = .ok (.lload 7, 2) := by decide +kernel
theorem d3_113 : decode prog_47_method_12_code 113 = .ok (.lsub, 1) := by decide +kernel
theorem d3_114 : decode prog_47_method_12_code 114 = .ok (.lstore 5, 2) := by decide +kernel
theorem d3_116 : decode prog_47_method_12_code 116 = .ok (.goto 63, 3) := by decide +kernel
theorem d3_119 : decode prog_47_method_12_code 119 = .ok (.aload_n 0, 1) := by decide +kernel
theorem d3_120 : decode prog_47_method_12_code 120 = .ok (.getfield 29, 3) := by decide +kernel
theorem d3_123 : decode prog_47_method_12_code 123 = .ok (.aload_n 0, 1) := by decide +kernel
theorem d3_124 : decode prog_47_method_12_code 124 = .ok (.getfield 9, 3) := by decide +kernel
theorem d3_127 : decode prog_47_method_12_code 127 = .ok (.arraylength, 1) := by decide +kernel
theorem d3_128 : decode prog_47_method_12_code 128 = .ok (.if_icmp .ne 13, 3) := by decide +kernel
theorem d3_131 : decode prog_47_method_12_code 131 = .ok (.aload_n 0, 1) := by decide +kernel
theorem d3_132 : decode prog_47_method_12_code 132 = .ok (.iconst 2, 1) := by decide +kernel
theorem d3_133 : decode prog_47_method_12_code 133 = .ok (.aload_n 0, 1) := by decide +kernel
theorem d3_134 : decode prog_47_method_12_code 134 = .ok (.getfield 29, 3) := by decide +kernel
theorem d3_137 : decode prog_47_method_12_code 137 = .ok (.imul, 1) := by decide +kernel
theorem d3_138 : decode prog_47_method_12_code 138 = .ok (.invokevirtual 71, 3) := by decide +kernel
theorem d3_141 : decode prog_47_method_12_code 141 = .ok (.aload_n 0, 1) := by decide +kernel
theorem d3_142 : decode prog_47_method_12_code 142 = .ok (.getfield 9, 3) := by decide +kernel
theorem d3_145 : decode prog_47_method_12_code 145 = .ok (.aload_n 0, 1) := by decide +kernel
theorem d3_146 : decode prog_47_method_12_code 146 = .ok (.aload_n 0, 1) := by decide +kernel
theorem d3_147 : decode prog_47_method_12_code 147 = .ok (.getfield 29, 3) := by decide +kernel
theorem d3_150 : decode prog_47_method_12_code 150 = .ok (.invokevirtual 48, 3) := by decide +kernel
theorem d3_153 : decode prog_47_method_12_code 153 = .ok (.lload_n 1, 1) := by decide +kernel
theorem d3_154 : decode prog_47_method_12_code 154 = .ok (.lastore, 1) := by decide +kernel
theorem d3_155 : decode prog_47_method_12_code 155 = .ok (.aload_n 0, 1) := by decide +kernel
theorem d3_156 : decode prog_47_method_12_code 156 = .ok (.getfield 13, 3) := by decide +kernel
theorem d3_159 : decode prog_47_method_12_code 159 = .ok (.aload_n 0, 1) := by decide +kernel
theorem d3_160 : decode prog_47_method_12_code 160 = .ok (.aload_n 0, 1) := by decide +kernel
theorem d3_161 : decode prog_47_method_12_code 161 = .ok (.getfield 29, 3) := by decide +kernel
theorem d3_164 : decode prog_47_method_12_code 164 = .ok (.invokevirtual 48, 3) := by decide +kernel
theorem d3_167 : decode prog_47_method_12_code 167 = .ok (.lload_n 3, 1) := by decide +kernel
theorem d3_168 : decode prog_47_method_12_code 168 = .ok (.lastore, 1) := by decide +kernel
theorem d3_169 : decode prog_47_method_12_code 169 = .ok (.aload_n 0, 1) := by decide +kernel
theorem d3_170 : decode prog_47_method_12_code 170 = .ok (.dup, 1) := by decide +kernel
theorem d3_171 : decode prog_47_method_12_code 171 = .ok (.getfield 29, 3) := by decide +kernel
theorem d3_174 : decode prog_47_method_12_code 174 = .ok (.iconst 1, 1) := by decide +kernel
theorem d3_175 : decode prog_47_method_12_code 175 = .ok (.iadd, 1) := by decide +kernel
theorem d3_176 : decode prog_47_method_12_code 176 = .ok (.putfield 29, 3) := by decide +kernel
theorem d3_179 : decode prog_47_method_12_code 179 = .ok (.aload_n 0, 1) := by decide +kernel
theorem d3_180 : decode prog_47_method_12_code 180 = .ok (.getfield 32, 3) := by decide +kernel
theorem d3_183 : decode prog_47_method_12_code 183 = .ok (.lload 5, 2) := by decide +kernel
theorem d3_185 : decode prog_47_method_12_code 185 = .ok (.ladd, 1) := by decide +kernel
theorem d3_186 : decode prog_47_method_12_code 186 = .ok (.lstore 7, 2) := by decide +kernel
theorem d3_188 : decode prog_47_method_12_code 188 = .ok (.aload_n 0, 1) := by decide +kernel
theorem d3_189 : decode prog_47_method_12_code 189 = .ok (.dup, 1) := by decide +kernel
theorem d3_190 : decode prog_47_method_12_code 190 = .ok (.getfield 35, 3) := by decide +kernel
theorem d3_193 : decode prog_47_method_12_code 193 = .ok (.lload 7, 2) := by decide +kernel
theorem d3_195 : decode prog_47_method_12_code 195 = .ok (.bipush 63, 2) := by decide +kernel
theorem d3_197 : decode prog_47_method_12_code 197 = .ok (.lushr, 1) := by decide +kernel
theorem d3_198 : decode prog_47_method_12_code 198 = .ok (.ladd, 1) := by decide +kernel
theorem d3_199 : decode prog_47_method_12_code 199 = .ok (.putfield 35, 3) := by decide +kernel
theorem d3_202 : decode prog_47_method_12_code 202 = .ok (.aload_n 0, 1) := by decide +kernel
theorem d3_203 : decode prog_47_method_12_code 203 = .ok (.lload 7, 2) := by decide +kernel
theorem d3_205 : decode prog_47_method_12_code 205 = .ok (.ldc2_w 40, 3) := by decide +kernel
theorem d3_208 : decode prog_47_method_12_code 208 = .ok (.land, 1) := by decide +kernel
theorem d3_209 : decode prog_47_method_12_code 209 = .ok (.putfield 32, 3) := by decide +kernel
theorem d3_212 : decode prog_47_method_12_code 212 = .ok (.return_, 1) := by decide +kernel
theorem d4_0 : decode prog_47_method_15_code 0 = .ok (.aload_n 0, 1) := by decide +kernel
theorem d4_1 : decode prog_47_method_15_code 1 = .ok (.getfield 25, 3) := by decide +kernel
theorem d4_4 : decode prog_47_method_15_code 4 = .ok (.iload_n 1, 1) := by decide +kernel
theorem d4_5 : decode prog_47_method_15_code 5 = .ok (.iadd, 1) := by decide +kernel
theorem d4_6 : decode prog_47_method_15_code 6 = .ok (.aload_n 0, 1) := by decide +kernel
theorem d4_7 : decode prog_47_method_15_code 7 = .ok (.getfield 9, 3) := by decide +kernel
theorem d4_10 : decode prog_47_method_15_code 10 = .ok (.arraylength, 1) := by decide +kernel
theorem d4_11 : decode prog_47_method_15_code 11 = .ok (.iconst 1, 1) := by decide +kernel
theorem d4_12 : decode prog_47_method_15_code 12 = .ok (.isub, 1) := by decide +kernel
theorem d4_13 : decode prog_47_method_15_code 13 = .ok (.iand, 1) := by decide +kernel
theorem d4_14 : decode prog_47_method_15_code 14 = .ok (.ireturn, 1) := by decide +kernel
theorem d5_0 : decode prog_47_method_7_code 0 = .ok (.aload_n 0, 1) := by decide +kernel
theorem d5_1 : decode prog_47_method_7_code 1 = .ok (.getfield 9, 3) := by decide +kernel
theorem d5_4 : decode prog_47_method_7_code 4 = .ok (.aload_n 0, 1) := by decide +kernel
theorem d5_5 : decode prog_47_method_7_code 5 = .ok (.iload_n 1, 1) := by decide +kernel
theorem d5_6 : decode prog_47_method_7_code 6 = .ok (.invokevirtual 48, 3) := by decide +kernel
theorem d5_9 : decode prog_47_method_7_code 9 = .ok (.laload, 1) := by decide +kernel
theorem d5_10 : decode prog_47_method_7_code 10 = .ok (.lreturn, 1) := by decide +kernel
theorem d6_0 : decode prog_47_method_8_code 0 = .ok (.aload_n 0, 1) := by decide +kernel
theorem d6_1 : decode prog_47_method_8_code 1 = .ok (.getfield 13, 3) := by decide +kernel
theorem d6_4 : decode prog_47_method_8_code 4 = .ok (.aload_n 0, 1) := by decide +kernel
theorem d6_5 : decode prog_47_method_8_code 5 = .ok (.iload_n 1, 1) := by decide +kernel
theorem d6_6 : decode prog_47_method_8_code 6 = .ok (.invokevirtual 48, 3) := by decide +kernel
theorem d6_9 : decode prog_47_method_8_code 9 = .ok (.laload, 1) := by decide +kernel
theorem d6_10 : decode prog_47_method_8_code 10 = .ok (.lreturn, 1) := by decide +kernel
theorem d7_0 : decode prog_47_method_3_code 0 = .ok (.lload_n 0, 1) := by decide +kernel
theorem d7_1 : decode prog_47_method_3_code 1 = .ok (.lload_n 2, 1) := by decide +kernel
theorem d7_2 : decode prog_47_method_3_code 2 = .ok (.ladd, 1) := by decide +kernel
theorem d7_3 : decode prog_47_method_3_code 3 = .ok (.lstore 4, 2) := by decide +kernel
theorem d7_5 : decode prog_47_method_3_code 5 = .ok (.lload 4, 2) := by decide +kernel
theorem d7_7 : decode prog_47_method_3_code 7 = .ok (.lconst 0, 1) := by decide +kernel
theorem d7_8 : decode prog_47_method_3_code 8 = .ok (.lcmp, 1) := by decide +kernel
theorem d7_9 : decode prog_47_method_3_code 9 = .ok (.ifCond .ge 9, 3) := by decide +kernel
theorem d7_12 : decode prog_47_method_3_code 12 = .ok (.ldc2_w 40, 3) := by decide +kernel
theorem d7_15 : decode prog_47_method_3_code 15 = .ok (.goto 5, 3) := by decide +kernel
theorem d7_18 : decode prog_47_method_3_code 18 = .ok (.lload 4, 2) := by decide +kernel
theorem d7_20 : decode prog_47_method_3_code 20 = .ok (.lreturn, 1) := by decide +kernel
theorem d8_0 : decode prog_47_method_13_code 0 = .ok (.aload_n 0, 1) := by decide +kernel
theorem d8_1 : decode prog_47_method_13_code 1 = .ok (.getfield 29, 3) := by decide +kernel
theorem d8_4 : decode prog_47_method_13_code 4 = .ok (.ifCond .le 68, 3) := by decide +kernel
theorem d8_7 : decode prog_47_method_13_code 7 = .ok (.aload_n 0, 1) := by decide +kernel
theorem d8_8 : decode prog_47_method_13_code 8 = .ok (.iconst 0, 1) := by decide +kernel
theorem d8_9 : decode prog_47_method_13_code 9 = .ok (.invokevirtual 59, 3) := by decide +kernel
theorem d8_12 : decode prog_47_method_13_code 12 = .ok (.lload_n 1, 1) := by decide +kernel
theorem d8_13 : decode prog_47_method_13_code 13 = .ok (.lcmp, 1) := by decide +kernel
theorem d8_14 : decode prog_47_method_13_code 14 = .ok (.ifCond .ge 58, 3) := by decide +kernel
theorem d8_17 : decode prog_47_method_13_code 17 = .ok (.aload_n 0, 1) := by decide +kernel
theorem d8_18 : decode prog_47_method_13_code 18 = .ok (.getfield 32, 3) := by decide +kernel
theorem d8_21 : decode prog_47_method_13_code 21 = .ok (.aload_n 0, 1) := by decide +kernel
theorem d8_22 : decode prog_47_method_13_code 22 = .ok (.iconst 0, 1) := by decide +kernel
theorem d8_23 : decode prog_47_method_13_code 23 = .ok (.invokevirtual 52, 3) := by decide +kernel
theorem d8_26 : decode prog_47_method_13_code 26 = .ok (.lsub, 1) := by decide +kernel
theorem d8_27 : decode prog_47_method_13_code 27 = .ok (.lstore_n 3, 1) := by decide +kernel
theorem d8_28 : decode prog_47_method_13_code 28 = .ok (.aload_n 0, 1) := by decide +kernel
theorem d8_29 : decode prog_47_method_13_code 29 = .ok (.dup, 1) := by decide +kernel
theorem d8_30 : decode prog_47_method_13_code 30 = .ok (.getfield 35, 3) := by decide +kernel
theorem d8_33 : decode prog_47_method_13_code 33 = .ok (.lload_n 3, 1) := by decide +kernel
theorem d8_34 : decode prog_47_method_13_code 34 = .ok (.bipush 63, 2) := by decide +kernel
theorem d8_36 : decode prog_47_method_13_code 36 = .ok (.lushr, 1) := by decide +kernel
theorem d8_37 : decode prog_47_method_13_code 37 = .ok (.lsub, 1) := by decide +kernel
theorem d8_38 : decode prog_47_method_13_code 38 = .ok (.putfield 35, 3) := by decide +kernel
theorem d8_41 : decode prog_47_method_13_code 41 = .ok (.aload_n 0, 1) := by decide +kernel
theorem d8_42 : decode prog_47_method_13_code 42 = .ok (.lload_n 3, 1) := by decide +kernel
theorem d8_43 : decode prog_47_method_13_code 43 = .ok (.ldc2_w 40, 3) := by decide +kernel
theorem d8_46 : decode prog_47_method_13_code 46 = .ok (.land, 1) := by decide +kernel
theorem d8_47 : decode prog_47_method_13_code 47 = .ok (.putfield 32, 3) := by decide +kernel
theorem d8_50 : decode prog_47_method_13_code 50 = .ok (.aload_n 0, 1) := by decide +kernel
theorem d8_51 : decode prog_47_method_13_code 51 = .ok (.aload_n 0, 1) := by decide +kernel
theorem d8_52 : decode prog_47_method_13_code 52 = .ok (.iconst 1, 1) := by decide +kernel
theorem d8_53 : decode prog_47_method_13_code 53 = .ok (.invokevirtual 48, 3) := by decide +kernel
theorem d8_56 : decode prog_47_method_13_code 56 = .ok (.putfield 25, 3) := by decide +kernel
theorem d8_59 : decode prog_47_method_13_code 59 = .ok (.aload_n 0, 1) := by decide +kernel
theorem d8_60 : decode prog_47_method_13_code 60 = .ok (.dup, 1) := by decide +kernel
theorem d8_61 : decode prog_47_method_13_code 61 = .ok (.getfield 29, 3) := by decide +kernel
theorem d8_64 : decode prog_47_method_13_code 64 = .ok (.iconst 1, 1) := by decide +kernel
theorem d8_65 : decode prog_47_method_13_code 65 = .ok (.isub, 1) := by decide +kernel
theorem d8_66 : decode prog_47_method_13_code 66 = .ok (.putfield 29, 3) := by decide +kernel
theorem d8_69 : decode prog_47_method_13_code 69 = .ok (.goto (-69), 3) := by decide +kernel
theorem d8_72 : decode prog_47_method_13_code 72 = .ok (.aload_n 0, 1) := by decide +kernel
theorem d8_73 : decode prog_47_method_13_code 73 = .ok (.getfield 9, 3) := by decide +kernel
theorem d8_76 : decode prog_47_method_13_code 76 = .ok (.arraylength, 1) := by decide +kernel
theorem d8_77 : decode prog_47_method_13_code 77 = .ok (.iconst 2, 1) := by decide +kernel
theorem d8_78 : decode prog_47_method_13_code 78 = .ok (.if_icmp .le 28, 3) := by decide +kernel
theorem d8_81 : decode prog_47_method_13_code 81 = .ok (.aload_n 0, 1) := by decide +kernel
theorem d8_82 : decode prog_47_method_13_code 82 = .ok (.getfield 29, 3) := by decide +kernel
theorem d8_85 : decode prog_47_method_13_code 85 = .ok (.aload_n 0, 1) := by decide +kernel
theorem d8_86 : decode prog_47_method_13_code 86 = .ok (.getfield 9, 3) := by decide +kernel
theorem d8_89 : decode prog_47_method_13_code 89 = .ok (.arraylength, 1) := by decide +kernel
theorem d8_90 : decode prog_47_method_13_code 90 = .ok (.iconst 4, 1) := by decide +kernel
theorem d8_91 : decode prog_47_method_13_code 91 = .ok (.idiv, 1) := by decide +kernel
theorem d8_92 : decode prog_47_method_13_code 92 = .ok (.if_icmp .ge 14, 3) := by decide +kernel
theorem d8_95 : decode prog_47_method_13_code 95 = .ok (.aload_n 0, 1) := by decide +kernel
theorem d8_96 : decode prog_47_method_13_code 96 = .ok (.aload_n 0, 1) := by decide +kernel
theorem d8_97 : decode prog_47_method_13_code 97 = .ok (.getfield 9, 3) := by decide +kernel
theorem d8_100 : decode prog_47_method_13_code 100 = .ok (.arraylength, 1) := by decide +kernel
theorem d8_101 : decode prog_47_method_13_code 101 = .ok (.iconst 2, 1) := by decide +kernel
theorem d8_102 : decode prog_47_method_13_code 102 = .ok (.idiv, 1) := by decide +kernel
theorem d8_103 : decode prog_47_method_13_code 103 = .ok (.invokevirtual 71, 3) := by decide +kernel
theorem d8_106 : decode prog_47_method_13_code 106 = .ok (.return_, 1) := by decide +kernel
theorem d9_0 : decode prog_47_method_9_code 0 = .ok (.aload_n 0, 1) := by decide +kernel
theorem d9_1 : decode prog_47_method_9_code 1 = .ok (.getfield 35, 3) := by decide +kernel
theorem d9_4 : decode prog_47_method_9_code 4 = .ok (.lconst 0, 1) := by decide +kernel
theorem d9_5 : decode prog_47_method_9_code 5 = .ok (.lcmp, 1) := by decide +kernel
theorem d9_6 : decode prog_47_method_9_code 6 = .ok (.ifCond .ne 10, 3) := by decide +kernel
theorem d9_9 : decode prog_47_method_9_code 9 = .ok (.aload_n 0, 1) := by decide +kernel
theorem d9_10 : decode prog_47_method_9_code 10 = .ok (.getfield 32, 3) := by decide +kernel
theorem d9_13 : decode prog_47_method_9_code 13 = .ok (.goto 6, 3) := by decide +kernel
theorem d9_16 : decode prog_47_method_9_code 16 = .ok (.ldc2_w 40, 3) := by decide +kernel
theorem d9_19 : decode prog_47_method_9_code 19 = .ok (.lreturn, 1) := by decide +kernel
theorem d10_0 : decode method_2_code 0 = .ok (.lload_n 0, 1) := by decide +kernel
theorem d10_1 : decode method_2_code 1 = .ok (.ldc2_w 9, 3) := by decide +kernel
theorem d10_4 : decode method_2_code 4 = .ok (.lload_n 2, 1) := by decide +kernel
theorem d10_5 : decode method_2_code 5 = .ok (.lsub, 1) := by decide +kernel
theorem d10_6 : decode method_2_code 6 = .ok (.lcmp, 1) := by decide +kernel
theorem d10_7 : decode method_2_code 7 = .ok (.ifCond .le 9, 3) := by decide +kernel
theorem d10_10 : decode method_2_code 10 = .ok (.ldc2_w 9, 3) := by decide +kernel
theorem d10_13 : decode method_2_code 13 = .ok (.goto 6, 3) := by decide +kernel
theorem d10_16 : decode method_2_code 16 = .ok (.lload_n 0, 1) := by decide +kernel
theorem d10_17 : decode method_2_code 17 = .ok (.lload_n 2, 1) := by decide +kernel
theorem d10_18 : decode method_2_code 18 = .ok (.ladd, 1) := by decide +kernel
theorem d10_19 : decode method_2_code 19 = .ok (.lreturn, 1) := by decide +kernel
theorem d11_0 : decode method_3_code 0 = .ok (.lload_n 0, 1) := by decide +kernel
theorem d11_1 : decode method_3_code 1 = .ok (.lload 4, 2) := by decide +kernel
theorem d11_3 : decode method_3_code 3 = .ok (.lcmp, 1) := by decide +kernel
theorem d11_4 : decode method_3_code 4 = .ok (.ifCond .lt 7, 3) := by decide +kernel
theorem d11_7 : decode method_3_code 7 = .ok (.lload_n 2, 1) := by decide +kernel
theorem d11_8 : decode method_3_code 8 = .ok (.goto 4, 3) := by decide +kernel
theorem d11_11 : decode method_3_code 11 = .ok (.lconst 0, 1) := by decide +kernel
theorem d11_12 : decode method_3_code 12 = .ok (.lreturn, 1) := by decide +kernel
theorem d12_0 : decode prog_47_method_16_code 0 = .ok (.iload_n 1, 1) := by decide +kernel
theorem d12_1 : decode prog_47_method_16_code 1 = .ok (.newarray .long, 2) := by decide +kernel
theorem d12_3 : decode prog_47_method_16_code 3 = .ok (.astore_n 2, 1) := by decide +kernel
theorem d12_4 : decode prog_47_method_16_code 4 = .ok (.iload_n 1, 1) := by decide +kernel
theorem d12_5 : decode prog_47_method_16_code 5 = .ok (.newarray .long, 2) := by decide +kernel
theorem d12_7 : decode prog_47_method_16_code 7 = .ok (.astore_n 3, 1) := by decide +kernel
theorem d12_8 : decode prog_47_method_16_code 8 = .ok (.iconst 0, 1) := by decide +kernel
theorem d12_9 : decode prog_47_method_16_code 9 = .ok (.istore 4, 2) := by decide +kernel
theorem d12_11 : decode prog_47_method_16_code 11 = .ok (.iload 4, 2) := by decide +kernel
theorem d12_13 : decode prog_47_method_16_code 13 = .ok (.aload_n 0, 1) := by decide +kernel
theorem d12_14 : decode prog_47_method_16_code 14 = .ok (.getfield 29, 3) := by decide +kernel
theorem d12_17 : decode prog_47_method_16_code 17 = .ok (.if_icmp .ge 29, 3) := by decide +kernel
theorem d12_20 : decode prog_47_method_16_code 20 = .ok (.aload_n 2, 1) := by decide +kernel
theorem d12_21 : decode prog_47_method_16_code 21 = .ok (.iload 4, 2) := by decide +kernel
theorem d12_23 : decode prog_47_method_16_code 23 = .ok (.aload_n 0, 1) := by decide +kernel
theorem d12_24 : decode prog_47_method_16_code 24 = .ok (.iload 4, 2) := by decide +kernel
theorem d12_26 : decode prog_47_method_16_code 26 = .ok (.invokevirtual 59, 3) := by decide +kernel
theorem d12_29 : decode prog_47_method_16_code 29 = .ok (.lastore, 1) := by decide +kernel
theorem d12_30 : decode prog_47_method_16_code 30 = .ok (.aload_n 3, 1) := by decide +kernel
theorem d12_31 : decode prog_47_method_16_code 31 = .ok (.iload 4, 2) := by decide +kernel
theorem d12_33 : decode prog_47_method_16_code 33 = .ok (.aload_n 0, 1) := by decide +kernel
theorem d12_34 : decode prog_47_method_16_code 34 = .ok (.iload 4, 2) := by decide +kernel
theorem d12_36 : decode prog_47_method_16_code 36 = .ok (.invokevirtual 52, 3) := by decide +kernel
theorem d12_39 : decode prog_47_method_16_code 39 = .ok (.lastore, 1) := by decide +kernel
theorem d12_40 : decode prog_47_method_16_code 40 = .ok (.iinc 4 1, 3) := by decide +kernel
theorem d12_43 : decode prog_47_method_16_code 43 = .ok (.goto (-32), 3) := by decide +kernel
theorem d12_46 : decode prog_47_method_16_code 46 = .ok (.aload_n 0, 1) := by decide +kernel
theorem d12_47 : decode prog_47_method_16_code 47 = .ok (.aload_n 2, 1) := by decide +kernel
theorem d12_48 : decode prog_47_method_16_code 48 = .ok (.putfield 9, 3) := by decide +kernel
theorem d12_51 : decode prog_47_method_16_code 51 = .ok (.aload_n 0, 1) := by decide +kernel
theorem d12_52 : decode prog_47_method_16_code 52 = .ok (.aload_n 3, 1) := by decide +kernel
theorem d12_53 : decode prog_47_method_16_code 53 = .ok (.putfield 13, 3) := by decide +kernel
theorem d12_56 : decode prog_47_method_16_code 56 = .ok (.aload_n 0, 1) := by decide +kernel
theorem d12_57 : decode prog_47_method_16_code 57 = .ok (.iconst 0, 1) := by decide +kernel
theorem d12_58 : decode prog_47_method_16_code 58 = .ok (.putfield 25, 3) := by decide +kernel
theorem d12_61 : decode prog_47_method_16_code 61 = .ok (.return_, 1) := by decide +kernel
def O_WindowCounts (Z : State) (h : Heap) (a : Addr) (v0 v1 v2 v3 v4 v5 v6 : Value) : Prop := Exa Z h a "com/example/teddington/teddington/WindowCounts" ∧ Fld Z h a "com/example/teddington/teddington/WindowCounts" "indexes" "[J" v0 ∧ Fld Z h a "com/example/teddington/teddington/WindowCounts" "counts" "[J" v1 ∧ Fld Z h a "com/example/teddington/teddington/WindowCounts" "clock" "J" v2 ∧ Fld Z h a "com/example/teddington/teddington/WindowCounts" "size" "I" v3 ∧ Fld Z h a "com/example/teddington/teddington/WindowCounts" "oldest" "I" v4 ∧ Fld Z h a "com/example/teddington/teddington/WindowCounts" "total" "J" v5 ∧ Fld Z h a "com/example/teddington/teddington/WindowCounts" "beyond" "J" v6
theorem O_WindowCounts.ext {Z : State} {h h' : Heap} {a : Addr} {v0 v1 v2 v3 v4 v5 v6 : Value} (O : O_WindowCounts Z h a v0 v1 v2 v3 v4 v5 v6) (E : Ext h h') : O_WindowCounts Z h' a v0 v1 v2 v3 v4 v5 v6 := ⟨O.1.ext E, O.2.1.ext E, O.2.2.1.ext E, O.2.2.2.1.ext E, O.2.2.2.2.1.ext E, O.2.2.2.2.2.1.ext E, O.2.2.2.2.2.2.1.ext E, O.2.2.2.2.2.2.2.ext E⟩
theorem O_WindowCounts.keep {Z : State} {h h' : Heap} {a : Addr} {ws : List Addr} {v0 v1 v2 v3 v4 v5 v6 : Value} (O : O_WindowCounts Z h a v0 v1 v2 v3 v4 v5 v6) (K : Keep h h' ws) (q : a ∉ ws) : O_WindowCounts Z h' a v0 v1 v2 v3 v4 v5 v6 := ⟨O.1.keep K, O.2.1.keep K q, O.2.2.1.keep K q, O.2.2.2.1.keep K q, O.2.2.2.2.1.keep K q, O.2.2.2.2.2.1.keep K q, O.2.2.2.2.2.2.1.keep K q, O.2.2.2.2.2.2.2.keep K q⟩
theorem O_WindowCounts.other {Z : State} {h h' : Heap} {a b : Addr} {sl : Nat} {w : Value} {v0 v1 v2 v3 v4 v5 v6 : Value} (O : O_WindowCounts Z h a v0 v1 v2 v3 v4 v5 v6) (W : Wr h h' b sl w) (q : a ≠ b) : O_WindowCounts Z h' a v0 v1 v2 v3 v4 v5 v6 := ⟨O.1.wr W, O.2.1.other W (Or.inl q), O.2.2.1.other W (Or.inl q), O.2.2.2.1.other W (Or.inl q), O.2.2.2.2.1.other W (Or.inl q), O.2.2.2.2.2.1.other W (Or.inl q), O.2.2.2.2.2.2.1.other W (Or.inl q), O.2.2.2.2.2.2.2.other W (Or.inl q)⟩
theorem O_WindowCounts.set0 {Z : State} {a0 : Array Value} {h h' : Heap} {a : Addr} {v0 v1 v2 v3 v4 v5 v6 : Value} {w : Value} (hw : ∀ d ∈ tables_1, d.before a0 Z = true) (W : Wr h h' a (Jvm.RoadKit.slotOf Z "com/example/teddington/teddington/WindowCounts" "indexes" "[J") w) (O : O_WindowCounts Z h a v0 v1 v2 v3 v4 v5 v6) : O_WindowCounts Z h' a w v1 v2 v3 v4 v5 v6 := ⟨O.1.wr W, O.2.1.same W, O.2.2.1.other W (Or.inr (slot_ne (a0 := a0) (C := "com/example/teddington/teddington/WindowCounts") (Or.inl (tw14 hw)) (Or.inl (tw12 hw)) (by decide) (t := (.array .long)) (t' := (.array .long)) (by decide) (by decide))), O.2.2.2.1.other W (Or.inr (slot_ne (a0 := a0) (C := "com/example/teddington/teddington/WindowCounts") (Or.inl (tw16 hw)) (Or.inl (tw12 hw)) (by decide) (t := .long) (t' := (.array .long)) (by decide) (by decide))), O.2.2.2.2.1.other W (Or.inr (slot_ne (a0 := a0) (C := "com/example/teddington/teddington/WindowCounts") (Or.inl (tw23 hw)) (Or.inl (tw12 hw)) (by decide) (t := .int) (t' := (.array .long)) (by decide) (by decide))), O.2.2.2.2.2.1.other W (Or.inr (slot_ne (a0 := a0) (C := "com/example/teddington/teddington/WindowCounts") (Or.inl (tw29 hw)) (Or.inl (tw12 hw)) (by decide) (t := .int) (t' := (.array .long)) (by decide) (by decide))), O.2.2.2.2.2.2.1.other W (Or.inr (slot_ne (a0 := a0) (C := "com/example/teddington/teddington/WindowCounts") (Or.inl (tw31 hw)) (Or.inl (tw12 hw)) (by decide) (t := .long) (t' := (.array .long)) (by decide) (by decide))), O.2.2.2.2.2.2.2.other W (Or.inr (slot_ne (a0 := a0) (C := "com/example/teddington/teddington/WindowCounts") (Or.inl (tw33 hw)) (Or.inl (tw12 hw)) (by decide) (t := .long) (t' := (.array .long)) (by decide) (by decide)))⟩
theorem O_WindowCounts.set1 {Z : State} {a0 : Array Value} {h h' : Heap} {a : Addr} {v0 v1 v2 v3 v4 v5 v6 : Value} {w : Value} (hw : ∀ d ∈ tables_1, d.before a0 Z = true) (W : Wr h h' a (Jvm.RoadKit.slotOf Z "com/example/teddington/teddington/WindowCounts" "counts" "[J") w) (O : O_WindowCounts Z h a v0 v1 v2 v3 v4 v5 v6) : O_WindowCounts Z h' a v0 w v2 v3 v4 v5 v6 := ⟨O.1.wr W, O.2.1.other W (Or.inr (slot_ne (a0 := a0) (C := "com/example/teddington/teddington/WindowCounts") (Or.inl (tw12 hw)) (Or.inl (tw14 hw)) (by decide) (t := (.array .long)) (t' := (.array .long)) (by decide) (by decide))), O.2.2.1.same W, O.2.2.2.1.other W (Or.inr (slot_ne (a0 := a0) (C := "com/example/teddington/teddington/WindowCounts") (Or.inl (tw16 hw)) (Or.inl (tw14 hw)) (by decide) (t := .long) (t' := (.array .long)) (by decide) (by decide))), O.2.2.2.2.1.other W (Or.inr (slot_ne (a0 := a0) (C := "com/example/teddington/teddington/WindowCounts") (Or.inl (tw23 hw)) (Or.inl (tw14 hw)) (by decide) (t := .int) (t' := (.array .long)) (by decide) (by decide))), O.2.2.2.2.2.1.other W (Or.inr (slot_ne (a0 := a0) (C := "com/example/teddington/teddington/WindowCounts") (Or.inl (tw29 hw)) (Or.inl (tw14 hw)) (by decide) (t := .int) (t' := (.array .long)) (by decide) (by decide))), O.2.2.2.2.2.2.1.other W (Or.inr (slot_ne (a0 := a0) (C := "com/example/teddington/teddington/WindowCounts") (Or.inl (tw31 hw)) (Or.inl (tw14 hw)) (by decide) (t := .long) (t' := (.array .long)) (by decide) (by decide))), O.2.2.2.2.2.2.2.other W (Or.inr (slot_ne (a0 := a0) (C := "com/example/teddington/teddington/WindowCounts") (Or.inl (tw33 hw)) (Or.inl (tw14 hw)) (by decide) (t := .long) (t' := (.array .long)) (by decide) (by decide)))⟩
theorem O_WindowCounts.set2 {Z : State} {a0 : Array Value} {h h' : Heap} {a : Addr} {v0 v1 v2 v3 v4 v5 v6 : Value} {w : Value} (hw : ∀ d ∈ tables_1, d.before a0 Z = true) (W : Wr h h' a (Jvm.RoadKit.slotOf Z "com/example/teddington/teddington/WindowCounts" "clock" "J") w) (O : O_WindowCounts Z h a v0 v1 v2 v3 v4 v5 v6) : O_WindowCounts Z h' a v0 v1 w v3 v4 v5 v6 := ⟨O.1.wr W, O.2.1.other W (Or.inr (slot_ne (a0 := a0) (C := "com/example/teddington/teddington/WindowCounts") (Or.inl (tw12 hw)) (Or.inl (tw16 hw)) (by decide) (t := (.array .long)) (t' := .long) (by decide) (by decide))), O.2.2.1.other W (Or.inr (slot_ne (a0 := a0) (C := "com/example/teddington/teddington/WindowCounts") (Or.inl (tw14 hw)) (Or.inl (tw16 hw)) (by decide) (t := (.array .long)) (t' := .long) (by decide) (by decide))), O.2.2.2.1.same W, O.2.2.2.2.1.other W (Or.inr (slot_ne (a0 := a0) (C := "com/example/teddington/teddington/WindowCounts") (Or.inl (tw23 hw)) (Or.inl (tw16 hw)) (by decide) (t := .int) (t' := .long) (by decide) (by decide))), O.2.2.2.2.2.1.other W (Or.inr (slot_ne (a0 := a0) (C := "com/example/teddington/teddington/WindowCounts") (Or.inl (tw29 hw)) (Or.inl (tw16 hw)) (by decide) (t := .int) (t' := .long) (by decide) (by decide))), O.2.2.2.2.2.2.1.other W (Or.inr (slot_ne (a0 := a0) (C := "com/example/teddington/teddington/WindowCounts") (Or.inl (tw31 hw)) (Or.inl (tw16 hw)) (by decide) (t := .long) (t' := .long) (by decide) (by decide))), O.2.2.2.2.2.2.2.other W (Or.inr (slot_ne (a0 := a0) (C := "com/example/teddington/teddington/WindowCounts") (Or.inl (tw33 hw)) (Or.inl (tw16 hw)) (by decide) (t := .long) (t' := .long) (by decide) (by decide)))⟩
theorem O_WindowCounts.set3 {Z : State} {a0 : Array Value} {h h' : Heap} {a : Addr} {v0 v1 v2 v3 v4 v5 v6 : Value} {w : Value} (hw : ∀ d ∈ tables_1, d.before a0 Z = true) (W : Wr h h' a (Jvm.RoadKit.slotOf Z "com/example/teddington/teddington/WindowCounts" "size" "I") w) (O : O_WindowCounts Z h a v0 v1 v2 v3 v4 v5 v6) : O_WindowCounts Z h' a v0 v1 v2 w v4 v5 v6 := ⟨O.1.wr W, O.2.1.other W (Or.inr (slot_ne (a0 := a0) (C := "com/example/teddington/teddington/WindowCounts") (Or.inl (tw12 hw)) (Or.inl (tw23 hw)) (by decide) (t := (.array .long)) (t' := .int) (by decide) (by decide))), O.2.2.1.other W (Or.inr (slot_ne (a0 := a0) (C := "com/example/teddington/teddington/WindowCounts") (Or.inl (tw14 hw)) (Or.inl (tw23 hw)) (by decide) (t := (.array .long)) (t' := .int) (by decide) (by decide))), O.2.2.2.1.other W (Or.inr (slot_ne (a0 := a0) (C := "com/example/teddington/teddington/WindowCounts") (Or.inl (tw16 hw)) (Or.inl (tw23 hw)) (by decide) (t := .long) (t' := .int) (by decide) (by decide))), O.2.2.2.2.1.same W, O.2.2.2.2.2.1.other W (Or.inr (slot_ne (a0 := a0) (C := "com/example/teddington/teddington/WindowCounts") (Or.inl (tw29 hw)) (Or.inl (tw23 hw)) (by decide) (t := .int) (t' := .int) (by decide) (by decide))), O.2.2.2.2.2.2.1.other W (Or.inr (slot_ne (a0 := a0) (C := "com/example/teddington/teddington/WindowCounts") (Or.inl (tw31 hw)) (Or.inl (tw23 hw)) (by decide) (t := .long) (t' := .int) (by decide) (by decide))), O.2.2.2.2.2.2.2.other W (Or.inr (slot_ne (a0 := a0) (C := "com/example/teddington/teddington/WindowCounts") (Or.inl (tw33 hw)) (Or.inl (tw23 hw)) (by decide) (t := .long) (t' := .int) (by decide) (by decide)))⟩
theorem O_WindowCounts.set4 {Z : State} {a0 : Array Value} {h h' : Heap} {a : Addr} {v0 v1 v2 v3 v4 v5 v6 : Value} {w : Value} (hw : ∀ d ∈ tables_1, d.before a0 Z = true) (W : Wr h h' a (Jvm.RoadKit.slotOf Z "com/example/teddington/teddington/WindowCounts" "oldest" "I") w) (O : O_WindowCounts Z h a v0 v1 v2 v3 v4 v5 v6) : O_WindowCounts Z h' a v0 v1 v2 v3 w v5 v6 := ⟨O.1.wr W, O.2.1.other W (Or.inr (slot_ne (a0 := a0) (C := "com/example/teddington/teddington/WindowCounts") (Or.inl (tw12 hw)) (Or.inl (tw29 hw)) (by decide) (t := (.array .long)) (t' := .int) (by decide) (by decide))), O.2.2.1.other W (Or.inr (slot_ne (a0 := a0) (C := "com/example/teddington/teddington/WindowCounts") (Or.inl (tw14 hw)) (Or.inl (tw29 hw)) (by decide) (t := (.array .long)) (t' := .int) (by decide) (by decide))), O.2.2.2.1.other W (Or.inr (slot_ne (a0 := a0) (C := "com/example/teddington/teddington/WindowCounts") (Or.inl (tw16 hw)) (Or.inl (tw29 hw)) (by decide) (t := .long) (t' := .int) (by decide) (by decide))), O.2.2.2.2.1.other W (Or.inr (slot_ne (a0 := a0) (C := "com/example/teddington/teddington/WindowCounts") (Or.inl (tw23 hw)) (Or.inl (tw29 hw)) (by decide) (t := .int) (t' := .int) (by decide) (by decide))), O.2.2.2.2.2.1.same W, O.2.2.2.2.2.2.1.other W (Or.inr (slot_ne (a0 := a0) (C := "com/example/teddington/teddington/WindowCounts") (Or.inl (tw31 hw)) (Or.inl (tw29 hw)) (by decide) (t := .long) (t' := .int) (by decide) (by decide))), O.2.2.2.2.2.2.2.other W (Or.inr (slot_ne (a0 := a0) (C := "com/example/teddington/teddington/WindowCounts") (Or.inl (tw33 hw)) (Or.inl (tw29 hw)) (by decide) (t := .long) (t' := .int) (by decide) (by decide)))⟩
theorem O_WindowCounts.set5 {Z : State} {a0 : Array Value} {h h' : Heap} {a : Addr} {v0 v1 v2 v3 v4 v5 v6 : Value} {w : Value} (hw : ∀ d ∈ tables_1, d.before a0 Z = true) (W : Wr h h' a (Jvm.RoadKit.slotOf Z "com/example/teddington/teddington/WindowCounts" "total" "J") w) (O : O_WindowCounts Z h a v0 v1 v2 v3 v4 v5 v6) : O_WindowCounts Z h' a v0 v1 v2 v3 v4 w v6 := ⟨O.1.wr W, O.2.1.other W (Or.inr (slot_ne (a0 := a0) (C := "com/example/teddington/teddington/WindowCounts") (Or.inl (tw12 hw)) (Or.inl (tw31 hw)) (by decide) (t := (.array .long)) (t' := .long) (by decide) (by decide))), O.2.2.1.other W (Or.inr (slot_ne (a0 := a0) (C := "com/example/teddington/teddington/WindowCounts") (Or.inl (tw14 hw)) (Or.inl (tw31 hw)) (by decide) (t := (.array .long)) (t' := .long) (by decide) (by decide))), O.2.2.2.1.other W (Or.inr (slot_ne (a0 := a0) (C := "com/example/teddington/teddington/WindowCounts") (Or.inl (tw16 hw)) (Or.inl (tw31 hw)) (by decide) (t := .long) (t' := .long) (by decide) (by decide))), O.2.2.2.2.1.other W (Or.inr (slot_ne (a0 := a0) (C := "com/example/teddington/teddington/WindowCounts") (Or.inl (tw23 hw)) (Or.inl (tw31 hw)) (by decide) (t := .int) (t' := .long) (by decide) (by decide))), O.2.2.2.2.2.1.other W (Or.inr (slot_ne (a0 := a0) (C := "com/example/teddington/teddington/WindowCounts") (Or.inl (tw29 hw)) (Or.inl (tw31 hw)) (by decide) (t := .int) (t' := .long) (by decide) (by decide))), O.2.2.2.2.2.2.1.same W, O.2.2.2.2.2.2.2.other W (Or.inr (slot_ne (a0 := a0) (C := "com/example/teddington/teddington/WindowCounts") (Or.inl (tw33 hw)) (Or.inl (tw31 hw)) (by decide) (t := .long) (t' := .long) (by decide) (by decide)))⟩
theorem O_WindowCounts.set6 {Z : State} {a0 : Array Value} {h h' : Heap} {a : Addr} {v0 v1 v2 v3 v4 v5 v6 : Value} {w : Value} (hw : ∀ d ∈ tables_1, d.before a0 Z = true) (W : Wr h h' a (Jvm.RoadKit.slotOf Z "com/example/teddington/teddington/WindowCounts" "beyond" "J") w) (O : O_WindowCounts Z h a v0 v1 v2 v3 v4 v5 v6) : O_WindowCounts Z h' a v0 v1 v2 v3 v4 v5 w := ⟨O.1.wr W, O.2.1.other W (Or.inr (slot_ne (a0 := a0) (C := "com/example/teddington/teddington/WindowCounts") (Or.inl (tw12 hw)) (Or.inl (tw33 hw)) (by decide) (t := (.array .long)) (t' := .long) (by decide) (by decide))), O.2.2.1.other W (Or.inr (slot_ne (a0 := a0) (C := "com/example/teddington/teddington/WindowCounts") (Or.inl (tw14 hw)) (Or.inl (tw33 hw)) (by decide) (t := (.array .long)) (t' := .long) (by decide) (by decide))), O.2.2.2.1.other W (Or.inr (slot_ne (a0 := a0) (C := "com/example/teddington/teddington/WindowCounts") (Or.inl (tw16 hw)) (Or.inl (tw33 hw)) (by decide) (t := .long) (t' := .long) (by decide) (by decide))), O.2.2.2.2.1.other W (Or.inr (slot_ne (a0 := a0) (C := "com/example/teddington/teddington/WindowCounts") (Or.inl (tw23 hw)) (Or.inl (tw33 hw)) (by decide) (t := .int) (t' := .long) (by decide) (by decide))), O.2.2.2.2.2.1.other W (Or.inr (slot_ne (a0 := a0) (C := "com/example/teddington/teddington/WindowCounts") (Or.inl (tw29 hw)) (Or.inl (tw33 hw)) (by decide) (t := .int) (t' := .long) (by decide) (by decide))), O.2.2.2.2.2.2.1.other W (Or.inr (slot_ne (a0 := a0) (C := "com/example/teddington/teddington/WindowCounts") (Or.inl (tw31 hw)) (Or.inl (tw33 hw)) (by decide) (t := .long) (t' := .long) (by decide) (by decide))), O.2.2.2.2.2.2.2.same W⟩
def sm (x y : Int64) : Int64 := if (x + y) < (0 : Int64) then (9223372036854775807 : Int64) else (x + y)
def OKT (t b : Int64) (S : Int) (k : Nat) : Prop := 0 ≤ t.toInt ∧ 0 ≤ b.toInt ∧ b.toInt ≤ (k : Int) ∧ b.toInt * 9223372036854775808 + t.toInt = S
theorem own_okt0 : OKT (0 : Int64) (0 : Int64) 0 0 := by refine ⟨?_, ?_, ?_, ?_⟩ <;> decide
theorem own_sh63 (x : Int64) : (0 ≤ x.toInt → ((x.toUInt64 >>> ((63 : Int32) &&& 0x3f).toInt64.toUInt64).toInt64).toInt = 0) ∧ (x.toInt < 0 → ((x.toUInt64 >>> ((63 : Int32) &&& 0x3f).toInt64.toUInt64).toInt64).toInt = 1) := by
  have r := rng64 x
  rw [c_lushr x 63 63 (by decide) (by decide)]
  constructor <;> intro h <;> omega
theorem own_and63 (x : Int64) : (0 ≤ x.toInt → (x &&& (9223372036854775807 : Int64)).toInt = x.toInt) ∧ (x.toInt < 0 → (x &&& (9223372036854775807 : Int64)).toInt = x.toInt + 9223372036854775808) := by
  have r := rng64 x
  rw [c_maskL x 9223372036854775807 63 (by decide) (by decide)]
  constructor <;> intro h <;> omega
theorem own_addT {t b x y : Int64} {S : Int} {k : Nat} (h : OKT t b S k) (hk : k ≤ 100) (hx : 0 ≤ x.toInt) (hy : y = t + x) : OKT (y &&& (9223372036854775807 : Int64)) (b + ((y.toUInt64 >>> ((63 : Int32) &&& 0x3f).toInt64.toUInt64).toInt64)) (S + x.toInt) (k + 1) := by
  obtain ⟨h1, h2, h3, h4⟩ := h
  have s1 := own_sh63 y
  have s2 := own_and63 y
  have r1 := rng64 t
  have r2 := rng64 x
  have r3 := rng64 y
  have a := c_ladd t x
  rw [← hy] at a
  obtain ⟨u, hu⟩ : ∃ z, z = (y.toUInt64 >>> ((63 : Int32) &&& 0x3f).toInt64.toUInt64).toInt64 := ⟨_, rfl⟩
  obtain ⟨w, hw⟩ : ∃ z, z = y &&& (9223372036854775807 : Int64) := ⟨_, rfl⟩
  rw [← hu] at s1 ⊢
  rw [← hw] at s2 ⊢
  have u01 : u.toInt = 0 ∨ u.toInt = 1 := by
    rcases Int.lt_or_le y.toInt 0 with q | q
    · exact Or.inr (s1.2 q)
    · exact Or.inl (s1.1 q)
  have d := own_laddE b u (by omega)
  refine ⟨?_, ?_, ?_, ?_⟩ <;> rcases Int.lt_or_le y.toInt 0 with q | q <;> (have e1 := s1; have e2 := s2; omega)
theorem own_subT {t b x y : Int64} {S : Int} {k : Nat} (h : OKT t b S k) (hk : k ≤ 100) (hx : 0 ≤ x.toInt) (hS : x.toInt ≤ S) (hy : y = t - x) : OKT (y &&& (9223372036854775807 : Int64)) (b - ((y.toUInt64 >>> ((63 : Int32) &&& 0x3f).toInt64.toUInt64).toInt64)) (S - x.toInt) k := by
  obtain ⟨h1, h2, h3, h4⟩ := h
  have s1 := own_sh63 y
  have s2 := own_and63 y
  have r1 := rng64 t
  have r2 := rng64 x
  have r3 := rng64 y
  have a := own_lsubE t x (by omega)
  rw [← hy] at a
  obtain ⟨u, hu⟩ : ∃ z, z = (y.toUInt64 >>> ((63 : Int32) &&& 0x3f).toInt64.toUInt64).toInt64 := ⟨_, rfl⟩
  obtain ⟨w, hw⟩ : ∃ z, z = y &&& (9223372036854775807 : Int64) := ⟨_, rfl⟩
  rw [← hu] at s1 ⊢
  rw [← hw] at s2 ⊢
  have u01 : u.toInt = 0 ∨ u.toInt = 1 := by
    rcases Int.lt_or_le y.toInt 0 with q | q
    · exact Or.inr (s1.2 q)
    · exact Or.inl (s1.1 q)
  have d := own_lsubE b u (by omega)
  refine ⟨?_, ?_, ?_, ?_⟩ <;> rcases Int.lt_or_le y.toInt 0 with q | q <;> (have e1 := s1; have e2 := s2; omega)
theorem own_smI {x y r : Int64} (h : r = sm x y) (hx : 0 ≤ x.toInt) (hy : 0 ≤ y.toInt) : 0 ≤ r.toInt ∧ x.toInt ≤ r.toInt ∧ (x.toInt + y.toInt ≤ 9223372036854775807 → r.toInt = x.toInt + y.toInt) ∧ (9223372036854775807 < x.toInt + y.toInt → r.toInt = 9223372036854775807) := by
  have a := c_ladd x y
  have r1 := rng64 x
  have r2 := rng64 y
  have r3 := rng64 (x + y)
  unfold sm at h
  obtain ⟨u, hu⟩ : ∃ z, z = x + y := ⟨_, rfl⟩
  rw [← hu] at a r3 h
  by_cases q : u < (0 : Int64)
  · rw [if_pos q] at h
    rw [Int64.lt_iff_toInt_lt] at q
    have e : (9223372036854775807 : Int64).toInt = 9223372036854775807 := by decide
    rw [h, e]; simp only [Int64.reduceToInt] at q
    exact ⟨by omega, by omega, fun z => by omega, fun z => rfl⟩
  · rw [if_neg q] at h
    rw [Int64.lt_iff_toInt_lt] at q
    rw [h]; simp only [Int64.reduceToInt] at q
    exact ⟨by omega, by omega, fun z => by omega, fun z => by omega⟩
theorem own_satI {x y r : Int64} (h : r = (if ((9223372036854775807 : Int64) - y) < x then (9223372036854775807 : Int64) else (x + y))) (hx : 0 ≤ x.toInt) (hy : 0 ≤ y.toInt) : 0 ≤ r.toInt ∧ (x.toInt + y.toInt ≤ 9223372036854775807 → r.toInt = x.toInt + y.toInt) ∧ (9223372036854775807 < x.toInt + y.toInt → r.toInt = 9223372036854775807) := by
  have r1 := rng64 x
  have r2 := rng64 y
  have b := own_lsubE 9223372036854775807 y (by simp only [Int64.reduceToInt]; omega)
  simp only [Int64.reduceToInt] at b
  obtain ⟨w, hw⟩ : ∃ z, z = (9223372036854775807 : Int64) - y := ⟨_, rfl⟩
  rw [← hw] at b h
  by_cases q : w < x
  · rw [if_pos q] at h
    rw [Int64.lt_iff_toInt_lt] at q
    have e : (9223372036854775807 : Int64).toInt = 9223372036854775807 := by decide
    rw [h, e]
    exact ⟨by omega, fun z => by omega, fun z => by omega⟩
  · rw [if_neg q] at h
    rw [Int64.lt_iff_toInt_lt] at q
    have a := own_laddE x y (by omega)
    rw [h, a]
    exact ⟨by omega, fun z => by omega, fun z => by omega⟩
theorem own_totI {t b r : Int64} {S : Int} {k : Nat} (h : r = (if b = (0 : Int64) then t else (9223372036854775807 : Int64))) (H : OKT t b S k) : (S ≤ 9223372036854775807 → r.toInt = S) ∧ (9223372036854775807 < S → r.toInt = 9223372036854775807) := by
  obtain ⟨h1, h2, h3, h4⟩ := H
  have r1 := rng64 t
  by_cases q : b = (0 : Int64)
  · rw [if_pos q] at h
    rw [q] at h4
    rw [h]; simp only [Int64.reduceToInt] at h4
    exact ⟨fun z => by omega, fun z => by omega⟩
  · rw [if_neg q] at h
    have q2 : ¬ b.toInt = 0 := fun z => q (Int64.toInt_inj.mp (by rw [z]; rfl))
    have e : (9223372036854775807 : Int64).toInt = 9223372036854775807 := by decide
    rw [h, e]
    exact ⟨fun z => by omega, fun z => rfl⟩
theorem own_nnJ {x : Int64} (h : 0 ≤ x.toInt) : ¬ (x < (0 : Int64)) := by rw [Int64.lt_iff_toInt_lt]; simp only [Int64.reduceToInt]; omega
theorem own_jnn {x : Int64} (h : ¬ (x < (0 : Int64))) : 0 ≤ x.toInt := by rw [Int64.lt_iff_toInt_lt] at h; simp only [Int64.reduceToInt] at h; omega
theorem own_b1 (x : Int32) : (x &&& (1 : Int32)).toInt64 = (0 : Int64) ∨ (x &&& (1 : Int32)).toInt64 = (1 : Int64) := by
  have a := own_mB x 1 1 (by decide) (by decide) 1 (by decide)
  obtain ⟨u, hu⟩ : ∃ z, z = x &&& (1 : Int32) := ⟨_, rfl⟩
  rw [← hu] at a ⊢
  simp only [← Int64.toInt_inj, Int32.toInt_toInt64, Int64.reduceToInt]; omega
theorem own_b3 (x : Int32) : (x &&& (3 : Int32)).toInt64 = (0 : Int64) ∨ (x &&& (3 : Int32)).toInt64 = (1 : Int64) ∨ (x &&& (3 : Int32)).toInt64 = (2 : Int64) ∨ (x &&& (3 : Int32)).toInt64 = (3 : Int64) := by
  have a := own_mB x 3 2 (by decide) (by decide) 3 (by decide)
  obtain ⟨u, hu⟩ : ∃ z, z = x &&& (3 : Int32) := ⟨_, rfl⟩
  rw [← hu] at a ⊢
  simp only [← Int64.toInt_inj, Int32.toInt_toInt64, Int64.reduceToInt]; omega

theorem own_addE {t b x y ys : Int64} {S : Int} {k : Nat} (h : OKT t b S k) (hk : k ≤ 100) (hx : 0 ≤ x.toInt) (hy : 0 ≤ y.toInt) (hys : ys = t + (sm x y - x)) : OKT (ys &&& (9223372036854775807 : Int64)) (b + ((ys.toUInt64 >>> ((63 : Int32) &&& 0x3f).toInt64.toUInt64).toInt64)) (S + ((sm x y).toInt - x.toInt)) (k + 1) := by
  have a := own_smI (r := sm x y) rfl hx hy
  have r1 := rng64 (sm x y)
  have e := own_lsubE (sm x y) x (by omega)
  rw [← e]
  exact own_addT h hk (by omega) hys

theorem own_mk {x q : Int64} (h : x = q &&& (9223372036854775807 : Int64)) : 0 ≤ x.toInt ∧ x.toInt ≤ 9223372036854775807 := by
  rw [h]; exact own_mBL q 9223372036854775807 63 (by decide) (by decide) 9223372036854775807 (by decide)
theorem pn7 : plainName "com/example/teddington/teddington/WindowCounts" = true := by first | (simp [plainName, overriddenIn]; done) | decide +kernel
theorem ef7 (m : MethodId) (x0 : Int64) (x1 : Int64) : entryFrame m #[(.long x0), (.long x1)] 6 = mkF m 0 #[.val (.long x0), .second, .val (.long x1), .second, .unset, .unset] [] := by first | (simp [entryFrame, mkF, argsToLocals, Value.category]; done) | rfl
set_option maxRecDepth 65536 in
set_option maxHeartbeats 40000000 in
theorem rm7 (l : Launch) (Z : State) (a0 : Array Value) (hw : ∀ d ∈ tables_1, d.before a0 Z = true) (ws : List Jvm.Cond) (q1 : Int64) (q2 : Int64) (h0 : Heap) (n0 : Nat) (Z0 : n0 ≤ h0.size) :
    Met l Z (⟨"com/example/teddington/teddington/WindowCounts", "sum", "(JJ)J"⟩ : MethodName) prog_47_method_3_code 6 (some .long) ({ frames := 0, cells := 0, slots := 0, locals := 0 } : Room) ws n0 #[(.long q1), (.long q2)] h0 (fun v h' => v = some (.long (if (q1 + q2) < (0 : Int64) then (9223372036854775807 : Int64) else (q1 + q2))) ∧ h0 = h') := by
  refine Met.intro (plainFor_of_name pn7) Z0 ?_
  intro p e s m below meth c T X
  refine g_cast (ef7 m q1 q2) ?_
  refine g_lloadN X d7_0 rfl (q := 1) rfl ?_
  refine g_lloadN X d7_1 rfl (q := 2) rfl ?_
  refine g_ladd X d7_2 rfl (q := 3) ?_
  refine g_lstore X d7_3 rfl (q := 5) (L' := #[.val (.long q1), .second, .val (.long q2), .second, .val (.long (q1 + q2)), .second]) rfl ?_
  refine g_lload X d7_5 rfl (q := 7) rfl ?_
  refine g_lconst X d7_7 rfl (q := 8) (v := 0) rfl ?_
  refine g_jT1 X (J := 20) (P := fun (s0_20 : Int64) => s0_20 = (if (q1 + q2) < (0 : Int64) then (9223372036854775807 : Int64) else (q1 + q2))) (L := fun s0_20 => #[.val (.long q1), .second, .val (.long q2), .second, .val (.long (q1 + q2)), .second]) (S := fun s0_20 => [(.long s0_20)]) ?_ ?_
  · intro T X s0_20 hs0_20
    replace hs0_20 : s0_20 = (if (q1 + q2) < (0 : Int64) then (9223372036854775807 : Int64) else (q1 + q2)) := hs0_20
    subst hs0_20
    show Goes p e below s _ n0 _ (T.setTop (mkF m 20 #[.val (.long q1), .second, .val (.long q2), .second, .val (.long (q1 + q2)), .second] [(.long (if (q1 + q2) < (0 : Int64) then (9223372036854775807 : Int64) else (q1 + q2)))]))
    exact g_retJ X d7_20 (by decide) (by decide) ⟨rfl, rfl⟩
  · intro J20_0
    refine g_lcmpB X d7_8 (q1 := 9) rfl d7_9 (Or.inl rfl) (q := 12) rfl (by decide) (t := 18) rfl (fun (c1 : (q1 + q2) < (0 : Int64)) => ?_) (fun (c1 : ¬ ((q1 + q2) < (0 : Int64))) => ?_)
    · skip
      refine g_ldc2 X (tw34 hw) d7_12 (q := 15) rfl ?_
      refine g_goto X d7_15 (by decide) (q := 20) rfl ?_
      exact J20_0 T X _ ((if_pos c1).symm)
    · skip
      refine g_lload X d7_18 rfl (q := 20) rfl ?_
      exact J20_0 T X _ ((if_neg c1).symm)
theorem pn9 : plainName "com/example/teddington/teddington/WindowCounts" = true := by first | (simp [plainName, overriddenIn]; done) | decide +kernel
theorem ef9 (m : MethodId) (x0 : Addr) : entryFrame m #[(.ref x0)] 1 = mkF m 0 #[.val (.ref x0)] [] := by first | (simp [entryFrame, mkF, argsToLocals, Value.category]; done) | rfl
set_option maxRecDepth 65536 in
set_option maxHeartbeats 40000000 in
theorem rm9 (l : Launch) (Z : State) (a0 : Array Value) (hw : ∀ d ∈ tables_1, d.before a0 Z = true) (ws : List Jvm.Cond) (a1 : Addr) (uc : Int64) (ui : Addr) (un : Addr) (uo : Int32) (us : Int32) (ut : Int64) (ub : Int64) (h0 : Heap) (n0 : Nat) (Z0 : n0 ≤ h0.size) (O_a1 : O_WindowCounts Z h0 a1 (.ref ui) (.ref un) (.long uc) (.int us) (.int uo) (.long ut) (.long ub)) :
    Met l Z (⟨"com/example/teddington/teddington/WindowCounts", "total", "()J"⟩ : MethodName) prog_47_method_9_code 1 (some .long) ({ frames := 0, cells := 0, slots := 0, locals := 0 } : Room) ws n0 #[(.ref a1)] h0 (fun v h' => v = some (.long (if ub = (0 : Int64) then ut else (9223372036854775807 : Int64))) ∧ h0 = h') := by
  refine Met.intro (plainFor_of_name pn9) Z0 ?_
  intro p e s m below meth c T X
  refine g_cast (ef9 m a1) ?_
  refine g_aloadN X d9_0 rfl (q := 1) rfl rfl ?_
  refine g_getF X (tw32 hw) Via.refl O_a1.2.2.2.2.2.2.2 d9_1 (q := 4) rfl (fun T X => ?_)
  refine g_lconst X d9_4 rfl (q := 5) (v := 0) rfl ?_
  refine g_jT1 X (J := 19) (P := fun (s0_19 : Int64) => s0_19 = (if ub = (0 : Int64) then ut else (9223372036854775807 : Int64))) (L := fun s0_19 => #[.val (.ref a1)]) (S := fun s0_19 => [(.long s0_19)]) ?_ ?_
  · intro T X s0_19 hs0_19
    replace hs0_19 : s0_19 = (if ub = (0 : Int64) then ut else (9223372036854775807 : Int64)) := hs0_19
    subst hs0_19
    show Goes p e below s _ n0 _ (T.setTop (mkF m 19 #[.val (.ref a1)] [(.long (if ub = (0 : Int64) then ut else (9223372036854775807 : Int64)))]))
    exact g_retJ X d9_19 (by decide) (by decide) ⟨rfl, rfl⟩
  · intro J19_0
    refine g_lcmpB X d9_5 (q1 := 6) rfl d9_6 (Or.inr (Or.inr rfl)) (q := 9) rfl (by decide) (t := 16) rfl (fun (c1 : ub = (0 : Int64)) => ?_) (fun (c1 : ¬ (ub = (0 : Int64))) => ?_)
    · skip
      have b_ub : (0 : Int) ≤ ub.toInt ∧ ub.toInt ≤ 0 := by have z0 := c1; (try simp only [Int64.lt_iff_toInt_lt, Int32.lt_iff_toInt_lt, Int64.le_iff_toInt_le, Int32.le_iff_toInt_le, ← Int64.toInt_inj, ← Int32.toInt_inj, apply_ite Int64.toInt, apply_ite Int32.toInt, Int64.reduceToInt, Int32.reduceToInt, ne_eq] at z0); have z1 := rng64 ub; omega
      refine g_aloadN X d9_9 rfl (q := 10) rfl rfl ?_
      refine g_getF X (tw30 hw) Via.refl O_a1.2.2.2.2.2.2.1 d9_10 (q := 13) rfl (fun T X => ?_)
      refine g_goto X d9_13 (by decide) (q := 19) rfl ?_
      exact J19_0 T X _ ((if_pos c1).symm)
    · skip
      refine g_ldc2 X (tw34 hw) d9_16 (q := 19) rfl ?_
      exact J19_0 T X _ ((if_neg c1).symm)
theorem pn10 : plainName "com/example/teddington/teddington/WindowCountsTotalPinLaw" = true := by first | (simp [plainName, overriddenIn]; done) | decide +kernel
theorem ef10 (m : MethodId) (x0 : Int64) (x1 : Int64) : entryFrame m #[(.long x0), (.long x1)] 4 = mkF m 0 #[.val (.long x0), .second, .val (.long x1), .second] [] := by first | (simp [entryFrame, mkF, argsToLocals, Value.category]; done) | rfl
set_option maxRecDepth 65536 in
set_option maxHeartbeats 40000000 in
theorem rm10 (l : Launch) (Z : State) (a0 : Array Value) (hw : ∀ d ∈ tables_1, d.before a0 Z = true) (ws : List Jvm.Cond) (q1 : Int64) (q2 : Int64) (h0 : Heap) (n0 : Nat) (Z0 : n0 ≤ h0.size) :
    Met l Z (⟨"com/example/teddington/teddington/WindowCountsTotalPinLaw", "sat", "(JJ)J"⟩ : MethodName) method_2_code 4 (some .long) ({ frames := 0, cells := 0, slots := 0, locals := 0 } : Room) ws n0 #[(.long q1), (.long q2)] h0 (fun v h' => v = some (.long (if ((9223372036854775807 : Int64) - q2) < q1 then (9223372036854775807 : Int64) else (q1 + q2))) ∧ h0 = h') := by
  refine Met.intro (plainFor_of_name pn10) Z0 ?_
  intro p e s m below meth c T X
  refine g_cast (ef10 m q1 q2) ?_
  refine g_lloadN X d10_0 rfl (q := 1) rfl ?_
  refine g_ldc2 X (tw0 hw) d10_1 (q := 4) rfl ?_
  refine g_lloadN X d10_4 rfl (q := 5) rfl ?_
  refine g_lsub X d10_5 rfl (q := 6) ?_
  refine g_jT1 X (J := 19) (P := fun (s0_19 : Int64) => s0_19 = (if ((9223372036854775807 : Int64) - q2) < q1 then (9223372036854775807 : Int64) else (q1 + q2))) (L := fun s0_19 => #[.val (.long q1), .second, .val (.long q2), .second]) (S := fun s0_19 => [(.long s0_19)]) ?_ ?_
  · intro T X s0_19 hs0_19
    replace hs0_19 : s0_19 = (if ((9223372036854775807 : Int64) - q2) < q1 then (9223372036854775807 : Int64) else (q1 + q2)) := hs0_19
    subst hs0_19
    show Goes p e below s _ n0 _ (T.setTop (mkF m 19 #[.val (.long q1), .second, .val (.long q2), .second] [(.long (if ((9223372036854775807 : Int64) - q2) < q1 then (9223372036854775807 : Int64) else (q1 + q2)))]))
    exact g_retJ X d10_19 (by decide) (by decide) ⟨rfl, rfl⟩
  · intro J19_0
    refine g_lcmpB X d10_6 (q1 := 7) rfl d10_7 (Or.inr (Or.inl rfl)) (q := 10) rfl (by decide) (t := 16) rfl (fun (c1 : ((9223372036854775807 : Int64) - q2) < q1) => ?_) (fun (c1 : ¬ (((9223372036854775807 : Int64) - q2) < q1)) => ?_)
    · skip
      refine g_ldc2 X (tw0 hw) d10_10 (q := 13) rfl ?_
      refine g_goto X d10_13 (by decide) (q := 19) rfl ?_
      exact J19_0 T X _ ((if_pos c1).symm)
    · skip
      refine g_lloadN X d10_16 rfl (q := 17) rfl ?_
      refine g_lloadN X d10_17 rfl (q := 18) rfl ?_
      refine g_ladd X d10_18 rfl (q := 19) ?_
      exact J19_0 T X _ ((if_neg c1).symm)
theorem pn1 : plainName "com/example/teddington/teddington/WindowCounts" = true := by first | (simp [plainName, overriddenIn]; done) | decide +kernel
theorem ef1 (m : MethodId) (x0 : Addr) (x1 : Int64) : entryFrame m #[(.ref x0), (.long x1)] 3 = mkF m 0 #[.val (.ref x0), .val (.long x1), .second] [] := by first | (simp [entryFrame, mkF, argsToLocals, Value.category]; done) | rfl
set_option maxRecDepth 65536 in
set_option maxHeartbeats 40000000 in
theorem rm1 (l : Launch) (Z : State) (a0 : Array Value) (hw : ∀ d ∈ tables_1, d.before a0 Z = true) (ws : List Jvm.Cond) (a1 : Addr) (q2 : Int64) (h0 : Heap) (n0 : Nat) (Z0 : n0 ≤ h0.size) (O_a1 : O_WindowCounts Z h0 a1 .null .null (.long (0 : Int64)) (.int (0 : Int32)) (.int (0 : Int32)) (.long (0 : Int64)) (.long (0 : Int64))) (g_a1 : n0 ≤ a1) :
    Met l Z (⟨"com/example/teddington/teddington/WindowCounts", "<init>", "(J)V"⟩ : MethodName) prog_47_method_1_code 3 none ({ frames := 1, cells := 2, slots := 4, locals := 12 } : Room) ws n0 #[(.ref a1), (.long q2)] h0 (fun v h' => ∃ i1 : Addr, ∃ n1 : Addr, v = none ∧ Keep h0 h' [a1] ∧ O_WindowCounts Z h' a1 (.ref i1) (.ref n1) (.long q2) (.int (0 : Int32)) (.int (0 : Int32)) (.long (0 : Int64)) (.long (0 : Int64)) ∧ AJ Z h' i1 2 (fun _ => 0) ∧ AJ Z h' n1 2 (fun _ => 0) ∧ h0.size ≤ i1 ∧ h0.size ≤ n1 ∧ n0 ≤ i1 ∧ n0 ≤ n1 ∧ Apart i1 n1 ∧ Apart n1 i1) := by
  refine Met.intro (plainFor_of_name pn1) Z0 ?_
  intro p e s m below meth c T X
  refine g_cast (ef1 m a1 q2) ?_
  have K : Keep h0 h0 [a1] := Keep.refl h0 _
  refine g_aloadN X d1_0 rfl (q := 1) rfl rfl ?_
  refine g_initO X (tw7 hw) (tw8 hw) (tw9 hw) d1_1 (q := 4) rfl rfl (by decide) (W := 0) rfl (by decide) (fun T X => ?_)
  refine g_aloadN X d1_4 rfl (q := 5) rfl rfl ?_
  refine g_iconst X d1_5 rfl (q := 6) (v := 2) rfl ?_
  refine g_newarrJ X (tw10 hw) d1_6 (q := 8) rfl (by decide) (cap := 2) (by decide) (by decide) (c2 := 1) (s2 := 2) rfl rfl (by decide) (by decide) (fun T h' b1 X gz_b1 g_b1 E A_new => ?_)
  have ne_a1_b1 := own_new gz_b1 O_a1.1.lt
  have ne_b1_a1 := own_apS ne_a1_b1
  have sz_b1 := own_sz gz_b1 K
  have K := K.ext E
  have O_a1 := O_a1.ext E
  have A_b1 : AJ Z h' b1 2 (fun _ => 0) := A_new
  refine g_putF X (tw11 hw) Via.refl O_a1.2.1 O_a1.1 (Or.inl (tw12 hw)) (tw2 hw) (ty := (.array .long)) (by decide) rfl rfl g_a1 d1_8 (q := 11) rfl (fun T h X W => ?_)
  have A_b1 := A_b1.other W ne_b1_a1
  have O_a1 := O_WindowCounts.set0 hw W O_a1
  have K := K.wr W (Or.inl (List.mem_of_getElem? (i := 0) rfl))
  refine g_aloadN X d1_11 rfl (q := 12) rfl rfl ?_
  refine g_iconst X d1_12 rfl (q := 13) (v := 2) rfl ?_
  refine g_newarrJ X (tw10 hw) d1_13 (q := 15) rfl (by decide) (cap := 2) (by decide) (by decide) (c2 := 2) (s2 := 4) rfl rfl (by decide) (by decide) (fun T h' b2 X gz_b2 g_b2 E A_new => ?_)
  have ne_a1_b2 := own_new gz_b2 O_a1.1.lt
  have ne_b2_a1 := own_apS ne_a1_b2
  have ne_b1_b2 := own_new gz_b2 A_b1.lt
  have ne_b2_b1 := own_apS ne_b1_b2
  have sz_b2 := own_sz gz_b2 K
  have K := K.ext E
  have O_a1 := O_a1.ext E
  have A_b1 := A_b1.ext E
  have A_b2 : AJ Z h' b2 2 (fun _ => 0) := A_new
  refine g_putF X (tw13 hw) Via.refl O_a1.2.2.1 O_a1.1 (Or.inl (tw14 hw)) (tw2 hw) (ty := (.array .long)) (by decide) rfl rfl g_a1 d1_15 (q := 18) rfl (fun T h X W => ?_)
  have A_b1 := A_b1.other W ne_b1_a1
  have A_b2 := A_b2.other W ne_b2_a1
  have O_a1 := O_WindowCounts.set1 hw W O_a1
  have K := K.wr W (Or.inl (List.mem_of_getElem? (i := 0) rfl))
  refine g_aloadN X d1_18 rfl (q := 19) rfl rfl ?_
  refine g_lloadN X d1_19 rfl (q := 20) rfl ?_
  refine g_putF X (tw15 hw) Via.refl O_a1.2.2.2.1 O_a1.1 (Or.inl (tw16 hw)) (tw2 hw) (ty := .long) (by decide) rfl rfl g_a1 d1_20 (q := 23) rfl (fun T h X W => ?_)
  have A_b1 := A_b1.other W ne_b1_a1
  have A_b2 := A_b2.other W ne_b2_a1
  have O_a1 := O_WindowCounts.set2 hw W O_a1
  have K := K.wr W (Or.inl (List.mem_of_getElem? (i := 0) rfl))
  exact g_ret0 X d1_23 (by decide) (by decide) ⟨b1, b2, rfl, K, O_a1, A_b1, A_b2, sz_b1, sz_b2, g_b1, g_b2, ne_b1_b2, ne_b2_b1⟩
theorem pn4_0_2_0 : plainName "com/example/teddington/teddington/WindowCounts" = true := by first | (simp [plainName, overriddenIn]; done) | decide +kernel
theorem ef4_0_2_0 (m : MethodId) (x0 : Addr) (x1 : Int32) : entryFrame m #[(.ref x0), (.int x1)] 2 = mkF m 0 #[.val (.ref x0), .val (.int x1)] [] := by first | (simp [entryFrame, mkF, argsToLocals, Value.category]; done) | rfl
set_option maxRecDepth 65536 in
set_option maxHeartbeats 40000000 in
theorem rm4_0_2_0 (l : Launch) (Z : State) (a0 : Array Value) (hw : ∀ d ∈ tables_1, d.before a0 Z = true) (ws : List Jvm.Cond) (a1 : Addr) (uc : Int64) (ui : Addr) (un : Addr) (us : Int32) (ut : Int64) (ub : Int64) (G : Nat → Int64) (h0 : Heap) (n0 : Nat) (Z0 : n0 ≤ h0.size) (O_a1 : O_WindowCounts Z h0 a1 (.ref ui) (.ref un) (.long uc) (.int us) (.int (0 : Int32)) (.long ut) (.long ub)) (A_ui : AJ Z h0 ui 2 G) :
    Met l Z (⟨"com/example/teddington/teddington/WindowCounts", "at", "(I)I"⟩ : MethodName) prog_47_method_15_code 2 (some .int) ({ frames := 0, cells := 0, slots := 0, locals := 0 } : Room) ws n0 #[(.ref a1), (.int (0 : Int32))] h0 (fun v h' => v = some (.int (0 : Int32)) ∧ h0 = h') := by
  refine Met.intro (plainFor_of_name pn4_0_2_0) Z0 ?_
  intro p e s m below meth c T X
  refine g_cast (ef4_0_2_0 m a1 (0 : Int32)) ?_
  refine g_aloadN X d4_0 rfl (q := 1) rfl rfl ?_
  refine g_getF X (tw28 hw) Via.refl O_a1.2.2.2.2.2.1 d4_1 (q := 4) rfl (fun T X => ?_)
  refine g_iloadN X d4_4 rfl (q := 5) rfl ?_
  refine g_iadd X d4_5 rfl (q := 6) ?_
  refine g_eqI (y := (0 : Int32)) (by decide) ?_
  refine g_aloadN X d4_6 rfl (q := 7) rfl rfl ?_
  refine g_getF X (tw11 hw) Via.refl O_a1.2.1 d4_7 (q := 10) rfl (fun T X => ?_)
  refine g_alenJ X A_ui d4_10 (q := 11) rfl ?_
  show Goes p e below s _ n0 _ (T.setTop (mkF m 11 #[.val (.ref a1), .val (.int (0 : Int32))] [(.int (2 : Int32)), (.int (0 : Int32))]))
  refine g_iconst X d4_11 rfl (q := 12) (v := 1) rfl ?_
  refine g_isub X d4_12 rfl (q := 13) ?_
  refine g_eqI (y := (1 : Int32)) (by decide) ?_
  refine g_iand X d4_13 rfl (q := 14) ?_
  refine g_eqI (y := (0 : Int32)) (by decide) ?_
  exact g_retI X d4_14 (by decide) (by decide) ⟨rfl, rfl⟩
theorem pn3_0_2_z : plainName "com/example/teddington/teddington/WindowCounts" = true := by first | (simp [plainName, overriddenIn]; done) | decide +kernel
theorem ef3_0_2_z (m : MethodId) (x0 : Addr) (x1 : Int64) (x2 : Int64) : entryFrame m #[(.ref x0), (.long x1), (.long x2)] 9 = mkF m 0 #[.val (.ref x0), .val (.long x1), .second, .val (.long x2), .second, .unset, .unset, .unset, .unset] [] := by first | (simp [entryFrame, mkF, argsToLocals, Value.category]; done) | rfl
set_option maxRecDepth 65536 in
set_option maxHeartbeats 40000000 in
theorem rm3_0_2_z (l : Launch) (Z : State) (a0 : Array Value) (hw : ∀ d ∈ tables_1, d.before a0 Z = true) (ws : List Jvm.Cond) (a1 : Addr) (q2 : Int64) (q3 : Int64) (uc : Int64) (ui : Addr) (un : Addr) (ut : Int64) (ub : Int64) (G : Nat → Int64) (H : Nat → Int64) (S : Int) (k : Nat) (h0 : Heap) (n0 : Nat) (Z0 : n0 ≤ h0.size) (O_a1 : O_WindowCounts Z h0 a1 (.ref ui) (.ref un) (.long uc) (.int (0 : Int32)) (.int (0 : Int32)) (.long ut) (.long ub)) (A_ui : AJ Z h0 ui 2 G) (A_un : AJ Z h0 un 2 H) (g_a1 : n0 ≤ a1) (g_ui : n0 ≤ ui) (g_un : n0 ≤ un) (ne_a1_ui : Apart a1 ui) (ne_a1_un : Apart a1 un) (ne_ui_a1 : Apart ui a1) (ne_ui_un : Apart ui un) (ne_un_a1 : Apart un a1) (ne_un_ui : Apart un ui) (k1 : ¬ (q3 < (0 : Int64))) (hS : OKT ut ub S k) (hk : k ≤ 100) :
    Met l Z (⟨"com/example/teddington/teddington/WindowCounts", "add", "(JJ)V"⟩ : MethodName) prog_47_method_12_code 9 none ({ frames := 1, cells := 0, slots := 0, locals := 14 } : Room) ws n0 #[(.ref a1), (.long q2), (.long q3)] h0 (fun v h' => ∃ t1 : Int64, ∃ b1 : Int64, v = none ∧ Keep h0 h' [a1, ui, un] ∧ O_WindowCounts Z h' a1 (.ref ui) (.ref un) (.long uc) (.int (1 : Int32)) (.int (0 : Int32)) (.long t1) (.long b1) ∧ AJ Z h' ui 2 (own_up G 0 q2) ∧ AJ Z h' un 2 (own_up H 0 q3) ∧ OKT t1 b1 (S + q3.toInt) (k + 1)) := by
  refine Met.intro (plainFor_of_name pn3_0_2_z) Z0 ?_
  intro p e s m below meth c T X
  refine g_cast (ef3_0_2_z m a1 q2 q3) ?_
  have b_q3 : (0 : Int) ≤ q3.toInt ∧ q3.toInt ≤ 9223372036854775807 := by (try simp only [Int64.lt_iff_toInt_lt, Int32.lt_iff_toInt_lt, Int64.le_iff_toInt_le, Int32.le_iff_toInt_le, ← Int64.toInt_inj, ← Int32.toInt_inj, apply_ite Int64.toInt, apply_ite Int32.toInt, Int64.reduceToInt, Int32.reduceToInt, ne_eq] at k1); have z1 := rng64 q3; omega
  have K : Keep h0 h0 [a1, ui, un] := Keep.refl h0 _
  refine g_lloadN X d3_0 rfl (q := 1) rfl ?_
  refine g_lconst X d3_1 rfl (q := 2) (v := 0) rfl ?_
  refine g_lcmpA X d3_2 (q1 := 3) rfl d3_3 (Or.inl rfl) (q := 6) rfl (by decide) (t := 28) rfl (fun (c1 : q3 < (0 : Int64)) => ?_) (fun (c1 : ¬ (q3 < (0 : Int64))) => ?_)
  · skip
    exact absurd c1 k1
  · skip
    refine g_aloadN X d3_6 rfl (q := 7) rfl rfl ?_
    refine g_getF X (tw22 hw) Via.refl O_a1.2.2.2.2.1 d3_7 (q := 10) rfl (fun T X => ?_)
    refine g_ifB X d3_10 (Or.inr (Or.inl rfl)) (q := 13) rfl (by decide) (t := 43) rfl (fun (c2 : (0 : Int32) < (0 : Int32)) => ?_) (fun (c2 : ¬ ((0 : Int32) < (0 : Int32))) => ?_)
    · skip
      exact absurd c2 (by decide)
    · skip
      refine g_lloadN X d3_43 rfl (q := 44) rfl ?_
      refine g_lstore X d3_44 rfl (q := 46) (L' := #[.val (.ref a1), .val (.long q2), .second, .val (.long q3), .second, .val (.long q3), .second, .unset, .unset]) rfl ?_
      refine g_aloadN X d3_46 rfl (q := 47) rfl rfl ?_
      refine g_getF X (tw22 hw) Via.refl O_a1.2.2.2.2.1 d3_47 (q := 50) rfl (fun T X => ?_)
      refine g_ifB X d3_50 (Or.inr (Or.inl rfl)) (q := 53) rfl (by decide) (t := 119) rfl (fun (c3 : (0 : Int32) < (0 : Int32)) => ?_) (fun (c3 : ¬ ((0 : Int32) < (0 : Int32))) => ?_)
      · skip
        exact absurd c3 (by decide)
      · skip
        refine g_aloadN X d3_119 rfl (q := 120) rfl rfl ?_
        refine g_getF X (tw22 hw) Via.refl O_a1.2.2.2.2.1 d3_120 (q := 123) rfl (fun T X => ?_)
        refine g_aloadN X d3_123 rfl (q := 124) rfl rfl ?_
        refine g_getF X (tw11 hw) Via.refl O_a1.2.1 d3_124 (q := 127) rfl (fun T X => ?_)
        refine g_alenJ X A_ui d3_127 (q := 128) rfl ?_
        show Goes p e below s _ n0 _ (T.setTop (mkF m 128 #[.val (.ref a1), .val (.long q2), .second, .val (.long q3), .second, .val (.long q3), .second, .unset, .unset] [(.int (2 : Int32)), (.int (0 : Int32))]))
        refine g_icmpB X d3_128 (Or.inr (Or.inr rfl)) (q := 131) rfl (by decide) (t := 141) rfl (fun (c4 : (0 : Int32) = (2 : Int32)) => ?_) (fun (c4 : ¬ ((0 : Int32) = (2 : Int32))) => ?_)
        · skip
          exact absurd c4 (by decide)
        · skip
          refine g_aloadN X d3_141 rfl (q := 142) rfl rfl ?_
          refine g_getF X (tw11 hw) Via.refl O_a1.2.1 d3_142 (q := 145) rfl (fun T X => ?_)
          refine g_aloadN X d3_145 rfl (q := 146) rfl rfl ?_
          refine g_aloadN X d3_146 rfl (q := 147) rfl rfl ?_
          refine g_getF X (tw22 hw) Via.refl O_a1.2.2.2.2.1 d3_147 (q := 150) rfl (fun T X => ?_)
          refine g_callP X O_a1.1 [(.int (0 : Int32))] [(.ref ui)] (tw24 hw) (own_selP (tw2 hw) (tw25 hw) (tw26 hw) (by decide)) (tw25 hw) (tw26 hw) (tw3 hw) (tw27 hw) (by decide) (rm4_0_2_0 l Z a0 hw [] a1 uc ui un (0 : Int32) ut ub G _ n0 X.size O_a1 A_ui) pd1 rfl rfl rfl d3_150 (q := 153) rfl (W := 1) rfl (by decide) (by decide) (c2 := 0) (s2 := 0) rfl rfl (by decide) (by decide) (fun v T h' X hQ => ?_)
          obtain ⟨rfl, rfl⟩ := hQ
          show Goes p e below s _ n0 _ (T.setTop (mkF m 153 #[.val (.ref a1), .val (.long q2), .second, .val (.long q3), .second, .val (.long q3), .second, .unset, .unset] [(.int (0 : Int32)), (.ref ui)]))
          refine g_lloadN X d3_153 rfl (q := 154) rfl ?_
          refine g_lastore X A_ui ⟨by decide, by decide⟩ g_ui d3_154 (q := 155) rfl (fun T h X W => ?_)
          have O_a1 := O_a1.other W ne_a1_ui
          have A_un := A_un.other W ne_un_ui
          have A_ui : AJ Z h ui 2 (own_up G 0 q2) := A_ui.set W
          have K := K.wr W (Or.inl (List.mem_of_getElem? (i := 1) rfl))
          refine g_aloadN X d3_155 rfl (q := 156) rfl rfl ?_
          refine g_getF X (tw13 hw) Via.refl O_a1.2.2.1 d3_156 (q := 159) rfl (fun T X => ?_)
          refine g_aloadN X d3_159 rfl (q := 160) rfl rfl ?_
          refine g_aloadN X d3_160 rfl (q := 161) rfl rfl ?_
          refine g_getF X (tw22 hw) Via.refl O_a1.2.2.2.2.1 d3_161 (q := 164) rfl (fun T X => ?_)
          refine g_callP X O_a1.1 [(.int (0 : Int32))] [(.ref un)] (tw24 hw) (own_selP (tw2 hw) (tw25 hw) (tw26 hw) (by decide)) (tw25 hw) (tw26 hw) (tw3 hw) (tw27 hw) (by decide) (rm4_0_2_0 l Z a0 hw [] a1 uc ui un (0 : Int32) ut ub (own_up G 0 q2) _ n0 X.size O_a1 A_ui) pd1 rfl rfl rfl d3_164 (q := 167) rfl (W := 1) rfl (by decide) (by decide) (c2 := 0) (s2 := 0) rfl rfl (by decide) (by decide) (fun v T h' X hQ => ?_)
          obtain ⟨rfl, rfl⟩ := hQ
          show Goes p e below s _ n0 _ (T.setTop (mkF m 167 #[.val (.ref a1), .val (.long q2), .second, .val (.long q3), .second, .val (.long q3), .second, .unset, .unset] [(.int (0 : Int32)), (.ref un)]))
          refine g_lloadN X d3_167 rfl (q := 168) rfl ?_
          refine g_lastore X A_un ⟨by decide, by decide⟩ g_un d3_168 (q := 169) rfl (fun T h X W => ?_)
          have O_a1 := O_a1.other W ne_a1_un
          have A_ui := A_ui.other W ne_ui_un
          have A_un : AJ Z h un 2 (own_up H 0 q3) := A_un.set W
          have K := K.wr W (Or.inl (List.mem_of_getElem? (i := 2) rfl))
          refine g_aloadN X d3_169 rfl (q := 170) rfl rfl ?_
          refine g_dup X d3_170 rfl (q := 171) rfl ?_
          refine g_getF X (tw22 hw) Via.refl O_a1.2.2.2.2.1 d3_171 (q := 174) rfl (fun T X => ?_)
          refine g_iconst X d3_174 rfl (q := 175) (v := 1) rfl ?_
          refine g_iadd X d3_175 rfl (q := 176) ?_
          refine g_eqI (y := (1 : Int32)) (by decide) ?_
          refine g_putF X (tw22 hw) Via.refl O_a1.2.2.2.2.1 O_a1.1 (Or.inl (tw23 hw)) (tw2 hw) (ty := .int) (by decide) rfl rfl g_a1 d3_176 (q := 179) rfl (fun T h X W => ?_)
          have A_ui := A_ui.other W ne_ui_a1
          have A_un := A_un.other W ne_un_a1
          have O_a1 := O_WindowCounts.set3 hw W O_a1
          have K := K.wr W (Or.inl (List.mem_of_getElem? (i := 0) rfl))
          refine g_aloadN X d3_179 rfl (q := 180) rfl rfl ?_
          refine g_getF X (tw30 hw) Via.refl O_a1.2.2.2.2.2.2.1 d3_180 (q := 183) rfl (fun T X => ?_)
          refine g_lload X d3_183 rfl (q := 185) rfl ?_
          refine g_ladd X d3_185 rfl (q := 186) ?_
          refine g_letJ (fun ys hys => ?_)
          refine g_lstore X d3_186 rfl (q := 188) (L' := #[.val (.ref a1), .val (.long q2), .second, .val (.long q3), .second, .val (.long q3), .second, .val (.long ys), .second]) rfl ?_
          refine g_aloadN X d3_188 rfl (q := 189) rfl rfl ?_
          refine g_dup X d3_189 rfl (q := 190) rfl ?_
          refine g_getF X (tw32 hw) Via.refl O_a1.2.2.2.2.2.2.2 d3_190 (q := 193) rfl (fun T X => ?_)
          refine g_lload X d3_193 rfl (q := 195) rfl ?_
          refine g_bipush X d3_195 rfl (q := 197) (v := 63) rfl ?_
          refine g_lushr X d3_197 rfl (q := 198) ?_
          refine g_ladd X d3_198 rfl (q := 199) ?_
          refine g_putF X (tw32 hw) Via.refl O_a1.2.2.2.2.2.2.2 O_a1.1 (Or.inl (tw33 hw)) (tw2 hw) (ty := .long) (by decide) rfl rfl g_a1 d3_199 (q := 202) rfl (fun T h X W => ?_)
          have A_ui := A_ui.other W ne_ui_a1
          have A_un := A_un.other W ne_un_a1
          have O_a1 := O_WindowCounts.set6 hw W O_a1
          have K := K.wr W (Or.inl (List.mem_of_getElem? (i := 0) rfl))
          refine g_aloadN X d3_202 rfl (q := 203) rfl rfl ?_
          refine g_lload X d3_203 rfl (q := 205) rfl ?_
          refine g_ldc2 X (tw34 hw) d3_205 (q := 208) rfl ?_
          refine g_land X d3_208 rfl (q := 209) ?_
          refine g_putF X (tw30 hw) Via.refl O_a1.2.2.2.2.2.2.1 O_a1.1 (Or.inl (tw31 hw)) (tw2 hw) (ty := .long) (by decide) rfl rfl g_a1 d3_209 (q := 212) rfl (fun T h X W => ?_)
          have A_ui := A_ui.other W ne_ui_a1
          have A_un := A_un.other W ne_un_a1
          have O_a1 := O_WindowCounts.set5 hw W O_a1
          have K := K.wr W (Or.inl (List.mem_of_getElem? (i := 0) rfl))
          exact g_ret0 X d3_212 (by decide) (by decide) ⟨(ys &&& (9223372036854775807 : Int64)), (ub + ((ys.toUInt64 >>> ((63 : Int32) &&& 0x3f).toInt64.toUInt64).toInt64)), rfl, K, O_a1, A_ui, A_un, own_addT hS hk (own_jnn k1) hys⟩
theorem pn5_0_2_0 : plainName "com/example/teddington/teddington/WindowCounts" = true := by first | (simp [plainName, overriddenIn]; done) | decide +kernel
theorem ef5_0_2_0 (m : MethodId) (x0 : Addr) (x1 : Int32) : entryFrame m #[(.ref x0), (.int x1)] 2 = mkF m 0 #[.val (.ref x0), .val (.int x1)] [] := by first | (simp [entryFrame, mkF, argsToLocals, Value.category]; done) | rfl
set_option maxRecDepth 65536 in
set_option maxHeartbeats 40000000 in
theorem rm5_0_2_0 (l : Launch) (Z : State) (a0 : Array Value) (hw : ∀ d ∈ tables_1, d.before a0 Z = true) (ws : List Jvm.Cond) (a1 : Addr) (uc : Int64) (ui : Addr) (un : Addr) (us : Int32) (ut : Int64) (ub : Int64) (G : Nat → Int64) (h0 : Heap) (n0 : Nat) (Z0 : n0 ≤ h0.size) (O_a1 : O_WindowCounts Z h0 a1 (.ref ui) (.ref un) (.long uc) (.int us) (.int (0 : Int32)) (.long ut) (.long ub)) (A_ui : AJ Z h0 ui 2 G) :
    Met l Z (⟨"com/example/teddington/teddington/WindowCounts", "index", "(I)J"⟩ : MethodName) prog_47_method_7_code 2 (some .long) ({ frames := 1, cells := 0, slots := 0, locals := 14 } : Room) ws n0 #[(.ref a1), (.int (0 : Int32))] h0 (fun v h' => v = some (.long (G 0)) ∧ h0 = h') := by
  refine Met.intro (plainFor_of_name pn5_0_2_0) Z0 ?_
  intro p e s m below meth c T X
  refine g_cast (ef5_0_2_0 m a1 (0 : Int32)) ?_
  refine g_aloadN X d5_0 rfl (q := 1) rfl rfl ?_
  refine g_getF X (tw11 hw) Via.refl O_a1.2.1 d5_1 (q := 4) rfl (fun T X => ?_)
  refine g_aloadN X d5_4 rfl (q := 5) rfl rfl ?_
  refine g_iloadN X d5_5 rfl (q := 6) rfl ?_
  refine g_callP X O_a1.1 [(.int (0 : Int32))] [(.ref ui)] (tw24 hw) (own_selP (tw2 hw) (tw25 hw) (tw26 hw) (by decide)) (tw25 hw) (tw26 hw) (tw3 hw) (tw27 hw) (by decide) (rm4_0_2_0 l Z a0 hw [] a1 uc ui un us ut ub G _ n0 X.size O_a1 A_ui) pd1 rfl rfl rfl d5_6 (q := 9) rfl (W := 1) rfl (by decide) (by decide) (c2 := 0) (s2 := 0) rfl rfl (by decide) (by decide) (fun v T h' X hQ => ?_)
  obtain ⟨rfl, rfl⟩ := hQ
  show Goes p e below s _ n0 _ (T.setTop (mkF m 9 #[.val (.ref a1), .val (.int (0 : Int32))] [(.int (0 : Int32)), (.ref ui)]))
  refine g_laload X A_ui ⟨by decide, by decide⟩ d5_9 (q := 10) rfl ?_
  exact g_retJ X d5_10 (by decide) (by decide) ⟨rfl, rfl⟩
theorem pn6_0_2_0 : plainName "com/example/teddington/teddington/WindowCounts" = true := by first | (simp [plainName, overriddenIn]; done) | decide +kernel
theorem ef6_0_2_0 (m : MethodId) (x0 : Addr) (x1 : Int32) : entryFrame m #[(.ref x0), (.int x1)] 2 = mkF m 0 #[.val (.ref x0), .val (.int x1)] [] := by first | (simp [entryFrame, mkF, argsToLocals, Value.category]; done) | rfl
set_option maxRecDepth 65536 in
set_option maxHeartbeats 40000000 in
theorem rm6_0_2_0 (l : Launch) (Z : State) (a0 : Array Value) (hw : ∀ d ∈ tables_1, d.before a0 Z = true) (ws : List Jvm.Cond) (a1 : Addr) (uc : Int64) (ui : Addr) (un : Addr) (us : Int32) (ut : Int64) (ub : Int64) (G : Nat → Int64) (H : Nat → Int64) (h0 : Heap) (n0 : Nat) (Z0 : n0 ≤ h0.size) (O_a1 : O_WindowCounts Z h0 a1 (.ref ui) (.ref un) (.long uc) (.int us) (.int (0 : Int32)) (.long ut) (.long ub)) (A_ui : AJ Z h0 ui 2 G) (A_un : AJ Z h0 un 2 H) :
    Met l Z (⟨"com/example/teddington/teddington/WindowCounts", "count", "(I)J"⟩ : MethodName) prog_47_method_8_code 2 (some .long) ({ frames := 1, cells := 0, slots := 0, locals := 14 } : Room) ws n0 #[(.ref a1), (.int (0 : Int32))] h0 (fun v h' => v = some (.long (H 0)) ∧ h0 = h') := by
  refine Met.intro (plainFor_of_name pn6_0_2_0) Z0 ?_
  intro p e s m below meth c T X
  refine g_cast (ef6_0_2_0 m a1 (0 : Int32)) ?_
  refine g_aloadN X d6_0 rfl (q := 1) rfl rfl ?_
  refine g_getF X (tw13 hw) Via.refl O_a1.2.2.1 d6_1 (q := 4) rfl (fun T X => ?_)
  refine g_aloadN X d6_4 rfl (q := 5) rfl rfl ?_
  refine g_iloadN X d6_5 rfl (q := 6) rfl ?_
  refine g_callP X O_a1.1 [(.int (0 : Int32))] [(.ref un)] (tw24 hw) (own_selP (tw2 hw) (tw25 hw) (tw26 hw) (by decide)) (tw25 hw) (tw26 hw) (tw3 hw) (tw27 hw) (by decide) (rm4_0_2_0 l Z a0 hw [] a1 uc ui un us ut ub G _ n0 X.size O_a1 A_ui) pd1 rfl rfl rfl d6_6 (q := 9) rfl (W := 1) rfl (by decide) (by decide) (c2 := 0) (s2 := 0) rfl rfl (by decide) (by decide) (fun v T h' X hQ => ?_)
  obtain ⟨rfl, rfl⟩ := hQ
  show Goes p e below s _ n0 _ (T.setTop (mkF m 9 #[.val (.ref a1), .val (.int (0 : Int32))] [(.int (0 : Int32)), (.ref un)]))
  refine g_laload X A_un ⟨by decide, by decide⟩ d6_9 (q := 10) rfl ?_
  exact g_retJ X d6_10 (by decide) (by decide) ⟨rfl, rfl⟩
theorem pn3_1_2_e : plainName "com/example/teddington/teddington/WindowCounts" = true := by first | (simp [plainName, overriddenIn]; done) | decide +kernel
theorem ef3_1_2_e (m : MethodId) (x0 : Addr) (x1 : Int64) (x2 : Int64) : entryFrame m #[(.ref x0), (.long x1), (.long x2)] 9 = mkF m 0 #[.val (.ref x0), .val (.long x1), .second, .val (.long x2), .second, .unset, .unset, .unset, .unset] [] := by first | (simp [entryFrame, mkF, argsToLocals, Value.category]; done) | rfl
set_option maxRecDepth 65536 in
set_option maxHeartbeats 40000000 in
theorem rm3_1_2_e (l : Launch) (Z : State) (a0 : Array Value) (hw : ∀ d ∈ tables_1, d.before a0 Z = true) (ws : List Jvm.Cond) (a1 : Addr) (q2 : Int64) (q3 : Int64) (uc : Int64) (ui : Addr) (un : Addr) (ut : Int64) (ub : Int64) (G : Nat → Int64) (H : Nat → Int64) (S : Int) (k : Nat) (h0 : Heap) (n0 : Nat) (Z0 : n0 ≤ h0.size) (O_a1 : O_WindowCounts Z h0 a1 (.ref ui) (.ref un) (.long uc) (.int (1 : Int32)) (.int (0 : Int32)) (.long ut) (.long ub)) (A_ui : AJ Z h0 ui 2 G) (A_un : AJ Z h0 un 2 H) (g_a1 : n0 ≤ a1) (g_ui : n0 ≤ ui) (g_un : n0 ≤ un) (ne_a1_ui : Apart a1 ui) (ne_a1_un : Apart a1 un) (ne_ui_a1 : Apart ui a1) (ne_ui_un : Apart ui un) (ne_un_a1 : Apart un a1) (ne_un_ui : Apart un ui) (k1 : ¬ (q3 < (0 : Int64))) (k2 : q2 = (G 0)) (k3 : ¬ (q2 < (G 0))) (k4 : 0 ≤ (H 0).toInt) (hS : OKT ut ub S k) (hk : k ≤ 100) :
    Met l Z (⟨"com/example/teddington/teddington/WindowCounts", "add", "(JJ)V"⟩ : MethodName) prog_47_method_12_code 9 none ({ frames := 2, cells := 0, slots := 0, locals := 29 } : Room) ws n0 #[(.ref a1), (.long q2), (.long q3)] h0 (fun v h' => ∃ t1 : Int64, ∃ b1 : Int64, v = none ∧ Keep h0 h' [a1, un] ∧ O_WindowCounts Z h' a1 (.ref ui) (.ref un) (.long uc) (.int (1 : Int32)) (.int (0 : Int32)) (.long t1) (.long b1) ∧ AJ Z h' un 2 (own_up H 0 (sm (H 0) q3)) ∧ OKT t1 b1 (S + ((sm (H 0) q3).toInt - (H 0).toInt)) (k + 1)) := by
  refine Met.intro (plainFor_of_name pn3_1_2_e) Z0 ?_
  intro p e s m below meth c T X
  refine g_cast (ef3_1_2_e m a1 q2 q3) ?_
  have b_q3 : (0 : Int) ≤ q3.toInt ∧ q3.toInt ≤ 9223372036854775807 := by (try simp only [Int64.lt_iff_toInt_lt, Int32.lt_iff_toInt_lt, Int64.le_iff_toInt_le, Int32.le_iff_toInt_le, ← Int64.toInt_inj, ← Int32.toInt_inj, apply_ite Int64.toInt, apply_ite Int32.toInt, Int64.reduceToInt, Int32.reduceToInt, ne_eq] at k1); have z1 := rng64 q3; omega
  have K : Keep h0 h0 [a1, un] := Keep.refl h0 _
  refine g_lloadN X d3_0 rfl (q := 1) rfl ?_
  refine g_lconst X d3_1 rfl (q := 2) (v := 0) rfl ?_
  refine g_lcmpA X d3_2 (q1 := 3) rfl d3_3 (Or.inl rfl) (q := 6) rfl (by decide) (t := 28) rfl (fun (c1 : q3 < (0 : Int64)) => ?_) (fun (c1 : ¬ (q3 < (0 : Int64))) => ?_)
  · skip
    exact absurd c1 k1
  · skip
    refine g_aloadN X d3_6 rfl (q := 7) rfl rfl ?_
    refine g_getF X (tw22 hw) Via.refl O_a1.2.2.2.2.1 d3_7 (q := 10) rfl (fun T X => ?_)
    refine g_ifB X d3_10 (Or.inr (Or.inl rfl)) (q := 13) rfl (by decide) (t := 43) rfl (fun (c2 : (0 : Int32) < (1 : Int32)) => ?_) (fun (c2 : ¬ ((0 : Int32) < (1 : Int32))) => ?_)
    · skip
      refine g_lloadN X d3_13 rfl (q := 14) rfl ?_
      refine g_aloadN X d3_14 rfl (q := 15) rfl rfl ?_
      refine g_aloadN X d3_15 rfl (q := 16) rfl rfl ?_
      refine g_getF X (tw22 hw) Via.refl O_a1.2.2.2.2.1 d3_16 (q := 19) rfl (fun T X => ?_)
      refine g_iconst X d3_19 rfl (q := 20) (v := 1) rfl ?_
      refine g_isub X d3_20 rfl (q := 21) ?_
      refine g_eqI (y := (0 : Int32)) (by decide) ?_
      refine g_callV X O_a1.1 [(.int (0 : Int32))] [(.long q2)] (tw35 hw) (tw36 hw) (tw38 hw) (tw37 hw) (tw3 hw) (tw39 hw) (by decide) (rm5_0_2_0 l Z a0 hw [] a1 uc ui un (1 : Int32) ut ub G _ n0 X.size O_a1 A_ui) pd3 rfl rfl rfl d3_21 (q := 24) rfl (W := 2) rfl (by decide) (by decide) (c2 := 0) (s2 := 0) rfl rfl (by decide) (by decide) (fun v T h' X hQ => ?_)
      obtain ⟨rfl, rfl⟩ := hQ
      show Goes p e below s _ n0 _ (T.setTop (mkF m 24 #[.val (.ref a1), .val (.long q2), .second, .val (.long q3), .second, .unset, .unset, .unset, .unset] [(.long (G 0)), (.long q2)]))
      refine g_lcmpB X d3_24 (q1 := 25) rfl d3_25 (Or.inl rfl) (q := 28) rfl (by decide) (t := 43) rfl (fun (c3 : q2 < (G 0)) => ?_) (fun (c3 : ¬ (q2 < (G 0))) => ?_)
      · skip
        exact absurd c3 k3
      · skip
        refine g_lloadN X d3_43 rfl (q := 44) rfl ?_
        refine g_lstore X d3_44 rfl (q := 46) (L' := #[.val (.ref a1), .val (.long q2), .second, .val (.long q3), .second, .val (.long q3), .second, .unset, .unset]) rfl ?_
        refine g_aloadN X d3_46 rfl (q := 47) rfl rfl ?_
        refine g_getF X (tw22 hw) Via.refl O_a1.2.2.2.2.1 d3_47 (q := 50) rfl (fun T X => ?_)
        refine g_ifB X d3_50 (Or.inr (Or.inl rfl)) (q := 53) rfl (by decide) (t := 119) rfl (fun (c4 : (0 : Int32) < (1 : Int32)) => ?_) (fun (c4 : ¬ ((0 : Int32) < (1 : Int32))) => ?_)
        · skip
          refine g_lloadN X d3_53 rfl (q := 54) rfl ?_
          refine g_aloadN X d3_54 rfl (q := 55) rfl rfl ?_
          refine g_aloadN X d3_55 rfl (q := 56) rfl rfl ?_
          refine g_getF X (tw22 hw) Via.refl O_a1.2.2.2.2.1 d3_56 (q := 59) rfl (fun T X => ?_)
          refine g_iconst X d3_59 rfl (q := 60) (v := 1) rfl ?_
          refine g_isub X d3_60 rfl (q := 61) ?_
          refine g_eqI (y := (0 : Int32)) (by decide) ?_
          refine g_callV X O_a1.1 [(.int (0 : Int32))] [(.long q2)] (tw35 hw) (tw36 hw) (tw38 hw) (tw37 hw) (tw3 hw) (tw39 hw) (by decide) (rm5_0_2_0 l Z a0 hw [] a1 uc ui un (1 : Int32) ut ub G _ n0 X.size O_a1 A_ui) pd3 rfl rfl rfl d3_61 (q := 64) rfl (W := 2) rfl (by decide) (by decide) (c2 := 0) (s2 := 0) rfl rfl (by decide) (by decide) (fun v T h' X hQ => ?_)
          obtain ⟨rfl, rfl⟩ := hQ
          show Goes p e below s _ n0 _ (T.setTop (mkF m 64 #[.val (.ref a1), .val (.long q2), .second, .val (.long q3), .second, .val (.long q3), .second, .unset, .unset] [(.long (G 0)), (.long q2)]))
          refine g_lcmpB X d3_64 (q1 := 65) rfl d3_65 (Or.inr (Or.inr rfl)) (q := 68) rfl (by decide) (t := 119) rfl (fun (c5 : q2 = (G 0)) => ?_) (fun (c5 : ¬ (q2 = (G 0))) => ?_)
          · skip
            refine g_aloadN X d3_68 rfl (q := 69) rfl rfl ?_
            refine g_aloadN X d3_69 rfl (q := 70) rfl rfl ?_
            refine g_getF X (tw22 hw) Via.refl O_a1.2.2.2.2.1 d3_70 (q := 73) rfl (fun T X => ?_)
            refine g_iconst X d3_73 rfl (q := 74) (v := 1) rfl ?_
            refine g_isub X d3_74 rfl (q := 75) ?_
            refine g_eqI (y := (0 : Int32)) (by decide) ?_
            refine g_callV X O_a1.1 [(.int (0 : Int32))] [] (tw40 hw) (tw41 hw) (tw43 hw) (tw42 hw) (tw3 hw) (tw44 hw) (by decide) (rm6_0_2_0 l Z a0 hw [] a1 uc ui un (1 : Int32) ut ub G H _ n0 X.size O_a1 A_ui A_un) pd3 rfl rfl rfl d3_75 (q := 78) rfl (W := 0) rfl (by decide) (by decide) (c2 := 0) (s2 := 0) rfl rfl (by decide) (by decide) (fun v T h' X hQ => ?_)
            obtain ⟨rfl, rfl⟩ := hQ
            show Goes p e below s _ n0 _ (T.setTop (mkF m 78 #[.val (.ref a1), .val (.long q2), .second, .val (.long q3), .second, .val (.long q3), .second, .unset, .unset] [(.long (H 0))]))
            refine g_lstore X d3_78 rfl (q := 80) (L' := #[.val (.ref a1), .val (.long q2), .second, .val (.long q3), .second, .val (.long q3), .second, .val (.long (H 0)), .second]) rfl ?_
            refine g_aloadN X d3_80 rfl (q := 81) rfl rfl ?_
            refine g_getF X (tw13 hw) Via.refl O_a1.2.2.1 d3_81 (q := 84) rfl (fun T X => ?_)
            refine g_aloadN X d3_84 rfl (q := 85) rfl rfl ?_
            refine g_aloadN X d3_85 rfl (q := 86) rfl rfl ?_
            refine g_getF X (tw22 hw) Via.refl O_a1.2.2.2.2.1 d3_86 (q := 89) rfl (fun T X => ?_)
            refine g_iconst X d3_89 rfl (q := 90) (v := 1) rfl ?_
            refine g_isub X d3_90 rfl (q := 91) ?_
            refine g_eqI (y := (0 : Int32)) (by decide) ?_
            refine g_callP X O_a1.1 [(.int (0 : Int32))] [(.ref un)] (tw24 hw) (own_selP (tw2 hw) (tw25 hw) (tw26 hw) (by decide)) (tw25 hw) (tw26 hw) (tw3 hw) (tw27 hw) (by decide) (rm4_0_2_0 l Z a0 hw [] a1 uc ui un (1 : Int32) ut ub G _ n0 X.size O_a1 A_ui) pd1 rfl rfl rfl d3_91 (q := 94) rfl (W := 1) rfl (by decide) (by decide) (c2 := 0) (s2 := 0) rfl rfl (by decide) (by decide) (fun v T h' X hQ => ?_)
            obtain ⟨rfl, rfl⟩ := hQ
            show Goes p e below s _ n0 _ (T.setTop (mkF m 94 #[.val (.ref a1), .val (.long q2), .second, .val (.long q3), .second, .val (.long q3), .second, .val (.long (H 0)), .second] [(.int (0 : Int32)), (.ref un)]))
            refine g_lload X d3_94 rfl (q := 96) rfl ?_
            refine g_lloadN X d3_96 rfl (q := 97) rfl ?_
            refine g_callS X [(.long (H 0)), (.long q3)] [(.int (0 : Int32)), (.ref un)] (tw45 hw) (tw46 hw) (tw3 hw) (tw47 hw) (by decide) (rm7 l Z a0 hw [] (H 0) q3 _ n0 X.size) pd4 rfl rfl rfl d3_97 (q := 100) rfl (W := 2) rfl (by decide) (by decide) (c2 := 0) (s2 := 0) rfl rfl (by decide) (by decide) (fun v T h' X hQ => ?_)
            obtain ⟨rfl, rfl⟩ := hQ
            show Goes p e below s _ n0 _ (T.setTop (mkF m 100 #[.val (.ref a1), .val (.long q2), .second, .val (.long q3), .second, .val (.long q3), .second, .val (.long (H 0)), .second] [(.long (sm (H 0) q3)), (.int (0 : Int32)), (.ref un)]))
            refine g_lastore X A_un ⟨by decide, by decide⟩ g_un d3_100 (q := 101) rfl (fun T h X W => ?_)
            have O_a1 := O_a1.other W ne_a1_un
            have A_ui := A_ui.other W ne_ui_un
            have A_un : AJ Z h un 2 (own_up H 0 (sm (H 0) q3)) := A_un.set W
            have K := K.wr W (Or.inl (List.mem_of_getElem? (i := 1) rfl))
            refine g_aloadN X d3_101 rfl (q := 102) rfl rfl ?_
            refine g_aloadN X d3_102 rfl (q := 103) rfl rfl ?_
            refine g_getF X (tw22 hw) Via.refl O_a1.2.2.2.2.1 d3_103 (q := 106) rfl (fun T X => ?_)
            refine g_iconst X d3_106 rfl (q := 107) (v := 1) rfl ?_
            refine g_isub X d3_107 rfl (q := 108) ?_
            refine g_eqI (y := (0 : Int32)) (by decide) ?_
            refine g_callV X O_a1.1 [(.int (0 : Int32))] [] (tw40 hw) (tw41 hw) (tw43 hw) (tw42 hw) (tw3 hw) (tw44 hw) (by decide) (rm6_0_2_0 l Z a0 hw [] a1 uc ui un (1 : Int32) ut ub G (own_up H 0 (sm (H 0) q3)) _ n0 X.size O_a1 A_ui A_un) pd3 rfl rfl rfl d3_108 (q := 111) rfl (W := 0) rfl (by decide) (by decide) (c2 := 0) (s2 := 0) rfl rfl (by decide) (by decide) (fun v T h' X hQ => ?_)
            obtain ⟨rfl, rfl⟩ := hQ
            show Goes p e below s _ n0 _ (T.setTop (mkF m 111 #[.val (.ref a1), .val (.long q2), .second, .val (.long q3), .second, .val (.long q3), .second, .val (.long (H 0)), .second] [(.long ((own_up H 0 (sm (H 0) q3)) 0))]))
            refine g_lload X d3_111 rfl (q := 113) rfl ?_
            refine g_lsub X d3_113 rfl (q := 114) ?_
            refine g_lstore X d3_114 rfl (q := 116) (L' := #[.val (.ref a1), .val (.long q2), .second, .val (.long q3), .second, .val (.long (((own_up H 0 (sm (H 0) q3)) 0) - (H 0))), .second, .val (.long (H 0)), .second]) rfl ?_
            refine g_goto X d3_116 (by decide) (q := 179) rfl ?_
            refine g_aloadN X d3_179 rfl (q := 180) rfl rfl ?_
            refine g_getF X (tw30 hw) Via.refl O_a1.2.2.2.2.2.2.1 d3_180 (q := 183) rfl (fun T X => ?_)
            refine g_lload X d3_183 rfl (q := 185) rfl ?_
            refine g_ladd X d3_185 rfl (q := 186) ?_
            refine g_letJ (fun ys hys => ?_)
            refine g_lstore X d3_186 rfl (q := 188) (L' := #[.val (.ref a1), .val (.long q2), .second, .val (.long q3), .second, .val (.long (((own_up H 0 (sm (H 0) q3)) 0) - (H 0))), .second, .val (.long ys), .second]) rfl ?_
            refine g_aloadN X d3_188 rfl (q := 189) rfl rfl ?_
            refine g_dup X d3_189 rfl (q := 190) rfl ?_
            refine g_getF X (tw32 hw) Via.refl O_a1.2.2.2.2.2.2.2 d3_190 (q := 193) rfl (fun T X => ?_)
            refine g_lload X d3_193 rfl (q := 195) rfl ?_
            refine g_bipush X d3_195 rfl (q := 197) (v := 63) rfl ?_
            refine g_lushr X d3_197 rfl (q := 198) ?_
            refine g_ladd X d3_198 rfl (q := 199) ?_
            refine g_putF X (tw32 hw) Via.refl O_a1.2.2.2.2.2.2.2 O_a1.1 (Or.inl (tw33 hw)) (tw2 hw) (ty := .long) (by decide) rfl rfl g_a1 d3_199 (q := 202) rfl (fun T h X W => ?_)
            have A_ui := A_ui.other W ne_ui_a1
            have A_un := A_un.other W ne_un_a1
            have O_a1 := O_WindowCounts.set6 hw W O_a1
            have K := K.wr W (Or.inl (List.mem_of_getElem? (i := 0) rfl))
            refine g_aloadN X d3_202 rfl (q := 203) rfl rfl ?_
            refine g_lload X d3_203 rfl (q := 205) rfl ?_
            refine g_ldc2 X (tw34 hw) d3_205 (q := 208) rfl ?_
            refine g_land X d3_208 rfl (q := 209) ?_
            refine g_putF X (tw30 hw) Via.refl O_a1.2.2.2.2.2.2.1 O_a1.1 (Or.inl (tw31 hw)) (tw2 hw) (ty := .long) (by decide) rfl rfl g_a1 d3_209 (q := 212) rfl (fun T h X W => ?_)
            have A_ui := A_ui.other W ne_ui_a1
            have A_un := A_un.other W ne_un_a1
            have O_a1 := O_WindowCounts.set5 hw W O_a1
            have K := K.wr W (Or.inl (List.mem_of_getElem? (i := 0) rfl))
            exact g_ret0 X d3_212 (by decide) (by decide) ⟨(ys &&& (9223372036854775807 : Int64)), (ub + ((ys.toUInt64 >>> ((63 : Int32) &&& 0x3f).toInt64.toUInt64).toInt64)), rfl, K, O_a1, A_un, own_addE hS hk k4 (own_jnn k1) (show ys = ut + (sm (H 0) q3 - (H 0)) from hys)⟩
          · skip
            exact absurd k2 c5
        · skip
          exact absurd c4 (by decide)
    · skip
      exact absurd c2 (by decide)
theorem pn8_1_2_0 : plainName "com/example/teddington/teddington/WindowCounts" = true := by first | (simp [plainName, overriddenIn]; done) | decide +kernel
theorem ef8_1_2_0 (m : MethodId) (x0 : Addr) (x1 : Int64) : entryFrame m #[(.ref x0), (.long x1)] 5 = mkF m 0 #[.val (.ref x0), .val (.long x1), .second, .unset, .unset] [] := by first | (simp [entryFrame, mkF, argsToLocals, Value.category]; done) | rfl
set_option maxRecDepth 65536 in
set_option maxHeartbeats 40000000 in
theorem rm8_1_2_0 (l : Launch) (Z : State) (a0 : Array Value) (hw : ∀ d ∈ tables_1, d.before a0 Z = true) (ws : List Jvm.Cond) (a1 : Addr) (q2 : Int64) (uc : Int64) (ui : Addr) (un : Addr) (ut : Int64) (ub : Int64) (G : Nat → Int64) (H : Nat → Int64) (S : Int) (k : Nat) (h0 : Heap) (n0 : Nat) (Z0 : n0 ≤ h0.size) (O_a1 : O_WindowCounts Z h0 a1 (.ref ui) (.ref un) (.long uc) (.int (1 : Int32)) (.int (0 : Int32)) (.long ut) (.long ub)) (A_ui : AJ Z h0 ui 2 G) (A_un : AJ Z h0 un 2 H) (g_a1 : n0 ≤ a1) (ne_a1_ui : Apart a1 ui) (ne_a1_un : Apart a1 un) (ne_ui_a1 : Apart ui a1) (ne_ui_un : Apart ui un) (ne_un_a1 : Apart un a1) (ne_un_ui : Apart un ui) (dn : ¬ ((G 0) < q2)) (hS : OKT ut ub S k) (hk : k ≤ 100) :
    Met l Z (⟨"com/example/teddington/teddington/WindowCounts", "dropBefore", "(J)V"⟩ : MethodName) prog_47_method_13_code 5 none ({ frames := 2, cells := 0, slots := 0, locals := 27 } : Room) ws n0 #[(.ref a1), (.long q2)] h0 (fun v h' => ∃ t1 : Int64, ∃ b1 : Int64, ∃ i1 : Addr, ∃ n1 : Addr, ∃ o1 : Int32, ∃ s1 : Int32, v = none ∧ Keep h0 h' [a1] ∧ O_WindowCounts Z h' a1 (.ref i1) (.ref n1) (.long uc) (.int s1) (.int o1) (.long t1) (.long b1) ∧ OKT t1 b1 (S) k) := by
  refine Met.intro (plainFor_of_name pn8_1_2_0) Z0 ?_
  intro p e s m below meth c T X
  refine g_cast (ef8_1_2_0 m a1 q2) ?_
  have K : Keep h0 h0 [a1] := Keep.refl h0 _
  refine g_aloadN X d8_0 rfl (q := 1) rfl rfl ?_
  refine g_getF X (tw22 hw) Via.refl O_a1.2.2.2.2.1 d8_1 (q := 4) rfl (fun T X => ?_)
  refine g_ifB X d8_4 (Or.inr (Or.inl rfl)) (q := 7) rfl (by decide) (t := 72) rfl (fun (c1 : (0 : Int32) < (1 : Int32)) => ?_) (fun (c1 : ¬ ((0 : Int32) < (1 : Int32))) => ?_)
  · skip
    refine g_aloadN X d8_7 rfl (q := 8) rfl rfl ?_
    refine g_iconst X d8_8 rfl (q := 9) (v := 0) rfl ?_
    refine g_callV X O_a1.1 [(.int (0 : Int32))] [] (tw35 hw) (tw36 hw) (tw38 hw) (tw37 hw) (tw3 hw) (tw39 hw) (by decide) (rm5_0_2_0 l Z a0 hw [] a1 uc ui un (1 : Int32) ut ub G _ n0 X.size O_a1 A_ui) pd3 rfl rfl rfl d8_9 (q := 12) rfl (W := 0) rfl (by decide) (by decide) (c2 := 0) (s2 := 0) rfl rfl (by decide) (by decide) (fun v T h' X hQ => ?_)
    obtain ⟨rfl, rfl⟩ := hQ
    show Goes p e below s _ n0 _ (T.setTop (mkF m 12 #[.val (.ref a1), .val (.long q2), .second, .unset, .unset] [(.long (G 0))]))
    refine g_lloadN X d8_12 rfl (q := 13) rfl ?_
    refine g_lcmpB X d8_13 (q1 := 14) rfl d8_14 (Or.inl rfl) (q := 17) rfl (by decide) (t := 72) rfl (fun (c2 : (G 0) < q2) => ?_) (fun (c2 : ¬ ((G 0) < q2)) => ?_)
    · skip
      exact absurd c2 dn
    · skip
      refine g_aloadN X d8_72 rfl (q := 73) rfl rfl ?_
      refine g_getF X (tw11 hw) Via.refl O_a1.2.1 d8_73 (q := 76) rfl (fun T X => ?_)
      refine g_alenJ X A_ui d8_76 (q := 77) rfl ?_
      show Goes p e below s _ n0 _ (T.setTop (mkF m 77 #[.val (.ref a1), .val (.long q2), .second, .unset, .unset] [(.int (2 : Int32))]))
      refine g_iconst X d8_77 rfl (q := 78) (v := 2) rfl ?_
      refine g_icmpB X d8_78 (Or.inr (Or.inl rfl)) (q := 81) rfl (by decide) (t := 106) rfl (fun (c3 : (2 : Int32) < (2 : Int32)) => ?_) (fun (c3 : ¬ ((2 : Int32) < (2 : Int32))) => ?_)
      · skip
        exact absurd c3 (by decide)
      · skip
        exact g_ret0 X d8_106 (by decide) (by decide) ⟨ut, ub, ui, un, (0 : Int32), (1 : Int32), rfl, K, O_a1, hS⟩
  · skip
    exact absurd c1 (by decide)
theorem pn11_0_0 : plainName "com/example/teddington/teddington/WindowCountsTotalPinLaw" = true := by first | (simp [plainName, overriddenIn]; done) | decide +kernel
theorem ef11_0_0 (m : MethodId) (x0 : Int64) (x1 : Int64) (x2 : Int64) : entryFrame m #[(.long x0), (.long x1), (.long x2)] 6 = mkF m 0 #[.val (.long x0), .second, .val (.long x1), .second, .val (.long x2), .second] [] := by first | (simp [entryFrame, mkF, argsToLocals, Value.category]; done) | rfl
set_option maxRecDepth 65536 in
set_option maxHeartbeats 40000000 in
theorem rm11_0_0 (l : Launch) (Z : State) (a0 : Array Value) (hw : ∀ d ∈ tables_1, d.before a0 Z = true) (ws : List Jvm.Cond) (q2 : Int64) (h0 : Heap) (n0 : Nat) (Z0 : n0 ≤ h0.size) :
    Met l Z (⟨"com/example/teddington/teddington/WindowCountsTotalPinLaw", "keep", "(JJJ)J"⟩ : MethodName) method_3_code 6 (some .long) ({ frames := 0, cells := 0, slots := 0, locals := 0 } : Room) ws n0 #[(.long (0 : Int64)), (.long q2), (.long (0 : Int64))] h0 (fun v h' => v = some (.long q2) ∧ h0 = h') := by
  refine Met.intro (plainFor_of_name pn11_0_0) Z0 ?_
  intro p e s m below meth c T X
  refine g_cast (ef11_0_0 m (0 : Int64) q2 (0 : Int64)) ?_
  refine g_lloadN X d11_0 rfl (q := 1) rfl ?_
  refine g_lload X d11_1 rfl (q := 3) rfl ?_
  refine g_lcmpA X d11_3 (q1 := 4) rfl d11_4 (Or.inl rfl) (q := 7) rfl (by decide) (t := 11) rfl (fun (c1 : (0 : Int64) < (0 : Int64)) => ?_) (fun (c1 : ¬ ((0 : Int64) < (0 : Int64))) => ?_)
  · skip
    exact absurd c1 (by decide)
  · skip
    refine g_lloadN X d11_7 rfl (q := 8) rfl ?_
    refine g_goto X d11_8 (by decide) (q := 12) rfl ?_
    exact g_retJ X d11_12 (by decide) (by decide) ⟨rfl, rfl⟩
theorem pn11_1_0 : plainName "com/example/teddington/teddington/WindowCountsTotalPinLaw" = true := by first | (simp [plainName, overriddenIn]; done) | decide +kernel
theorem ef11_1_0 (m : MethodId) (x0 : Int64) (x1 : Int64) (x2 : Int64) : entryFrame m #[(.long x0), (.long x1), (.long x2)] 6 = mkF m 0 #[.val (.long x0), .second, .val (.long x1), .second, .val (.long x2), .second] [] := by first | (simp [entryFrame, mkF, argsToLocals, Value.category]; done) | rfl
set_option maxRecDepth 65536 in
set_option maxHeartbeats 40000000 in
theorem rm11_1_0 (l : Launch) (Z : State) (a0 : Array Value) (hw : ∀ d ∈ tables_1, d.before a0 Z = true) (ws : List Jvm.Cond) (q2 : Int64) (h0 : Heap) (n0 : Nat) (Z0 : n0 ≤ h0.size) :
    Met l Z (⟨"com/example/teddington/teddington/WindowCountsTotalPinLaw", "keep", "(JJJ)J"⟩ : MethodName) method_3_code 6 (some .long) ({ frames := 0, cells := 0, slots := 0, locals := 0 } : Room) ws n0 #[(.long (1 : Int64)), (.long q2), (.long (0 : Int64))] h0 (fun v h' => v = some (.long q2) ∧ h0 = h') := by
  refine Met.intro (plainFor_of_name pn11_1_0) Z0 ?_
  intro p e s m below meth c T X
  refine g_cast (ef11_1_0 m (1 : Int64) q2 (0 : Int64)) ?_
  refine g_lloadN X d11_0 rfl (q := 1) rfl ?_
  refine g_lload X d11_1 rfl (q := 3) rfl ?_
  refine g_lcmpA X d11_3 (q1 := 4) rfl d11_4 (Or.inl rfl) (q := 7) rfl (by decide) (t := 11) rfl (fun (c1 : (1 : Int64) < (0 : Int64)) => ?_) (fun (c1 : ¬ ((1 : Int64) < (0 : Int64))) => ?_)
  · skip
    exact absurd c1 (by decide)
  · skip
    refine g_lloadN X d11_7 rfl (q := 8) rfl ?_
    refine g_goto X d11_8 (by decide) (q := 12) rfl ?_
    exact g_retJ X d11_12 (by decide) (by decide) ⟨rfl, rfl⟩
theorem pn11_2_0 : plainName "com/example/teddington/teddington/WindowCountsTotalPinLaw" = true := by first | (simp [plainName, overriddenIn]; done) | decide +kernel
theorem ef11_2_0 (m : MethodId) (x0 : Int64) (x1 : Int64) (x2 : Int64) : entryFrame m #[(.long x0), (.long x1), (.long x2)] 6 = mkF m 0 #[.val (.long x0), .second, .val (.long x1), .second, .val (.long x2), .second] [] := by first | (simp [entryFrame, mkF, argsToLocals, Value.category]; done) | rfl
set_option maxRecDepth 65536 in
set_option maxHeartbeats 40000000 in
theorem rm11_2_0 (l : Launch) (Z : State) (a0 : Array Value) (hw : ∀ d ∈ tables_1, d.before a0 Z = true) (ws : List Jvm.Cond) (q2 : Int64) (h0 : Heap) (n0 : Nat) (Z0 : n0 ≤ h0.size) :
    Met l Z (⟨"com/example/teddington/teddington/WindowCountsTotalPinLaw", "keep", "(JJJ)J"⟩ : MethodName) method_3_code 6 (some .long) ({ frames := 0, cells := 0, slots := 0, locals := 0 } : Room) ws n0 #[(.long (2 : Int64)), (.long q2), (.long (0 : Int64))] h0 (fun v h' => v = some (.long q2) ∧ h0 = h') := by
  refine Met.intro (plainFor_of_name pn11_2_0) Z0 ?_
  intro p e s m below meth c T X
  refine g_cast (ef11_2_0 m (2 : Int64) q2 (0 : Int64)) ?_
  refine g_lloadN X d11_0 rfl (q := 1) rfl ?_
  refine g_lload X d11_1 rfl (q := 3) rfl ?_
  refine g_lcmpA X d11_3 (q1 := 4) rfl d11_4 (Or.inl rfl) (q := 7) rfl (by decide) (t := 11) rfl (fun (c1 : (2 : Int64) < (0 : Int64)) => ?_) (fun (c1 : ¬ ((2 : Int64) < (0 : Int64))) => ?_)
  · skip
    exact absurd c1 (by decide)
  · skip
    refine g_lloadN X d11_7 rfl (q := 8) rfl ?_
    refine g_goto X d11_8 (by decide) (q := 12) rfl ?_
    exact g_retJ X d11_12 (by decide) (by decide) ⟨rfl, rfl⟩
theorem pn4_0_2_1 : plainName "com/example/teddington/teddington/WindowCounts" = true := by first | (simp [plainName, overriddenIn]; done) | decide +kernel
theorem ef4_0_2_1 (m : MethodId) (x0 : Addr) (x1 : Int32) : entryFrame m #[(.ref x0), (.int x1)] 2 = mkF m 0 #[.val (.ref x0), .val (.int x1)] [] := by first | (simp [entryFrame, mkF, argsToLocals, Value.category]; done) | rfl
set_option maxRecDepth 65536 in
set_option maxHeartbeats 40000000 in
theorem rm4_0_2_1 (l : Launch) (Z : State) (a0 : Array Value) (hw : ∀ d ∈ tables_1, d.before a0 Z = true) (ws : List Jvm.Cond) (a1 : Addr) (uc : Int64) (ui : Addr) (un : Addr) (us : Int32) (ut : Int64) (ub : Int64) (G : Nat → Int64) (h0 : Heap) (n0 : Nat) (Z0 : n0 ≤ h0.size) (O_a1 : O_WindowCounts Z h0 a1 (.ref ui) (.ref un) (.long uc) (.int us) (.int (0 : Int32)) (.long ut) (.long ub)) (A_ui : AJ Z h0 ui 2 G) :
    Met l Z (⟨"com/example/teddington/teddington/WindowCounts", "at", "(I)I"⟩ : MethodName) prog_47_method_15_code 2 (some .int) ({ frames := 0, cells := 0, slots := 0, locals := 0 } : Room) ws n0 #[(.ref a1), (.int (1 : Int32))] h0 (fun v h' => v = some (.int (1 : Int32)) ∧ h0 = h') := by
  refine Met.intro (plainFor_of_name pn4_0_2_1) Z0 ?_
  intro p e s m below meth c T X
  refine g_cast (ef4_0_2_1 m a1 (1 : Int32)) ?_
  refine g_aloadN X d4_0 rfl (q := 1) rfl rfl ?_
  refine g_getF X (tw28 hw) Via.refl O_a1.2.2.2.2.2.1 d4_1 (q := 4) rfl (fun T X => ?_)
  refine g_iloadN X d4_4 rfl (q := 5) rfl ?_
  refine g_iadd X d4_5 rfl (q := 6) ?_
  refine g_eqI (y := (1 : Int32)) (by decide) ?_
  refine g_aloadN X d4_6 rfl (q := 7) rfl rfl ?_
  refine g_getF X (tw11 hw) Via.refl O_a1.2.1 d4_7 (q := 10) rfl (fun T X => ?_)
  refine g_alenJ X A_ui d4_10 (q := 11) rfl ?_
  show Goes p e below s _ n0 _ (T.setTop (mkF m 11 #[.val (.ref a1), .val (.int (1 : Int32))] [(.int (2 : Int32)), (.int (1 : Int32))]))
  refine g_iconst X d4_11 rfl (q := 12) (v := 1) rfl ?_
  refine g_isub X d4_12 rfl (q := 13) ?_
  refine g_eqI (y := (1 : Int32)) (by decide) ?_
  refine g_iand X d4_13 rfl (q := 14) ?_
  refine g_eqI (y := (1 : Int32)) (by decide) ?_
  exact g_retI X d4_14 (by decide) (by decide) ⟨rfl, rfl⟩
theorem pn8_1_2_1 : plainName "com/example/teddington/teddington/WindowCounts" = true := by first | (simp [plainName, overriddenIn]; done) | decide +kernel
theorem ef8_1_2_1 (m : MethodId) (x0 : Addr) (x1 : Int64) : entryFrame m #[(.ref x0), (.long x1)] 5 = mkF m 0 #[.val (.ref x0), .val (.long x1), .second, .unset, .unset] [] := by first | (simp [entryFrame, mkF, argsToLocals, Value.category]; done) | rfl
set_option maxRecDepth 65536 in
set_option maxHeartbeats 40000000 in
theorem rm8_1_2_1 (l : Launch) (Z : State) (a0 : Array Value) (hw : ∀ d ∈ tables_1, d.before a0 Z = true) (ws : List Jvm.Cond) (a1 : Addr) (q2 : Int64) (uc : Int64) (ui : Addr) (un : Addr) (ut : Int64) (ub : Int64) (G : Nat → Int64) (H : Nat → Int64) (S : Int) (k : Nat) (h0 : Heap) (n0 : Nat) (Z0 : n0 ≤ h0.size) (O_a1 : O_WindowCounts Z h0 a1 (.ref ui) (.ref un) (.long uc) (.int (1 : Int32)) (.int (0 : Int32)) (.long ut) (.long ub)) (A_ui : AJ Z h0 ui 2 G) (A_un : AJ Z h0 un 2 H) (g_a1 : n0 ≤ a1) (ne_a1_ui : Apart a1 ui) (ne_a1_un : Apart a1 un) (ne_ui_a1 : Apart ui a1) (ne_ui_un : Apart ui un) (ne_un_a1 : Apart un a1) (ne_un_ui : Apart un ui) (d0 : (G 0) < q2) (p0 : 0 ≤ (H 0).toInt) (hs : (H 0).toInt ≤ S) (hS : OKT ut ub S k) (hk : k ≤ 100) :
    Met l Z (⟨"com/example/teddington/teddington/WindowCounts", "dropBefore", "(J)V"⟩ : MethodName) prog_47_method_13_code 5 none ({ frames := 2, cells := 0, slots := 0, locals := 29 } : Room) ws n0 #[(.ref a1), (.long q2)] h0 (fun v h' => ∃ t1 : Int64, ∃ b1 : Int64, ∃ i1 : Addr, ∃ n1 : Addr, ∃ o1 : Int32, ∃ s1 : Int32, v = none ∧ Keep h0 h' [a1] ∧ O_WindowCounts Z h' a1 (.ref i1) (.ref n1) (.long uc) (.int s1) (.int o1) (.long t1) (.long b1) ∧ OKT t1 b1 (S - (H 0).toInt) k) := by
  refine Met.intro (plainFor_of_name pn8_1_2_1) Z0 ?_
  intro p e s m below meth c T X
  refine g_cast (ef8_1_2_1 m a1 q2) ?_
  have K : Keep h0 h0 [a1] := Keep.refl h0 _
  refine g_aloadN X d8_0 rfl (q := 1) rfl rfl ?_
  refine g_getF X (tw22 hw) Via.refl O_a1.2.2.2.2.1 d8_1 (q := 4) rfl (fun T X => ?_)
  refine g_ifB X d8_4 (Or.inr (Or.inl rfl)) (q := 7) rfl (by decide) (t := 72) rfl (fun (c1 : (0 : Int32) < (1 : Int32)) => ?_) (fun (c1 : ¬ ((0 : Int32) < (1 : Int32))) => ?_)
  · skip
    refine g_aloadN X d8_7 rfl (q := 8) rfl rfl ?_
    refine g_iconst X d8_8 rfl (q := 9) (v := 0) rfl ?_
    refine g_callV X O_a1.1 [(.int (0 : Int32))] [] (tw35 hw) (tw36 hw) (tw38 hw) (tw37 hw) (tw3 hw) (tw39 hw) (by decide) (rm5_0_2_0 l Z a0 hw [] a1 uc ui un (1 : Int32) ut ub G _ n0 X.size O_a1 A_ui) pd3 rfl rfl rfl d8_9 (q := 12) rfl (W := 0) rfl (by decide) (by decide) (c2 := 0) (s2 := 0) rfl rfl (by decide) (by decide) (fun v T h' X hQ => ?_)
    obtain ⟨rfl, rfl⟩ := hQ
    show Goes p e below s _ n0 _ (T.setTop (mkF m 12 #[.val (.ref a1), .val (.long q2), .second, .unset, .unset] [(.long (G 0))]))
    refine g_lloadN X d8_12 rfl (q := 13) rfl ?_
    refine g_lcmpB X d8_13 (q1 := 14) rfl d8_14 (Or.inl rfl) (q := 17) rfl (by decide) (t := 72) rfl (fun (c2 : (G 0) < q2) => ?_) (fun (c2 : ¬ ((G 0) < q2)) => ?_)
    · skip
      refine g_aloadN X d8_17 rfl (q := 18) rfl rfl ?_
      refine g_getF X (tw30 hw) Via.refl O_a1.2.2.2.2.2.2.1 d8_18 (q := 21) rfl (fun T X => ?_)
      refine g_aloadN X d8_21 rfl (q := 22) rfl rfl ?_
      refine g_iconst X d8_22 rfl (q := 23) (v := 0) rfl ?_
      refine g_callV X O_a1.1 [(.int (0 : Int32))] [(.long ut)] (tw40 hw) (tw41 hw) (tw43 hw) (tw42 hw) (tw3 hw) (tw44 hw) (by decide) (rm6_0_2_0 l Z a0 hw [] a1 uc ui un (1 : Int32) ut ub G H _ n0 X.size O_a1 A_ui A_un) pd3 rfl rfl rfl d8_23 (q := 26) rfl (W := 2) rfl (by decide) (by decide) (c2 := 0) (s2 := 0) rfl rfl (by decide) (by decide) (fun v T h' X hQ => ?_)
      obtain ⟨rfl, rfl⟩ := hQ
      show Goes p e below s _ n0 _ (T.setTop (mkF m 26 #[.val (.ref a1), .val (.long q2), .second, .unset, .unset] [(.long (H 0)), (.long ut)]))
      refine g_lsub X d8_26 rfl (q := 27) ?_
      refine g_letJ (fun y0 hy0 => ?_)
      have hS1 := own_subT hS hk p0 (by omega) hy0
      refine g_lstoreN X d8_27 rfl (q := 28) (L' := #[.val (.ref a1), .val (.long q2), .second, .val (.long y0), .second]) rfl ?_
      refine g_aloadN X d8_28 rfl (q := 29) rfl rfl ?_
      refine g_dup X d8_29 rfl (q := 30) rfl ?_
      refine g_getF X (tw32 hw) Via.refl O_a1.2.2.2.2.2.2.2 d8_30 (q := 33) rfl (fun T X => ?_)
      refine g_lloadN X d8_33 rfl (q := 34) rfl ?_
      refine g_bipush X d8_34 rfl (q := 36) (v := 63) rfl ?_
      refine g_lushr X d8_36 rfl (q := 37) ?_
      refine g_lsub X d8_37 rfl (q := 38) ?_
      refine g_putF X (tw32 hw) Via.refl O_a1.2.2.2.2.2.2.2 O_a1.1 (Or.inl (tw33 hw)) (tw2 hw) (ty := .long) (by decide) rfl rfl g_a1 d8_38 (q := 41) rfl (fun T h X W => ?_)
      have A_ui := A_ui.other W ne_ui_a1
      have A_un := A_un.other W ne_un_a1
      have O_a1 := O_WindowCounts.set6 hw W O_a1
      have K := K.wr W (Or.inl (List.mem_of_getElem? (i := 0) rfl))
      refine g_aloadN X d8_41 rfl (q := 42) rfl rfl ?_
      refine g_lloadN X d8_42 rfl (q := 43) rfl ?_
      refine g_ldc2 X (tw34 hw) d8_43 (q := 46) rfl ?_
      refine g_land X d8_46 rfl (q := 47) ?_
      refine g_putF X (tw30 hw) Via.refl O_a1.2.2.2.2.2.2.1 O_a1.1 (Or.inl (tw31 hw)) (tw2 hw) (ty := .long) (by decide) rfl rfl g_a1 d8_47 (q := 50) rfl (fun T h X W => ?_)
      have A_ui := A_ui.other W ne_ui_a1
      have A_un := A_un.other W ne_un_a1
      have O_a1 := O_WindowCounts.set5 hw W O_a1
      have K := K.wr W (Or.inl (List.mem_of_getElem? (i := 0) rfl))
      refine g_aloadN X d8_50 rfl (q := 51) rfl rfl ?_
      refine g_aloadN X d8_51 rfl (q := 52) rfl rfl ?_
      refine g_iconst X d8_52 rfl (q := 53) (v := 1) rfl ?_
      refine g_callP X O_a1.1 [(.int (1 : Int32))] [(.ref a1)] (tw24 hw) (own_selP (tw2 hw) (tw25 hw) (tw26 hw) (by decide)) (tw25 hw) (tw26 hw) (tw3 hw) (tw27 hw) (by decide) (rm4_0_2_1 l Z a0 hw [] a1 uc ui un (1 : Int32) (y0 &&& (9223372036854775807 : Int64)) (ub - ((y0.toUInt64 >>> ((63 : Int32) &&& 0x3f).toInt64.toUInt64).toInt64)) G _ n0 X.size O_a1 A_ui) pd1 rfl rfl rfl d8_53 (q := 56) rfl (W := 1) rfl (by decide) (by decide) (c2 := 0) (s2 := 0) rfl rfl (by decide) (by decide) (fun v T h' X hQ => ?_)
      obtain ⟨rfl, rfl⟩ := hQ
      show Goes p e below s _ n0 _ (T.setTop (mkF m 56 #[.val (.ref a1), .val (.long q2), .second, .val (.long y0), .second] [(.int (1 : Int32)), (.ref a1)]))
      refine g_putF X (tw28 hw) Via.refl O_a1.2.2.2.2.2.1 O_a1.1 (Or.inl (tw29 hw)) (tw2 hw) (ty := .int) (by decide) rfl rfl g_a1 d8_56 (q := 59) rfl (fun T h X W => ?_)
      have A_ui := A_ui.other W ne_ui_a1
      have A_un := A_un.other W ne_un_a1
      have O_a1 := O_WindowCounts.set4 hw W O_a1
      have K := K.wr W (Or.inl (List.mem_of_getElem? (i := 0) rfl))
      refine g_aloadN X d8_59 rfl (q := 60) rfl rfl ?_
      refine g_dup X d8_60 rfl (q := 61) rfl ?_
      refine g_getF X (tw22 hw) Via.refl O_a1.2.2.2.2.1 d8_61 (q := 64) rfl (fun T X => ?_)
      refine g_iconst X d8_64 rfl (q := 65) (v := 1) rfl ?_
      refine g_isub X d8_65 rfl (q := 66) ?_
      refine g_eqI (y := (0 : Int32)) (by decide) ?_
      refine g_putF X (tw22 hw) Via.refl O_a1.2.2.2.2.1 O_a1.1 (Or.inl (tw23 hw)) (tw2 hw) (ty := .int) (by decide) rfl rfl g_a1 d8_66 (q := 69) rfl (fun T h X W => ?_)
      have A_ui := A_ui.other W ne_ui_a1
      have A_un := A_un.other W ne_un_a1
      have O_a1 := O_WindowCounts.set3 hw W O_a1
      have K := K.wr W (Or.inl (List.mem_of_getElem? (i := 0) rfl))
      refine g_goto X d8_69 (by decide) (q := 0) rfl ?_
      refine g_aloadN X d8_0 rfl (q := 1) rfl rfl ?_
      refine g_getF X (tw22 hw) Via.refl O_a1.2.2.2.2.1 d8_1 (q := 4) rfl (fun T X => ?_)
      refine g_ifB X d8_4 (Or.inr (Or.inl rfl)) (q := 7) rfl (by decide) (t := 72) rfl (fun (c3 : (0 : Int32) < (0 : Int32)) => ?_) (fun (c3 : ¬ ((0 : Int32) < (0 : Int32))) => ?_)
      · skip
        exact absurd c3 (by decide)
      · skip
        refine g_aloadN X d8_72 rfl (q := 73) rfl rfl ?_
        refine g_getF X (tw11 hw) Via.refl O_a1.2.1 d8_73 (q := 76) rfl (fun T X => ?_)
        refine g_alenJ X A_ui d8_76 (q := 77) rfl ?_
        show Goes p e below s _ n0 _ (T.setTop (mkF m 77 #[.val (.ref a1), .val (.long q2), .second, .val (.long y0), .second] [(.int (2 : Int32))]))
        refine g_iconst X d8_77 rfl (q := 78) (v := 2) rfl ?_
        refine g_icmpB X d8_78 (Or.inr (Or.inl rfl)) (q := 81) rfl (by decide) (t := 106) rfl (fun (c4 : (2 : Int32) < (2 : Int32)) => ?_) (fun (c4 : ¬ ((2 : Int32) < (2 : Int32))) => ?_)
        · skip
          exact absurd c4 (by decide)
        · skip
          exact g_ret0 X d8_106 (by decide) (by decide) ⟨(y0 &&& (9223372036854775807 : Int64)), (ub - ((y0.toUInt64 >>> ((63 : Int32) &&& 0x3f).toInt64.toUInt64).toInt64)), ui, un, (1 : Int32), (0 : Int32), rfl, K, O_a1, hS1⟩
    · skip
      exact absurd d0 c2
  · skip
    exact absurd c1 (by decide)
theorem pn11_0_1 : plainName "com/example/teddington/teddington/WindowCountsTotalPinLaw" = true := by first | (simp [plainName, overriddenIn]; done) | decide +kernel
theorem ef11_0_1 (m : MethodId) (x0 : Int64) (x1 : Int64) (x2 : Int64) : entryFrame m #[(.long x0), (.long x1), (.long x2)] 6 = mkF m 0 #[.val (.long x0), .second, .val (.long x1), .second, .val (.long x2), .second] [] := by first | (simp [entryFrame, mkF, argsToLocals, Value.category]; done) | rfl
set_option maxRecDepth 65536 in
set_option maxHeartbeats 40000000 in
theorem rm11_0_1 (l : Launch) (Z : State) (a0 : Array Value) (hw : ∀ d ∈ tables_1, d.before a0 Z = true) (ws : List Jvm.Cond) (q2 : Int64) (h0 : Heap) (n0 : Nat) (Z0 : n0 ≤ h0.size) :
    Met l Z (⟨"com/example/teddington/teddington/WindowCountsTotalPinLaw", "keep", "(JJJ)J"⟩ : MethodName) method_3_code 6 (some .long) ({ frames := 0, cells := 0, slots := 0, locals := 0 } : Room) ws n0 #[(.long (0 : Int64)), (.long q2), (.long (1 : Int64))] h0 (fun v h' => v = some (.long (0 : Int64)) ∧ h0 = h') := by
  refine Met.intro (plainFor_of_name pn11_0_1) Z0 ?_
  intro p e s m below meth c T X
  refine g_cast (ef11_0_1 m (0 : Int64) q2 (1 : Int64)) ?_
  refine g_lloadN X d11_0 rfl (q := 1) rfl ?_
  refine g_lload X d11_1 rfl (q := 3) rfl ?_
  refine g_lcmpA X d11_3 (q1 := 4) rfl d11_4 (Or.inl rfl) (q := 7) rfl (by decide) (t := 11) rfl (fun (c1 : (0 : Int64) < (1 : Int64)) => ?_) (fun (c1 : ¬ ((0 : Int64) < (1 : Int64))) => ?_)
  · skip
    refine g_lconst X d11_11 rfl (q := 12) (v := 0) rfl ?_
    exact g_retJ X d11_12 (by decide) (by decide) ⟨rfl, rfl⟩
  · skip
    exact absurd c1 (by decide)
theorem pn11_1_1 : plainName "com/example/teddington/teddington/WindowCountsTotalPinLaw" = true := by first | (simp [plainName, overriddenIn]; done) | decide +kernel
theorem ef11_1_1 (m : MethodId) (x0 : Int64) (x1 : Int64) (x2 : Int64) : entryFrame m #[(.long x0), (.long x1), (.long x2)] 6 = mkF m 0 #[.val (.long x0), .second, .val (.long x1), .second, .val (.long x2), .second] [] := by first | (simp [entryFrame, mkF, argsToLocals, Value.category]; done) | rfl
set_option maxRecDepth 65536 in
set_option maxHeartbeats 40000000 in
theorem rm11_1_1 (l : Launch) (Z : State) (a0 : Array Value) (hw : ∀ d ∈ tables_1, d.before a0 Z = true) (ws : List Jvm.Cond) (q2 : Int64) (h0 : Heap) (n0 : Nat) (Z0 : n0 ≤ h0.size) :
    Met l Z (⟨"com/example/teddington/teddington/WindowCountsTotalPinLaw", "keep", "(JJJ)J"⟩ : MethodName) method_3_code 6 (some .long) ({ frames := 0, cells := 0, slots := 0, locals := 0 } : Room) ws n0 #[(.long (1 : Int64)), (.long q2), (.long (1 : Int64))] h0 (fun v h' => v = some (.long q2) ∧ h0 = h') := by
  refine Met.intro (plainFor_of_name pn11_1_1) Z0 ?_
  intro p e s m below meth c T X
  refine g_cast (ef11_1_1 m (1 : Int64) q2 (1 : Int64)) ?_
  refine g_lloadN X d11_0 rfl (q := 1) rfl ?_
  refine g_lload X d11_1 rfl (q := 3) rfl ?_
  refine g_lcmpA X d11_3 (q1 := 4) rfl d11_4 (Or.inl rfl) (q := 7) rfl (by decide) (t := 11) rfl (fun (c1 : (1 : Int64) < (1 : Int64)) => ?_) (fun (c1 : ¬ ((1 : Int64) < (1 : Int64))) => ?_)
  · skip
    exact absurd c1 (by decide)
  · skip
    refine g_lloadN X d11_7 rfl (q := 8) rfl ?_
    refine g_goto X d11_8 (by decide) (q := 12) rfl ?_
    exact g_retJ X d11_12 (by decide) (by decide) ⟨rfl, rfl⟩
theorem pn11_2_1 : plainName "com/example/teddington/teddington/WindowCountsTotalPinLaw" = true := by first | (simp [plainName, overriddenIn]; done) | decide +kernel
theorem ef11_2_1 (m : MethodId) (x0 : Int64) (x1 : Int64) (x2 : Int64) : entryFrame m #[(.long x0), (.long x1), (.long x2)] 6 = mkF m 0 #[.val (.long x0), .second, .val (.long x1), .second, .val (.long x2), .second] [] := by first | (simp [entryFrame, mkF, argsToLocals, Value.category]; done) | rfl
set_option maxRecDepth 65536 in
set_option maxHeartbeats 40000000 in
theorem rm11_2_1 (l : Launch) (Z : State) (a0 : Array Value) (hw : ∀ d ∈ tables_1, d.before a0 Z = true) (ws : List Jvm.Cond) (q2 : Int64) (h0 : Heap) (n0 : Nat) (Z0 : n0 ≤ h0.size) :
    Met l Z (⟨"com/example/teddington/teddington/WindowCountsTotalPinLaw", "keep", "(JJJ)J"⟩ : MethodName) method_3_code 6 (some .long) ({ frames := 0, cells := 0, slots := 0, locals := 0 } : Room) ws n0 #[(.long (2 : Int64)), (.long q2), (.long (1 : Int64))] h0 (fun v h' => v = some (.long q2) ∧ h0 = h') := by
  refine Met.intro (plainFor_of_name pn11_2_1) Z0 ?_
  intro p e s m below meth c T X
  refine g_cast (ef11_2_1 m (2 : Int64) q2 (1 : Int64)) ?_
  refine g_lloadN X d11_0 rfl (q := 1) rfl ?_
  refine g_lload X d11_1 rfl (q := 3) rfl ?_
  refine g_lcmpA X d11_3 (q1 := 4) rfl d11_4 (Or.inl rfl) (q := 7) rfl (by decide) (t := 11) rfl (fun (c1 : (2 : Int64) < (1 : Int64)) => ?_) (fun (c1 : ¬ ((2 : Int64) < (1 : Int64))) => ?_)
  · skip
    exact absurd c1 (by decide)
  · skip
    refine g_lloadN X d11_7 rfl (q := 8) rfl ?_
    refine g_goto X d11_8 (by decide) (q := 12) rfl ?_
    exact g_retJ X d11_12 (by decide) (by decide) ⟨rfl, rfl⟩
theorem pn11_0_2 : plainName "com/example/teddington/teddington/WindowCountsTotalPinLaw" = true := by first | (simp [plainName, overriddenIn]; done) | decide +kernel
theorem ef11_0_2 (m : MethodId) (x0 : Int64) (x1 : Int64) (x2 : Int64) : entryFrame m #[(.long x0), (.long x1), (.long x2)] 6 = mkF m 0 #[.val (.long x0), .second, .val (.long x1), .second, .val (.long x2), .second] [] := by first | (simp [entryFrame, mkF, argsToLocals, Value.category]; done) | rfl
set_option maxRecDepth 65536 in
set_option maxHeartbeats 40000000 in
theorem rm11_0_2 (l : Launch) (Z : State) (a0 : Array Value) (hw : ∀ d ∈ tables_1, d.before a0 Z = true) (ws : List Jvm.Cond) (q2 : Int64) (h0 : Heap) (n0 : Nat) (Z0 : n0 ≤ h0.size) :
    Met l Z (⟨"com/example/teddington/teddington/WindowCountsTotalPinLaw", "keep", "(JJJ)J"⟩ : MethodName) method_3_code 6 (some .long) ({ frames := 0, cells := 0, slots := 0, locals := 0 } : Room) ws n0 #[(.long (0 : Int64)), (.long q2), (.long (2 : Int64))] h0 (fun v h' => v = some (.long (0 : Int64)) ∧ h0 = h') := by
  refine Met.intro (plainFor_of_name pn11_0_2) Z0 ?_
  intro p e s m below meth c T X
  refine g_cast (ef11_0_2 m (0 : Int64) q2 (2 : Int64)) ?_
  refine g_lloadN X d11_0 rfl (q := 1) rfl ?_
  refine g_lload X d11_1 rfl (q := 3) rfl ?_
  refine g_lcmpA X d11_3 (q1 := 4) rfl d11_4 (Or.inl rfl) (q := 7) rfl (by decide) (t := 11) rfl (fun (c1 : (0 : Int64) < (2 : Int64)) => ?_) (fun (c1 : ¬ ((0 : Int64) < (2 : Int64))) => ?_)
  · skip
    refine g_lconst X d11_11 rfl (q := 12) (v := 0) rfl ?_
    exact g_retJ X d11_12 (by decide) (by decide) ⟨rfl, rfl⟩
  · skip
    exact absurd c1 (by decide)
theorem pn11_1_2 : plainName "com/example/teddington/teddington/WindowCountsTotalPinLaw" = true := by first | (simp [plainName, overriddenIn]; done) | decide +kernel
theorem ef11_1_2 (m : MethodId) (x0 : Int64) (x1 : Int64) (x2 : Int64) : entryFrame m #[(.long x0), (.long x1), (.long x2)] 6 = mkF m 0 #[.val (.long x0), .second, .val (.long x1), .second, .val (.long x2), .second] [] := by first | (simp [entryFrame, mkF, argsToLocals, Value.category]; done) | rfl
set_option maxRecDepth 65536 in
set_option maxHeartbeats 40000000 in
theorem rm11_1_2 (l : Launch) (Z : State) (a0 : Array Value) (hw : ∀ d ∈ tables_1, d.before a0 Z = true) (ws : List Jvm.Cond) (q2 : Int64) (h0 : Heap) (n0 : Nat) (Z0 : n0 ≤ h0.size) :
    Met l Z (⟨"com/example/teddington/teddington/WindowCountsTotalPinLaw", "keep", "(JJJ)J"⟩ : MethodName) method_3_code 6 (some .long) ({ frames := 0, cells := 0, slots := 0, locals := 0 } : Room) ws n0 #[(.long (1 : Int64)), (.long q2), (.long (2 : Int64))] h0 (fun v h' => v = some (.long (0 : Int64)) ∧ h0 = h') := by
  refine Met.intro (plainFor_of_name pn11_1_2) Z0 ?_
  intro p e s m below meth c T X
  refine g_cast (ef11_1_2 m (1 : Int64) q2 (2 : Int64)) ?_
  refine g_lloadN X d11_0 rfl (q := 1) rfl ?_
  refine g_lload X d11_1 rfl (q := 3) rfl ?_
  refine g_lcmpA X d11_3 (q1 := 4) rfl d11_4 (Or.inl rfl) (q := 7) rfl (by decide) (t := 11) rfl (fun (c1 : (1 : Int64) < (2 : Int64)) => ?_) (fun (c1 : ¬ ((1 : Int64) < (2 : Int64))) => ?_)
  · skip
    refine g_lconst X d11_11 rfl (q := 12) (v := 0) rfl ?_
    exact g_retJ X d11_12 (by decide) (by decide) ⟨rfl, rfl⟩
  · skip
    exact absurd c1 (by decide)
theorem pn11_2_2 : plainName "com/example/teddington/teddington/WindowCountsTotalPinLaw" = true := by first | (simp [plainName, overriddenIn]; done) | decide +kernel
theorem ef11_2_2 (m : MethodId) (x0 : Int64) (x1 : Int64) (x2 : Int64) : entryFrame m #[(.long x0), (.long x1), (.long x2)] 6 = mkF m 0 #[.val (.long x0), .second, .val (.long x1), .second, .val (.long x2), .second] [] := by first | (simp [entryFrame, mkF, argsToLocals, Value.category]; done) | rfl
set_option maxRecDepth 65536 in
set_option maxHeartbeats 40000000 in
theorem rm11_2_2 (l : Launch) (Z : State) (a0 : Array Value) (hw : ∀ d ∈ tables_1, d.before a0 Z = true) (ws : List Jvm.Cond) (q2 : Int64) (h0 : Heap) (n0 : Nat) (Z0 : n0 ≤ h0.size) :
    Met l Z (⟨"com/example/teddington/teddington/WindowCountsTotalPinLaw", "keep", "(JJJ)J"⟩ : MethodName) method_3_code 6 (some .long) ({ frames := 0, cells := 0, slots := 0, locals := 0 } : Room) ws n0 #[(.long (2 : Int64)), (.long q2), (.long (2 : Int64))] h0 (fun v h' => v = some (.long q2) ∧ h0 = h') := by
  refine Met.intro (plainFor_of_name pn11_2_2) Z0 ?_
  intro p e s m below meth c T X
  refine g_cast (ef11_2_2 m (2 : Int64) q2 (2 : Int64)) ?_
  refine g_lloadN X d11_0 rfl (q := 1) rfl ?_
  refine g_lload X d11_1 rfl (q := 3) rfl ?_
  refine g_lcmpA X d11_3 (q1 := 4) rfl d11_4 (Or.inl rfl) (q := 7) rfl (by decide) (t := 11) rfl (fun (c1 : (2 : Int64) < (2 : Int64)) => ?_) (fun (c1 : ¬ ((2 : Int64) < (2 : Int64))) => ?_)
  · skip
    exact absurd c1 (by decide)
  · skip
    refine g_lloadN X d11_7 rfl (q := 8) rfl ?_
    refine g_goto X d11_8 (by decide) (q := 12) rfl ?_
    exact g_retJ X d11_12 (by decide) (by decide) ⟨rfl, rfl⟩
theorem pn11_0_3 : plainName "com/example/teddington/teddington/WindowCountsTotalPinLaw" = true := by first | (simp [plainName, overriddenIn]; done) | decide +kernel
theorem ef11_0_3 (m : MethodId) (x0 : Int64) (x1 : Int64) (x2 : Int64) : entryFrame m #[(.long x0), (.long x1), (.long x2)] 6 = mkF m 0 #[.val (.long x0), .second, .val (.long x1), .second, .val (.long x2), .second] [] := by first | (simp [entryFrame, mkF, argsToLocals, Value.category]; done) | rfl
set_option maxRecDepth 65536 in
set_option maxHeartbeats 40000000 in
theorem rm11_0_3 (l : Launch) (Z : State) (a0 : Array Value) (hw : ∀ d ∈ tables_1, d.before a0 Z = true) (ws : List Jvm.Cond) (q2 : Int64) (h0 : Heap) (n0 : Nat) (Z0 : n0 ≤ h0.size) :
    Met l Z (⟨"com/example/teddington/teddington/WindowCountsTotalPinLaw", "keep", "(JJJ)J"⟩ : MethodName) method_3_code 6 (some .long) ({ frames := 0, cells := 0, slots := 0, locals := 0 } : Room) ws n0 #[(.long (0 : Int64)), (.long q2), (.long (3 : Int64))] h0 (fun v h' => v = some (.long (0 : Int64)) ∧ h0 = h') := by
  refine Met.intro (plainFor_of_name pn11_0_3) Z0 ?_
  intro p e s m below meth c T X
  refine g_cast (ef11_0_3 m (0 : Int64) q2 (3 : Int64)) ?_
  refine g_lloadN X d11_0 rfl (q := 1) rfl ?_
  refine g_lload X d11_1 rfl (q := 3) rfl ?_
  refine g_lcmpA X d11_3 (q1 := 4) rfl d11_4 (Or.inl rfl) (q := 7) rfl (by decide) (t := 11) rfl (fun (c1 : (0 : Int64) < (3 : Int64)) => ?_) (fun (c1 : ¬ ((0 : Int64) < (3 : Int64))) => ?_)
  · skip
    refine g_lconst X d11_11 rfl (q := 12) (v := 0) rfl ?_
    exact g_retJ X d11_12 (by decide) (by decide) ⟨rfl, rfl⟩
  · skip
    exact absurd c1 (by decide)
theorem pn11_1_3 : plainName "com/example/teddington/teddington/WindowCountsTotalPinLaw" = true := by first | (simp [plainName, overriddenIn]; done) | decide +kernel
theorem ef11_1_3 (m : MethodId) (x0 : Int64) (x1 : Int64) (x2 : Int64) : entryFrame m #[(.long x0), (.long x1), (.long x2)] 6 = mkF m 0 #[.val (.long x0), .second, .val (.long x1), .second, .val (.long x2), .second] [] := by first | (simp [entryFrame, mkF, argsToLocals, Value.category]; done) | rfl
set_option maxRecDepth 65536 in
set_option maxHeartbeats 40000000 in
theorem rm11_1_3 (l : Launch) (Z : State) (a0 : Array Value) (hw : ∀ d ∈ tables_1, d.before a0 Z = true) (ws : List Jvm.Cond) (q2 : Int64) (h0 : Heap) (n0 : Nat) (Z0 : n0 ≤ h0.size) :
    Met l Z (⟨"com/example/teddington/teddington/WindowCountsTotalPinLaw", "keep", "(JJJ)J"⟩ : MethodName) method_3_code 6 (some .long) ({ frames := 0, cells := 0, slots := 0, locals := 0 } : Room) ws n0 #[(.long (1 : Int64)), (.long q2), (.long (3 : Int64))] h0 (fun v h' => v = some (.long (0 : Int64)) ∧ h0 = h') := by
  refine Met.intro (plainFor_of_name pn11_1_3) Z0 ?_
  intro p e s m below meth c T X
  refine g_cast (ef11_1_3 m (1 : Int64) q2 (3 : Int64)) ?_
  refine g_lloadN X d11_0 rfl (q := 1) rfl ?_
  refine g_lload X d11_1 rfl (q := 3) rfl ?_
  refine g_lcmpA X d11_3 (q1 := 4) rfl d11_4 (Or.inl rfl) (q := 7) rfl (by decide) (t := 11) rfl (fun (c1 : (1 : Int64) < (3 : Int64)) => ?_) (fun (c1 : ¬ ((1 : Int64) < (3 : Int64))) => ?_)
  · skip
    refine g_lconst X d11_11 rfl (q := 12) (v := 0) rfl ?_
    exact g_retJ X d11_12 (by decide) (by decide) ⟨rfl, rfl⟩
  · skip
    exact absurd c1 (by decide)
theorem pn11_2_3 : plainName "com/example/teddington/teddington/WindowCountsTotalPinLaw" = true := by first | (simp [plainName, overriddenIn]; done) | decide +kernel
theorem ef11_2_3 (m : MethodId) (x0 : Int64) (x1 : Int64) (x2 : Int64) : entryFrame m #[(.long x0), (.long x1), (.long x2)] 6 = mkF m 0 #[.val (.long x0), .second, .val (.long x1), .second, .val (.long x2), .second] [] := by first | (simp [entryFrame, mkF, argsToLocals, Value.category]; done) | rfl
set_option maxRecDepth 65536 in
set_option maxHeartbeats 40000000 in
theorem rm11_2_3 (l : Launch) (Z : State) (a0 : Array Value) (hw : ∀ d ∈ tables_1, d.before a0 Z = true) (ws : List Jvm.Cond) (q2 : Int64) (h0 : Heap) (n0 : Nat) (Z0 : n0 ≤ h0.size) :
    Met l Z (⟨"com/example/teddington/teddington/WindowCountsTotalPinLaw", "keep", "(JJJ)J"⟩ : MethodName) method_3_code 6 (some .long) ({ frames := 0, cells := 0, slots := 0, locals := 0 } : Room) ws n0 #[(.long (2 : Int64)), (.long q2), (.long (3 : Int64))] h0 (fun v h' => v = some (.long (0 : Int64)) ∧ h0 = h') := by
  refine Met.intro (plainFor_of_name pn11_2_3) Z0 ?_
  intro p e s m below meth c T X
  refine g_cast (ef11_2_3 m (2 : Int64) q2 (3 : Int64)) ?_
  refine g_lloadN X d11_0 rfl (q := 1) rfl ?_
  refine g_lload X d11_1 rfl (q := 3) rfl ?_
  refine g_lcmpA X d11_3 (q1 := 4) rfl d11_4 (Or.inl rfl) (q := 7) rfl (by decide) (t := 11) rfl (fun (c1 : (2 : Int64) < (3 : Int64)) => ?_) (fun (c1 : ¬ ((2 : Int64) < (3 : Int64))) => ?_)
  · skip
    refine g_lconst X d11_11 rfl (q := 12) (v := 0) rfl ?_
    exact g_retJ X d11_12 (by decide) (by decide) ⟨rfl, rfl⟩
  · skip
    exact absurd c1 (by decide)
theorem pn3_1_2_g : plainName "com/example/teddington/teddington/WindowCounts" = true := by first | (simp [plainName, overriddenIn]; done) | decide +kernel
theorem ef3_1_2_g (m : MethodId) (x0 : Addr) (x1 : Int64) (x2 : Int64) : entryFrame m #[(.ref x0), (.long x1), (.long x2)] 9 = mkF m 0 #[.val (.ref x0), .val (.long x1), .second, .val (.long x2), .second, .unset, .unset, .unset, .unset] [] := by first | (simp [entryFrame, mkF, argsToLocals, Value.category]; done) | rfl
set_option maxRecDepth 65536 in
set_option maxHeartbeats 40000000 in
theorem rm3_1_2_g (l : Launch) (Z : State) (a0 : Array Value) (hw : ∀ d ∈ tables_1, d.before a0 Z = true) (ws : List Jvm.Cond) (a1 : Addr) (q2 : Int64) (q3 : Int64) (uc : Int64) (ui : Addr) (un : Addr) (ut : Int64) (ub : Int64) (G : Nat → Int64) (H : Nat → Int64) (S : Int) (k : Nat) (h0 : Heap) (n0 : Nat) (Z0 : n0 ≤ h0.size) (O_a1 : O_WindowCounts Z h0 a1 (.ref ui) (.ref un) (.long uc) (.int (1 : Int32)) (.int (0 : Int32)) (.long ut) (.long ub)) (A_ui : AJ Z h0 ui 2 G) (A_un : AJ Z h0 un 2 H) (g_a1 : n0 ≤ a1) (g_ui : n0 ≤ ui) (g_un : n0 ≤ un) (ne_a1_ui : Apart a1 ui) (ne_a1_un : Apart a1 un) (ne_ui_a1 : Apart ui a1) (ne_ui_un : Apart ui un) (ne_un_a1 : Apart un a1) (ne_un_ui : Apart un ui) (k1 : ¬ (q3 < (0 : Int64))) (k2 : ¬ (q2 = (G 0))) (k3 : ¬ (q2 < (G 0))) (hS : OKT ut ub S k) (hk : k ≤ 100) :
    Met l Z (⟨"com/example/teddington/teddington/WindowCounts", "add", "(JJ)V"⟩ : MethodName) prog_47_method_12_code 9 none ({ frames := 2, cells := 0, slots := 0, locals := 29 } : Room) ws n0 #[(.ref a1), (.long q2), (.long q3)] h0 (fun v h' => ∃ t1 : Int64, ∃ b1 : Int64, v = none ∧ Keep h0 h' [a1, ui, un] ∧ O_WindowCounts Z h' a1 (.ref ui) (.ref un) (.long uc) (.int (2 : Int32)) (.int (0 : Int32)) (.long t1) (.long b1) ∧ AJ Z h' ui 2 (own_up G 1 q2) ∧ AJ Z h' un 2 (own_up H 1 q3) ∧ OKT t1 b1 (S + q3.toInt) (k + 1)) := by
  refine Met.intro (plainFor_of_name pn3_1_2_g) Z0 ?_
  intro p e s m below meth c T X
  refine g_cast (ef3_1_2_g m a1 q2 q3) ?_
  have b_q3 : (0 : Int) ≤ q3.toInt ∧ q3.toInt ≤ 9223372036854775807 := by (try simp only [Int64.lt_iff_toInt_lt, Int32.lt_iff_toInt_lt, Int64.le_iff_toInt_le, Int32.le_iff_toInt_le, ← Int64.toInt_inj, ← Int32.toInt_inj, apply_ite Int64.toInt, apply_ite Int32.toInt, Int64.reduceToInt, Int32.reduceToInt, ne_eq] at k1); have z1 := rng64 q3; omega
  have K : Keep h0 h0 [a1, ui, un] := Keep.refl h0 _
  refine g_lloadN X d3_0 rfl (q := 1) rfl ?_
  refine g_lconst X d3_1 rfl (q := 2) (v := 0) rfl ?_
  refine g_lcmpA X d3_2 (q1 := 3) rfl d3_3 (Or.inl rfl) (q := 6) rfl (by decide) (t := 28) rfl (fun (c1 : q3 < (0 : Int64)) => ?_) (fun (c1 : ¬ (q3 < (0 : Int64))) => ?_)
  · skip
    exact absurd c1 k1
  · skip
    refine g_aloadN X d3_6 rfl (q := 7) rfl rfl ?_
    refine g_getF X (tw22 hw) Via.refl O_a1.2.2.2.2.1 d3_7 (q := 10) rfl (fun T X => ?_)
    refine g_ifB X d3_10 (Or.inr (Or.inl rfl)) (q := 13) rfl (by decide) (t := 43) rfl (fun (c2 : (0 : Int32) < (1 : Int32)) => ?_) (fun (c2 : ¬ ((0 : Int32) < (1 : Int32))) => ?_)
    · skip
      refine g_lloadN X d3_13 rfl (q := 14) rfl ?_
      refine g_aloadN X d3_14 rfl (q := 15) rfl rfl ?_
      refine g_aloadN X d3_15 rfl (q := 16) rfl rfl ?_
      refine g_getF X (tw22 hw) Via.refl O_a1.2.2.2.2.1 d3_16 (q := 19) rfl (fun T X => ?_)
      refine g_iconst X d3_19 rfl (q := 20) (v := 1) rfl ?_
      refine g_isub X d3_20 rfl (q := 21) ?_
      refine g_eqI (y := (0 : Int32)) (by decide) ?_
      refine g_callV X O_a1.1 [(.int (0 : Int32))] [(.long q2)] (tw35 hw) (tw36 hw) (tw38 hw) (tw37 hw) (tw3 hw) (tw39 hw) (by decide) (rm5_0_2_0 l Z a0 hw [] a1 uc ui un (1 : Int32) ut ub G _ n0 X.size O_a1 A_ui) pd3 rfl rfl rfl d3_21 (q := 24) rfl (W := 2) rfl (by decide) (by decide) (c2 := 0) (s2 := 0) rfl rfl (by decide) (by decide) (fun v T h' X hQ => ?_)
      obtain ⟨rfl, rfl⟩ := hQ
      show Goes p e below s _ n0 _ (T.setTop (mkF m 24 #[.val (.ref a1), .val (.long q2), .second, .val (.long q3), .second, .unset, .unset, .unset, .unset] [(.long (G 0)), (.long q2)]))
      refine g_lcmpB X d3_24 (q1 := 25) rfl d3_25 (Or.inl rfl) (q := 28) rfl (by decide) (t := 43) rfl (fun (c3 : q2 < (G 0)) => ?_) (fun (c3 : ¬ (q2 < (G 0))) => ?_)
      · skip
        exact absurd c3 k3
      · skip
        refine g_lloadN X d3_43 rfl (q := 44) rfl ?_
        refine g_lstore X d3_44 rfl (q := 46) (L' := #[.val (.ref a1), .val (.long q2), .second, .val (.long q3), .second, .val (.long q3), .second, .unset, .unset]) rfl ?_
        refine g_aloadN X d3_46 rfl (q := 47) rfl rfl ?_
        refine g_getF X (tw22 hw) Via.refl O_a1.2.2.2.2.1 d3_47 (q := 50) rfl (fun T X => ?_)
        refine g_ifB X d3_50 (Or.inr (Or.inl rfl)) (q := 53) rfl (by decide) (t := 119) rfl (fun (c4 : (0 : Int32) < (1 : Int32)) => ?_) (fun (c4 : ¬ ((0 : Int32) < (1 : Int32))) => ?_)
        · skip
          refine g_lloadN X d3_53 rfl (q := 54) rfl ?_
          refine g_aloadN X d3_54 rfl (q := 55) rfl rfl ?_
          refine g_aloadN X d3_55 rfl (q := 56) rfl rfl ?_
          refine g_getF X (tw22 hw) Via.refl O_a1.2.2.2.2.1 d3_56 (q := 59) rfl (fun T X => ?_)
          refine g_iconst X d3_59 rfl (q := 60) (v := 1) rfl ?_
          refine g_isub X d3_60 rfl (q := 61) ?_
          refine g_eqI (y := (0 : Int32)) (by decide) ?_
          refine g_callV X O_a1.1 [(.int (0 : Int32))] [(.long q2)] (tw35 hw) (tw36 hw) (tw38 hw) (tw37 hw) (tw3 hw) (tw39 hw) (by decide) (rm5_0_2_0 l Z a0 hw [] a1 uc ui un (1 : Int32) ut ub G _ n0 X.size O_a1 A_ui) pd3 rfl rfl rfl d3_61 (q := 64) rfl (W := 2) rfl (by decide) (by decide) (c2 := 0) (s2 := 0) rfl rfl (by decide) (by decide) (fun v T h' X hQ => ?_)
          obtain ⟨rfl, rfl⟩ := hQ
          show Goes p e below s _ n0 _ (T.setTop (mkF m 64 #[.val (.ref a1), .val (.long q2), .second, .val (.long q3), .second, .val (.long q3), .second, .unset, .unset] [(.long (G 0)), (.long q2)]))
          refine g_lcmpB X d3_64 (q1 := 65) rfl d3_65 (Or.inr (Or.inr rfl)) (q := 68) rfl (by decide) (t := 119) rfl (fun (c5 : q2 = (G 0)) => ?_) (fun (c5 : ¬ (q2 = (G 0))) => ?_)
          · skip
            exact absurd c5 k2
          · skip
            refine g_aloadN X d3_119 rfl (q := 120) rfl rfl ?_
            refine g_getF X (tw22 hw) Via.refl O_a1.2.2.2.2.1 d3_120 (q := 123) rfl (fun T X => ?_)
            refine g_aloadN X d3_123 rfl (q := 124) rfl rfl ?_
            refine g_getF X (tw11 hw) Via.refl O_a1.2.1 d3_124 (q := 127) rfl (fun T X => ?_)
            refine g_alenJ X A_ui d3_127 (q := 128) rfl ?_
            show Goes p e below s _ n0 _ (T.setTop (mkF m 128 #[.val (.ref a1), .val (.long q2), .second, .val (.long q3), .second, .val (.long q3), .second, .unset, .unset] [(.int (2 : Int32)), (.int (1 : Int32))]))
            refine g_icmpB X d3_128 (Or.inr (Or.inr rfl)) (q := 131) rfl (by decide) (t := 141) rfl (fun (c6 : (1 : Int32) = (2 : Int32)) => ?_) (fun (c6 : ¬ ((1 : Int32) = (2 : Int32))) => ?_)
            · skip
              exact absurd c6 (by decide)
            · skip
              refine g_aloadN X d3_141 rfl (q := 142) rfl rfl ?_
              refine g_getF X (tw11 hw) Via.refl O_a1.2.1 d3_142 (q := 145) rfl (fun T X => ?_)
              refine g_aloadN X d3_145 rfl (q := 146) rfl rfl ?_
              refine g_aloadN X d3_146 rfl (q := 147) rfl rfl ?_
              refine g_getF X (tw22 hw) Via.refl O_a1.2.2.2.2.1 d3_147 (q := 150) rfl (fun T X => ?_)
              refine g_callP X O_a1.1 [(.int (1 : Int32))] [(.ref ui)] (tw24 hw) (own_selP (tw2 hw) (tw25 hw) (tw26 hw) (by decide)) (tw25 hw) (tw26 hw) (tw3 hw) (tw27 hw) (by decide) (rm4_0_2_1 l Z a0 hw [] a1 uc ui un (1 : Int32) ut ub G _ n0 X.size O_a1 A_ui) pd1 rfl rfl rfl d3_150 (q := 153) rfl (W := 1) rfl (by decide) (by decide) (c2 := 0) (s2 := 0) rfl rfl (by decide) (by decide) (fun v T h' X hQ => ?_)
              obtain ⟨rfl, rfl⟩ := hQ
              show Goes p e below s _ n0 _ (T.setTop (mkF m 153 #[.val (.ref a1), .val (.long q2), .second, .val (.long q3), .second, .val (.long q3), .second, .unset, .unset] [(.int (1 : Int32)), (.ref ui)]))
              refine g_lloadN X d3_153 rfl (q := 154) rfl ?_
              refine g_lastore X A_ui ⟨by decide, by decide⟩ g_ui d3_154 (q := 155) rfl (fun T h X W => ?_)
              have O_a1 := O_a1.other W ne_a1_ui
              have A_un := A_un.other W ne_un_ui
              have A_ui : AJ Z h ui 2 (own_up G 1 q2) := A_ui.set W
              have K := K.wr W (Or.inl (List.mem_of_getElem? (i := 1) rfl))
              refine g_aloadN X d3_155 rfl (q := 156) rfl rfl ?_
              refine g_getF X (tw13 hw) Via.refl O_a1.2.2.1 d3_156 (q := 159) rfl (fun T X => ?_)
              refine g_aloadN X d3_159 rfl (q := 160) rfl rfl ?_
              refine g_aloadN X d3_160 rfl (q := 161) rfl rfl ?_
              refine g_getF X (tw22 hw) Via.refl O_a1.2.2.2.2.1 d3_161 (q := 164) rfl (fun T X => ?_)
              refine g_callP X O_a1.1 [(.int (1 : Int32))] [(.ref un)] (tw24 hw) (own_selP (tw2 hw) (tw25 hw) (tw26 hw) (by decide)) (tw25 hw) (tw26 hw) (tw3 hw) (tw27 hw) (by decide) (rm4_0_2_1 l Z a0 hw [] a1 uc ui un (1 : Int32) ut ub (own_up G 1 q2) _ n0 X.size O_a1 A_ui) pd1 rfl rfl rfl d3_164 (q := 167) rfl (W := 1) rfl (by decide) (by decide) (c2 := 0) (s2 := 0) rfl rfl (by decide) (by decide) (fun v T h' X hQ => ?_)
              obtain ⟨rfl, rfl⟩ := hQ
              show Goes p e below s _ n0 _ (T.setTop (mkF m 167 #[.val (.ref a1), .val (.long q2), .second, .val (.long q3), .second, .val (.long q3), .second, .unset, .unset] [(.int (1 : Int32)), (.ref un)]))
              refine g_lloadN X d3_167 rfl (q := 168) rfl ?_
              refine g_lastore X A_un ⟨by decide, by decide⟩ g_un d3_168 (q := 169) rfl (fun T h X W => ?_)
              have O_a1 := O_a1.other W ne_a1_un
              have A_ui := A_ui.other W ne_ui_un
              have A_un : AJ Z h un 2 (own_up H 1 q3) := A_un.set W
              have K := K.wr W (Or.inl (List.mem_of_getElem? (i := 2) rfl))
              refine g_aloadN X d3_169 rfl (q := 170) rfl rfl ?_
              refine g_dup X d3_170 rfl (q := 171) rfl ?_
              refine g_getF X (tw22 hw) Via.refl O_a1.2.2.2.2.1 d3_171 (q := 174) rfl (fun T X => ?_)
              refine g_iconst X d3_174 rfl (q := 175) (v := 1) rfl ?_
              refine g_iadd X d3_175 rfl (q := 176) ?_
              refine g_eqI (y := (2 : Int32)) (by decide) ?_
              refine g_putF X (tw22 hw) Via.refl O_a1.2.2.2.2.1 O_a1.1 (Or.inl (tw23 hw)) (tw2 hw) (ty := .int) (by decide) rfl rfl g_a1 d3_176 (q := 179) rfl (fun T h X W => ?_)
              have A_ui := A_ui.other W ne_ui_a1
              have A_un := A_un.other W ne_un_a1
              have O_a1 := O_WindowCounts.set3 hw W O_a1
              have K := K.wr W (Or.inl (List.mem_of_getElem? (i := 0) rfl))
              refine g_aloadN X d3_179 rfl (q := 180) rfl rfl ?_
              refine g_getF X (tw30 hw) Via.refl O_a1.2.2.2.2.2.2.1 d3_180 (q := 183) rfl (fun T X => ?_)
              refine g_lload X d3_183 rfl (q := 185) rfl ?_
              refine g_ladd X d3_185 rfl (q := 186) ?_
              refine g_letJ (fun ys hys => ?_)
              refine g_lstore X d3_186 rfl (q := 188) (L' := #[.val (.ref a1), .val (.long q2), .second, .val (.long q3), .second, .val (.long q3), .second, .val (.long ys), .second]) rfl ?_
              refine g_aloadN X d3_188 rfl (q := 189) rfl rfl ?_
              refine g_dup X d3_189 rfl (q := 190) rfl ?_
              refine g_getF X (tw32 hw) Via.refl O_a1.2.2.2.2.2.2.2 d3_190 (q := 193) rfl (fun T X => ?_)
              refine g_lload X d3_193 rfl (q := 195) rfl ?_
              refine g_bipush X d3_195 rfl (q := 197) (v := 63) rfl ?_
              refine g_lushr X d3_197 rfl (q := 198) ?_
              refine g_ladd X d3_198 rfl (q := 199) ?_
              refine g_putF X (tw32 hw) Via.refl O_a1.2.2.2.2.2.2.2 O_a1.1 (Or.inl (tw33 hw)) (tw2 hw) (ty := .long) (by decide) rfl rfl g_a1 d3_199 (q := 202) rfl (fun T h X W => ?_)
              have A_ui := A_ui.other W ne_ui_a1
              have A_un := A_un.other W ne_un_a1
              have O_a1 := O_WindowCounts.set6 hw W O_a1
              have K := K.wr W (Or.inl (List.mem_of_getElem? (i := 0) rfl))
              refine g_aloadN X d3_202 rfl (q := 203) rfl rfl ?_
              refine g_lload X d3_203 rfl (q := 205) rfl ?_
              refine g_ldc2 X (tw34 hw) d3_205 (q := 208) rfl ?_
              refine g_land X d3_208 rfl (q := 209) ?_
              refine g_putF X (tw30 hw) Via.refl O_a1.2.2.2.2.2.2.1 O_a1.1 (Or.inl (tw31 hw)) (tw2 hw) (ty := .long) (by decide) rfl rfl g_a1 d3_209 (q := 212) rfl (fun T h X W => ?_)
              have A_ui := A_ui.other W ne_ui_a1
              have A_un := A_un.other W ne_un_a1
              have O_a1 := O_WindowCounts.set5 hw W O_a1
              have K := K.wr W (Or.inl (List.mem_of_getElem? (i := 0) rfl))
              exact g_ret0 X d3_212 (by decide) (by decide) ⟨(ys &&& (9223372036854775807 : Int64)), (ub + ((ys.toUInt64 >>> ((63 : Int32) &&& 0x3f).toInt64.toUInt64).toInt64)), rfl, K, O_a1, A_ui, A_un, own_addT hS hk (own_jnn k1) hys⟩
        · skip
          exact absurd c4 (by decide)
    · skip
      exact absurd c2 (by decide)
theorem pn8_2_2_0 : plainName "com/example/teddington/teddington/WindowCounts" = true := by first | (simp [plainName, overriddenIn]; done) | decide +kernel
theorem ef8_2_2_0 (m : MethodId) (x0 : Addr) (x1 : Int64) : entryFrame m #[(.ref x0), (.long x1)] 5 = mkF m 0 #[.val (.ref x0), .val (.long x1), .second, .unset, .unset] [] := by first | (simp [entryFrame, mkF, argsToLocals, Value.category]; done) | rfl
set_option maxRecDepth 65536 in
set_option maxHeartbeats 40000000 in
theorem rm8_2_2_0 (l : Launch) (Z : State) (a0 : Array Value) (hw : ∀ d ∈ tables_1, d.before a0 Z = true) (ws : List Jvm.Cond) (a1 : Addr) (q2 : Int64) (uc : Int64) (ui : Addr) (un : Addr) (ut : Int64) (ub : Int64) (G : Nat → Int64) (H : Nat → Int64) (S : Int) (k : Nat) (h0 : Heap) (n0 : Nat) (Z0 : n0 ≤ h0.size) (O_a1 : O_WindowCounts Z h0 a1 (.ref ui) (.ref un) (.long uc) (.int (2 : Int32)) (.int (0 : Int32)) (.long ut) (.long ub)) (A_ui : AJ Z h0 ui 2 G) (A_un : AJ Z h0 un 2 H) (g_a1 : n0 ≤ a1) (ne_a1_ui : Apart a1 ui) (ne_a1_un : Apart a1 un) (ne_ui_a1 : Apart ui a1) (ne_ui_un : Apart ui un) (ne_un_a1 : Apart un a1) (ne_un_ui : Apart un ui) (dn : ¬ ((G 0) < q2)) (hS : OKT ut ub S k) (hk : k ≤ 100) :
    Met l Z (⟨"com/example/teddington/teddington/WindowCounts", "dropBefore", "(J)V"⟩ : MethodName) prog_47_method_13_code 5 none ({ frames := 2, cells := 0, slots := 0, locals := 27 } : Room) ws n0 #[(.ref a1), (.long q2)] h0 (fun v h' => ∃ t1 : Int64, ∃ b1 : Int64, ∃ i1 : Addr, ∃ n1 : Addr, ∃ o1 : Int32, ∃ s1 : Int32, v = none ∧ Keep h0 h' [a1] ∧ O_WindowCounts Z h' a1 (.ref i1) (.ref n1) (.long uc) (.int s1) (.int o1) (.long t1) (.long b1) ∧ OKT t1 b1 (S) k) := by
  refine Met.intro (plainFor_of_name pn8_2_2_0) Z0 ?_
  intro p e s m below meth c T X
  refine g_cast (ef8_2_2_0 m a1 q2) ?_
  have K : Keep h0 h0 [a1] := Keep.refl h0 _
  refine g_aloadN X d8_0 rfl (q := 1) rfl rfl ?_
  refine g_getF X (tw22 hw) Via.refl O_a1.2.2.2.2.1 d8_1 (q := 4) rfl (fun T X => ?_)
  refine g_ifB X d8_4 (Or.inr (Or.inl rfl)) (q := 7) rfl (by decide) (t := 72) rfl (fun (c1 : (0 : Int32) < (2 : Int32)) => ?_) (fun (c1 : ¬ ((0 : Int32) < (2 : Int32))) => ?_)
  · skip
    refine g_aloadN X d8_7 rfl (q := 8) rfl rfl ?_
    refine g_iconst X d8_8 rfl (q := 9) (v := 0) rfl ?_
    refine g_callV X O_a1.1 [(.int (0 : Int32))] [] (tw35 hw) (tw36 hw) (tw38 hw) (tw37 hw) (tw3 hw) (tw39 hw) (by decide) (rm5_0_2_0 l Z a0 hw [] a1 uc ui un (2 : Int32) ut ub G _ n0 X.size O_a1 A_ui) pd3 rfl rfl rfl d8_9 (q := 12) rfl (W := 0) rfl (by decide) (by decide) (c2 := 0) (s2 := 0) rfl rfl (by decide) (by decide) (fun v T h' X hQ => ?_)
    obtain ⟨rfl, rfl⟩ := hQ
    show Goes p e below s _ n0 _ (T.setTop (mkF m 12 #[.val (.ref a1), .val (.long q2), .second, .unset, .unset] [(.long (G 0))]))
    refine g_lloadN X d8_12 rfl (q := 13) rfl ?_
    refine g_lcmpB X d8_13 (q1 := 14) rfl d8_14 (Or.inl rfl) (q := 17) rfl (by decide) (t := 72) rfl (fun (c2 : (G 0) < q2) => ?_) (fun (c2 : ¬ ((G 0) < q2)) => ?_)
    · skip
      exact absurd c2 dn
    · skip
      refine g_aloadN X d8_72 rfl (q := 73) rfl rfl ?_
      refine g_getF X (tw11 hw) Via.refl O_a1.2.1 d8_73 (q := 76) rfl (fun T X => ?_)
      refine g_alenJ X A_ui d8_76 (q := 77) rfl ?_
      show Goes p e below s _ n0 _ (T.setTop (mkF m 77 #[.val (.ref a1), .val (.long q2), .second, .unset, .unset] [(.int (2 : Int32))]))
      refine g_iconst X d8_77 rfl (q := 78) (v := 2) rfl ?_
      refine g_icmpB X d8_78 (Or.inr (Or.inl rfl)) (q := 81) rfl (by decide) (t := 106) rfl (fun (c3 : (2 : Int32) < (2 : Int32)) => ?_) (fun (c3 : ¬ ((2 : Int32) < (2 : Int32))) => ?_)
      · skip
        exact absurd c3 (by decide)
      · skip
        exact g_ret0 X d8_106 (by decide) (by decide) ⟨ut, ub, ui, un, (0 : Int32), (2 : Int32), rfl, K, O_a1, hS⟩
  · skip
    exact absurd c1 (by decide)
theorem pn4_1_2_0 : plainName "com/example/teddington/teddington/WindowCounts" = true := by first | (simp [plainName, overriddenIn]; done) | decide +kernel
theorem ef4_1_2_0 (m : MethodId) (x0 : Addr) (x1 : Int32) : entryFrame m #[(.ref x0), (.int x1)] 2 = mkF m 0 #[.val (.ref x0), .val (.int x1)] [] := by first | (simp [entryFrame, mkF, argsToLocals, Value.category]; done) | rfl
set_option maxRecDepth 65536 in
set_option maxHeartbeats 40000000 in
theorem rm4_1_2_0 (l : Launch) (Z : State) (a0 : Array Value) (hw : ∀ d ∈ tables_1, d.before a0 Z = true) (ws : List Jvm.Cond) (a1 : Addr) (uc : Int64) (ui : Addr) (un : Addr) (us : Int32) (ut : Int64) (ub : Int64) (G : Nat → Int64) (h0 : Heap) (n0 : Nat) (Z0 : n0 ≤ h0.size) (O_a1 : O_WindowCounts Z h0 a1 (.ref ui) (.ref un) (.long uc) (.int us) (.int (1 : Int32)) (.long ut) (.long ub)) (A_ui : AJ Z h0 ui 2 G) :
    Met l Z (⟨"com/example/teddington/teddington/WindowCounts", "at", "(I)I"⟩ : MethodName) prog_47_method_15_code 2 (some .int) ({ frames := 0, cells := 0, slots := 0, locals := 0 } : Room) ws n0 #[(.ref a1), (.int (0 : Int32))] h0 (fun v h' => v = some (.int (1 : Int32)) ∧ h0 = h') := by
  refine Met.intro (plainFor_of_name pn4_1_2_0) Z0 ?_
  intro p e s m below meth c T X
  refine g_cast (ef4_1_2_0 m a1 (0 : Int32)) ?_
  refine g_aloadN X d4_0 rfl (q := 1) rfl rfl ?_
  refine g_getF X (tw28 hw) Via.refl O_a1.2.2.2.2.2.1 d4_1 (q := 4) rfl (fun T X => ?_)
  refine g_iloadN X d4_4 rfl (q := 5) rfl ?_
  refine g_iadd X d4_5 rfl (q := 6) ?_
  refine g_eqI (y := (1 : Int32)) (by decide) ?_
  refine g_aloadN X d4_6 rfl (q := 7) rfl rfl ?_
  refine g_getF X (tw11 hw) Via.refl O_a1.2.1 d4_7 (q := 10) rfl (fun T X => ?_)
  refine g_alenJ X A_ui d4_10 (q := 11) rfl ?_
  show Goes p e below s _ n0 _ (T.setTop (mkF m 11 #[.val (.ref a1), .val (.int (0 : Int32))] [(.int (2 : Int32)), (.int (1 : Int32))]))
  refine g_iconst X d4_11 rfl (q := 12) (v := 1) rfl ?_
  refine g_isub X d4_12 rfl (q := 13) ?_
  refine g_eqI (y := (1 : Int32)) (by decide) ?_
  refine g_iand X d4_13 rfl (q := 14) ?_
  refine g_eqI (y := (1 : Int32)) (by decide) ?_
  exact g_retI X d4_14 (by decide) (by decide) ⟨rfl, rfl⟩
theorem pn5_1_2_0 : plainName "com/example/teddington/teddington/WindowCounts" = true := by first | (simp [plainName, overriddenIn]; done) | decide +kernel
theorem ef5_1_2_0 (m : MethodId) (x0 : Addr) (x1 : Int32) : entryFrame m #[(.ref x0), (.int x1)] 2 = mkF m 0 #[.val (.ref x0), .val (.int x1)] [] := by first | (simp [entryFrame, mkF, argsToLocals, Value.category]; done) | rfl
set_option maxRecDepth 65536 in
set_option maxHeartbeats 40000000 in
theorem rm5_1_2_0 (l : Launch) (Z : State) (a0 : Array Value) (hw : ∀ d ∈ tables_1, d.before a0 Z = true) (ws : List Jvm.Cond) (a1 : Addr) (uc : Int64) (ui : Addr) (un : Addr) (us : Int32) (ut : Int64) (ub : Int64) (G : Nat → Int64) (h0 : Heap) (n0 : Nat) (Z0 : n0 ≤ h0.size) (O_a1 : O_WindowCounts Z h0 a1 (.ref ui) (.ref un) (.long uc) (.int us) (.int (1 : Int32)) (.long ut) (.long ub)) (A_ui : AJ Z h0 ui 2 G) :
    Met l Z (⟨"com/example/teddington/teddington/WindowCounts", "index", "(I)J"⟩ : MethodName) prog_47_method_7_code 2 (some .long) ({ frames := 1, cells := 0, slots := 0, locals := 14 } : Room) ws n0 #[(.ref a1), (.int (0 : Int32))] h0 (fun v h' => v = some (.long (G 1)) ∧ h0 = h') := by
  refine Met.intro (plainFor_of_name pn5_1_2_0) Z0 ?_
  intro p e s m below meth c T X
  refine g_cast (ef5_1_2_0 m a1 (0 : Int32)) ?_
  refine g_aloadN X d5_0 rfl (q := 1) rfl rfl ?_
  refine g_getF X (tw11 hw) Via.refl O_a1.2.1 d5_1 (q := 4) rfl (fun T X => ?_)
  refine g_aloadN X d5_4 rfl (q := 5) rfl rfl ?_
  refine g_iloadN X d5_5 rfl (q := 6) rfl ?_
  refine g_callP X O_a1.1 [(.int (0 : Int32))] [(.ref ui)] (tw24 hw) (own_selP (tw2 hw) (tw25 hw) (tw26 hw) (by decide)) (tw25 hw) (tw26 hw) (tw3 hw) (tw27 hw) (by decide) (rm4_1_2_0 l Z a0 hw [] a1 uc ui un us ut ub G _ n0 X.size O_a1 A_ui) pd1 rfl rfl rfl d5_6 (q := 9) rfl (W := 1) rfl (by decide) (by decide) (c2 := 0) (s2 := 0) rfl rfl (by decide) (by decide) (fun v T h' X hQ => ?_)
  obtain ⟨rfl, rfl⟩ := hQ
  show Goes p e below s _ n0 _ (T.setTop (mkF m 9 #[.val (.ref a1), .val (.int (0 : Int32))] [(.int (1 : Int32)), (.ref ui)]))
  refine g_laload X A_ui ⟨by decide, by decide⟩ d5_9 (q := 10) rfl ?_
  exact g_retJ X d5_10 (by decide) (by decide) ⟨rfl, rfl⟩
theorem pn8_2_2_1 : plainName "com/example/teddington/teddington/WindowCounts" = true := by first | (simp [plainName, overriddenIn]; done) | decide +kernel
theorem ef8_2_2_1 (m : MethodId) (x0 : Addr) (x1 : Int64) : entryFrame m #[(.ref x0), (.long x1)] 5 = mkF m 0 #[.val (.ref x0), .val (.long x1), .second, .unset, .unset] [] := by first | (simp [entryFrame, mkF, argsToLocals, Value.category]; done) | rfl
set_option maxRecDepth 65536 in
set_option maxHeartbeats 40000000 in
theorem rm8_2_2_1 (l : Launch) (Z : State) (a0 : Array Value) (hw : ∀ d ∈ tables_1, d.before a0 Z = true) (ws : List Jvm.Cond) (a1 : Addr) (q2 : Int64) (uc : Int64) (ui : Addr) (un : Addr) (ut : Int64) (ub : Int64) (G : Nat → Int64) (H : Nat → Int64) (S : Int) (k : Nat) (h0 : Heap) (n0 : Nat) (Z0 : n0 ≤ h0.size) (O_a1 : O_WindowCounts Z h0 a1 (.ref ui) (.ref un) (.long uc) (.int (2 : Int32)) (.int (0 : Int32)) (.long ut) (.long ub)) (A_ui : AJ Z h0 ui 2 G) (A_un : AJ Z h0 un 2 H) (g_a1 : n0 ≤ a1) (ne_a1_ui : Apart a1 ui) (ne_a1_un : Apart a1 un) (ne_ui_a1 : Apart ui a1) (ne_ui_un : Apart ui un) (ne_un_a1 : Apart un a1) (ne_un_ui : Apart un ui) (d0 : (G 0) < q2) (dn : ¬ ((G 1) < q2)) (p0 : 0 ≤ (H 0).toInt) (hs : (H 0).toInt ≤ S) (hS : OKT ut ub S k) (hk : k ≤ 100) :
    Met l Z (⟨"com/example/teddington/teddington/WindowCounts", "dropBefore", "(J)V"⟩ : MethodName) prog_47_method_13_code 5 none ({ frames := 2, cells := 0, slots := 0, locals := 29 } : Room) ws n0 #[(.ref a1), (.long q2)] h0 (fun v h' => ∃ t1 : Int64, ∃ b1 : Int64, ∃ i1 : Addr, ∃ n1 : Addr, ∃ o1 : Int32, ∃ s1 : Int32, v = none ∧ Keep h0 h' [a1] ∧ O_WindowCounts Z h' a1 (.ref i1) (.ref n1) (.long uc) (.int s1) (.int o1) (.long t1) (.long b1) ∧ OKT t1 b1 (S - (H 0).toInt) k) := by
  refine Met.intro (plainFor_of_name pn8_2_2_1) Z0 ?_
  intro p e s m below meth c T X
  refine g_cast (ef8_2_2_1 m a1 q2) ?_
  have K : Keep h0 h0 [a1] := Keep.refl h0 _
  refine g_aloadN X d8_0 rfl (q := 1) rfl rfl ?_
  refine g_getF X (tw22 hw) Via.refl O_a1.2.2.2.2.1 d8_1 (q := 4) rfl (fun T X => ?_)
  refine g_ifB X d8_4 (Or.inr (Or.inl rfl)) (q := 7) rfl (by decide) (t := 72) rfl (fun (c1 : (0 : Int32) < (2 : Int32)) => ?_) (fun (c1 : ¬ ((0 : Int32) < (2 : Int32))) => ?_)
  · skip
    refine g_aloadN X d8_7 rfl (q := 8) rfl rfl ?_
    refine g_iconst X d8_8 rfl (q := 9) (v := 0) rfl ?_
    refine g_callV X O_a1.1 [(.int (0 : Int32))] [] (tw35 hw) (tw36 hw) (tw38 hw) (tw37 hw) (tw3 hw) (tw39 hw) (by decide) (rm5_0_2_0 l Z a0 hw [] a1 uc ui un (2 : Int32) ut ub G _ n0 X.size O_a1 A_ui) pd3 rfl rfl rfl d8_9 (q := 12) rfl (W := 0) rfl (by decide) (by decide) (c2 := 0) (s2 := 0) rfl rfl (by decide) (by decide) (fun v T h' X hQ => ?_)
    obtain ⟨rfl, rfl⟩ := hQ
    show Goes p e below s _ n0 _ (T.setTop (mkF m 12 #[.val (.ref a1), .val (.long q2), .second, .unset, .unset] [(.long (G 0))]))
    refine g_lloadN X d8_12 rfl (q := 13) rfl ?_
    refine g_lcmpB X d8_13 (q1 := 14) rfl d8_14 (Or.inl rfl) (q := 17) rfl (by decide) (t := 72) rfl (fun (c2 : (G 0) < q2) => ?_) (fun (c2 : ¬ ((G 0) < q2)) => ?_)
    · skip
      refine g_aloadN X d8_17 rfl (q := 18) rfl rfl ?_
      refine g_getF X (tw30 hw) Via.refl O_a1.2.2.2.2.2.2.1 d8_18 (q := 21) rfl (fun T X => ?_)
      refine g_aloadN X d8_21 rfl (q := 22) rfl rfl ?_
      refine g_iconst X d8_22 rfl (q := 23) (v := 0) rfl ?_
      refine g_callV X O_a1.1 [(.int (0 : Int32))] [(.long ut)] (tw40 hw) (tw41 hw) (tw43 hw) (tw42 hw) (tw3 hw) (tw44 hw) (by decide) (rm6_0_2_0 l Z a0 hw [] a1 uc ui un (2 : Int32) ut ub G H _ n0 X.size O_a1 A_ui A_un) pd3 rfl rfl rfl d8_23 (q := 26) rfl (W := 2) rfl (by decide) (by decide) (c2 := 0) (s2 := 0) rfl rfl (by decide) (by decide) (fun v T h' X hQ => ?_)
      obtain ⟨rfl, rfl⟩ := hQ
      show Goes p e below s _ n0 _ (T.setTop (mkF m 26 #[.val (.ref a1), .val (.long q2), .second, .unset, .unset] [(.long (H 0)), (.long ut)]))
      refine g_lsub X d8_26 rfl (q := 27) ?_
      refine g_letJ (fun y0 hy0 => ?_)
      have hS1 := own_subT hS hk p0 (by omega) hy0
      refine g_lstoreN X d8_27 rfl (q := 28) (L' := #[.val (.ref a1), .val (.long q2), .second, .val (.long y0), .second]) rfl ?_
      refine g_aloadN X d8_28 rfl (q := 29) rfl rfl ?_
      refine g_dup X d8_29 rfl (q := 30) rfl ?_
      refine g_getF X (tw32 hw) Via.refl O_a1.2.2.2.2.2.2.2 d8_30 (q := 33) rfl (fun T X => ?_)
      refine g_lloadN X d8_33 rfl (q := 34) rfl ?_
      refine g_bipush X d8_34 rfl (q := 36) (v := 63) rfl ?_
      refine g_lushr X d8_36 rfl (q := 37) ?_
      refine g_lsub X d8_37 rfl (q := 38) ?_
      refine g_putF X (tw32 hw) Via.refl O_a1.2.2.2.2.2.2.2 O_a1.1 (Or.inl (tw33 hw)) (tw2 hw) (ty := .long) (by decide) rfl rfl g_a1 d8_38 (q := 41) rfl (fun T h X W => ?_)
      have A_ui := A_ui.other W ne_ui_a1
      have A_un := A_un.other W ne_un_a1
      have O_a1 := O_WindowCounts.set6 hw W O_a1
      have K := K.wr W (Or.inl (List.mem_of_getElem? (i := 0) rfl))
      refine g_aloadN X d8_41 rfl (q := 42) rfl rfl ?_
      refine g_lloadN X d8_42 rfl (q := 43) rfl ?_
      refine g_ldc2 X (tw34 hw) d8_43 (q := 46) rfl ?_
      refine g_land X d8_46 rfl (q := 47) ?_
      refine g_putF X (tw30 hw) Via.refl O_a1.2.2.2.2.2.2.1 O_a1.1 (Or.inl (tw31 hw)) (tw2 hw) (ty := .long) (by decide) rfl rfl g_a1 d8_47 (q := 50) rfl (fun T h X W => ?_)
      have A_ui := A_ui.other W ne_ui_a1
      have A_un := A_un.other W ne_un_a1
      have O_a1 := O_WindowCounts.set5 hw W O_a1
      have K := K.wr W (Or.inl (List.mem_of_getElem? (i := 0) rfl))
      refine g_aloadN X d8_50 rfl (q := 51) rfl rfl ?_
      refine g_aloadN X d8_51 rfl (q := 52) rfl rfl ?_
      refine g_iconst X d8_52 rfl (q := 53) (v := 1) rfl ?_
      refine g_callP X O_a1.1 [(.int (1 : Int32))] [(.ref a1)] (tw24 hw) (own_selP (tw2 hw) (tw25 hw) (tw26 hw) (by decide)) (tw25 hw) (tw26 hw) (tw3 hw) (tw27 hw) (by decide) (rm4_0_2_1 l Z a0 hw [] a1 uc ui un (2 : Int32) (y0 &&& (9223372036854775807 : Int64)) (ub - ((y0.toUInt64 >>> ((63 : Int32) &&& 0x3f).toInt64.toUInt64).toInt64)) G _ n0 X.size O_a1 A_ui) pd1 rfl rfl rfl d8_53 (q := 56) rfl (W := 1) rfl (by decide) (by decide) (c2 := 0) (s2 := 0) rfl rfl (by decide) (by decide) (fun v T h' X hQ => ?_)
      obtain ⟨rfl, rfl⟩ := hQ
      show Goes p e below s _ n0 _ (T.setTop (mkF m 56 #[.val (.ref a1), .val (.long q2), .second, .val (.long y0), .second] [(.int (1 : Int32)), (.ref a1)]))
      refine g_putF X (tw28 hw) Via.refl O_a1.2.2.2.2.2.1 O_a1.1 (Or.inl (tw29 hw)) (tw2 hw) (ty := .int) (by decide) rfl rfl g_a1 d8_56 (q := 59) rfl (fun T h X W => ?_)
      have A_ui := A_ui.other W ne_ui_a1
      have A_un := A_un.other W ne_un_a1
      have O_a1 := O_WindowCounts.set4 hw W O_a1
      have K := K.wr W (Or.inl (List.mem_of_getElem? (i := 0) rfl))
      refine g_aloadN X d8_59 rfl (q := 60) rfl rfl ?_
      refine g_dup X d8_60 rfl (q := 61) rfl ?_
      refine g_getF X (tw22 hw) Via.refl O_a1.2.2.2.2.1 d8_61 (q := 64) rfl (fun T X => ?_)
      refine g_iconst X d8_64 rfl (q := 65) (v := 1) rfl ?_
      refine g_isub X d8_65 rfl (q := 66) ?_
      refine g_eqI (y := (1 : Int32)) (by decide) ?_
      refine g_putF X (tw22 hw) Via.refl O_a1.2.2.2.2.1 O_a1.1 (Or.inl (tw23 hw)) (tw2 hw) (ty := .int) (by decide) rfl rfl g_a1 d8_66 (q := 69) rfl (fun T h X W => ?_)
      have A_ui := A_ui.other W ne_ui_a1
      have A_un := A_un.other W ne_un_a1
      have O_a1 := O_WindowCounts.set3 hw W O_a1
      have K := K.wr W (Or.inl (List.mem_of_getElem? (i := 0) rfl))
      refine g_goto X d8_69 (by decide) (q := 0) rfl ?_
      refine g_aloadN X d8_0 rfl (q := 1) rfl rfl ?_
      refine g_getF X (tw22 hw) Via.refl O_a1.2.2.2.2.1 d8_1 (q := 4) rfl (fun T X => ?_)
      refine g_ifB X d8_4 (Or.inr (Or.inl rfl)) (q := 7) rfl (by decide) (t := 72) rfl (fun (c3 : (0 : Int32) < (1 : Int32)) => ?_) (fun (c3 : ¬ ((0 : Int32) < (1 : Int32))) => ?_)
      · skip
        refine g_aloadN X d8_7 rfl (q := 8) rfl rfl ?_
        refine g_iconst X d8_8 rfl (q := 9) (v := 0) rfl ?_
        refine g_callV X O_a1.1 [(.int (0 : Int32))] [] (tw35 hw) (tw36 hw) (tw38 hw) (tw37 hw) (tw3 hw) (tw39 hw) (by decide) (rm5_1_2_0 l Z a0 hw [] a1 uc ui un (1 : Int32) (y0 &&& (9223372036854775807 : Int64)) (ub - ((y0.toUInt64 >>> ((63 : Int32) &&& 0x3f).toInt64.toUInt64).toInt64)) G _ n0 X.size O_a1 A_ui) pd3 rfl rfl rfl d8_9 (q := 12) rfl (W := 0) rfl (by decide) (by decide) (c2 := 0) (s2 := 0) rfl rfl (by decide) (by decide) (fun v T h' X hQ => ?_)
        obtain ⟨rfl, rfl⟩ := hQ
        show Goes p e below s _ n0 _ (T.setTop (mkF m 12 #[.val (.ref a1), .val (.long q2), .second, .val (.long y0), .second] [(.long (G 1))]))
        refine g_lloadN X d8_12 rfl (q := 13) rfl ?_
        refine g_lcmpB X d8_13 (q1 := 14) rfl d8_14 (Or.inl rfl) (q := 17) rfl (by decide) (t := 72) rfl (fun (c4 : (G 1) < q2) => ?_) (fun (c4 : ¬ ((G 1) < q2)) => ?_)
        · skip
          exact absurd c4 dn
        · skip
          refine g_aloadN X d8_72 rfl (q := 73) rfl rfl ?_
          refine g_getF X (tw11 hw) Via.refl O_a1.2.1 d8_73 (q := 76) rfl (fun T X => ?_)
          refine g_alenJ X A_ui d8_76 (q := 77) rfl ?_
          show Goes p e below s _ n0 _ (T.setTop (mkF m 77 #[.val (.ref a1), .val (.long q2), .second, .val (.long y0), .second] [(.int (2 : Int32))]))
          refine g_iconst X d8_77 rfl (q := 78) (v := 2) rfl ?_
          refine g_icmpB X d8_78 (Or.inr (Or.inl rfl)) (q := 81) rfl (by decide) (t := 106) rfl (fun (c5 : (2 : Int32) < (2 : Int32)) => ?_) (fun (c5 : ¬ ((2 : Int32) < (2 : Int32))) => ?_)
          · skip
            exact absurd c5 (by decide)
          · skip
            exact g_ret0 X d8_106 (by decide) (by decide) ⟨(y0 &&& (9223372036854775807 : Int64)), (ub - ((y0.toUInt64 >>> ((63 : Int32) &&& 0x3f).toInt64.toUInt64).toInt64)), ui, un, (1 : Int32), (1 : Int32), rfl, K, O_a1, hS1⟩
      · skip
        exact absurd c3 (by decide)
    · skip
      exact absurd d0 c2
  · skip
    exact absurd c1 (by decide)
theorem pn6_1_2_0 : plainName "com/example/teddington/teddington/WindowCounts" = true := by first | (simp [plainName, overriddenIn]; done) | decide +kernel
theorem ef6_1_2_0 (m : MethodId) (x0 : Addr) (x1 : Int32) : entryFrame m #[(.ref x0), (.int x1)] 2 = mkF m 0 #[.val (.ref x0), .val (.int x1)] [] := by first | (simp [entryFrame, mkF, argsToLocals, Value.category]; done) | rfl
set_option maxRecDepth 65536 in
set_option maxHeartbeats 40000000 in
theorem rm6_1_2_0 (l : Launch) (Z : State) (a0 : Array Value) (hw : ∀ d ∈ tables_1, d.before a0 Z = true) (ws : List Jvm.Cond) (a1 : Addr) (uc : Int64) (ui : Addr) (un : Addr) (us : Int32) (ut : Int64) (ub : Int64) (G : Nat → Int64) (H : Nat → Int64) (h0 : Heap) (n0 : Nat) (Z0 : n0 ≤ h0.size) (O_a1 : O_WindowCounts Z h0 a1 (.ref ui) (.ref un) (.long uc) (.int us) (.int (1 : Int32)) (.long ut) (.long ub)) (A_ui : AJ Z h0 ui 2 G) (A_un : AJ Z h0 un 2 H) :
    Met l Z (⟨"com/example/teddington/teddington/WindowCounts", "count", "(I)J"⟩ : MethodName) prog_47_method_8_code 2 (some .long) ({ frames := 1, cells := 0, slots := 0, locals := 14 } : Room) ws n0 #[(.ref a1), (.int (0 : Int32))] h0 (fun v h' => v = some (.long (H 1)) ∧ h0 = h') := by
  refine Met.intro (plainFor_of_name pn6_1_2_0) Z0 ?_
  intro p e s m below meth c T X
  refine g_cast (ef6_1_2_0 m a1 (0 : Int32)) ?_
  refine g_aloadN X d6_0 rfl (q := 1) rfl rfl ?_
  refine g_getF X (tw13 hw) Via.refl O_a1.2.2.1 d6_1 (q := 4) rfl (fun T X => ?_)
  refine g_aloadN X d6_4 rfl (q := 5) rfl rfl ?_
  refine g_iloadN X d6_5 rfl (q := 6) rfl ?_
  refine g_callP X O_a1.1 [(.int (0 : Int32))] [(.ref un)] (tw24 hw) (own_selP (tw2 hw) (tw25 hw) (tw26 hw) (by decide)) (tw25 hw) (tw26 hw) (tw3 hw) (tw27 hw) (by decide) (rm4_1_2_0 l Z a0 hw [] a1 uc ui un us ut ub G _ n0 X.size O_a1 A_ui) pd1 rfl rfl rfl d6_6 (q := 9) rfl (W := 1) rfl (by decide) (by decide) (c2 := 0) (s2 := 0) rfl rfl (by decide) (by decide) (fun v T h' X hQ => ?_)
  obtain ⟨rfl, rfl⟩ := hQ
  show Goes p e below s _ n0 _ (T.setTop (mkF m 9 #[.val (.ref a1), .val (.int (0 : Int32))] [(.int (1 : Int32)), (.ref un)]))
  refine g_laload X A_un ⟨by decide, by decide⟩ d6_9 (q := 10) rfl ?_
  exact g_retJ X d6_10 (by decide) (by decide) ⟨rfl, rfl⟩
theorem pn4_1_2_1 : plainName "com/example/teddington/teddington/WindowCounts" = true := by first | (simp [plainName, overriddenIn]; done) | decide +kernel
theorem ef4_1_2_1 (m : MethodId) (x0 : Addr) (x1 : Int32) : entryFrame m #[(.ref x0), (.int x1)] 2 = mkF m 0 #[.val (.ref x0), .val (.int x1)] [] := by first | (simp [entryFrame, mkF, argsToLocals, Value.category]; done) | rfl
set_option maxRecDepth 65536 in
set_option maxHeartbeats 40000000 in
theorem rm4_1_2_1 (l : Launch) (Z : State) (a0 : Array Value) (hw : ∀ d ∈ tables_1, d.before a0 Z = true) (ws : List Jvm.Cond) (a1 : Addr) (uc : Int64) (ui : Addr) (un : Addr) (us : Int32) (ut : Int64) (ub : Int64) (G : Nat → Int64) (h0 : Heap) (n0 : Nat) (Z0 : n0 ≤ h0.size) (O_a1 : O_WindowCounts Z h0 a1 (.ref ui) (.ref un) (.long uc) (.int us) (.int (1 : Int32)) (.long ut) (.long ub)) (A_ui : AJ Z h0 ui 2 G) :
    Met l Z (⟨"com/example/teddington/teddington/WindowCounts", "at", "(I)I"⟩ : MethodName) prog_47_method_15_code 2 (some .int) ({ frames := 0, cells := 0, slots := 0, locals := 0 } : Room) ws n0 #[(.ref a1), (.int (1 : Int32))] h0 (fun v h' => v = some (.int (0 : Int32)) ∧ h0 = h') := by
  refine Met.intro (plainFor_of_name pn4_1_2_1) Z0 ?_
  intro p e s m below meth c T X
  refine g_cast (ef4_1_2_1 m a1 (1 : Int32)) ?_
  refine g_aloadN X d4_0 rfl (q := 1) rfl rfl ?_
  refine g_getF X (tw28 hw) Via.refl O_a1.2.2.2.2.2.1 d4_1 (q := 4) rfl (fun T X => ?_)
  refine g_iloadN X d4_4 rfl (q := 5) rfl ?_
  refine g_iadd X d4_5 rfl (q := 6) ?_
  refine g_eqI (y := (2 : Int32)) (by decide) ?_
  refine g_aloadN X d4_6 rfl (q := 7) rfl rfl ?_
  refine g_getF X (tw11 hw) Via.refl O_a1.2.1 d4_7 (q := 10) rfl (fun T X => ?_)
  refine g_alenJ X A_ui d4_10 (q := 11) rfl ?_
  show Goes p e below s _ n0 _ (T.setTop (mkF m 11 #[.val (.ref a1), .val (.int (1 : Int32))] [(.int (2 : Int32)), (.int (2 : Int32))]))
  refine g_iconst X d4_11 rfl (q := 12) (v := 1) rfl ?_
  refine g_isub X d4_12 rfl (q := 13) ?_
  refine g_eqI (y := (1 : Int32)) (by decide) ?_
  refine g_iand X d4_13 rfl (q := 14) ?_
  refine g_eqI (y := (0 : Int32)) (by decide) ?_
  exact g_retI X d4_14 (by decide) (by decide) ⟨rfl, rfl⟩
theorem pn8_2_2_2 : plainName "com/example/teddington/teddington/WindowCounts" = true := by first | (simp [plainName, overriddenIn]; done) | decide +kernel
theorem ef8_2_2_2 (m : MethodId) (x0 : Addr) (x1 : Int64) : entryFrame m #[(.ref x0), (.long x1)] 5 = mkF m 0 #[.val (.ref x0), .val (.long x1), .second, .unset, .unset] [] := by first | (simp [entryFrame, mkF, argsToLocals, Value.category]; done) | rfl
set_option maxRecDepth 65536 in
set_option maxHeartbeats 40000000 in
theorem rm8_2_2_2 (l : Launch) (Z : State) (a0 : Array Value) (hw : ∀ d ∈ tables_1, d.before a0 Z = true) (ws : List Jvm.Cond) (a1 : Addr) (q2 : Int64) (uc : Int64) (ui : Addr) (un : Addr) (ut : Int64) (ub : Int64) (G : Nat → Int64) (H : Nat → Int64) (S : Int) (k : Nat) (h0 : Heap) (n0 : Nat) (Z0 : n0 ≤ h0.size) (O_a1 : O_WindowCounts Z h0 a1 (.ref ui) (.ref un) (.long uc) (.int (2 : Int32)) (.int (0 : Int32)) (.long ut) (.long ub)) (A_ui : AJ Z h0 ui 2 G) (A_un : AJ Z h0 un 2 H) (g_a1 : n0 ≤ a1) (ne_a1_ui : Apart a1 ui) (ne_a1_un : Apart a1 un) (ne_ui_a1 : Apart ui a1) (ne_ui_un : Apart ui un) (ne_un_a1 : Apart un a1) (ne_un_ui : Apart un ui) (d0 : (G 0) < q2) (d1 : (G 1) < q2) (p0 : 0 ≤ (H 0).toInt) (p1 : 0 ≤ (H 1).toInt) (hs : (H 0).toInt + (H 1).toInt ≤ S) (hS : OKT ut ub S k) (hk : k ≤ 100) :
    Met l Z (⟨"com/example/teddington/teddington/WindowCounts", "dropBefore", "(J)V"⟩ : MethodName) prog_47_method_13_code 5 none ({ frames := 2, cells := 0, slots := 0, locals := 29 } : Room) ws n0 #[(.ref a1), (.long q2)] h0 (fun v h' => ∃ t1 : Int64, ∃ b1 : Int64, ∃ i1 : Addr, ∃ n1 : Addr, ∃ o1 : Int32, ∃ s1 : Int32, v = none ∧ Keep h0 h' [a1] ∧ O_WindowCounts Z h' a1 (.ref i1) (.ref n1) (.long uc) (.int s1) (.int o1) (.long t1) (.long b1) ∧ OKT t1 b1 (S - (H 0).toInt - (H 1).toInt) k) := by
  refine Met.intro (plainFor_of_name pn8_2_2_2) Z0 ?_
  intro p e s m below meth c T X
  refine g_cast (ef8_2_2_2 m a1 q2) ?_
  have K : Keep h0 h0 [a1] := Keep.refl h0 _
  refine g_aloadN X d8_0 rfl (q := 1) rfl rfl ?_
  refine g_getF X (tw22 hw) Via.refl O_a1.2.2.2.2.1 d8_1 (q := 4) rfl (fun T X => ?_)
  refine g_ifB X d8_4 (Or.inr (Or.inl rfl)) (q := 7) rfl (by decide) (t := 72) rfl (fun (c1 : (0 : Int32) < (2 : Int32)) => ?_) (fun (c1 : ¬ ((0 : Int32) < (2 : Int32))) => ?_)
  · skip
    refine g_aloadN X d8_7 rfl (q := 8) rfl rfl ?_
    refine g_iconst X d8_8 rfl (q := 9) (v := 0) rfl ?_
    refine g_callV X O_a1.1 [(.int (0 : Int32))] [] (tw35 hw) (tw36 hw) (tw38 hw) (tw37 hw) (tw3 hw) (tw39 hw) (by decide) (rm5_0_2_0 l Z a0 hw [] a1 uc ui un (2 : Int32) ut ub G _ n0 X.size O_a1 A_ui) pd3 rfl rfl rfl d8_9 (q := 12) rfl (W := 0) rfl (by decide) (by decide) (c2 := 0) (s2 := 0) rfl rfl (by decide) (by decide) (fun v T h' X hQ => ?_)
    obtain ⟨rfl, rfl⟩ := hQ
    show Goes p e below s _ n0 _ (T.setTop (mkF m 12 #[.val (.ref a1), .val (.long q2), .second, .unset, .unset] [(.long (G 0))]))
    refine g_lloadN X d8_12 rfl (q := 13) rfl ?_
    refine g_lcmpB X d8_13 (q1 := 14) rfl d8_14 (Or.inl rfl) (q := 17) rfl (by decide) (t := 72) rfl (fun (c2 : (G 0) < q2) => ?_) (fun (c2 : ¬ ((G 0) < q2)) => ?_)
    · skip
      refine g_aloadN X d8_17 rfl (q := 18) rfl rfl ?_
      refine g_getF X (tw30 hw) Via.refl O_a1.2.2.2.2.2.2.1 d8_18 (q := 21) rfl (fun T X => ?_)
      refine g_aloadN X d8_21 rfl (q := 22) rfl rfl ?_
      refine g_iconst X d8_22 rfl (q := 23) (v := 0) rfl ?_
      refine g_callV X O_a1.1 [(.int (0 : Int32))] [(.long ut)] (tw40 hw) (tw41 hw) (tw43 hw) (tw42 hw) (tw3 hw) (tw44 hw) (by decide) (rm6_0_2_0 l Z a0 hw [] a1 uc ui un (2 : Int32) ut ub G H _ n0 X.size O_a1 A_ui A_un) pd3 rfl rfl rfl d8_23 (q := 26) rfl (W := 2) rfl (by decide) (by decide) (c2 := 0) (s2 := 0) rfl rfl (by decide) (by decide) (fun v T h' X hQ => ?_)
      obtain ⟨rfl, rfl⟩ := hQ
      show Goes p e below s _ n0 _ (T.setTop (mkF m 26 #[.val (.ref a1), .val (.long q2), .second, .unset, .unset] [(.long (H 0)), (.long ut)]))
      refine g_lsub X d8_26 rfl (q := 27) ?_
      refine g_letJ (fun y0 hy0 => ?_)
      have hS1 := own_subT hS hk p0 (by omega) hy0
      refine g_lstoreN X d8_27 rfl (q := 28) (L' := #[.val (.ref a1), .val (.long q2), .second, .val (.long y0), .second]) rfl ?_
      refine g_aloadN X d8_28 rfl (q := 29) rfl rfl ?_
      refine g_dup X d8_29 rfl (q := 30) rfl ?_
      refine g_getF X (tw32 hw) Via.refl O_a1.2.2.2.2.2.2.2 d8_30 (q := 33) rfl (fun T X => ?_)
      refine g_lloadN X d8_33 rfl (q := 34) rfl ?_
      refine g_bipush X d8_34 rfl (q := 36) (v := 63) rfl ?_
      refine g_lushr X d8_36 rfl (q := 37) ?_
      refine g_lsub X d8_37 rfl (q := 38) ?_
      refine g_putF X (tw32 hw) Via.refl O_a1.2.2.2.2.2.2.2 O_a1.1 (Or.inl (tw33 hw)) (tw2 hw) (ty := .long) (by decide) rfl rfl g_a1 d8_38 (q := 41) rfl (fun T h X W => ?_)
      have A_ui := A_ui.other W ne_ui_a1
      have A_un := A_un.other W ne_un_a1
      have O_a1 := O_WindowCounts.set6 hw W O_a1
      have K := K.wr W (Or.inl (List.mem_of_getElem? (i := 0) rfl))
      refine g_aloadN X d8_41 rfl (q := 42) rfl rfl ?_
      refine g_lloadN X d8_42 rfl (q := 43) rfl ?_
      refine g_ldc2 X (tw34 hw) d8_43 (q := 46) rfl ?_
      refine g_land X d8_46 rfl (q := 47) ?_
      refine g_putF X (tw30 hw) Via.refl O_a1.2.2.2.2.2.2.1 O_a1.1 (Or.inl (tw31 hw)) (tw2 hw) (ty := .long) (by decide) rfl rfl g_a1 d8_47 (q := 50) rfl (fun T h X W => ?_)
      have A_ui := A_ui.other W ne_ui_a1
      have A_un := A_un.other W ne_un_a1
      have O_a1 := O_WindowCounts.set5 hw W O_a1
      have K := K.wr W (Or.inl (List.mem_of_getElem? (i := 0) rfl))
      refine g_aloadN X d8_50 rfl (q := 51) rfl rfl ?_
      refine g_aloadN X d8_51 rfl (q := 52) rfl rfl ?_
      refine g_iconst X d8_52 rfl (q := 53) (v := 1) rfl ?_
      refine g_callP X O_a1.1 [(.int (1 : Int32))] [(.ref a1)] (tw24 hw) (own_selP (tw2 hw) (tw25 hw) (tw26 hw) (by decide)) (tw25 hw) (tw26 hw) (tw3 hw) (tw27 hw) (by decide) (rm4_0_2_1 l Z a0 hw [] a1 uc ui un (2 : Int32) (y0 &&& (9223372036854775807 : Int64)) (ub - ((y0.toUInt64 >>> ((63 : Int32) &&& 0x3f).toInt64.toUInt64).toInt64)) G _ n0 X.size O_a1 A_ui) pd1 rfl rfl rfl d8_53 (q := 56) rfl (W := 1) rfl (by decide) (by decide) (c2 := 0) (s2 := 0) rfl rfl (by decide) (by decide) (fun v T h' X hQ => ?_)
      obtain ⟨rfl, rfl⟩ := hQ
      show Goes p e below s _ n0 _ (T.setTop (mkF m 56 #[.val (.ref a1), .val (.long q2), .second, .val (.long y0), .second] [(.int (1 : Int32)), (.ref a1)]))
      refine g_putF X (tw28 hw) Via.refl O_a1.2.2.2.2.2.1 O_a1.1 (Or.inl (tw29 hw)) (tw2 hw) (ty := .int) (by decide) rfl rfl g_a1 d8_56 (q := 59) rfl (fun T h X W => ?_)
      have A_ui := A_ui.other W ne_ui_a1
      have A_un := A_un.other W ne_un_a1
      have O_a1 := O_WindowCounts.set4 hw W O_a1
      have K := K.wr W (Or.inl (List.mem_of_getElem? (i := 0) rfl))
      refine g_aloadN X d8_59 rfl (q := 60) rfl rfl ?_
      refine g_dup X d8_60 rfl (q := 61) rfl ?_
      refine g_getF X (tw22 hw) Via.refl O_a1.2.2.2.2.1 d8_61 (q := 64) rfl (fun T X => ?_)
      refine g_iconst X d8_64 rfl (q := 65) (v := 1) rfl ?_
      refine g_isub X d8_65 rfl (q := 66) ?_
      refine g_eqI (y := (1 : Int32)) (by decide) ?_
      refine g_putF X (tw22 hw) Via.refl O_a1.2.2.2.2.1 O_a1.1 (Or.inl (tw23 hw)) (tw2 hw) (ty := .int) (by decide) rfl rfl g_a1 d8_66 (q := 69) rfl (fun T h X W => ?_)
      have A_ui := A_ui.other W ne_ui_a1
      have A_un := A_un.other W ne_un_a1
      have O_a1 := O_WindowCounts.set3 hw W O_a1
      have K := K.wr W (Or.inl (List.mem_of_getElem? (i := 0) rfl))
      refine g_goto X d8_69 (by decide) (q := 0) rfl ?_
      refine g_aloadN X d8_0 rfl (q := 1) rfl rfl ?_
      refine g_getF X (tw22 hw) Via.refl O_a1.2.2.2.2.1 d8_1 (q := 4) rfl (fun T X => ?_)
      refine g_ifB X d8_4 (Or.inr (Or.inl rfl)) (q := 7) rfl (by decide) (t := 72) rfl (fun (c3 : (0 : Int32) < (1 : Int32)) => ?_) (fun (c3 : ¬ ((0 : Int32) < (1 : Int32))) => ?_)
      · skip
        refine g_aloadN X d8_7 rfl (q := 8) rfl rfl ?_
        refine g_iconst X d8_8 rfl (q := 9) (v := 0) rfl ?_
        refine g_callV X O_a1.1 [(.int (0 : Int32))] [] (tw35 hw) (tw36 hw) (tw38 hw) (tw37 hw) (tw3 hw) (tw39 hw) (by decide) (rm5_1_2_0 l Z a0 hw [] a1 uc ui un (1 : Int32) (y0 &&& (9223372036854775807 : Int64)) (ub - ((y0.toUInt64 >>> ((63 : Int32) &&& 0x3f).toInt64.toUInt64).toInt64)) G _ n0 X.size O_a1 A_ui) pd3 rfl rfl rfl d8_9 (q := 12) rfl (W := 0) rfl (by decide) (by decide) (c2 := 0) (s2 := 0) rfl rfl (by decide) (by decide) (fun v T h' X hQ => ?_)
        obtain ⟨rfl, rfl⟩ := hQ
        show Goes p e below s _ n0 _ (T.setTop (mkF m 12 #[.val (.ref a1), .val (.long q2), .second, .val (.long y0), .second] [(.long (G 1))]))
        refine g_lloadN X d8_12 rfl (q := 13) rfl ?_
        refine g_lcmpB X d8_13 (q1 := 14) rfl d8_14 (Or.inl rfl) (q := 17) rfl (by decide) (t := 72) rfl (fun (c4 : (G 1) < q2) => ?_) (fun (c4 : ¬ ((G 1) < q2)) => ?_)
        · skip
          refine g_aloadN X d8_17 rfl (q := 18) rfl rfl ?_
          refine g_getF X (tw30 hw) Via.refl O_a1.2.2.2.2.2.2.1 d8_18 (q := 21) rfl (fun T X => ?_)
          refine g_aloadN X d8_21 rfl (q := 22) rfl rfl ?_
          refine g_iconst X d8_22 rfl (q := 23) (v := 0) rfl ?_
          refine g_callV X O_a1.1 [(.int (0 : Int32))] [(.long (y0 &&& (9223372036854775807 : Int64)))] (tw40 hw) (tw41 hw) (tw43 hw) (tw42 hw) (tw3 hw) (tw44 hw) (by decide) (rm6_1_2_0 l Z a0 hw [] a1 uc ui un (1 : Int32) (y0 &&& (9223372036854775807 : Int64)) (ub - ((y0.toUInt64 >>> ((63 : Int32) &&& 0x3f).toInt64.toUInt64).toInt64)) G H _ n0 X.size O_a1 A_ui A_un) pd3 rfl rfl rfl d8_23 (q := 26) rfl (W := 2) rfl (by decide) (by decide) (c2 := 0) (s2 := 0) rfl rfl (by decide) (by decide) (fun v T h' X hQ => ?_)
          obtain ⟨rfl, rfl⟩ := hQ
          show Goes p e below s _ n0 _ (T.setTop (mkF m 26 #[.val (.ref a1), .val (.long q2), .second, .val (.long y0), .second] [(.long (H 1)), (.long (y0 &&& (9223372036854775807 : Int64)))]))
          refine g_lsub X d8_26 rfl (q := 27) ?_
          refine g_letJ (fun y1 hy1 => ?_)
          have hS2 := own_subT hS1 hk p1 (by omega) hy1
          refine g_lstoreN X d8_27 rfl (q := 28) (L' := #[.val (.ref a1), .val (.long q2), .second, .val (.long y1), .second]) rfl ?_
          refine g_aloadN X d8_28 rfl (q := 29) rfl rfl ?_
          refine g_dup X d8_29 rfl (q := 30) rfl ?_
          refine g_getF X (tw32 hw) Via.refl O_a1.2.2.2.2.2.2.2 d8_30 (q := 33) rfl (fun T X => ?_)
          refine g_lloadN X d8_33 rfl (q := 34) rfl ?_
          refine g_bipush X d8_34 rfl (q := 36) (v := 63) rfl ?_
          refine g_lushr X d8_36 rfl (q := 37) ?_
          refine g_lsub X d8_37 rfl (q := 38) ?_
          refine g_putF X (tw32 hw) Via.refl O_a1.2.2.2.2.2.2.2 O_a1.1 (Or.inl (tw33 hw)) (tw2 hw) (ty := .long) (by decide) rfl rfl g_a1 d8_38 (q := 41) rfl (fun T h X W => ?_)
          have A_ui := A_ui.other W ne_ui_a1
          have A_un := A_un.other W ne_un_a1
          have O_a1 := O_WindowCounts.set6 hw W O_a1
          have K := K.wr W (Or.inl (List.mem_of_getElem? (i := 0) rfl))
          refine g_aloadN X d8_41 rfl (q := 42) rfl rfl ?_
          refine g_lloadN X d8_42 rfl (q := 43) rfl ?_
          refine g_ldc2 X (tw34 hw) d8_43 (q := 46) rfl ?_
          refine g_land X d8_46 rfl (q := 47) ?_
          refine g_putF X (tw30 hw) Via.refl O_a1.2.2.2.2.2.2.1 O_a1.1 (Or.inl (tw31 hw)) (tw2 hw) (ty := .long) (by decide) rfl rfl g_a1 d8_47 (q := 50) rfl (fun T h X W => ?_)
          have A_ui := A_ui.other W ne_ui_a1
          have A_un := A_un.other W ne_un_a1
          have O_a1 := O_WindowCounts.set5 hw W O_a1
          have K := K.wr W (Or.inl (List.mem_of_getElem? (i := 0) rfl))
          refine g_aloadN X d8_50 rfl (q := 51) rfl rfl ?_
          refine g_aloadN X d8_51 rfl (q := 52) rfl rfl ?_
          refine g_iconst X d8_52 rfl (q := 53) (v := 1) rfl ?_
          refine g_callP X O_a1.1 [(.int (1 : Int32))] [(.ref a1)] (tw24 hw) (own_selP (tw2 hw) (tw25 hw) (tw26 hw) (by decide)) (tw25 hw) (tw26 hw) (tw3 hw) (tw27 hw) (by decide) (rm4_1_2_1 l Z a0 hw [] a1 uc ui un (1 : Int32) (y1 &&& (9223372036854775807 : Int64)) ((ub - ((y0.toUInt64 >>> ((63 : Int32) &&& 0x3f).toInt64.toUInt64).toInt64)) - ((y1.toUInt64 >>> ((63 : Int32) &&& 0x3f).toInt64.toUInt64).toInt64)) G _ n0 X.size O_a1 A_ui) pd1 rfl rfl rfl d8_53 (q := 56) rfl (W := 1) rfl (by decide) (by decide) (c2 := 0) (s2 := 0) rfl rfl (by decide) (by decide) (fun v T h' X hQ => ?_)
          obtain ⟨rfl, rfl⟩ := hQ
          show Goes p e below s _ n0 _ (T.setTop (mkF m 56 #[.val (.ref a1), .val (.long q2), .second, .val (.long y1), .second] [(.int (0 : Int32)), (.ref a1)]))
          refine g_putF X (tw28 hw) Via.refl O_a1.2.2.2.2.2.1 O_a1.1 (Or.inl (tw29 hw)) (tw2 hw) (ty := .int) (by decide) rfl rfl g_a1 d8_56 (q := 59) rfl (fun T h X W => ?_)
          have A_ui := A_ui.other W ne_ui_a1
          have A_un := A_un.other W ne_un_a1
          have O_a1 := O_WindowCounts.set4 hw W O_a1
          have K := K.wr W (Or.inl (List.mem_of_getElem? (i := 0) rfl))
          refine g_aloadN X d8_59 rfl (q := 60) rfl rfl ?_
          refine g_dup X d8_60 rfl (q := 61) rfl ?_
          refine g_getF X (tw22 hw) Via.refl O_a1.2.2.2.2.1 d8_61 (q := 64) rfl (fun T X => ?_)
          refine g_iconst X d8_64 rfl (q := 65) (v := 1) rfl ?_
          refine g_isub X d8_65 rfl (q := 66) ?_
          refine g_eqI (y := (0 : Int32)) (by decide) ?_
          refine g_putF X (tw22 hw) Via.refl O_a1.2.2.2.2.1 O_a1.1 (Or.inl (tw23 hw)) (tw2 hw) (ty := .int) (by decide) rfl rfl g_a1 d8_66 (q := 69) rfl (fun T h X W => ?_)
          have A_ui := A_ui.other W ne_ui_a1
          have A_un := A_un.other W ne_un_a1
          have O_a1 := O_WindowCounts.set3 hw W O_a1
          have K := K.wr W (Or.inl (List.mem_of_getElem? (i := 0) rfl))
          refine g_goto X d8_69 (by decide) (q := 0) rfl ?_
          refine g_aloadN X d8_0 rfl (q := 1) rfl rfl ?_
          refine g_getF X (tw22 hw) Via.refl O_a1.2.2.2.2.1 d8_1 (q := 4) rfl (fun T X => ?_)
          refine g_ifB X d8_4 (Or.inr (Or.inl rfl)) (q := 7) rfl (by decide) (t := 72) rfl (fun (c5 : (0 : Int32) < (0 : Int32)) => ?_) (fun (c5 : ¬ ((0 : Int32) < (0 : Int32))) => ?_)
          · skip
            exact absurd c5 (by decide)
          · skip
            refine g_aloadN X d8_72 rfl (q := 73) rfl rfl ?_
            refine g_getF X (tw11 hw) Via.refl O_a1.2.1 d8_73 (q := 76) rfl (fun T X => ?_)
            refine g_alenJ X A_ui d8_76 (q := 77) rfl ?_
            show Goes p e below s _ n0 _ (T.setTop (mkF m 77 #[.val (.ref a1), .val (.long q2), .second, .val (.long y1), .second] [(.int (2 : Int32))]))
            refine g_iconst X d8_77 rfl (q := 78) (v := 2) rfl ?_
            refine g_icmpB X d8_78 (Or.inr (Or.inl rfl)) (q := 81) rfl (by decide) (t := 106) rfl (fun (c6 : (2 : Int32) < (2 : Int32)) => ?_) (fun (c6 : ¬ ((2 : Int32) < (2 : Int32))) => ?_)
            · skip
              exact absurd c6 (by decide)
            · skip
              exact g_ret0 X d8_106 (by decide) (by decide) ⟨(y1 &&& (9223372036854775807 : Int64)), ((ub - ((y0.toUInt64 >>> ((63 : Int32) &&& 0x3f).toInt64.toUInt64).toInt64)) - ((y1.toUInt64 >>> ((63 : Int32) &&& 0x3f).toInt64.toUInt64).toInt64)), ui, un, (0 : Int32), (0 : Int32), rfl, K, O_a1, hS2⟩
        · skip
          exact absurd d1 c4
      · skip
        exact absurd c3 (by decide)
    · skip
      exact absurd d0 c2
  · skip
    exact absurd c1 (by decide)
theorem pn5_0_2_1 : plainName "com/example/teddington/teddington/WindowCounts" = true := by first | (simp [plainName, overriddenIn]; done) | decide +kernel
theorem ef5_0_2_1 (m : MethodId) (x0 : Addr) (x1 : Int32) : entryFrame m #[(.ref x0), (.int x1)] 2 = mkF m 0 #[.val (.ref x0), .val (.int x1)] [] := by first | (simp [entryFrame, mkF, argsToLocals, Value.category]; done) | rfl
set_option maxRecDepth 65536 in
set_option maxHeartbeats 40000000 in
theorem rm5_0_2_1 (l : Launch) (Z : State) (a0 : Array Value) (hw : ∀ d ∈ tables_1, d.before a0 Z = true) (ws : List Jvm.Cond) (a1 : Addr) (uc : Int64) (ui : Addr) (un : Addr) (us : Int32) (ut : Int64) (ub : Int64) (G : Nat → Int64) (h0 : Heap) (n0 : Nat) (Z0 : n0 ≤ h0.size) (O_a1 : O_WindowCounts Z h0 a1 (.ref ui) (.ref un) (.long uc) (.int us) (.int (0 : Int32)) (.long ut) (.long ub)) (A_ui : AJ Z h0 ui 2 G) :
    Met l Z (⟨"com/example/teddington/teddington/WindowCounts", "index", "(I)J"⟩ : MethodName) prog_47_method_7_code 2 (some .long) ({ frames := 1, cells := 0, slots := 0, locals := 14 } : Room) ws n0 #[(.ref a1), (.int (1 : Int32))] h0 (fun v h' => v = some (.long (G 1)) ∧ h0 = h') := by
  refine Met.intro (plainFor_of_name pn5_0_2_1) Z0 ?_
  intro p e s m below meth c T X
  refine g_cast (ef5_0_2_1 m a1 (1 : Int32)) ?_
  refine g_aloadN X d5_0 rfl (q := 1) rfl rfl ?_
  refine g_getF X (tw11 hw) Via.refl O_a1.2.1 d5_1 (q := 4) rfl (fun T X => ?_)
  refine g_aloadN X d5_4 rfl (q := 5) rfl rfl ?_
  refine g_iloadN X d5_5 rfl (q := 6) rfl ?_
  refine g_callP X O_a1.1 [(.int (1 : Int32))] [(.ref ui)] (tw24 hw) (own_selP (tw2 hw) (tw25 hw) (tw26 hw) (by decide)) (tw25 hw) (tw26 hw) (tw3 hw) (tw27 hw) (by decide) (rm4_0_2_1 l Z a0 hw [] a1 uc ui un us ut ub G _ n0 X.size O_a1 A_ui) pd1 rfl rfl rfl d5_6 (q := 9) rfl (W := 1) rfl (by decide) (by decide) (c2 := 0) (s2 := 0) rfl rfl (by decide) (by decide) (fun v T h' X hQ => ?_)
  obtain ⟨rfl, rfl⟩ := hQ
  show Goes p e below s _ n0 _ (T.setTop (mkF m 9 #[.val (.ref a1), .val (.int (1 : Int32))] [(.int (1 : Int32)), (.ref ui)]))
  refine g_laload X A_ui ⟨by decide, by decide⟩ d5_9 (q := 10) rfl ?_
  exact g_retJ X d5_10 (by decide) (by decide) ⟨rfl, rfl⟩
theorem pn6_0_2_1 : plainName "com/example/teddington/teddington/WindowCounts" = true := by first | (simp [plainName, overriddenIn]; done) | decide +kernel
theorem ef6_0_2_1 (m : MethodId) (x0 : Addr) (x1 : Int32) : entryFrame m #[(.ref x0), (.int x1)] 2 = mkF m 0 #[.val (.ref x0), .val (.int x1)] [] := by first | (simp [entryFrame, mkF, argsToLocals, Value.category]; done) | rfl
set_option maxRecDepth 65536 in
set_option maxHeartbeats 40000000 in
theorem rm6_0_2_1 (l : Launch) (Z : State) (a0 : Array Value) (hw : ∀ d ∈ tables_1, d.before a0 Z = true) (ws : List Jvm.Cond) (a1 : Addr) (uc : Int64) (ui : Addr) (un : Addr) (us : Int32) (ut : Int64) (ub : Int64) (G : Nat → Int64) (H : Nat → Int64) (h0 : Heap) (n0 : Nat) (Z0 : n0 ≤ h0.size) (O_a1 : O_WindowCounts Z h0 a1 (.ref ui) (.ref un) (.long uc) (.int us) (.int (0 : Int32)) (.long ut) (.long ub)) (A_ui : AJ Z h0 ui 2 G) (A_un : AJ Z h0 un 2 H) :
    Met l Z (⟨"com/example/teddington/teddington/WindowCounts", "count", "(I)J"⟩ : MethodName) prog_47_method_8_code 2 (some .long) ({ frames := 1, cells := 0, slots := 0, locals := 14 } : Room) ws n0 #[(.ref a1), (.int (1 : Int32))] h0 (fun v h' => v = some (.long (H 1)) ∧ h0 = h') := by
  refine Met.intro (plainFor_of_name pn6_0_2_1) Z0 ?_
  intro p e s m below meth c T X
  refine g_cast (ef6_0_2_1 m a1 (1 : Int32)) ?_
  refine g_aloadN X d6_0 rfl (q := 1) rfl rfl ?_
  refine g_getF X (tw13 hw) Via.refl O_a1.2.2.1 d6_1 (q := 4) rfl (fun T X => ?_)
  refine g_aloadN X d6_4 rfl (q := 5) rfl rfl ?_
  refine g_iloadN X d6_5 rfl (q := 6) rfl ?_
  refine g_callP X O_a1.1 [(.int (1 : Int32))] [(.ref un)] (tw24 hw) (own_selP (tw2 hw) (tw25 hw) (tw26 hw) (by decide)) (tw25 hw) (tw26 hw) (tw3 hw) (tw27 hw) (by decide) (rm4_0_2_1 l Z a0 hw [] a1 uc ui un us ut ub G _ n0 X.size O_a1 A_ui) pd1 rfl rfl rfl d6_6 (q := 9) rfl (W := 1) rfl (by decide) (by decide) (c2 := 0) (s2 := 0) rfl rfl (by decide) (by decide) (fun v T h' X hQ => ?_)
  obtain ⟨rfl, rfl⟩ := hQ
  show Goes p e below s _ n0 _ (T.setTop (mkF m 9 #[.val (.ref a1), .val (.int (1 : Int32))] [(.int (1 : Int32)), (.ref un)]))
  refine g_laload X A_un ⟨by decide, by decide⟩ d6_9 (q := 10) rfl ?_
  exact g_retJ X d6_10 (by decide) (by decide) ⟨rfl, rfl⟩
theorem pn3_2_2_e : plainName "com/example/teddington/teddington/WindowCounts" = true := by first | (simp [plainName, overriddenIn]; done) | decide +kernel
theorem ef3_2_2_e (m : MethodId) (x0 : Addr) (x1 : Int64) (x2 : Int64) : entryFrame m #[(.ref x0), (.long x1), (.long x2)] 9 = mkF m 0 #[.val (.ref x0), .val (.long x1), .second, .val (.long x2), .second, .unset, .unset, .unset, .unset] [] := by first | (simp [entryFrame, mkF, argsToLocals, Value.category]; done) | rfl
set_option maxRecDepth 65536 in
set_option maxHeartbeats 40000000 in
theorem rm3_2_2_e (l : Launch) (Z : State) (a0 : Array Value) (hw : ∀ d ∈ tables_1, d.before a0 Z = true) (ws : List Jvm.Cond) (a1 : Addr) (q2 : Int64) (q3 : Int64) (uc : Int64) (ui : Addr) (un : Addr) (ut : Int64) (ub : Int64) (G : Nat → Int64) (H : Nat → Int64) (S : Int) (k : Nat) (h0 : Heap) (n0 : Nat) (Z0 : n0 ≤ h0.size) (O_a1 : O_WindowCounts Z h0 a1 (.ref ui) (.ref un) (.long uc) (.int (2 : Int32)) (.int (0 : Int32)) (.long ut) (.long ub)) (A_ui : AJ Z h0 ui 2 G) (A_un : AJ Z h0 un 2 H) (g_a1 : n0 ≤ a1) (g_ui : n0 ≤ ui) (g_un : n0 ≤ un) (ne_a1_ui : Apart a1 ui) (ne_a1_un : Apart a1 un) (ne_ui_a1 : Apart ui a1) (ne_ui_un : Apart ui un) (ne_un_a1 : Apart un a1) (ne_un_ui : Apart un ui) (k1 : ¬ (q3 < (0 : Int64))) (k2 : q2 = (G 1)) (k3 : ¬ (q2 < (G 1))) (k4 : 0 ≤ (H 1).toInt) (hS : OKT ut ub S k) (hk : k ≤ 100) :
    Met l Z (⟨"com/example/teddington/teddington/WindowCounts", "add", "(JJ)V"⟩ : MethodName) prog_47_method_12_code 9 none ({ frames := 2, cells := 0, slots := 0, locals := 29 } : Room) ws n0 #[(.ref a1), (.long q2), (.long q3)] h0 (fun v h' => ∃ t1 : Int64, ∃ b1 : Int64, v = none ∧ Keep h0 h' [a1, un] ∧ O_WindowCounts Z h' a1 (.ref ui) (.ref un) (.long uc) (.int (2 : Int32)) (.int (0 : Int32)) (.long t1) (.long b1) ∧ AJ Z h' un 2 (own_up H 1 (sm (H 1) q3)) ∧ OKT t1 b1 (S + ((sm (H 1) q3).toInt - (H 1).toInt)) (k + 1)) := by
  refine Met.intro (plainFor_of_name pn3_2_2_e) Z0 ?_
  intro p e s m below meth c T X
  refine g_cast (ef3_2_2_e m a1 q2 q3) ?_
  have b_q3 : (0 : Int) ≤ q3.toInt ∧ q3.toInt ≤ 9223372036854775807 := by (try simp only [Int64.lt_iff_toInt_lt, Int32.lt_iff_toInt_lt, Int64.le_iff_toInt_le, Int32.le_iff_toInt_le, ← Int64.toInt_inj, ← Int32.toInt_inj, apply_ite Int64.toInt, apply_ite Int32.toInt, Int64.reduceToInt, Int32.reduceToInt, ne_eq] at k1); have z1 := rng64 q3; omega
  have K : Keep h0 h0 [a1, un] := Keep.refl h0 _
  refine g_lloadN X d3_0 rfl (q := 1) rfl ?_
  refine g_lconst X d3_1 rfl (q := 2) (v := 0) rfl ?_
  refine g_lcmpA X d3_2 (q1 := 3) rfl d3_3 (Or.inl rfl) (q := 6) rfl (by decide) (t := 28) rfl (fun (c1 : q3 < (0 : Int64)) => ?_) (fun (c1 : ¬ (q3 < (0 : Int64))) => ?_)
  · skip
    exact absurd c1 k1
  · skip
    refine g_aloadN X d3_6 rfl (q := 7) rfl rfl ?_
    refine g_getF X (tw22 hw) Via.refl O_a1.2.2.2.2.1 d3_7 (q := 10) rfl (fun T X => ?_)
    refine g_ifB X d3_10 (Or.inr (Or.inl rfl)) (q := 13) rfl (by decide) (t := 43) rfl (fun (c2 : (0 : Int32) < (2 : Int32)) => ?_) (fun (c2 : ¬ ((0 : Int32) < (2 : Int32))) => ?_)
    · skip
      refine g_lloadN X d3_13 rfl (q := 14) rfl ?_
      refine g_aloadN X d3_14 rfl (q := 15) rfl rfl ?_
      refine g_aloadN X d3_15 rfl (q := 16) rfl rfl ?_
      refine g_getF X (tw22 hw) Via.refl O_a1.2.2.2.2.1 d3_16 (q := 19) rfl (fun T X => ?_)
      refine g_iconst X d3_19 rfl (q := 20) (v := 1) rfl ?_
      refine g_isub X d3_20 rfl (q := 21) ?_
      refine g_eqI (y := (1 : Int32)) (by decide) ?_
      refine g_callV X O_a1.1 [(.int (1 : Int32))] [(.long q2)] (tw35 hw) (tw36 hw) (tw38 hw) (tw37 hw) (tw3 hw) (tw39 hw) (by decide) (rm5_0_2_1 l Z a0 hw [] a1 uc ui un (2 : Int32) ut ub G _ n0 X.size O_a1 A_ui) pd3 rfl rfl rfl d3_21 (q := 24) rfl (W := 2) rfl (by decide) (by decide) (c2 := 0) (s2 := 0) rfl rfl (by decide) (by decide) (fun v T h' X hQ => ?_)
      obtain ⟨rfl, rfl⟩ := hQ
      show Goes p e below s _ n0 _ (T.setTop (mkF m 24 #[.val (.ref a1), .val (.long q2), .second, .val (.long q3), .second, .unset, .unset, .unset, .unset] [(.long (G 1)), (.long q2)]))
      refine g_lcmpB X d3_24 (q1 := 25) rfl d3_25 (Or.inl rfl) (q := 28) rfl (by decide) (t := 43) rfl (fun (c3 : q2 < (G 1)) => ?_) (fun (c3 : ¬ (q2 < (G 1))) => ?_)
      · skip
        exact absurd c3 k3
      · skip
        refine g_lloadN X d3_43 rfl (q := 44) rfl ?_
        refine g_lstore X d3_44 rfl (q := 46) (L' := #[.val (.ref a1), .val (.long q2), .second, .val (.long q3), .second, .val (.long q3), .second, .unset, .unset]) rfl ?_
        refine g_aloadN X d3_46 rfl (q := 47) rfl rfl ?_
        refine g_getF X (tw22 hw) Via.refl O_a1.2.2.2.2.1 d3_47 (q := 50) rfl (fun T X => ?_)
        refine g_ifB X d3_50 (Or.inr (Or.inl rfl)) (q := 53) rfl (by decide) (t := 119) rfl (fun (c4 : (0 : Int32) < (2 : Int32)) => ?_) (fun (c4 : ¬ ((0 : Int32) < (2 : Int32))) => ?_)
        · skip
          refine g_lloadN X d3_53 rfl (q := 54) rfl ?_
          refine g_aloadN X d3_54 rfl (q := 55) rfl rfl ?_
          refine g_aloadN X d3_55 rfl (q := 56) rfl rfl ?_
          refine g_getF X (tw22 hw) Via.refl O_a1.2.2.2.2.1 d3_56 (q := 59) rfl (fun T X => ?_)
          refine g_iconst X d3_59 rfl (q := 60) (v := 1) rfl ?_
          refine g_isub X d3_60 rfl (q := 61) ?_
          refine g_eqI (y := (1 : Int32)) (by decide) ?_
          refine g_callV X O_a1.1 [(.int (1 : Int32))] [(.long q2)] (tw35 hw) (tw36 hw) (tw38 hw) (tw37 hw) (tw3 hw) (tw39 hw) (by decide) (rm5_0_2_1 l Z a0 hw [] a1 uc ui un (2 : Int32) ut ub G _ n0 X.size O_a1 A_ui) pd3 rfl rfl rfl d3_61 (q := 64) rfl (W := 2) rfl (by decide) (by decide) (c2 := 0) (s2 := 0) rfl rfl (by decide) (by decide) (fun v T h' X hQ => ?_)
          obtain ⟨rfl, rfl⟩ := hQ
          show Goes p e below s _ n0 _ (T.setTop (mkF m 64 #[.val (.ref a1), .val (.long q2), .second, .val (.long q3), .second, .val (.long q3), .second, .unset, .unset] [(.long (G 1)), (.long q2)]))
          refine g_lcmpB X d3_64 (q1 := 65) rfl d3_65 (Or.inr (Or.inr rfl)) (q := 68) rfl (by decide) (t := 119) rfl (fun (c5 : q2 = (G 1)) => ?_) (fun (c5 : ¬ (q2 = (G 1))) => ?_)
          · skip
            refine g_aloadN X d3_68 rfl (q := 69) rfl rfl ?_
            refine g_aloadN X d3_69 rfl (q := 70) rfl rfl ?_
            refine g_getF X (tw22 hw) Via.refl O_a1.2.2.2.2.1 d3_70 (q := 73) rfl (fun T X => ?_)
            refine g_iconst X d3_73 rfl (q := 74) (v := 1) rfl ?_
            refine g_isub X d3_74 rfl (q := 75) ?_
            refine g_eqI (y := (1 : Int32)) (by decide) ?_
            refine g_callV X O_a1.1 [(.int (1 : Int32))] [] (tw40 hw) (tw41 hw) (tw43 hw) (tw42 hw) (tw3 hw) (tw44 hw) (by decide) (rm6_0_2_1 l Z a0 hw [] a1 uc ui un (2 : Int32) ut ub G H _ n0 X.size O_a1 A_ui A_un) pd3 rfl rfl rfl d3_75 (q := 78) rfl (W := 0) rfl (by decide) (by decide) (c2 := 0) (s2 := 0) rfl rfl (by decide) (by decide) (fun v T h' X hQ => ?_)
            obtain ⟨rfl, rfl⟩ := hQ
            show Goes p e below s _ n0 _ (T.setTop (mkF m 78 #[.val (.ref a1), .val (.long q2), .second, .val (.long q3), .second, .val (.long q3), .second, .unset, .unset] [(.long (H 1))]))
            refine g_lstore X d3_78 rfl (q := 80) (L' := #[.val (.ref a1), .val (.long q2), .second, .val (.long q3), .second, .val (.long q3), .second, .val (.long (H 1)), .second]) rfl ?_
            refine g_aloadN X d3_80 rfl (q := 81) rfl rfl ?_
            refine g_getF X (tw13 hw) Via.refl O_a1.2.2.1 d3_81 (q := 84) rfl (fun T X => ?_)
            refine g_aloadN X d3_84 rfl (q := 85) rfl rfl ?_
            refine g_aloadN X d3_85 rfl (q := 86) rfl rfl ?_
            refine g_getF X (tw22 hw) Via.refl O_a1.2.2.2.2.1 d3_86 (q := 89) rfl (fun T X => ?_)
            refine g_iconst X d3_89 rfl (q := 90) (v := 1) rfl ?_
            refine g_isub X d3_90 rfl (q := 91) ?_
            refine g_eqI (y := (1 : Int32)) (by decide) ?_
            refine g_callP X O_a1.1 [(.int (1 : Int32))] [(.ref un)] (tw24 hw) (own_selP (tw2 hw) (tw25 hw) (tw26 hw) (by decide)) (tw25 hw) (tw26 hw) (tw3 hw) (tw27 hw) (by decide) (rm4_0_2_1 l Z a0 hw [] a1 uc ui un (2 : Int32) ut ub G _ n0 X.size O_a1 A_ui) pd1 rfl rfl rfl d3_91 (q := 94) rfl (W := 1) rfl (by decide) (by decide) (c2 := 0) (s2 := 0) rfl rfl (by decide) (by decide) (fun v T h' X hQ => ?_)
            obtain ⟨rfl, rfl⟩ := hQ
            show Goes p e below s _ n0 _ (T.setTop (mkF m 94 #[.val (.ref a1), .val (.long q2), .second, .val (.long q3), .second, .val (.long q3), .second, .val (.long (H 1)), .second] [(.int (1 : Int32)), (.ref un)]))
            refine g_lload X d3_94 rfl (q := 96) rfl ?_
            refine g_lloadN X d3_96 rfl (q := 97) rfl ?_
            refine g_callS X [(.long (H 1)), (.long q3)] [(.int (1 : Int32)), (.ref un)] (tw45 hw) (tw46 hw) (tw3 hw) (tw47 hw) (by decide) (rm7 l Z a0 hw [] (H 1) q3 _ n0 X.size) pd4 rfl rfl rfl d3_97 (q := 100) rfl (W := 2) rfl (by decide) (by decide) (c2 := 0) (s2 := 0) rfl rfl (by decide) (by decide) (fun v T h' X hQ => ?_)
            obtain ⟨rfl, rfl⟩ := hQ
            show Goes p e below s _ n0 _ (T.setTop (mkF m 100 #[.val (.ref a1), .val (.long q2), .second, .val (.long q3), .second, .val (.long q3), .second, .val (.long (H 1)), .second] [(.long (sm (H 1) q3)), (.int (1 : Int32)), (.ref un)]))
            refine g_lastore X A_un ⟨by decide, by decide⟩ g_un d3_100 (q := 101) rfl (fun T h X W => ?_)
            have O_a1 := O_a1.other W ne_a1_un
            have A_ui := A_ui.other W ne_ui_un
            have A_un : AJ Z h un 2 (own_up H 1 (sm (H 1) q3)) := A_un.set W
            have K := K.wr W (Or.inl (List.mem_of_getElem? (i := 1) rfl))
            refine g_aloadN X d3_101 rfl (q := 102) rfl rfl ?_
            refine g_aloadN X d3_102 rfl (q := 103) rfl rfl ?_
            refine g_getF X (tw22 hw) Via.refl O_a1.2.2.2.2.1 d3_103 (q := 106) rfl (fun T X => ?_)
            refine g_iconst X d3_106 rfl (q := 107) (v := 1) rfl ?_
            refine g_isub X d3_107 rfl (q := 108) ?_
            refine g_eqI (y := (1 : Int32)) (by decide) ?_
            refine g_callV X O_a1.1 [(.int (1 : Int32))] [] (tw40 hw) (tw41 hw) (tw43 hw) (tw42 hw) (tw3 hw) (tw44 hw) (by decide) (rm6_0_2_1 l Z a0 hw [] a1 uc ui un (2 : Int32) ut ub G (own_up H 1 (sm (H 1) q3)) _ n0 X.size O_a1 A_ui A_un) pd3 rfl rfl rfl d3_108 (q := 111) rfl (W := 0) rfl (by decide) (by decide) (c2 := 0) (s2 := 0) rfl rfl (by decide) (by decide) (fun v T h' X hQ => ?_)
            obtain ⟨rfl, rfl⟩ := hQ
            show Goes p e below s _ n0 _ (T.setTop (mkF m 111 #[.val (.ref a1), .val (.long q2), .second, .val (.long q3), .second, .val (.long q3), .second, .val (.long (H 1)), .second] [(.long ((own_up H 1 (sm (H 1) q3)) 1))]))
            refine g_lload X d3_111 rfl (q := 113) rfl ?_
            refine g_lsub X d3_113 rfl (q := 114) ?_
            refine g_lstore X d3_114 rfl (q := 116) (L' := #[.val (.ref a1), .val (.long q2), .second, .val (.long q3), .second, .val (.long (((own_up H 1 (sm (H 1) q3)) 1) - (H 1))), .second, .val (.long (H 1)), .second]) rfl ?_
            refine g_goto X d3_116 (by decide) (q := 179) rfl ?_
            refine g_aloadN X d3_179 rfl (q := 180) rfl rfl ?_
            refine g_getF X (tw30 hw) Via.refl O_a1.2.2.2.2.2.2.1 d3_180 (q := 183) rfl (fun T X => ?_)
            refine g_lload X d3_183 rfl (q := 185) rfl ?_
            refine g_ladd X d3_185 rfl (q := 186) ?_
            refine g_letJ (fun ys hys => ?_)
            refine g_lstore X d3_186 rfl (q := 188) (L' := #[.val (.ref a1), .val (.long q2), .second, .val (.long q3), .second, .val (.long (((own_up H 1 (sm (H 1) q3)) 1) - (H 1))), .second, .val (.long ys), .second]) rfl ?_
            refine g_aloadN X d3_188 rfl (q := 189) rfl rfl ?_
            refine g_dup X d3_189 rfl (q := 190) rfl ?_
            refine g_getF X (tw32 hw) Via.refl O_a1.2.2.2.2.2.2.2 d3_190 (q := 193) rfl (fun T X => ?_)
            refine g_lload X d3_193 rfl (q := 195) rfl ?_
            refine g_bipush X d3_195 rfl (q := 197) (v := 63) rfl ?_
            refine g_lushr X d3_197 rfl (q := 198) ?_
            refine g_ladd X d3_198 rfl (q := 199) ?_
            refine g_putF X (tw32 hw) Via.refl O_a1.2.2.2.2.2.2.2 O_a1.1 (Or.inl (tw33 hw)) (tw2 hw) (ty := .long) (by decide) rfl rfl g_a1 d3_199 (q := 202) rfl (fun T h X W => ?_)
            have A_ui := A_ui.other W ne_ui_a1
            have A_un := A_un.other W ne_un_a1
            have O_a1 := O_WindowCounts.set6 hw W O_a1
            have K := K.wr W (Or.inl (List.mem_of_getElem? (i := 0) rfl))
            refine g_aloadN X d3_202 rfl (q := 203) rfl rfl ?_
            refine g_lload X d3_203 rfl (q := 205) rfl ?_
            refine g_ldc2 X (tw34 hw) d3_205 (q := 208) rfl ?_
            refine g_land X d3_208 rfl (q := 209) ?_
            refine g_putF X (tw30 hw) Via.refl O_a1.2.2.2.2.2.2.1 O_a1.1 (Or.inl (tw31 hw)) (tw2 hw) (ty := .long) (by decide) rfl rfl g_a1 d3_209 (q := 212) rfl (fun T h X W => ?_)
            have A_ui := A_ui.other W ne_ui_a1
            have A_un := A_un.other W ne_un_a1
            have O_a1 := O_WindowCounts.set5 hw W O_a1
            have K := K.wr W (Or.inl (List.mem_of_getElem? (i := 0) rfl))
            exact g_ret0 X d3_212 (by decide) (by decide) ⟨(ys &&& (9223372036854775807 : Int64)), (ub + ((ys.toUInt64 >>> ((63 : Int32) &&& 0x3f).toInt64.toUInt64).toInt64)), rfl, K, O_a1, A_un, own_addE hS hk k4 (own_jnn k1) (show ys = ut + (sm (H 1) q3 - (H 1)) from hys)⟩
          · skip
            exact absurd k2 c5
        · skip
          exact absurd c4 (by decide)
    · skip
      exact absurd c2 (by decide)
theorem pn12_0_2_2_4 : plainName "com/example/teddington/teddington/WindowCounts" = true := by first | (simp [plainName, overriddenIn]; done) | decide +kernel
theorem ef12_0_2_2_4 (m : MethodId) (x0 : Addr) (x1 : Int32) : entryFrame m #[(.ref x0), (.int x1)] 5 = mkF m 0 #[.val (.ref x0), .val (.int x1), .unset, .unset, .unset] [] := by first | (simp [entryFrame, mkF, argsToLocals, Value.category]; done) | rfl
set_option maxRecDepth 65536 in
set_option maxHeartbeats 40000000 in
theorem rm12_0_2_2_4 (l : Launch) (Z : State) (a0 : Array Value) (hw : ∀ d ∈ tables_1, d.before a0 Z = true) (ws : List Jvm.Cond) (a1 : Addr) (uc : Int64) (ui : Addr) (un : Addr) (ut : Int64) (ub : Int64) (G : Nat → Int64) (H : Nat → Int64) (h0 : Heap) (n0 : Nat) (Z0 : n0 ≤ h0.size) (O_a1 : O_WindowCounts Z h0 a1 (.ref ui) (.ref un) (.long uc) (.int (2 : Int32)) (.int (0 : Int32)) (.long ut) (.long ub)) (A_ui : AJ Z h0 ui 2 G) (A_un : AJ Z h0 un 2 H) (g_a1 : n0 ≤ a1) (ne_a1_ui : Apart a1 ui) (ne_a1_un : Apart a1 un) (ne_ui_a1 : Apart ui a1) (ne_ui_un : Apart ui un) (ne_un_a1 : Apart un a1) (ne_un_ui : Apart un ui) :
    Met l Z (⟨"com/example/teddington/teddington/WindowCounts", "resize", "(I)V"⟩ : MethodName) prog_47_method_16_code 5 none ({ frames := 2, cells := 2, slots := 8, locals := 29 } : Room) ws n0 #[(.ref a1), (.int (4 : Int32))] h0 (fun v h' => ∃ i1 : Addr, ∃ n1 : Addr, v = none ∧ Keep h0 h' [a1] ∧ O_WindowCounts Z h' a1 (.ref i1) (.ref n1) (.long uc) (.int (2 : Int32)) (.int (0 : Int32)) (.long ut) (.long ub) ∧ AJ Z h' i1 4 (own_up (own_up (fun _ => 0) 0 (G 0)) 1 (G 1)) ∧ AJ Z h' n1 4 (own_up (own_up (fun _ => 0) 0 (H 0)) 1 (H 1)) ∧ h0.size ≤ i1 ∧ h0.size ≤ n1 ∧ n0 ≤ i1 ∧ n0 ≤ n1 ∧ Apart i1 n1 ∧ Apart n1 i1) := by
  refine Met.intro (plainFor_of_name pn12_0_2_2_4) Z0 ?_
  intro p e s m below meth c T X
  refine g_cast (ef12_0_2_2_4 m a1 (4 : Int32)) ?_
  have K : Keep h0 h0 [a1] := Keep.refl h0 _
  refine g_iloadN X d12_0 rfl (q := 1) rfl ?_
  refine g_newarrJ X (tw10 hw) d12_1 (q := 3) rfl (by decide) (cap := 4) (by decide) (by decide) (c2 := 1) (s2 := 4) rfl rfl (by decide) (by decide) (fun T h' b7 X gz_b7 g_b7 E A_new => ?_)
  have ne_a1_b7 := own_new gz_b7 O_a1.1.lt
  have ne_b7_a1 := own_apS ne_a1_b7
  have ne_ui_b7 := own_new gz_b7 A_ui.lt
  have ne_b7_ui := own_apS ne_ui_b7
  have ne_un_b7 := own_new gz_b7 A_un.lt
  have ne_b7_un := own_apS ne_un_b7
  have sz_b7 := own_sz gz_b7 K
  have K := K.ext E
  have O_a1 := O_a1.ext E
  have A_ui := A_ui.ext E
  have A_un := A_un.ext E
  have A_b7 : AJ Z h' b7 4 (fun _ => 0) := A_new
  refine g_astoreN X d12_3 rfl (q := 4) (L' := #[.val (.ref a1), .val (.int (4 : Int32)), .val (.ref b7), .unset, .unset]) rfl rfl ?_
  refine g_iloadN X d12_4 rfl (q := 5) rfl ?_
  refine g_newarrJ X (tw10 hw) d12_5 (q := 7) rfl (by decide) (cap := 4) (by decide) (by decide) (c2 := 2) (s2 := 8) rfl rfl (by decide) (by decide) (fun T h' b8 X gz_b8 g_b8 E A_new => ?_)
  have ne_a1_b8 := own_new gz_b8 O_a1.1.lt
  have ne_b8_a1 := own_apS ne_a1_b8
  have ne_ui_b8 := own_new gz_b8 A_ui.lt
  have ne_b8_ui := own_apS ne_ui_b8
  have ne_un_b8 := own_new gz_b8 A_un.lt
  have ne_b8_un := own_apS ne_un_b8
  have ne_b7_b8 := own_new gz_b8 A_b7.lt
  have ne_b8_b7 := own_apS ne_b7_b8
  have sz_b8 := own_sz gz_b8 K
  have K := K.ext E
  have O_a1 := O_a1.ext E
  have A_ui := A_ui.ext E
  have A_un := A_un.ext E
  have A_b7 := A_b7.ext E
  have A_b8 : AJ Z h' b8 4 (fun _ => 0) := A_new
  refine g_astoreN X d12_7 rfl (q := 8) (L' := #[.val (.ref a1), .val (.int (4 : Int32)), .val (.ref b7), .val (.ref b8), .unset]) rfl rfl ?_
  refine g_iconst X d12_8 rfl (q := 9) (v := 0) rfl ?_
  refine g_istore X d12_9 rfl (q := 11) (L' := #[.val (.ref a1), .val (.int (4 : Int32)), .val (.ref b7), .val (.ref b8), .val (.int (0 : Int32))]) rfl ?_
  refine g_iload X d12_11 rfl (q := 13) rfl ?_
  refine g_aloadN X d12_13 rfl (q := 14) rfl rfl ?_
  refine g_getF X (tw22 hw) Via.refl O_a1.2.2.2.2.1 d12_14 (q := 17) rfl (fun T X => ?_)
  refine g_icmpB X d12_17 (Or.inl rfl) (q := 20) rfl (by decide) (t := 46) rfl (fun (c1 : (0 : Int32) < (2 : Int32)) => ?_) (fun (c1 : ¬ ((0 : Int32) < (2 : Int32))) => ?_)
  · skip
    refine g_aloadN X d12_20 rfl (q := 21) rfl rfl ?_
    refine g_iload X d12_21 rfl (q := 23) rfl ?_
    refine g_aloadN X d12_23 rfl (q := 24) rfl rfl ?_
    refine g_iload X d12_24 rfl (q := 26) rfl ?_
    refine g_callV X O_a1.1 [(.int (0 : Int32))] [(.int (0 : Int32)), (.ref b7)] (tw35 hw) (tw36 hw) (tw38 hw) (tw37 hw) (tw3 hw) (tw39 hw) (by decide) (rm5_0_2_0 l Z a0 hw [] a1 uc ui un (2 : Int32) ut ub G _ n0 X.size O_a1 A_ui) pd3 rfl rfl rfl d12_26 (q := 29) rfl (W := 2) rfl (by decide) (by decide) (c2 := 2) (s2 := 8) rfl rfl (by decide) (by decide) (fun v T h' X hQ => ?_)
    obtain ⟨rfl, rfl⟩ := hQ
    show Goes p e below s _ n0 _ (T.setTop (mkF m 29 #[.val (.ref a1), .val (.int (4 : Int32)), .val (.ref b7), .val (.ref b8), .val (.int (0 : Int32))] [(.long (G 0)), (.int (0 : Int32)), (.ref b7)]))
    refine g_lastore X A_b7 ⟨by decide, by decide⟩ g_b7 d12_29 (q := 30) rfl (fun T h X W => ?_)
    have O_a1 := O_a1.other W ne_a1_b7
    have A_ui := A_ui.other W ne_ui_b7
    have A_un := A_un.other W ne_un_b7
    have A_b8 := A_b8.other W ne_b8_b7
    have A_b7 : AJ Z h b7 4 (own_up (fun _ => 0) 0 (G 0)) := A_b7.set W
    have K := K.wr W (Or.inr sz_b7)
    refine g_aloadN X d12_30 rfl (q := 31) rfl rfl ?_
    refine g_iload X d12_31 rfl (q := 33) rfl ?_
    refine g_aloadN X d12_33 rfl (q := 34) rfl rfl ?_
    refine g_iload X d12_34 rfl (q := 36) rfl ?_
    refine g_callV X O_a1.1 [(.int (0 : Int32))] [(.int (0 : Int32)), (.ref b8)] (tw40 hw) (tw41 hw) (tw43 hw) (tw42 hw) (tw3 hw) (tw44 hw) (by decide) (rm6_0_2_0 l Z a0 hw [] a1 uc ui un (2 : Int32) ut ub G H _ n0 X.size O_a1 A_ui A_un) pd3 rfl rfl rfl d12_36 (q := 39) rfl (W := 2) rfl (by decide) (by decide) (c2 := 2) (s2 := 8) rfl rfl (by decide) (by decide) (fun v T h' X hQ => ?_)
    obtain ⟨rfl, rfl⟩ := hQ
    show Goes p e below s _ n0 _ (T.setTop (mkF m 39 #[.val (.ref a1), .val (.int (4 : Int32)), .val (.ref b7), .val (.ref b8), .val (.int (0 : Int32))] [(.long (H 0)), (.int (0 : Int32)), (.ref b8)]))
    refine g_lastore X A_b8 ⟨by decide, by decide⟩ g_b8 d12_39 (q := 40) rfl (fun T h X W => ?_)
    have O_a1 := O_a1.other W ne_a1_b8
    have A_ui := A_ui.other W ne_ui_b8
    have A_un := A_un.other W ne_un_b8
    have A_b7 := A_b7.other W ne_b7_b8
    have A_b8 : AJ Z h b8 4 (own_up (fun _ => 0) 0 (H 0)) := A_b8.set W
    have K := K.wr W (Or.inr sz_b8)
    refine g_iinc X d12_40 (q := 43) rfl rfl (d := 1) rfl (L' := #[.val (.ref a1), .val (.int (4 : Int32)), .val (.ref b7), .val (.ref b8), .val (.int (1 : Int32))]) rfl ?_
    refine g_goto X d12_43 (by decide) (q := 11) rfl ?_
    refine g_iload X d12_11 rfl (q := 13) rfl ?_
    refine g_aloadN X d12_13 rfl (q := 14) rfl rfl ?_
    refine g_getF X (tw22 hw) Via.refl O_a1.2.2.2.2.1 d12_14 (q := 17) rfl (fun T X => ?_)
    refine g_icmpB X d12_17 (Or.inl rfl) (q := 20) rfl (by decide) (t := 46) rfl (fun (c2 : (1 : Int32) < (2 : Int32)) => ?_) (fun (c2 : ¬ ((1 : Int32) < (2 : Int32))) => ?_)
    · skip
      refine g_aloadN X d12_20 rfl (q := 21) rfl rfl ?_
      refine g_iload X d12_21 rfl (q := 23) rfl ?_
      refine g_aloadN X d12_23 rfl (q := 24) rfl rfl ?_
      refine g_iload X d12_24 rfl (q := 26) rfl ?_
      refine g_callV X O_a1.1 [(.int (1 : Int32))] [(.int (1 : Int32)), (.ref b7)] (tw35 hw) (tw36 hw) (tw38 hw) (tw37 hw) (tw3 hw) (tw39 hw) (by decide) (rm5_0_2_1 l Z a0 hw [] a1 uc ui un (2 : Int32) ut ub G _ n0 X.size O_a1 A_ui) pd3 rfl rfl rfl d12_26 (q := 29) rfl (W := 2) rfl (by decide) (by decide) (c2 := 2) (s2 := 8) rfl rfl (by decide) (by decide) (fun v T h' X hQ => ?_)
      obtain ⟨rfl, rfl⟩ := hQ
      show Goes p e below s _ n0 _ (T.setTop (mkF m 29 #[.val (.ref a1), .val (.int (4 : Int32)), .val (.ref b7), .val (.ref b8), .val (.int (1 : Int32))] [(.long (G 1)), (.int (1 : Int32)), (.ref b7)]))
      refine g_lastore X A_b7 ⟨by decide, by decide⟩ g_b7 d12_29 (q := 30) rfl (fun T h X W => ?_)
      have O_a1 := O_a1.other W ne_a1_b7
      have A_ui := A_ui.other W ne_ui_b7
      have A_un := A_un.other W ne_un_b7
      have A_b8 := A_b8.other W ne_b8_b7
      have A_b7 : AJ Z h b7 4 (own_up (own_up (fun _ => 0) 0 (G 0)) 1 (G 1)) := A_b7.set W
      have K := K.wr W (Or.inr sz_b7)
      refine g_aloadN X d12_30 rfl (q := 31) rfl rfl ?_
      refine g_iload X d12_31 rfl (q := 33) rfl ?_
      refine g_aloadN X d12_33 rfl (q := 34) rfl rfl ?_
      refine g_iload X d12_34 rfl (q := 36) rfl ?_
      refine g_callV X O_a1.1 [(.int (1 : Int32))] [(.int (1 : Int32)), (.ref b8)] (tw40 hw) (tw41 hw) (tw43 hw) (tw42 hw) (tw3 hw) (tw44 hw) (by decide) (rm6_0_2_1 l Z a0 hw [] a1 uc ui un (2 : Int32) ut ub G H _ n0 X.size O_a1 A_ui A_un) pd3 rfl rfl rfl d12_36 (q := 39) rfl (W := 2) rfl (by decide) (by decide) (c2 := 2) (s2 := 8) rfl rfl (by decide) (by decide) (fun v T h' X hQ => ?_)
      obtain ⟨rfl, rfl⟩ := hQ
      show Goes p e below s _ n0 _ (T.setTop (mkF m 39 #[.val (.ref a1), .val (.int (4 : Int32)), .val (.ref b7), .val (.ref b8), .val (.int (1 : Int32))] [(.long (H 1)), (.int (1 : Int32)), (.ref b8)]))
      refine g_lastore X A_b8 ⟨by decide, by decide⟩ g_b8 d12_39 (q := 40) rfl (fun T h X W => ?_)
      have O_a1 := O_a1.other W ne_a1_b8
      have A_ui := A_ui.other W ne_ui_b8
      have A_un := A_un.other W ne_un_b8
      have A_b7 := A_b7.other W ne_b7_b8
      have A_b8 : AJ Z h b8 4 (own_up (own_up (fun _ => 0) 0 (H 0)) 1 (H 1)) := A_b8.set W
      have K := K.wr W (Or.inr sz_b8)
      refine g_iinc X d12_40 (q := 43) rfl rfl (d := 1) rfl (L' := #[.val (.ref a1), .val (.int (4 : Int32)), .val (.ref b7), .val (.ref b8), .val (.int (2 : Int32))]) rfl ?_
      refine g_goto X d12_43 (by decide) (q := 11) rfl ?_
      refine g_iload X d12_11 rfl (q := 13) rfl ?_
      refine g_aloadN X d12_13 rfl (q := 14) rfl rfl ?_
      refine g_getF X (tw22 hw) Via.refl O_a1.2.2.2.2.1 d12_14 (q := 17) rfl (fun T X => ?_)
      refine g_icmpB X d12_17 (Or.inl rfl) (q := 20) rfl (by decide) (t := 46) rfl (fun (c3 : (2 : Int32) < (2 : Int32)) => ?_) (fun (c3 : ¬ ((2 : Int32) < (2 : Int32))) => ?_)
      · skip
        exact absurd c3 (by decide)
      · skip
        refine g_aloadN X d12_46 rfl (q := 47) rfl rfl ?_
        refine g_aloadN X d12_47 rfl (q := 48) rfl rfl ?_
        refine g_putF X (tw11 hw) Via.refl O_a1.2.1 O_a1.1 (Or.inl (tw12 hw)) (tw2 hw) (ty := (.array .long)) (by decide) rfl rfl g_a1 d12_48 (q := 51) rfl (fun T h X W => ?_)
        have A_ui := A_ui.other W ne_ui_a1
        have A_un := A_un.other W ne_un_a1
        have A_b7 := A_b7.other W ne_b7_a1
        have A_b8 := A_b8.other W ne_b8_a1
        have O_a1 := O_WindowCounts.set0 hw W O_a1
        have K := K.wr W (Or.inl (List.mem_of_getElem? (i := 0) rfl))
        refine g_aloadN X d12_51 rfl (q := 52) rfl rfl ?_
        refine g_aloadN X d12_52 rfl (q := 53) rfl rfl ?_
        refine g_putF X (tw13 hw) Via.refl O_a1.2.2.1 O_a1.1 (Or.inl (tw14 hw)) (tw2 hw) (ty := (.array .long)) (by decide) rfl rfl g_a1 d12_53 (q := 56) rfl (fun T h X W => ?_)
        have A_ui := A_ui.other W ne_ui_a1
        have A_un := A_un.other W ne_un_a1
        have A_b7 := A_b7.other W ne_b7_a1
        have A_b8 := A_b8.other W ne_b8_a1
        have O_a1 := O_WindowCounts.set1 hw W O_a1
        have K := K.wr W (Or.inl (List.mem_of_getElem? (i := 0) rfl))
        refine g_aloadN X d12_56 rfl (q := 57) rfl rfl ?_
        refine g_iconst X d12_57 rfl (q := 58) (v := 0) rfl ?_
        refine g_putF X (tw28 hw) Via.refl O_a1.2.2.2.2.2.1 O_a1.1 (Or.inl (tw29 hw)) (tw2 hw) (ty := .int) (by decide) rfl rfl g_a1 d12_58 (q := 61) rfl (fun T h X W => ?_)
        have A_ui := A_ui.other W ne_ui_a1
        have A_un := A_un.other W ne_un_a1
        have A_b7 := A_b7.other W ne_b7_a1
        have A_b8 := A_b8.other W ne_b8_a1
        have O_a1 := O_WindowCounts.set4 hw W O_a1
        have K := K.wr W (Or.inl (List.mem_of_getElem? (i := 0) rfl))
        exact g_ret0 X d12_61 (by decide) (by decide) ⟨b7, b8, rfl, K, O_a1, A_b7, A_b8, sz_b7, sz_b8, g_b7, g_b8, ne_b7_b8, ne_b8_b7⟩
    · skip
      exact absurd c2 (by decide)
  · skip
    exact absurd c1 (by decide)
theorem pn4_0_4_2 : plainName "com/example/teddington/teddington/WindowCounts" = true := by first | (simp [plainName, overriddenIn]; done) | decide +kernel
theorem ef4_0_4_2 (m : MethodId) (x0 : Addr) (x1 : Int32) : entryFrame m #[(.ref x0), (.int x1)] 2 = mkF m 0 #[.val (.ref x0), .val (.int x1)] [] := by first | (simp [entryFrame, mkF, argsToLocals, Value.category]; done) | rfl
set_option maxRecDepth 65536 in
set_option maxHeartbeats 40000000 in
theorem rm4_0_4_2 (l : Launch) (Z : State) (a0 : Array Value) (hw : ∀ d ∈ tables_1, d.before a0 Z = true) (ws : List Jvm.Cond) (a1 : Addr) (uc : Int64) (ui : Addr) (un : Addr) (us : Int32) (ut : Int64) (ub : Int64) (G : Nat → Int64) (h0 : Heap) (n0 : Nat) (Z0 : n0 ≤ h0.size) (O_a1 : O_WindowCounts Z h0 a1 (.ref ui) (.ref un) (.long uc) (.int us) (.int (0 : Int32)) (.long ut) (.long ub)) (A_ui : AJ Z h0 ui 4 G) :
    Met l Z (⟨"com/example/teddington/teddington/WindowCounts", "at", "(I)I"⟩ : MethodName) prog_47_method_15_code 2 (some .int) ({ frames := 0, cells := 0, slots := 0, locals := 0 } : Room) ws n0 #[(.ref a1), (.int (2 : Int32))] h0 (fun v h' => v = some (.int (2 : Int32)) ∧ h0 = h') := by
  refine Met.intro (plainFor_of_name pn4_0_4_2) Z0 ?_
  intro p e s m below meth c T X
  refine g_cast (ef4_0_4_2 m a1 (2 : Int32)) ?_
  refine g_aloadN X d4_0 rfl (q := 1) rfl rfl ?_
  refine g_getF X (tw28 hw) Via.refl O_a1.2.2.2.2.2.1 d4_1 (q := 4) rfl (fun T X => ?_)
  refine g_iloadN X d4_4 rfl (q := 5) rfl ?_
  refine g_iadd X d4_5 rfl (q := 6) ?_
  refine g_eqI (y := (2 : Int32)) (by decide) ?_
  refine g_aloadN X d4_6 rfl (q := 7) rfl rfl ?_
  refine g_getF X (tw11 hw) Via.refl O_a1.2.1 d4_7 (q := 10) rfl (fun T X => ?_)
  refine g_alenJ X A_ui d4_10 (q := 11) rfl ?_
  show Goes p e below s _ n0 _ (T.setTop (mkF m 11 #[.val (.ref a1), .val (.int (2 : Int32))] [(.int (4 : Int32)), (.int (2 : Int32))]))
  refine g_iconst X d4_11 rfl (q := 12) (v := 1) rfl ?_
  refine g_isub X d4_12 rfl (q := 13) ?_
  refine g_eqI (y := (3 : Int32)) (by decide) ?_
  refine g_iand X d4_13 rfl (q := 14) ?_
  refine g_eqI (y := (2 : Int32)) (by decide) ?_
  exact g_retI X d4_14 (by decide) (by decide) ⟨rfl, rfl⟩
theorem pn3_2_2_g : plainName "com/example/teddington/teddington/WindowCounts" = true := by first | (simp [plainName, overriddenIn]; done) | decide +kernel
theorem ef3_2_2_g (m : MethodId) (x0 : Addr) (x1 : Int64) (x2 : Int64) : entryFrame m #[(.ref x0), (.long x1), (.long x2)] 9 = mkF m 0 #[.val (.ref x0), .val (.long x1), .second, .val (.long x2), .second, .unset, .unset, .unset, .unset] [] := by first | (simp [entryFrame, mkF, argsToLocals, Value.category]; done) | rfl
set_option maxRecDepth 65536 in
set_option maxHeartbeats 40000000 in
theorem rm3_2_2_g (l : Launch) (Z : State) (a0 : Array Value) (hw : ∀ d ∈ tables_1, d.before a0 Z = true) (ws : List Jvm.Cond) (a1 : Addr) (q2 : Int64) (q3 : Int64) (uc : Int64) (ui : Addr) (un : Addr) (ut : Int64) (ub : Int64) (G : Nat → Int64) (H : Nat → Int64) (S : Int) (k : Nat) (h0 : Heap) (n0 : Nat) (Z0 : n0 ≤ h0.size) (O_a1 : O_WindowCounts Z h0 a1 (.ref ui) (.ref un) (.long uc) (.int (2 : Int32)) (.int (0 : Int32)) (.long ut) (.long ub)) (A_ui : AJ Z h0 ui 2 G) (A_un : AJ Z h0 un 2 H) (g_a1 : n0 ≤ a1) (g_ui : n0 ≤ ui) (g_un : n0 ≤ un) (ne_a1_ui : Apart a1 ui) (ne_a1_un : Apart a1 un) (ne_ui_a1 : Apart ui a1) (ne_ui_un : Apart ui un) (ne_un_a1 : Apart un a1) (ne_un_ui : Apart un ui) (k1 : ¬ (q3 < (0 : Int64))) (k2 : ¬ (q2 = (G 1))) (k3 : ¬ (q2 < (G 1))) (hS : OKT ut ub S k) (hk : k ≤ 100) :
    Met l Z (⟨"com/example/teddington/teddington/WindowCounts", "add", "(JJ)V"⟩ : MethodName) prog_47_method_12_code 9 none ({ frames := 3, cells := 2, slots := 8, locals := 45 } : Room) ws n0 #[(.ref a1), (.long q2), (.long q3)] h0 (fun v h' => ∃ t1 : Int64, ∃ b1 : Int64, ∃ i1 : Addr, ∃ n1 : Addr, v = none ∧ Keep h0 h' [a1] ∧ O_WindowCounts Z h' a1 (.ref i1) (.ref n1) (.long uc) (.int (3 : Int32)) (.int (0 : Int32)) (.long t1) (.long b1) ∧ AJ Z h' i1 4 (own_up (own_up (own_up (fun _ => 0) 0 (G 0)) 1 (G 1)) 2 q2) ∧ AJ Z h' n1 4 (own_up (own_up (own_up (fun _ => 0) 0 (H 0)) 1 (H 1)) 2 q3) ∧ OKT t1 b1 (S + q3.toInt) (k + 1) ∧ h0.size ≤ i1 ∧ h0.size ≤ n1 ∧ n0 ≤ i1 ∧ n0 ≤ n1 ∧ Apart i1 n1 ∧ Apart n1 i1) := by
  refine Met.intro (plainFor_of_name pn3_2_2_g) Z0 ?_
  intro p e s m below meth c T X
  refine g_cast (ef3_2_2_g m a1 q2 q3) ?_
  have b_q3 : (0 : Int) ≤ q3.toInt ∧ q3.toInt ≤ 9223372036854775807 := by (try simp only [Int64.lt_iff_toInt_lt, Int32.lt_iff_toInt_lt, Int64.le_iff_toInt_le, Int32.le_iff_toInt_le, ← Int64.toInt_inj, ← Int32.toInt_inj, apply_ite Int64.toInt, apply_ite Int32.toInt, Int64.reduceToInt, Int32.reduceToInt, ne_eq] at k1); have z1 := rng64 q3; omega
  have K : Keep h0 h0 [a1] := Keep.refl h0 _
  refine g_lloadN X d3_0 rfl (q := 1) rfl ?_
  refine g_lconst X d3_1 rfl (q := 2) (v := 0) rfl ?_
  refine g_lcmpA X d3_2 (q1 := 3) rfl d3_3 (Or.inl rfl) (q := 6) rfl (by decide) (t := 28) rfl (fun (c1 : q3 < (0 : Int64)) => ?_) (fun (c1 : ¬ (q3 < (0 : Int64))) => ?_)
  · skip
    exact absurd c1 k1
  · skip
    refine g_aloadN X d3_6 rfl (q := 7) rfl rfl ?_
    refine g_getF X (tw22 hw) Via.refl O_a1.2.2.2.2.1 d3_7 (q := 10) rfl (fun T X => ?_)
    refine g_ifB X d3_10 (Or.inr (Or.inl rfl)) (q := 13) rfl (by decide) (t := 43) rfl (fun (c2 : (0 : Int32) < (2 : Int32)) => ?_) (fun (c2 : ¬ ((0 : Int32) < (2 : Int32))) => ?_)
    · skip
      refine g_lloadN X d3_13 rfl (q := 14) rfl ?_
      refine g_aloadN X d3_14 rfl (q := 15) rfl rfl ?_
      refine g_aloadN X d3_15 rfl (q := 16) rfl rfl ?_
      refine g_getF X (tw22 hw) Via.refl O_a1.2.2.2.2.1 d3_16 (q := 19) rfl (fun T X => ?_)
      refine g_iconst X d3_19 rfl (q := 20) (v := 1) rfl ?_
      refine g_isub X d3_20 rfl (q := 21) ?_
      refine g_eqI (y := (1 : Int32)) (by decide) ?_
      refine g_callV X O_a1.1 [(.int (1 : Int32))] [(.long q2)] (tw35 hw) (tw36 hw) (tw38 hw) (tw37 hw) (tw3 hw) (tw39 hw) (by decide) (rm5_0_2_1 l Z a0 hw [] a1 uc ui un (2 : Int32) ut ub G _ n0 X.size O_a1 A_ui) pd3 rfl rfl rfl d3_21 (q := 24) rfl (W := 2) rfl (by decide) (by decide) (c2 := 0) (s2 := 0) rfl rfl (by decide) (by decide) (fun v T h' X hQ => ?_)
      obtain ⟨rfl, rfl⟩ := hQ
      show Goes p e below s _ n0 _ (T.setTop (mkF m 24 #[.val (.ref a1), .val (.long q2), .second, .val (.long q3), .second, .unset, .unset, .unset, .unset] [(.long (G 1)), (.long q2)]))
      refine g_lcmpB X d3_24 (q1 := 25) rfl d3_25 (Or.inl rfl) (q := 28) rfl (by decide) (t := 43) rfl (fun (c3 : q2 < (G 1)) => ?_) (fun (c3 : ¬ (q2 < (G 1))) => ?_)
      · skip
        exact absurd c3 k3
      · skip
        refine g_lloadN X d3_43 rfl (q := 44) rfl ?_
        refine g_lstore X d3_44 rfl (q := 46) (L' := #[.val (.ref a1), .val (.long q2), .second, .val (.long q3), .second, .val (.long q3), .second, .unset, .unset]) rfl ?_
        refine g_aloadN X d3_46 rfl (q := 47) rfl rfl ?_
        refine g_getF X (tw22 hw) Via.refl O_a1.2.2.2.2.1 d3_47 (q := 50) rfl (fun T X => ?_)
        refine g_ifB X d3_50 (Or.inr (Or.inl rfl)) (q := 53) rfl (by decide) (t := 119) rfl (fun (c4 : (0 : Int32) < (2 : Int32)) => ?_) (fun (c4 : ¬ ((0 : Int32) < (2 : Int32))) => ?_)
        · skip
          refine g_lloadN X d3_53 rfl (q := 54) rfl ?_
          refine g_aloadN X d3_54 rfl (q := 55) rfl rfl ?_
          refine g_aloadN X d3_55 rfl (q := 56) rfl rfl ?_
          refine g_getF X (tw22 hw) Via.refl O_a1.2.2.2.2.1 d3_56 (q := 59) rfl (fun T X => ?_)
          refine g_iconst X d3_59 rfl (q := 60) (v := 1) rfl ?_
          refine g_isub X d3_60 rfl (q := 61) ?_
          refine g_eqI (y := (1 : Int32)) (by decide) ?_
          refine g_callV X O_a1.1 [(.int (1 : Int32))] [(.long q2)] (tw35 hw) (tw36 hw) (tw38 hw) (tw37 hw) (tw3 hw) (tw39 hw) (by decide) (rm5_0_2_1 l Z a0 hw [] a1 uc ui un (2 : Int32) ut ub G _ n0 X.size O_a1 A_ui) pd3 rfl rfl rfl d3_61 (q := 64) rfl (W := 2) rfl (by decide) (by decide) (c2 := 0) (s2 := 0) rfl rfl (by decide) (by decide) (fun v T h' X hQ => ?_)
          obtain ⟨rfl, rfl⟩ := hQ
          show Goes p e below s _ n0 _ (T.setTop (mkF m 64 #[.val (.ref a1), .val (.long q2), .second, .val (.long q3), .second, .val (.long q3), .second, .unset, .unset] [(.long (G 1)), (.long q2)]))
          refine g_lcmpB X d3_64 (q1 := 65) rfl d3_65 (Or.inr (Or.inr rfl)) (q := 68) rfl (by decide) (t := 119) rfl (fun (c5 : q2 = (G 1)) => ?_) (fun (c5 : ¬ (q2 = (G 1))) => ?_)
          · skip
            exact absurd c5 k2
          · skip
            refine g_aloadN X d3_119 rfl (q := 120) rfl rfl ?_
            refine g_getF X (tw22 hw) Via.refl O_a1.2.2.2.2.1 d3_120 (q := 123) rfl (fun T X => ?_)
            refine g_aloadN X d3_123 rfl (q := 124) rfl rfl ?_
            refine g_getF X (tw11 hw) Via.refl O_a1.2.1 d3_124 (q := 127) rfl (fun T X => ?_)
            refine g_alenJ X A_ui d3_127 (q := 128) rfl ?_
            show Goes p e below s _ n0 _ (T.setTop (mkF m 128 #[.val (.ref a1), .val (.long q2), .second, .val (.long q3), .second, .val (.long q3), .second, .unset, .unset] [(.int (2 : Int32)), (.int (2 : Int32))]))
            refine g_icmpB X d3_128 (Or.inr (Or.inr rfl)) (q := 131) rfl (by decide) (t := 141) rfl (fun (c6 : (2 : Int32) = (2 : Int32)) => ?_) (fun (c6 : ¬ ((2 : Int32) = (2 : Int32))) => ?_)
            · skip
              refine g_aloadN X d3_131 rfl (q := 132) rfl rfl ?_
              refine g_iconst X d3_132 rfl (q := 133) (v := 2) rfl ?_
              refine g_aloadN X d3_133 rfl (q := 134) rfl rfl ?_
              refine g_getF X (tw22 hw) Via.refl O_a1.2.2.2.2.1 d3_134 (q := 137) rfl (fun T X => ?_)
              refine g_imul X d3_137 rfl (q := 138) ?_
              refine g_eqI (y := (4 : Int32)) (by decide) ?_
              refine g_callP X O_a1.1 [(.int (4 : Int32))] [] (tw66 hw) (own_selP (tw2 hw) (tw67 hw) (tw68 hw) (by decide)) (tw67 hw) (tw68 hw) (tw3 hw) (tw69 hw) (by decide) (rm12_0_2_2_4 l Z a0 hw [] a1 uc ui un ut ub G H _ n0 X.size O_a1 A_ui A_un g_a1 ne_a1_ui ne_a1_un ne_ui_a1 ne_ui_un ne_un_a1 ne_un_ui) pd7 rfl rfl rfl d3_138 (q := 141) rfl (W := 0) rfl (by decide) (by decide) (c2 := 2) (s2 := 8) rfl rfl (by decide) (by decide) (fun v T h' X hQ => ?_)
              obtain ⟨i1_138, n1_138, rfl, Kc, O_a1', A_i1_138', A_n1_138', sq_i1_138, sq_n1_138, g_i1_138, g_n1_138, ne_i1_138_n1_138, ne_n1_138_i1_138⟩ := hQ
              have ne_a1_i1_138 := own_far O_a1.1.lt sq_i1_138
              have ne_i1_138_a1 := own_apS ne_a1_i1_138
              have ne_ui_i1_138 := own_far A_ui.lt sq_i1_138
              have ne_i1_138_ui := own_apS ne_ui_i1_138
              have ne_un_i1_138 := own_far A_un.lt sq_i1_138
              have ne_i1_138_un := own_apS ne_un_i1_138
              have sz_i1_138 := Nat.le_trans K.1 sq_i1_138
              have ne_a1_n1_138 := own_far O_a1.1.lt sq_n1_138
              have ne_n1_138_a1 := own_apS ne_a1_n1_138
              have ne_ui_n1_138 := own_far A_ui.lt sq_n1_138
              have ne_n1_138_ui := own_apS ne_ui_n1_138
              have ne_un_n1_138 := own_far A_un.lt sq_n1_138
              have ne_n1_138_un := own_apS ne_un_n1_138
              have sz_n1_138 := Nat.le_trans K.1 sq_n1_138
              have A_ui := A_ui.keep Kc (ninS ne_ui_a1 nin0)
              have A_un := A_un.keep Kc (ninS ne_un_a1 nin0)
              have O_a1 := O_a1'
              have A_i1_138 := A_i1_138'
              have A_n1_138 := A_n1_138'
              have K := K.trans Kc (allS (Or.inl (List.mem_of_getElem? (i := 0) rfl)) all0)
              show Goes p e below s _ n0 _ (T.setTop (mkF m 141 #[.val (.ref a1), .val (.long q2), .second, .val (.long q3), .second, .val (.long q3), .second, .unset, .unset] []))
              refine g_aloadN X d3_141 rfl (q := 142) rfl rfl ?_
              refine g_getF X (tw11 hw) Via.refl O_a1.2.1 d3_142 (q := 145) rfl (fun T X => ?_)
              refine g_aloadN X d3_145 rfl (q := 146) rfl rfl ?_
              refine g_aloadN X d3_146 rfl (q := 147) rfl rfl ?_
              refine g_getF X (tw22 hw) Via.refl O_a1.2.2.2.2.1 d3_147 (q := 150) rfl (fun T X => ?_)
              refine g_callP X O_a1.1 [(.int (2 : Int32))] [(.ref i1_138)] (tw24 hw) (own_selP (tw2 hw) (tw25 hw) (tw26 hw) (by decide)) (tw25 hw) (tw26 hw) (tw3 hw) (tw27 hw) (by decide) (rm4_0_4_2 l Z a0 hw [] a1 uc i1_138 n1_138 (2 : Int32) ut ub (own_up (own_up (fun _ => 0) 0 (G 0)) 1 (G 1)) _ n0 X.size O_a1 A_i1_138) pd1 rfl rfl rfl d3_150 (q := 153) rfl (W := 1) rfl (by decide) (by decide) (c2 := 2) (s2 := 8) rfl rfl (by decide) (by decide) (fun v T h' X hQ => ?_)
              obtain ⟨rfl, rfl⟩ := hQ
              show Goes p e below s _ n0 _ (T.setTop (mkF m 153 #[.val (.ref a1), .val (.long q2), .second, .val (.long q3), .second, .val (.long q3), .second, .unset, .unset] [(.int (2 : Int32)), (.ref i1_138)]))
              refine g_lloadN X d3_153 rfl (q := 154) rfl ?_
              refine g_lastore X A_i1_138 ⟨by decide, by decide⟩ g_i1_138 d3_154 (q := 155) rfl (fun T h X W => ?_)
              have O_a1 := O_a1.other W ne_a1_i1_138
              have A_ui := A_ui.other W ne_ui_i1_138
              have A_un := A_un.other W ne_un_i1_138
              have A_n1_138 := A_n1_138.other W ne_n1_138_i1_138
              have A_i1_138 : AJ Z h i1_138 4 (own_up (own_up (own_up (fun _ => 0) 0 (G 0)) 1 (G 1)) 2 q2) := A_i1_138.set W
              have K := K.wr W (Or.inr sz_i1_138)
              refine g_aloadN X d3_155 rfl (q := 156) rfl rfl ?_
              refine g_getF X (tw13 hw) Via.refl O_a1.2.2.1 d3_156 (q := 159) rfl (fun T X => ?_)
              refine g_aloadN X d3_159 rfl (q := 160) rfl rfl ?_
              refine g_aloadN X d3_160 rfl (q := 161) rfl rfl ?_
              refine g_getF X (tw22 hw) Via.refl O_a1.2.2.2.2.1 d3_161 (q := 164) rfl (fun T X => ?_)
              refine g_callP X O_a1.1 [(.int (2 : Int32))] [(.ref n1_138)] (tw24 hw) (own_selP (tw2 hw) (tw25 hw) (tw26 hw) (by decide)) (tw25 hw) (tw26 hw) (tw3 hw) (tw27 hw) (by decide) (rm4_0_4_2 l Z a0 hw [] a1 uc i1_138 n1_138 (2 : Int32) ut ub (own_up (own_up (own_up (fun _ => 0) 0 (G 0)) 1 (G 1)) 2 q2) _ n0 X.size O_a1 A_i1_138) pd1 rfl rfl rfl d3_164 (q := 167) rfl (W := 1) rfl (by decide) (by decide) (c2 := 2) (s2 := 8) rfl rfl (by decide) (by decide) (fun v T h' X hQ => ?_)
              obtain ⟨rfl, rfl⟩ := hQ
              show Goes p e below s _ n0 _ (T.setTop (mkF m 167 #[.val (.ref a1), .val (.long q2), .second, .val (.long q3), .second, .val (.long q3), .second, .unset, .unset] [(.int (2 : Int32)), (.ref n1_138)]))
              refine g_lloadN X d3_167 rfl (q := 168) rfl ?_
              refine g_lastore X A_n1_138 ⟨by decide, by decide⟩ g_n1_138 d3_168 (q := 169) rfl (fun T h X W => ?_)
              have O_a1 := O_a1.other W ne_a1_n1_138
              have A_ui := A_ui.other W ne_ui_n1_138
              have A_un := A_un.other W ne_un_n1_138
              have A_i1_138 := A_i1_138.other W ne_i1_138_n1_138
              have A_n1_138 : AJ Z h n1_138 4 (own_up (own_up (own_up (fun _ => 0) 0 (H 0)) 1 (H 1)) 2 q3) := A_n1_138.set W
              have K := K.wr W (Or.inr sz_n1_138)
              refine g_aloadN X d3_169 rfl (q := 170) rfl rfl ?_
              refine g_dup X d3_170 rfl (q := 171) rfl ?_
              refine g_getF X (tw22 hw) Via.refl O_a1.2.2.2.2.1 d3_171 (q := 174) rfl (fun T X => ?_)
              refine g_iconst X d3_174 rfl (q := 175) (v := 1) rfl ?_
              refine g_iadd X d3_175 rfl (q := 176) ?_
              refine g_eqI (y := (3 : Int32)) (by decide) ?_
              refine g_putF X (tw22 hw) Via.refl O_a1.2.2.2.2.1 O_a1.1 (Or.inl (tw23 hw)) (tw2 hw) (ty := .int) (by decide) rfl rfl g_a1 d3_176 (q := 179) rfl (fun T h X W => ?_)
              have A_ui := A_ui.other W ne_ui_a1
              have A_un := A_un.other W ne_un_a1
              have A_i1_138 := A_i1_138.other W ne_i1_138_a1
              have A_n1_138 := A_n1_138.other W ne_n1_138_a1
              have O_a1 := O_WindowCounts.set3 hw W O_a1
              have K := K.wr W (Or.inl (List.mem_of_getElem? (i := 0) rfl))
              refine g_aloadN X d3_179 rfl (q := 180) rfl rfl ?_
              refine g_getF X (tw30 hw) Via.refl O_a1.2.2.2.2.2.2.1 d3_180 (q := 183) rfl (fun T X => ?_)
              refine g_lload X d3_183 rfl (q := 185) rfl ?_
              refine g_ladd X d3_185 rfl (q := 186) ?_
              refine g_letJ (fun ys hys => ?_)
              refine g_lstore X d3_186 rfl (q := 188) (L' := #[.val (.ref a1), .val (.long q2), .second, .val (.long q3), .second, .val (.long q3), .second, .val (.long ys), .second]) rfl ?_
              refine g_aloadN X d3_188 rfl (q := 189) rfl rfl ?_
              refine g_dup X d3_189 rfl (q := 190) rfl ?_
              refine g_getF X (tw32 hw) Via.refl O_a1.2.2.2.2.2.2.2 d3_190 (q := 193) rfl (fun T X => ?_)
              refine g_lload X d3_193 rfl (q := 195) rfl ?_
              refine g_bipush X d3_195 rfl (q := 197) (v := 63) rfl ?_
              refine g_lushr X d3_197 rfl (q := 198) ?_
              refine g_ladd X d3_198 rfl (q := 199) ?_
              refine g_putF X (tw32 hw) Via.refl O_a1.2.2.2.2.2.2.2 O_a1.1 (Or.inl (tw33 hw)) (tw2 hw) (ty := .long) (by decide) rfl rfl g_a1 d3_199 (q := 202) rfl (fun T h X W => ?_)
              have A_ui := A_ui.other W ne_ui_a1
              have A_un := A_un.other W ne_un_a1
              have A_i1_138 := A_i1_138.other W ne_i1_138_a1
              have A_n1_138 := A_n1_138.other W ne_n1_138_a1
              have O_a1 := O_WindowCounts.set6 hw W O_a1
              have K := K.wr W (Or.inl (List.mem_of_getElem? (i := 0) rfl))
              refine g_aloadN X d3_202 rfl (q := 203) rfl rfl ?_
              refine g_lload X d3_203 rfl (q := 205) rfl ?_
              refine g_ldc2 X (tw34 hw) d3_205 (q := 208) rfl ?_
              refine g_land X d3_208 rfl (q := 209) ?_
              refine g_putF X (tw30 hw) Via.refl O_a1.2.2.2.2.2.2.1 O_a1.1 (Or.inl (tw31 hw)) (tw2 hw) (ty := .long) (by decide) rfl rfl g_a1 d3_209 (q := 212) rfl (fun T h X W => ?_)
              have A_ui := A_ui.other W ne_ui_a1
              have A_un := A_un.other W ne_un_a1
              have A_i1_138 := A_i1_138.other W ne_i1_138_a1
              have A_n1_138 := A_n1_138.other W ne_n1_138_a1
              have O_a1 := O_WindowCounts.set5 hw W O_a1
              have K := K.wr W (Or.inl (List.mem_of_getElem? (i := 0) rfl))
              exact g_ret0 X d3_212 (by decide) (by decide) ⟨(ys &&& (9223372036854775807 : Int64)), (ub + ((ys.toUInt64 >>> ((63 : Int32) &&& 0x3f).toInt64.toUInt64).toInt64)), i1_138, n1_138, rfl, K, O_a1, A_i1_138, A_n1_138, own_addT hS hk (own_jnn k1) hys, sz_i1_138, sz_n1_138, g_i1_138, g_n1_138, ne_i1_138_n1_138, ne_n1_138_i1_138⟩
            · skip
              exact absurd c6 (by decide)
        · skip
          exact absurd c4 (by decide)
    · skip
      exact absurd c2 (by decide)
theorem pn4_0_4_0 : plainName "com/example/teddington/teddington/WindowCounts" = true := by first | (simp [plainName, overriddenIn]; done) | decide +kernel
theorem ef4_0_4_0 (m : MethodId) (x0 : Addr) (x1 : Int32) : entryFrame m #[(.ref x0), (.int x1)] 2 = mkF m 0 #[.val (.ref x0), .val (.int x1)] [] := by first | (simp [entryFrame, mkF, argsToLocals, Value.category]; done) | rfl
set_option maxRecDepth 65536 in
set_option maxHeartbeats 40000000 in
theorem rm4_0_4_0 (l : Launch) (Z : State) (a0 : Array Value) (hw : ∀ d ∈ tables_1, d.before a0 Z = true) (ws : List Jvm.Cond) (a1 : Addr) (uc : Int64) (ui : Addr) (un : Addr) (us : Int32) (ut : Int64) (ub : Int64) (G : Nat → Int64) (h0 : Heap) (n0 : Nat) (Z0 : n0 ≤ h0.size) (O_a1 : O_WindowCounts Z h0 a1 (.ref ui) (.ref un) (.long uc) (.int us) (.int (0 : Int32)) (.long ut) (.long ub)) (A_ui : AJ Z h0 ui 4 G) :
    Met l Z (⟨"com/example/teddington/teddington/WindowCounts", "at", "(I)I"⟩ : MethodName) prog_47_method_15_code 2 (some .int) ({ frames := 0, cells := 0, slots := 0, locals := 0 } : Room) ws n0 #[(.ref a1), (.int (0 : Int32))] h0 (fun v h' => v = some (.int (0 : Int32)) ∧ h0 = h') := by
  refine Met.intro (plainFor_of_name pn4_0_4_0) Z0 ?_
  intro p e s m below meth c T X
  refine g_cast (ef4_0_4_0 m a1 (0 : Int32)) ?_
  refine g_aloadN X d4_0 rfl (q := 1) rfl rfl ?_
  refine g_getF X (tw28 hw) Via.refl O_a1.2.2.2.2.2.1 d4_1 (q := 4) rfl (fun T X => ?_)
  refine g_iloadN X d4_4 rfl (q := 5) rfl ?_
  refine g_iadd X d4_5 rfl (q := 6) ?_
  refine g_eqI (y := (0 : Int32)) (by decide) ?_
  refine g_aloadN X d4_6 rfl (q := 7) rfl rfl ?_
  refine g_getF X (tw11 hw) Via.refl O_a1.2.1 d4_7 (q := 10) rfl (fun T X => ?_)
  refine g_alenJ X A_ui d4_10 (q := 11) rfl ?_
  show Goes p e below s _ n0 _ (T.setTop (mkF m 11 #[.val (.ref a1), .val (.int (0 : Int32))] [(.int (4 : Int32)), (.int (0 : Int32))]))
  refine g_iconst X d4_11 rfl (q := 12) (v := 1) rfl ?_
  refine g_isub X d4_12 rfl (q := 13) ?_
  refine g_eqI (y := (3 : Int32)) (by decide) ?_
  refine g_iand X d4_13 rfl (q := 14) ?_
  refine g_eqI (y := (0 : Int32)) (by decide) ?_
  exact g_retI X d4_14 (by decide) (by decide) ⟨rfl, rfl⟩
theorem pn5_0_4_0 : plainName "com/example/teddington/teddington/WindowCounts" = true := by first | (simp [plainName, overriddenIn]; done) | decide +kernel
theorem ef5_0_4_0 (m : MethodId) (x0 : Addr) (x1 : Int32) : entryFrame m #[(.ref x0), (.int x1)] 2 = mkF m 0 #[.val (.ref x0), .val (.int x1)] [] := by first | (simp [entryFrame, mkF, argsToLocals, Value.category]; done) | rfl
set_option maxRecDepth 65536 in
set_option maxHeartbeats 40000000 in
theorem rm5_0_4_0 (l : Launch) (Z : State) (a0 : Array Value) (hw : ∀ d ∈ tables_1, d.before a0 Z = true) (ws : List Jvm.Cond) (a1 : Addr) (uc : Int64) (ui : Addr) (un : Addr) (us : Int32) (ut : Int64) (ub : Int64) (G : Nat → Int64) (h0 : Heap) (n0 : Nat) (Z0 : n0 ≤ h0.size) (O_a1 : O_WindowCounts Z h0 a1 (.ref ui) (.ref un) (.long uc) (.int us) (.int (0 : Int32)) (.long ut) (.long ub)) (A_ui : AJ Z h0 ui 4 G) :
    Met l Z (⟨"com/example/teddington/teddington/WindowCounts", "index", "(I)J"⟩ : MethodName) prog_47_method_7_code 2 (some .long) ({ frames := 1, cells := 0, slots := 0, locals := 14 } : Room) ws n0 #[(.ref a1), (.int (0 : Int32))] h0 (fun v h' => v = some (.long (G 0)) ∧ h0 = h') := by
  refine Met.intro (plainFor_of_name pn5_0_4_0) Z0 ?_
  intro p e s m below meth c T X
  refine g_cast (ef5_0_4_0 m a1 (0 : Int32)) ?_
  refine g_aloadN X d5_0 rfl (q := 1) rfl rfl ?_
  refine g_getF X (tw11 hw) Via.refl O_a1.2.1 d5_1 (q := 4) rfl (fun T X => ?_)
  refine g_aloadN X d5_4 rfl (q := 5) rfl rfl ?_
  refine g_iloadN X d5_5 rfl (q := 6) rfl ?_
  refine g_callP X O_a1.1 [(.int (0 : Int32))] [(.ref ui)] (tw24 hw) (own_selP (tw2 hw) (tw25 hw) (tw26 hw) (by decide)) (tw25 hw) (tw26 hw) (tw3 hw) (tw27 hw) (by decide) (rm4_0_4_0 l Z a0 hw [] a1 uc ui un us ut ub G _ n0 X.size O_a1 A_ui) pd1 rfl rfl rfl d5_6 (q := 9) rfl (W := 1) rfl (by decide) (by decide) (c2 := 0) (s2 := 0) rfl rfl (by decide) (by decide) (fun v T h' X hQ => ?_)
  obtain ⟨rfl, rfl⟩ := hQ
  show Goes p e below s _ n0 _ (T.setTop (mkF m 9 #[.val (.ref a1), .val (.int (0 : Int32))] [(.int (0 : Int32)), (.ref ui)]))
  refine g_laload X A_ui ⟨by decide, by decide⟩ d5_9 (q := 10) rfl ?_
  exact g_retJ X d5_10 (by decide) (by decide) ⟨rfl, rfl⟩
theorem pn8_3_4_0 : plainName "com/example/teddington/teddington/WindowCounts" = true := by first | (simp [plainName, overriddenIn]; done) | decide +kernel
theorem ef8_3_4_0 (m : MethodId) (x0 : Addr) (x1 : Int64) : entryFrame m #[(.ref x0), (.long x1)] 5 = mkF m 0 #[.val (.ref x0), .val (.long x1), .second, .unset, .unset] [] := by first | (simp [entryFrame, mkF, argsToLocals, Value.category]; done) | rfl
set_option maxRecDepth 65536 in
set_option maxHeartbeats 40000000 in
theorem rm8_3_4_0 (l : Launch) (Z : State) (a0 : Array Value) (hw : ∀ d ∈ tables_1, d.before a0 Z = true) (ws : List Jvm.Cond) (a1 : Addr) (q2 : Int64) (uc : Int64) (ui : Addr) (un : Addr) (ut : Int64) (ub : Int64) (G : Nat → Int64) (H : Nat → Int64) (S : Int) (k : Nat) (h0 : Heap) (n0 : Nat) (Z0 : n0 ≤ h0.size) (O_a1 : O_WindowCounts Z h0 a1 (.ref ui) (.ref un) (.long uc) (.int (3 : Int32)) (.int (0 : Int32)) (.long ut) (.long ub)) (A_ui : AJ Z h0 ui 4 G) (A_un : AJ Z h0 un 4 H) (g_a1 : n0 ≤ a1) (ne_a1_ui : Apart a1 ui) (ne_a1_un : Apart a1 un) (ne_ui_a1 : Apart ui a1) (ne_ui_un : Apart ui un) (ne_un_a1 : Apart un a1) (ne_un_ui : Apart un ui) (dn : ¬ ((G 0) < q2)) (hS : OKT ut ub S k) (hk : k ≤ 100) :
    Met l Z (⟨"com/example/teddington/teddington/WindowCounts", "dropBefore", "(J)V"⟩ : MethodName) prog_47_method_13_code 5 none ({ frames := 2, cells := 0, slots := 0, locals := 27 } : Room) ws n0 #[(.ref a1), (.long q2)] h0 (fun v h' => ∃ t1 : Int64, ∃ b1 : Int64, ∃ i1 : Addr, ∃ n1 : Addr, ∃ o1 : Int32, ∃ s1 : Int32, v = none ∧ Keep h0 h' [a1] ∧ O_WindowCounts Z h' a1 (.ref i1) (.ref n1) (.long uc) (.int s1) (.int o1) (.long t1) (.long b1) ∧ OKT t1 b1 (S) k) := by
  refine Met.intro (plainFor_of_name pn8_3_4_0) Z0 ?_
  intro p e s m below meth c T X
  refine g_cast (ef8_3_4_0 m a1 q2) ?_
  have K : Keep h0 h0 [a1] := Keep.refl h0 _
  refine g_aloadN X d8_0 rfl (q := 1) rfl rfl ?_
  refine g_getF X (tw22 hw) Via.refl O_a1.2.2.2.2.1 d8_1 (q := 4) rfl (fun T X => ?_)
  refine g_ifB X d8_4 (Or.inr (Or.inl rfl)) (q := 7) rfl (by decide) (t := 72) rfl (fun (c1 : (0 : Int32) < (3 : Int32)) => ?_) (fun (c1 : ¬ ((0 : Int32) < (3 : Int32))) => ?_)
  · skip
    refine g_aloadN X d8_7 rfl (q := 8) rfl rfl ?_
    refine g_iconst X d8_8 rfl (q := 9) (v := 0) rfl ?_
    refine g_callV X O_a1.1 [(.int (0 : Int32))] [] (tw35 hw) (tw36 hw) (tw38 hw) (tw37 hw) (tw3 hw) (tw39 hw) (by decide) (rm5_0_4_0 l Z a0 hw [] a1 uc ui un (3 : Int32) ut ub G _ n0 X.size O_a1 A_ui) pd3 rfl rfl rfl d8_9 (q := 12) rfl (W := 0) rfl (by decide) (by decide) (c2 := 0) (s2 := 0) rfl rfl (by decide) (by decide) (fun v T h' X hQ => ?_)
    obtain ⟨rfl, rfl⟩ := hQ
    show Goes p e below s _ n0 _ (T.setTop (mkF m 12 #[.val (.ref a1), .val (.long q2), .second, .unset, .unset] [(.long (G 0))]))
    refine g_lloadN X d8_12 rfl (q := 13) rfl ?_
    refine g_lcmpB X d8_13 (q1 := 14) rfl d8_14 (Or.inl rfl) (q := 17) rfl (by decide) (t := 72) rfl (fun (c2 : (G 0) < q2) => ?_) (fun (c2 : ¬ ((G 0) < q2)) => ?_)
    · skip
      exact absurd c2 dn
    · skip
      refine g_aloadN X d8_72 rfl (q := 73) rfl rfl ?_
      refine g_getF X (tw11 hw) Via.refl O_a1.2.1 d8_73 (q := 76) rfl (fun T X => ?_)
      refine g_alenJ X A_ui d8_76 (q := 77) rfl ?_
      show Goes p e below s _ n0 _ (T.setTop (mkF m 77 #[.val (.ref a1), .val (.long q2), .second, .unset, .unset] [(.int (4 : Int32))]))
      refine g_iconst X d8_77 rfl (q := 78) (v := 2) rfl ?_
      refine g_icmpB X d8_78 (Or.inr (Or.inl rfl)) (q := 81) rfl (by decide) (t := 106) rfl (fun (c3 : (2 : Int32) < (4 : Int32)) => ?_) (fun (c3 : ¬ ((2 : Int32) < (4 : Int32))) => ?_)
      · skip
        refine g_aloadN X d8_81 rfl (q := 82) rfl rfl ?_
        refine g_getF X (tw22 hw) Via.refl O_a1.2.2.2.2.1 d8_82 (q := 85) rfl (fun T X => ?_)
        refine g_aloadN X d8_85 rfl (q := 86) rfl rfl ?_
        refine g_getF X (tw11 hw) Via.refl O_a1.2.1 d8_86 (q := 89) rfl (fun T X => ?_)
        refine g_alenJ X A_ui d8_89 (q := 90) rfl ?_
        show Goes p e below s _ n0 _ (T.setTop (mkF m 90 #[.val (.ref a1), .val (.long q2), .second, .unset, .unset] [(.int (4 : Int32)), (.int (3 : Int32))]))
        refine g_iconst X d8_90 rfl (q := 91) (v := 4) rfl ?_
        refine g_idiv X d8_91 rfl (q := 92) (by decide) ?_
        refine g_eqI (y := (1 : Int32)) (by decide) ?_
        refine g_icmpB X d8_92 (Or.inl rfl) (q := 95) rfl (by decide) (t := 106) rfl (fun (c4 : (3 : Int32) < (1 : Int32)) => ?_) (fun (c4 : ¬ ((3 : Int32) < (1 : Int32))) => ?_)
        · skip
          exact absurd c4 (by decide)
        · skip
          exact g_ret0 X d8_106 (by decide) (by decide) ⟨ut, ub, ui, un, (0 : Int32), (3 : Int32), rfl, K, O_a1, hS⟩
      · skip
        exact absurd c3 (by decide)
  · skip
    exact absurd c1 (by decide)
theorem pn6_0_4_0 : plainName "com/example/teddington/teddington/WindowCounts" = true := by first | (simp [plainName, overriddenIn]; done) | decide +kernel
theorem ef6_0_4_0 (m : MethodId) (x0 : Addr) (x1 : Int32) : entryFrame m #[(.ref x0), (.int x1)] 2 = mkF m 0 #[.val (.ref x0), .val (.int x1)] [] := by first | (simp [entryFrame, mkF, argsToLocals, Value.category]; done) | rfl
set_option maxRecDepth 65536 in
set_option maxHeartbeats 40000000 in
theorem rm6_0_4_0 (l : Launch) (Z : State) (a0 : Array Value) (hw : ∀ d ∈ tables_1, d.before a0 Z = true) (ws : List Jvm.Cond) (a1 : Addr) (uc : Int64) (ui : Addr) (un : Addr) (us : Int32) (ut : Int64) (ub : Int64) (G : Nat → Int64) (H : Nat → Int64) (h0 : Heap) (n0 : Nat) (Z0 : n0 ≤ h0.size) (O_a1 : O_WindowCounts Z h0 a1 (.ref ui) (.ref un) (.long uc) (.int us) (.int (0 : Int32)) (.long ut) (.long ub)) (A_ui : AJ Z h0 ui 4 G) (A_un : AJ Z h0 un 4 H) :
    Met l Z (⟨"com/example/teddington/teddington/WindowCounts", "count", "(I)J"⟩ : MethodName) prog_47_method_8_code 2 (some .long) ({ frames := 1, cells := 0, slots := 0, locals := 14 } : Room) ws n0 #[(.ref a1), (.int (0 : Int32))] h0 (fun v h' => v = some (.long (H 0)) ∧ h0 = h') := by
  refine Met.intro (plainFor_of_name pn6_0_4_0) Z0 ?_
  intro p e s m below meth c T X
  refine g_cast (ef6_0_4_0 m a1 (0 : Int32)) ?_
  refine g_aloadN X d6_0 rfl (q := 1) rfl rfl ?_
  refine g_getF X (tw13 hw) Via.refl O_a1.2.2.1 d6_1 (q := 4) rfl (fun T X => ?_)
  refine g_aloadN X d6_4 rfl (q := 5) rfl rfl ?_
  refine g_iloadN X d6_5 rfl (q := 6) rfl ?_
  refine g_callP X O_a1.1 [(.int (0 : Int32))] [(.ref un)] (tw24 hw) (own_selP (tw2 hw) (tw25 hw) (tw26 hw) (by decide)) (tw25 hw) (tw26 hw) (tw3 hw) (tw27 hw) (by decide) (rm4_0_4_0 l Z a0 hw [] a1 uc ui un us ut ub G _ n0 X.size O_a1 A_ui) pd1 rfl rfl rfl d6_6 (q := 9) rfl (W := 1) rfl (by decide) (by decide) (c2 := 0) (s2 := 0) rfl rfl (by decide) (by decide) (fun v T h' X hQ => ?_)
  obtain ⟨rfl, rfl⟩ := hQ
  show Goes p e below s _ n0 _ (T.setTop (mkF m 9 #[.val (.ref a1), .val (.int (0 : Int32))] [(.int (0 : Int32)), (.ref un)]))
  refine g_laload X A_un ⟨by decide, by decide⟩ d6_9 (q := 10) rfl ?_
  exact g_retJ X d6_10 (by decide) (by decide) ⟨rfl, rfl⟩
theorem pn4_0_4_1 : plainName "com/example/teddington/teddington/WindowCounts" = true := by first | (simp [plainName, overriddenIn]; done) | decide +kernel
theorem ef4_0_4_1 (m : MethodId) (x0 : Addr) (x1 : Int32) : entryFrame m #[(.ref x0), (.int x1)] 2 = mkF m 0 #[.val (.ref x0), .val (.int x1)] [] := by first | (simp [entryFrame, mkF, argsToLocals, Value.category]; done) | rfl
set_option maxRecDepth 65536 in
set_option maxHeartbeats 40000000 in
theorem rm4_0_4_1 (l : Launch) (Z : State) (a0 : Array Value) (hw : ∀ d ∈ tables_1, d.before a0 Z = true) (ws : List Jvm.Cond) (a1 : Addr) (uc : Int64) (ui : Addr) (un : Addr) (us : Int32) (ut : Int64) (ub : Int64) (G : Nat → Int64) (h0 : Heap) (n0 : Nat) (Z0 : n0 ≤ h0.size) (O_a1 : O_WindowCounts Z h0 a1 (.ref ui) (.ref un) (.long uc) (.int us) (.int (0 : Int32)) (.long ut) (.long ub)) (A_ui : AJ Z h0 ui 4 G) :
    Met l Z (⟨"com/example/teddington/teddington/WindowCounts", "at", "(I)I"⟩ : MethodName) prog_47_method_15_code 2 (some .int) ({ frames := 0, cells := 0, slots := 0, locals := 0 } : Room) ws n0 #[(.ref a1), (.int (1 : Int32))] h0 (fun v h' => v = some (.int (1 : Int32)) ∧ h0 = h') := by
  refine Met.intro (plainFor_of_name pn4_0_4_1) Z0 ?_
  intro p e s m below meth c T X
  refine g_cast (ef4_0_4_1 m a1 (1 : Int32)) ?_
  refine g_aloadN X d4_0 rfl (q := 1) rfl rfl ?_
  refine g_getF X (tw28 hw) Via.refl O_a1.2.2.2.2.2.1 d4_1 (q := 4) rfl (fun T X => ?_)
  refine g_iloadN X d4_4 rfl (q := 5) rfl ?_
  refine g_iadd X d4_5 rfl (q := 6) ?_
  refine g_eqI (y := (1 : Int32)) (by decide) ?_
  refine g_aloadN X d4_6 rfl (q := 7) rfl rfl ?_
  refine g_getF X (tw11 hw) Via.refl O_a1.2.1 d4_7 (q := 10) rfl (fun T X => ?_)
  refine g_alenJ X A_ui d4_10 (q := 11) rfl ?_
  show Goes p e below s _ n0 _ (T.setTop (mkF m 11 #[.val (.ref a1), .val (.int (1 : Int32))] [(.int (4 : Int32)), (.int (1 : Int32))]))
  refine g_iconst X d4_11 rfl (q := 12) (v := 1) rfl ?_
  refine g_isub X d4_12 rfl (q := 13) ?_
  refine g_eqI (y := (3 : Int32)) (by decide) ?_
  refine g_iand X d4_13 rfl (q := 14) ?_
  refine g_eqI (y := (1 : Int32)) (by decide) ?_
  exact g_retI X d4_14 (by decide) (by decide) ⟨rfl, rfl⟩
theorem pn4_1_4_0 : plainName "com/example/teddington/teddington/WindowCounts" = true := by first | (simp [plainName, overriddenIn]; done) | decide +kernel
theorem ef4_1_4_0 (m : MethodId) (x0 : Addr) (x1 : Int32) : entryFrame m #[(.ref x0), (.int x1)] 2 = mkF m 0 #[.val (.ref x0), .val (.int x1)] [] := by first | (simp [entryFrame, mkF, argsToLocals, Value.category]; done) | rfl
set_option maxRecDepth 65536 in
set_option maxHeartbeats 40000000 in
theorem rm4_1_4_0 (l : Launch) (Z : State) (a0 : Array Value) (hw : ∀ d ∈ tables_1, d.before a0 Z = true) (ws : List Jvm.Cond) (a1 : Addr) (uc : Int64) (ui : Addr) (un : Addr) (us : Int32) (ut : Int64) (ub : Int64) (G : Nat → Int64) (h0 : Heap) (n0 : Nat) (Z0 : n0 ≤ h0.size) (O_a1 : O_WindowCounts Z h0 a1 (.ref ui) (.ref un) (.long uc) (.int us) (.int (1 : Int32)) (.long ut) (.long ub)) (A_ui : AJ Z h0 ui 4 G) :
    Met l Z (⟨"com/example/teddington/teddington/WindowCounts", "at", "(I)I"⟩ : MethodName) prog_47_method_15_code 2 (some .int) ({ frames := 0, cells := 0, slots := 0, locals := 0 } : Room) ws n0 #[(.ref a1), (.int (0 : Int32))] h0 (fun v h' => v = some (.int (1 : Int32)) ∧ h0 = h') := by
  refine Met.intro (plainFor_of_name pn4_1_4_0) Z0 ?_
  intro p e s m below meth c T X
  refine g_cast (ef4_1_4_0 m a1 (0 : Int32)) ?_
  refine g_aloadN X d4_0 rfl (q := 1) rfl rfl ?_
  refine g_getF X (tw28 hw) Via.refl O_a1.2.2.2.2.2.1 d4_1 (q := 4) rfl (fun T X => ?_)
  refine g_iloadN X d4_4 rfl (q := 5) rfl ?_
  refine g_iadd X d4_5 rfl (q := 6) ?_
  refine g_eqI (y := (1 : Int32)) (by decide) ?_
  refine g_aloadN X d4_6 rfl (q := 7) rfl rfl ?_
  refine g_getF X (tw11 hw) Via.refl O_a1.2.1 d4_7 (q := 10) rfl (fun T X => ?_)
  refine g_alenJ X A_ui d4_10 (q := 11) rfl ?_
  show Goes p e below s _ n0 _ (T.setTop (mkF m 11 #[.val (.ref a1), .val (.int (0 : Int32))] [(.int (4 : Int32)), (.int (1 : Int32))]))
  refine g_iconst X d4_11 rfl (q := 12) (v := 1) rfl ?_
  refine g_isub X d4_12 rfl (q := 13) ?_
  refine g_eqI (y := (3 : Int32)) (by decide) ?_
  refine g_iand X d4_13 rfl (q := 14) ?_
  refine g_eqI (y := (1 : Int32)) (by decide) ?_
  exact g_retI X d4_14 (by decide) (by decide) ⟨rfl, rfl⟩
theorem pn5_1_4_0 : plainName "com/example/teddington/teddington/WindowCounts" = true := by first | (simp [plainName, overriddenIn]; done) | decide +kernel
theorem ef5_1_4_0 (m : MethodId) (x0 : Addr) (x1 : Int32) : entryFrame m #[(.ref x0), (.int x1)] 2 = mkF m 0 #[.val (.ref x0), .val (.int x1)] [] := by first | (simp [entryFrame, mkF, argsToLocals, Value.category]; done) | rfl
set_option maxRecDepth 65536 in
set_option maxHeartbeats 40000000 in
theorem rm5_1_4_0 (l : Launch) (Z : State) (a0 : Array Value) (hw : ∀ d ∈ tables_1, d.before a0 Z = true) (ws : List Jvm.Cond) (a1 : Addr) (uc : Int64) (ui : Addr) (un : Addr) (us : Int32) (ut : Int64) (ub : Int64) (G : Nat → Int64) (h0 : Heap) (n0 : Nat) (Z0 : n0 ≤ h0.size) (O_a1 : O_WindowCounts Z h0 a1 (.ref ui) (.ref un) (.long uc) (.int us) (.int (1 : Int32)) (.long ut) (.long ub)) (A_ui : AJ Z h0 ui 4 G) :
    Met l Z (⟨"com/example/teddington/teddington/WindowCounts", "index", "(I)J"⟩ : MethodName) prog_47_method_7_code 2 (some .long) ({ frames := 1, cells := 0, slots := 0, locals := 14 } : Room) ws n0 #[(.ref a1), (.int (0 : Int32))] h0 (fun v h' => v = some (.long (G 1)) ∧ h0 = h') := by
  refine Met.intro (plainFor_of_name pn5_1_4_0) Z0 ?_
  intro p e s m below meth c T X
  refine g_cast (ef5_1_4_0 m a1 (0 : Int32)) ?_
  refine g_aloadN X d5_0 rfl (q := 1) rfl rfl ?_
  refine g_getF X (tw11 hw) Via.refl O_a1.2.1 d5_1 (q := 4) rfl (fun T X => ?_)
  refine g_aloadN X d5_4 rfl (q := 5) rfl rfl ?_
  refine g_iloadN X d5_5 rfl (q := 6) rfl ?_
  refine g_callP X O_a1.1 [(.int (0 : Int32))] [(.ref ui)] (tw24 hw) (own_selP (tw2 hw) (tw25 hw) (tw26 hw) (by decide)) (tw25 hw) (tw26 hw) (tw3 hw) (tw27 hw) (by decide) (rm4_1_4_0 l Z a0 hw [] a1 uc ui un us ut ub G _ n0 X.size O_a1 A_ui) pd1 rfl rfl rfl d5_6 (q := 9) rfl (W := 1) rfl (by decide) (by decide) (c2 := 0) (s2 := 0) rfl rfl (by decide) (by decide) (fun v T h' X hQ => ?_)
  obtain ⟨rfl, rfl⟩ := hQ
  show Goes p e below s _ n0 _ (T.setTop (mkF m 9 #[.val (.ref a1), .val (.int (0 : Int32))] [(.int (1 : Int32)), (.ref ui)]))
  refine g_laload X A_ui ⟨by decide, by decide⟩ d5_9 (q := 10) rfl ?_
  exact g_retJ X d5_10 (by decide) (by decide) ⟨rfl, rfl⟩
theorem pn8_3_4_1 : plainName "com/example/teddington/teddington/WindowCounts" = true := by first | (simp [plainName, overriddenIn]; done) | decide +kernel
theorem ef8_3_4_1 (m : MethodId) (x0 : Addr) (x1 : Int64) : entryFrame m #[(.ref x0), (.long x1)] 5 = mkF m 0 #[.val (.ref x0), .val (.long x1), .second, .unset, .unset] [] := by first | (simp [entryFrame, mkF, argsToLocals, Value.category]; done) | rfl
set_option maxRecDepth 65536 in
set_option maxHeartbeats 40000000 in
theorem rm8_3_4_1 (l : Launch) (Z : State) (a0 : Array Value) (hw : ∀ d ∈ tables_1, d.before a0 Z = true) (ws : List Jvm.Cond) (a1 : Addr) (q2 : Int64) (uc : Int64) (ui : Addr) (un : Addr) (ut : Int64) (ub : Int64) (G : Nat → Int64) (H : Nat → Int64) (S : Int) (k : Nat) (h0 : Heap) (n0 : Nat) (Z0 : n0 ≤ h0.size) (O_a1 : O_WindowCounts Z h0 a1 (.ref ui) (.ref un) (.long uc) (.int (3 : Int32)) (.int (0 : Int32)) (.long ut) (.long ub)) (A_ui : AJ Z h0 ui 4 G) (A_un : AJ Z h0 un 4 H) (g_a1 : n0 ≤ a1) (ne_a1_ui : Apart a1 ui) (ne_a1_un : Apart a1 un) (ne_ui_a1 : Apart ui a1) (ne_ui_un : Apart ui un) (ne_un_a1 : Apart un a1) (ne_un_ui : Apart un ui) (d0 : (G 0) < q2) (dn : ¬ ((G 1) < q2)) (p0 : 0 ≤ (H 0).toInt) (hs : (H 0).toInt ≤ S) (hS : OKT ut ub S k) (hk : k ≤ 100) :
    Met l Z (⟨"com/example/teddington/teddington/WindowCounts", "dropBefore", "(J)V"⟩ : MethodName) prog_47_method_13_code 5 none ({ frames := 2, cells := 0, slots := 0, locals := 29 } : Room) ws n0 #[(.ref a1), (.long q2)] h0 (fun v h' => ∃ t1 : Int64, ∃ b1 : Int64, ∃ i1 : Addr, ∃ n1 : Addr, ∃ o1 : Int32, ∃ s1 : Int32, v = none ∧ Keep h0 h' [a1] ∧ O_WindowCounts Z h' a1 (.ref i1) (.ref n1) (.long uc) (.int s1) (.int o1) (.long t1) (.long b1) ∧ OKT t1 b1 (S - (H 0).toInt) k) := by
  refine Met.intro (plainFor_of_name pn8_3_4_1) Z0 ?_
  intro p e s m below meth c T X
  refine g_cast (ef8_3_4_1 m a1 q2) ?_
  have K : Keep h0 h0 [a1] := Keep.refl h0 _
  refine g_aloadN X d8_0 rfl (q := 1) rfl rfl ?_
  refine g_getF X (tw22 hw) Via.refl O_a1.2.2.2.2.1 d8_1 (q := 4) rfl (fun T X => ?_)
  refine g_ifB X d8_4 (Or.inr (Or.inl rfl)) (q := 7) rfl (by decide) (t := 72) rfl (fun (c1 : (0 : Int32) < (3 : Int32)) => ?_) (fun (c1 : ¬ ((0 : Int32) < (3 : Int32))) => ?_)
  · skip
    refine g_aloadN X d8_7 rfl (q := 8) rfl rfl ?_
    refine g_iconst X d8_8 rfl (q := 9) (v := 0) rfl ?_
    refine g_callV X O_a1.1 [(.int (0 : Int32))] [] (tw35 hw) (tw36 hw) (tw38 hw) (tw37 hw) (tw3 hw) (tw39 hw) (by decide) (rm5_0_4_0 l Z a0 hw [] a1 uc ui un (3 : Int32) ut ub G _ n0 X.size O_a1 A_ui) pd3 rfl rfl rfl d8_9 (q := 12) rfl (W := 0) rfl (by decide) (by decide) (c2 := 0) (s2 := 0) rfl rfl (by decide) (by decide) (fun v T h' X hQ => ?_)
    obtain ⟨rfl, rfl⟩ := hQ
    show Goes p e below s _ n0 _ (T.setTop (mkF m 12 #[.val (.ref a1), .val (.long q2), .second, .unset, .unset] [(.long (G 0))]))
    refine g_lloadN X d8_12 rfl (q := 13) rfl ?_
    refine g_lcmpB X d8_13 (q1 := 14) rfl d8_14 (Or.inl rfl) (q := 17) rfl (by decide) (t := 72) rfl (fun (c2 : (G 0) < q2) => ?_) (fun (c2 : ¬ ((G 0) < q2)) => ?_)
    · skip
      refine g_aloadN X d8_17 rfl (q := 18) rfl rfl ?_
      refine g_getF X (tw30 hw) Via.refl O_a1.2.2.2.2.2.2.1 d8_18 (q := 21) rfl (fun T X => ?_)
      refine g_aloadN X d8_21 rfl (q := 22) rfl rfl ?_
      refine g_iconst X d8_22 rfl (q := 23) (v := 0) rfl ?_
      refine g_callV X O_a1.1 [(.int (0 : Int32))] [(.long ut)] (tw40 hw) (tw41 hw) (tw43 hw) (tw42 hw) (tw3 hw) (tw44 hw) (by decide) (rm6_0_4_0 l Z a0 hw [] a1 uc ui un (3 : Int32) ut ub G H _ n0 X.size O_a1 A_ui A_un) pd3 rfl rfl rfl d8_23 (q := 26) rfl (W := 2) rfl (by decide) (by decide) (c2 := 0) (s2 := 0) rfl rfl (by decide) (by decide) (fun v T h' X hQ => ?_)
      obtain ⟨rfl, rfl⟩ := hQ
      show Goes p e below s _ n0 _ (T.setTop (mkF m 26 #[.val (.ref a1), .val (.long q2), .second, .unset, .unset] [(.long (H 0)), (.long ut)]))
      refine g_lsub X d8_26 rfl (q := 27) ?_
      refine g_letJ (fun y0 hy0 => ?_)
      have hS1 := own_subT hS hk p0 (by omega) hy0
      refine g_lstoreN X d8_27 rfl (q := 28) (L' := #[.val (.ref a1), .val (.long q2), .second, .val (.long y0), .second]) rfl ?_
      refine g_aloadN X d8_28 rfl (q := 29) rfl rfl ?_
      refine g_dup X d8_29 rfl (q := 30) rfl ?_
      refine g_getF X (tw32 hw) Via.refl O_a1.2.2.2.2.2.2.2 d8_30 (q := 33) rfl (fun T X => ?_)
      refine g_lloadN X d8_33 rfl (q := 34) rfl ?_
      refine g_bipush X d8_34 rfl (q := 36) (v := 63) rfl ?_
      refine g_lushr X d8_36 rfl (q := 37) ?_
      refine g_lsub X d8_37 rfl (q := 38) ?_
      refine g_putF X (tw32 hw) Via.refl O_a1.2.2.2.2.2.2.2 O_a1.1 (Or.inl (tw33 hw)) (tw2 hw) (ty := .long) (by decide) rfl rfl g_a1 d8_38 (q := 41) rfl (fun T h X W => ?_)
      have A_ui := A_ui.other W ne_ui_a1
      have A_un := A_un.other W ne_un_a1
      have O_a1 := O_WindowCounts.set6 hw W O_a1
      have K := K.wr W (Or.inl (List.mem_of_getElem? (i := 0) rfl))
      refine g_aloadN X d8_41 rfl (q := 42) rfl rfl ?_
      refine g_lloadN X d8_42 rfl (q := 43) rfl ?_
      refine g_ldc2 X (tw34 hw) d8_43 (q := 46) rfl ?_
      refine g_land X d8_46 rfl (q := 47) ?_
      refine g_putF X (tw30 hw) Via.refl O_a1.2.2.2.2.2.2.1 O_a1.1 (Or.inl (tw31 hw)) (tw2 hw) (ty := .long) (by decide) rfl rfl g_a1 d8_47 (q := 50) rfl (fun T h X W => ?_)
      have A_ui := A_ui.other W ne_ui_a1
      have A_un := A_un.other W ne_un_a1
      have O_a1 := O_WindowCounts.set5 hw W O_a1
      have K := K.wr W (Or.inl (List.mem_of_getElem? (i := 0) rfl))
      refine g_aloadN X d8_50 rfl (q := 51) rfl rfl ?_
      refine g_aloadN X d8_51 rfl (q := 52) rfl rfl ?_
      refine g_iconst X d8_52 rfl (q := 53) (v := 1) rfl ?_
      refine g_callP X O_a1.1 [(.int (1 : Int32))] [(.ref a1)] (tw24 hw) (own_selP (tw2 hw) (tw25 hw) (tw26 hw) (by decide)) (tw25 hw) (tw26 hw) (tw3 hw) (tw27 hw) (by decide) (rm4_0_4_1 l Z a0 hw [] a1 uc ui un (3 : Int32) (y0 &&& (9223372036854775807 : Int64)) (ub - ((y0.toUInt64 >>> ((63 : Int32) &&& 0x3f).toInt64.toUInt64).toInt64)) G _ n0 X.size O_a1 A_ui) pd1 rfl rfl rfl d8_53 (q := 56) rfl (W := 1) rfl (by decide) (by decide) (c2 := 0) (s2 := 0) rfl rfl (by decide) (by decide) (fun v T h' X hQ => ?_)
      obtain ⟨rfl, rfl⟩ := hQ
      show Goes p e below s _ n0 _ (T.setTop (mkF m 56 #[.val (.ref a1), .val (.long q2), .second, .val (.long y0), .second] [(.int (1 : Int32)), (.ref a1)]))
      refine g_putF X (tw28 hw) Via.refl O_a1.2.2.2.2.2.1 O_a1.1 (Or.inl (tw29 hw)) (tw2 hw) (ty := .int) (by decide) rfl rfl g_a1 d8_56 (q := 59) rfl (fun T h X W => ?_)
      have A_ui := A_ui.other W ne_ui_a1
      have A_un := A_un.other W ne_un_a1
      have O_a1 := O_WindowCounts.set4 hw W O_a1
      have K := K.wr W (Or.inl (List.mem_of_getElem? (i := 0) rfl))
      refine g_aloadN X d8_59 rfl (q := 60) rfl rfl ?_
      refine g_dup X d8_60 rfl (q := 61) rfl ?_
      refine g_getF X (tw22 hw) Via.refl O_a1.2.2.2.2.1 d8_61 (q := 64) rfl (fun T X => ?_)
      refine g_iconst X d8_64 rfl (q := 65) (v := 1) rfl ?_
      refine g_isub X d8_65 rfl (q := 66) ?_
      refine g_eqI (y := (2 : Int32)) (by decide) ?_
      refine g_putF X (tw22 hw) Via.refl O_a1.2.2.2.2.1 O_a1.1 (Or.inl (tw23 hw)) (tw2 hw) (ty := .int) (by decide) rfl rfl g_a1 d8_66 (q := 69) rfl (fun T h X W => ?_)
      have A_ui := A_ui.other W ne_ui_a1
      have A_un := A_un.other W ne_un_a1
      have O_a1 := O_WindowCounts.set3 hw W O_a1
      have K := K.wr W (Or.inl (List.mem_of_getElem? (i := 0) rfl))
      refine g_goto X d8_69 (by decide) (q := 0) rfl ?_
      refine g_aloadN X d8_0 rfl (q := 1) rfl rfl ?_
      refine g_getF X (tw22 hw) Via.refl O_a1.2.2.2.2.1 d8_1 (q := 4) rfl (fun T X => ?_)
      refine g_ifB X d8_4 (Or.inr (Or.inl rfl)) (q := 7) rfl (by decide) (t := 72) rfl (fun (c3 : (0 : Int32) < (2 : Int32)) => ?_) (fun (c3 : ¬ ((0 : Int32) < (2 : Int32))) => ?_)
      · skip
        refine g_aloadN X d8_7 rfl (q := 8) rfl rfl ?_
        refine g_iconst X d8_8 rfl (q := 9) (v := 0) rfl ?_
        refine g_callV X O_a1.1 [(.int (0 : Int32))] [] (tw35 hw) (tw36 hw) (tw38 hw) (tw37 hw) (tw3 hw) (tw39 hw) (by decide) (rm5_1_4_0 l Z a0 hw [] a1 uc ui un (2 : Int32) (y0 &&& (9223372036854775807 : Int64)) (ub - ((y0.toUInt64 >>> ((63 : Int32) &&& 0x3f).toInt64.toUInt64).toInt64)) G _ n0 X.size O_a1 A_ui) pd3 rfl rfl rfl d8_9 (q := 12) rfl (W := 0) rfl (by decide) (by decide) (c2 := 0) (s2 := 0) rfl rfl (by decide) (by decide) (fun v T h' X hQ => ?_)
        obtain ⟨rfl, rfl⟩ := hQ
        show Goes p e below s _ n0 _ (T.setTop (mkF m 12 #[.val (.ref a1), .val (.long q2), .second, .val (.long y0), .second] [(.long (G 1))]))
        refine g_lloadN X d8_12 rfl (q := 13) rfl ?_
        refine g_lcmpB X d8_13 (q1 := 14) rfl d8_14 (Or.inl rfl) (q := 17) rfl (by decide) (t := 72) rfl (fun (c4 : (G 1) < q2) => ?_) (fun (c4 : ¬ ((G 1) < q2)) => ?_)
        · skip
          exact absurd c4 dn
        · skip
          refine g_aloadN X d8_72 rfl (q := 73) rfl rfl ?_
          refine g_getF X (tw11 hw) Via.refl O_a1.2.1 d8_73 (q := 76) rfl (fun T X => ?_)
          refine g_alenJ X A_ui d8_76 (q := 77) rfl ?_
          show Goes p e below s _ n0 _ (T.setTop (mkF m 77 #[.val (.ref a1), .val (.long q2), .second, .val (.long y0), .second] [(.int (4 : Int32))]))
          refine g_iconst X d8_77 rfl (q := 78) (v := 2) rfl ?_
          refine g_icmpB X d8_78 (Or.inr (Or.inl rfl)) (q := 81) rfl (by decide) (t := 106) rfl (fun (c5 : (2 : Int32) < (4 : Int32)) => ?_) (fun (c5 : ¬ ((2 : Int32) < (4 : Int32))) => ?_)
          · skip
            refine g_aloadN X d8_81 rfl (q := 82) rfl rfl ?_
            refine g_getF X (tw22 hw) Via.refl O_a1.2.2.2.2.1 d8_82 (q := 85) rfl (fun T X => ?_)
            refine g_aloadN X d8_85 rfl (q := 86) rfl rfl ?_
            refine g_getF X (tw11 hw) Via.refl O_a1.2.1 d8_86 (q := 89) rfl (fun T X => ?_)
            refine g_alenJ X A_ui d8_89 (q := 90) rfl ?_
            show Goes p e below s _ n0 _ (T.setTop (mkF m 90 #[.val (.ref a1), .val (.long q2), .second, .val (.long y0), .second] [(.int (4 : Int32)), (.int (2 : Int32))]))
            refine g_iconst X d8_90 rfl (q := 91) (v := 4) rfl ?_
            refine g_idiv X d8_91 rfl (q := 92) (by decide) ?_
            refine g_eqI (y := (1 : Int32)) (by decide) ?_
            refine g_icmpB X d8_92 (Or.inl rfl) (q := 95) rfl (by decide) (t := 106) rfl (fun (c6 : (2 : Int32) < (1 : Int32)) => ?_) (fun (c6 : ¬ ((2 : Int32) < (1 : Int32))) => ?_)
            · skip
              exact absurd c6 (by decide)
            · skip
              exact g_ret0 X d8_106 (by decide) (by decide) ⟨(y0 &&& (9223372036854775807 : Int64)), (ub - ((y0.toUInt64 >>> ((63 : Int32) &&& 0x3f).toInt64.toUInt64).toInt64)), ui, un, (1 : Int32), (2 : Int32), rfl, K, O_a1, hS1⟩
          · skip
            exact absurd c5 (by decide)
      · skip
        exact absurd c3 (by decide)
    · skip
      exact absurd d0 c2
  · skip
    exact absurd c1 (by decide)
theorem pn6_1_4_0 : plainName "com/example/teddington/teddington/WindowCounts" = true := by first | (simp [plainName, overriddenIn]; done) | decide +kernel
theorem ef6_1_4_0 (m : MethodId) (x0 : Addr) (x1 : Int32) : entryFrame m #[(.ref x0), (.int x1)] 2 = mkF m 0 #[.val (.ref x0), .val (.int x1)] [] := by first | (simp [entryFrame, mkF, argsToLocals, Value.category]; done) | rfl
set_option maxRecDepth 65536 in
set_option maxHeartbeats 40000000 in
theorem rm6_1_4_0 (l : Launch) (Z : State) (a0 : Array Value) (hw : ∀ d ∈ tables_1, d.before a0 Z = true) (ws : List Jvm.Cond) (a1 : Addr) (uc : Int64) (ui : Addr) (un : Addr) (us : Int32) (ut : Int64) (ub : Int64) (G : Nat → Int64) (H : Nat → Int64) (h0 : Heap) (n0 : Nat) (Z0 : n0 ≤ h0.size) (O_a1 : O_WindowCounts Z h0 a1 (.ref ui) (.ref un) (.long uc) (.int us) (.int (1 : Int32)) (.long ut) (.long ub)) (A_ui : AJ Z h0 ui 4 G) (A_un : AJ Z h0 un 4 H) :
    Met l Z (⟨"com/example/teddington/teddington/WindowCounts", "count", "(I)J"⟩ : MethodName) prog_47_method_8_code 2 (some .long) ({ frames := 1, cells := 0, slots := 0, locals := 14 } : Room) ws n0 #[(.ref a1), (.int (0 : Int32))] h0 (fun v h' => v = some (.long (H 1)) ∧ h0 = h') := by
  refine Met.intro (plainFor_of_name pn6_1_4_0) Z0 ?_
  intro p e s m below meth c T X
  refine g_cast (ef6_1_4_0 m a1 (0 : Int32)) ?_
  refine g_aloadN X d6_0 rfl (q := 1) rfl rfl ?_
  refine g_getF X (tw13 hw) Via.refl O_a1.2.2.1 d6_1 (q := 4) rfl (fun T X => ?_)
  refine g_aloadN X d6_4 rfl (q := 5) rfl rfl ?_
  refine g_iloadN X d6_5 rfl (q := 6) rfl ?_
  refine g_callP X O_a1.1 [(.int (0 : Int32))] [(.ref un)] (tw24 hw) (own_selP (tw2 hw) (tw25 hw) (tw26 hw) (by decide)) (tw25 hw) (tw26 hw) (tw3 hw) (tw27 hw) (by decide) (rm4_1_4_0 l Z a0 hw [] a1 uc ui un us ut ub G _ n0 X.size O_a1 A_ui) pd1 rfl rfl rfl d6_6 (q := 9) rfl (W := 1) rfl (by decide) (by decide) (c2 := 0) (s2 := 0) rfl rfl (by decide) (by decide) (fun v T h' X hQ => ?_)
  obtain ⟨rfl, rfl⟩ := hQ
  show Goes p e below s _ n0 _ (T.setTop (mkF m 9 #[.val (.ref a1), .val (.int (0 : Int32))] [(.int (1 : Int32)), (.ref un)]))
  refine g_laload X A_un ⟨by decide, by decide⟩ d6_9 (q := 10) rfl ?_
  exact g_retJ X d6_10 (by decide) (by decide) ⟨rfl, rfl⟩
theorem pn4_1_4_1 : plainName "com/example/teddington/teddington/WindowCounts" = true := by first | (simp [plainName, overriddenIn]; done) | decide +kernel
theorem ef4_1_4_1 (m : MethodId) (x0 : Addr) (x1 : Int32) : entryFrame m #[(.ref x0), (.int x1)] 2 = mkF m 0 #[.val (.ref x0), .val (.int x1)] [] := by first | (simp [entryFrame, mkF, argsToLocals, Value.category]; done) | rfl
set_option maxRecDepth 65536 in
set_option maxHeartbeats 40000000 in
theorem rm4_1_4_1 (l : Launch) (Z : State) (a0 : Array Value) (hw : ∀ d ∈ tables_1, d.before a0 Z = true) (ws : List Jvm.Cond) (a1 : Addr) (uc : Int64) (ui : Addr) (un : Addr) (us : Int32) (ut : Int64) (ub : Int64) (G : Nat → Int64) (h0 : Heap) (n0 : Nat) (Z0 : n0 ≤ h0.size) (O_a1 : O_WindowCounts Z h0 a1 (.ref ui) (.ref un) (.long uc) (.int us) (.int (1 : Int32)) (.long ut) (.long ub)) (A_ui : AJ Z h0 ui 4 G) :
    Met l Z (⟨"com/example/teddington/teddington/WindowCounts", "at", "(I)I"⟩ : MethodName) prog_47_method_15_code 2 (some .int) ({ frames := 0, cells := 0, slots := 0, locals := 0 } : Room) ws n0 #[(.ref a1), (.int (1 : Int32))] h0 (fun v h' => v = some (.int (2 : Int32)) ∧ h0 = h') := by
  refine Met.intro (plainFor_of_name pn4_1_4_1) Z0 ?_
  intro p e s m below meth c T X
  refine g_cast (ef4_1_4_1 m a1 (1 : Int32)) ?_
  refine g_aloadN X d4_0 rfl (q := 1) rfl rfl ?_
  refine g_getF X (tw28 hw) Via.refl O_a1.2.2.2.2.2.1 d4_1 (q := 4) rfl (fun T X => ?_)
  refine g_iloadN X d4_4 rfl (q := 5) rfl ?_
  refine g_iadd X d4_5 rfl (q := 6) ?_
  refine g_eqI (y := (2 : Int32)) (by decide) ?_
  refine g_aloadN X d4_6 rfl (q := 7) rfl rfl ?_
  refine g_getF X (tw11 hw) Via.refl O_a1.2.1 d4_7 (q := 10) rfl (fun T X => ?_)
  refine g_alenJ X A_ui d4_10 (q := 11) rfl ?_
  show Goes p e below s _ n0 _ (T.setTop (mkF m 11 #[.val (.ref a1), .val (.int (1 : Int32))] [(.int (4 : Int32)), (.int (2 : Int32))]))
  refine g_iconst X d4_11 rfl (q := 12) (v := 1) rfl ?_
  refine g_isub X d4_12 rfl (q := 13) ?_
  refine g_eqI (y := (3 : Int32)) (by decide) ?_
  refine g_iand X d4_13 rfl (q := 14) ?_
  refine g_eqI (y := (2 : Int32)) (by decide) ?_
  exact g_retI X d4_14 (by decide) (by decide) ⟨rfl, rfl⟩
theorem pn4_2_4_0 : plainName "com/example/teddington/teddington/WindowCounts" = true := by first | (simp [plainName, overriddenIn]; done) | decide +kernel
theorem ef4_2_4_0 (m : MethodId) (x0 : Addr) (x1 : Int32) : entryFrame m #[(.ref x0), (.int x1)] 2 = mkF m 0 #[.val (.ref x0), .val (.int x1)] [] := by first | (simp [entryFrame, mkF, argsToLocals, Value.category]; done) | rfl
set_option maxRecDepth 65536 in
set_option maxHeartbeats 40000000 in
theorem rm4_2_4_0 (l : Launch) (Z : State) (a0 : Array Value) (hw : ∀ d ∈ tables_1, d.before a0 Z = true) (ws : List Jvm.Cond) (a1 : Addr) (uc : Int64) (ui : Addr) (un : Addr) (us : Int32) (ut : Int64) (ub : Int64) (G : Nat → Int64) (h0 : Heap) (n0 : Nat) (Z0 : n0 ≤ h0.size) (O_a1 : O_WindowCounts Z h0 a1 (.ref ui) (.ref un) (.long uc) (.int us) (.int (2 : Int32)) (.long ut) (.long ub)) (A_ui : AJ Z h0 ui 4 G) :
    Met l Z (⟨"com/example/teddington/teddington/WindowCounts", "at", "(I)I"⟩ : MethodName) prog_47_method_15_code 2 (some .int) ({ frames := 0, cells := 0, slots := 0, locals := 0 } : Room) ws n0 #[(.ref a1), (.int (0 : Int32))] h0 (fun v h' => v = some (.int (2 : Int32)) ∧ h0 = h') := by
  refine Met.intro (plainFor_of_name pn4_2_4_0) Z0 ?_
  intro p e s m below meth c T X
  refine g_cast (ef4_2_4_0 m a1 (0 : Int32)) ?_
  refine g_aloadN X d4_0 rfl (q := 1) rfl rfl ?_
  refine g_getF X (tw28 hw) Via.refl O_a1.2.2.2.2.2.1 d4_1 (q := 4) rfl (fun T X => ?_)
  refine g_iloadN X d4_4 rfl (q := 5) rfl ?_
  refine g_iadd X d4_5 rfl (q := 6) ?_
  refine g_eqI (y := (2 : Int32)) (by decide) ?_
  refine g_aloadN X d4_6 rfl (q := 7) rfl rfl ?_
  refine g_getF X (tw11 hw) Via.refl O_a1.2.1 d4_7 (q := 10) rfl (fun T X => ?_)
  refine g_alenJ X A_ui d4_10 (q := 11) rfl ?_
  show Goes p e below s _ n0 _ (T.setTop (mkF m 11 #[.val (.ref a1), .val (.int (0 : Int32))] [(.int (4 : Int32)), (.int (2 : Int32))]))
  refine g_iconst X d4_11 rfl (q := 12) (v := 1) rfl ?_
  refine g_isub X d4_12 rfl (q := 13) ?_
  refine g_eqI (y := (3 : Int32)) (by decide) ?_
  refine g_iand X d4_13 rfl (q := 14) ?_
  refine g_eqI (y := (2 : Int32)) (by decide) ?_
  exact g_retI X d4_14 (by decide) (by decide) ⟨rfl, rfl⟩
theorem pn5_2_4_0 : plainName "com/example/teddington/teddington/WindowCounts" = true := by first | (simp [plainName, overriddenIn]; done) | decide +kernel
theorem ef5_2_4_0 (m : MethodId) (x0 : Addr) (x1 : Int32) : entryFrame m #[(.ref x0), (.int x1)] 2 = mkF m 0 #[.val (.ref x0), .val (.int x1)] [] := by first | (simp [entryFrame, mkF, argsToLocals, Value.category]; done) | rfl
set_option maxRecDepth 65536 in
set_option maxHeartbeats 40000000 in
theorem rm5_2_4_0 (l : Launch) (Z : State) (a0 : Array Value) (hw : ∀ d ∈ tables_1, d.before a0 Z = true) (ws : List Jvm.Cond) (a1 : Addr) (uc : Int64) (ui : Addr) (un : Addr) (us : Int32) (ut : Int64) (ub : Int64) (G : Nat → Int64) (h0 : Heap) (n0 : Nat) (Z0 : n0 ≤ h0.size) (O_a1 : O_WindowCounts Z h0 a1 (.ref ui) (.ref un) (.long uc) (.int us) (.int (2 : Int32)) (.long ut) (.long ub)) (A_ui : AJ Z h0 ui 4 G) :
    Met l Z (⟨"com/example/teddington/teddington/WindowCounts", "index", "(I)J"⟩ : MethodName) prog_47_method_7_code 2 (some .long) ({ frames := 1, cells := 0, slots := 0, locals := 14 } : Room) ws n0 #[(.ref a1), (.int (0 : Int32))] h0 (fun v h' => v = some (.long (G 2)) ∧ h0 = h') := by
  refine Met.intro (plainFor_of_name pn5_2_4_0) Z0 ?_
  intro p e s m below meth c T X
  refine g_cast (ef5_2_4_0 m a1 (0 : Int32)) ?_
  refine g_aloadN X d5_0 rfl (q := 1) rfl rfl ?_
  refine g_getF X (tw11 hw) Via.refl O_a1.2.1 d5_1 (q := 4) rfl (fun T X => ?_)
  refine g_aloadN X d5_4 rfl (q := 5) rfl rfl ?_
  refine g_iloadN X d5_5 rfl (q := 6) rfl ?_
  refine g_callP X O_a1.1 [(.int (0 : Int32))] [(.ref ui)] (tw24 hw) (own_selP (tw2 hw) (tw25 hw) (tw26 hw) (by decide)) (tw25 hw) (tw26 hw) (tw3 hw) (tw27 hw) (by decide) (rm4_2_4_0 l Z a0 hw [] a1 uc ui un us ut ub G _ n0 X.size O_a1 A_ui) pd1 rfl rfl rfl d5_6 (q := 9) rfl (W := 1) rfl (by decide) (by decide) (c2 := 0) (s2 := 0) rfl rfl (by decide) (by decide) (fun v T h' X hQ => ?_)
  obtain ⟨rfl, rfl⟩ := hQ
  show Goes p e below s _ n0 _ (T.setTop (mkF m 9 #[.val (.ref a1), .val (.int (0 : Int32))] [(.int (2 : Int32)), (.ref ui)]))
  refine g_laload X A_ui ⟨by decide, by decide⟩ d5_9 (q := 10) rfl ?_
  exact g_retJ X d5_10 (by decide) (by decide) ⟨rfl, rfl⟩
theorem pn8_3_4_2 : plainName "com/example/teddington/teddington/WindowCounts" = true := by first | (simp [plainName, overriddenIn]; done) | decide +kernel
theorem ef8_3_4_2 (m : MethodId) (x0 : Addr) (x1 : Int64) : entryFrame m #[(.ref x0), (.long x1)] 5 = mkF m 0 #[.val (.ref x0), .val (.long x1), .second, .unset, .unset] [] := by first | (simp [entryFrame, mkF, argsToLocals, Value.category]; done) | rfl
set_option maxRecDepth 65536 in
set_option maxHeartbeats 40000000 in
theorem rm8_3_4_2 (l : Launch) (Z : State) (a0 : Array Value) (hw : ∀ d ∈ tables_1, d.before a0 Z = true) (ws : List Jvm.Cond) (a1 : Addr) (q2 : Int64) (uc : Int64) (ui : Addr) (un : Addr) (ut : Int64) (ub : Int64) (G : Nat → Int64) (H : Nat → Int64) (S : Int) (k : Nat) (h0 : Heap) (n0 : Nat) (Z0 : n0 ≤ h0.size) (O_a1 : O_WindowCounts Z h0 a1 (.ref ui) (.ref un) (.long uc) (.int (3 : Int32)) (.int (0 : Int32)) (.long ut) (.long ub)) (A_ui : AJ Z h0 ui 4 G) (A_un : AJ Z h0 un 4 H) (g_a1 : n0 ≤ a1) (ne_a1_ui : Apart a1 ui) (ne_a1_un : Apart a1 un) (ne_ui_a1 : Apart ui a1) (ne_ui_un : Apart ui un) (ne_un_a1 : Apart un a1) (ne_un_ui : Apart un ui) (d0 : (G 0) < q2) (d1 : (G 1) < q2) (dn : ¬ ((G 2) < q2)) (p0 : 0 ≤ (H 0).toInt) (p1 : 0 ≤ (H 1).toInt) (hs : (H 0).toInt + (H 1).toInt ≤ S) (hS : OKT ut ub S k) (hk : k ≤ 100) :
    Met l Z (⟨"com/example/teddington/teddington/WindowCounts", "dropBefore", "(J)V"⟩ : MethodName) prog_47_method_13_code 5 none ({ frames := 2, cells := 0, slots := 0, locals := 29 } : Room) ws n0 #[(.ref a1), (.long q2)] h0 (fun v h' => ∃ t1 : Int64, ∃ b1 : Int64, ∃ i1 : Addr, ∃ n1 : Addr, ∃ o1 : Int32, ∃ s1 : Int32, v = none ∧ Keep h0 h' [a1] ∧ O_WindowCounts Z h' a1 (.ref i1) (.ref n1) (.long uc) (.int s1) (.int o1) (.long t1) (.long b1) ∧ OKT t1 b1 (S - (H 0).toInt - (H 1).toInt) k) := by
  refine Met.intro (plainFor_of_name pn8_3_4_2) Z0 ?_
  intro p e s m below meth c T X
  refine g_cast (ef8_3_4_2 m a1 q2) ?_
  have K : Keep h0 h0 [a1] := Keep.refl h0 _
  refine g_aloadN X d8_0 rfl (q := 1) rfl rfl ?_
  refine g_getF X (tw22 hw) Via.refl O_a1.2.2.2.2.1 d8_1 (q := 4) rfl (fun T X => ?_)
  refine g_ifB X d8_4 (Or.inr (Or.inl rfl)) (q := 7) rfl (by decide) (t := 72) rfl (fun (c1 : (0 : Int32) < (3 : Int32)) => ?_) (fun (c1 : ¬ ((0 : Int32) < (3 : Int32))) => ?_)
  · skip
    refine g_aloadN X d8_7 rfl (q := 8) rfl rfl ?_
    refine g_iconst X d8_8 rfl (q := 9) (v := 0) rfl ?_
    refine g_callV X O_a1.1 [(.int (0 : Int32))] [] (tw35 hw) (tw36 hw) (tw38 hw) (tw37 hw) (tw3 hw) (tw39 hw) (by decide) (rm5_0_4_0 l Z a0 hw [] a1 uc ui un (3 : Int32) ut ub G _ n0 X.size O_a1 A_ui) pd3 rfl rfl rfl d8_9 (q := 12) rfl (W := 0) rfl (by decide) (by decide) (c2 := 0) (s2 := 0) rfl rfl (by decide) (by decide) (fun v T h' X hQ => ?_)
    obtain ⟨rfl, rfl⟩ := hQ
    show Goes p e below s _ n0 _ (T.setTop (mkF m 12 #[.val (.ref a1), .val (.long q2), .second, .unset, .unset] [(.long (G 0))]))
    refine g_lloadN X d8_12 rfl (q := 13) rfl ?_
    refine g_lcmpB X d8_13 (q1 := 14) rfl d8_14 (Or.inl rfl) (q := 17) rfl (by decide) (t := 72) rfl (fun (c2 : (G 0) < q2) => ?_) (fun (c2 : ¬ ((G 0) < q2)) => ?_)
    · skip
      refine g_aloadN X d8_17 rfl (q := 18) rfl rfl ?_
      refine g_getF X (tw30 hw) Via.refl O_a1.2.2.2.2.2.2.1 d8_18 (q := 21) rfl (fun T X => ?_)
      refine g_aloadN X d8_21 rfl (q := 22) rfl rfl ?_
      refine g_iconst X d8_22 rfl (q := 23) (v := 0) rfl ?_
      refine g_callV X O_a1.1 [(.int (0 : Int32))] [(.long ut)] (tw40 hw) (tw41 hw) (tw43 hw) (tw42 hw) (tw3 hw) (tw44 hw) (by decide) (rm6_0_4_0 l Z a0 hw [] a1 uc ui un (3 : Int32) ut ub G H _ n0 X.size O_a1 A_ui A_un) pd3 rfl rfl rfl d8_23 (q := 26) rfl (W := 2) rfl (by decide) (by decide) (c2 := 0) (s2 := 0) rfl rfl (by decide) (by decide) (fun v T h' X hQ => ?_)
      obtain ⟨rfl, rfl⟩ := hQ
      show Goes p e below s _ n0 _ (T.setTop (mkF m 26 #[.val (.ref a1), .val (.long q2), .second, .unset, .unset] [(.long (H 0)), (.long ut)]))
      refine g_lsub X d8_26 rfl (q := 27) ?_
      refine g_letJ (fun y0 hy0 => ?_)
      have hS1 := own_subT hS hk p0 (by omega) hy0
      refine g_lstoreN X d8_27 rfl (q := 28) (L' := #[.val (.ref a1), .val (.long q2), .second, .val (.long y0), .second]) rfl ?_
      refine g_aloadN X d8_28 rfl (q := 29) rfl rfl ?_
      refine g_dup X d8_29 rfl (q := 30) rfl ?_
      refine g_getF X (tw32 hw) Via.refl O_a1.2.2.2.2.2.2.2 d8_30 (q := 33) rfl (fun T X => ?_)
      refine g_lloadN X d8_33 rfl (q := 34) rfl ?_
      refine g_bipush X d8_34 rfl (q := 36) (v := 63) rfl ?_
      refine g_lushr X d8_36 rfl (q := 37) ?_
      refine g_lsub X d8_37 rfl (q := 38) ?_
      refine g_putF X (tw32 hw) Via.refl O_a1.2.2.2.2.2.2.2 O_a1.1 (Or.inl (tw33 hw)) (tw2 hw) (ty := .long) (by decide) rfl rfl g_a1 d8_38 (q := 41) rfl (fun T h X W => ?_)
      have A_ui := A_ui.other W ne_ui_a1
      have A_un := A_un.other W ne_un_a1
      have O_a1 := O_WindowCounts.set6 hw W O_a1
      have K := K.wr W (Or.inl (List.mem_of_getElem? (i := 0) rfl))
      refine g_aloadN X d8_41 rfl (q := 42) rfl rfl ?_
      refine g_lloadN X d8_42 rfl (q := 43) rfl ?_
      refine g_ldc2 X (tw34 hw) d8_43 (q := 46) rfl ?_
      refine g_land X d8_46 rfl (q := 47) ?_
      refine g_putF X (tw30 hw) Via.refl O_a1.2.2.2.2.2.2.1 O_a1.1 (Or.inl (tw31 hw)) (tw2 hw) (ty := .long) (by decide) rfl rfl g_a1 d8_47 (q := 50) rfl (fun T h X W => ?_)
      have A_ui := A_ui.other W ne_ui_a1
      have A_un := A_un.other W ne_un_a1
      have O_a1 := O_WindowCounts.set5 hw W O_a1
      have K := K.wr W (Or.inl (List.mem_of_getElem? (i := 0) rfl))
      refine g_aloadN X d8_50 rfl (q := 51) rfl rfl ?_
      refine g_aloadN X d8_51 rfl (q := 52) rfl rfl ?_
      refine g_iconst X d8_52 rfl (q := 53) (v := 1) rfl ?_
      refine g_callP X O_a1.1 [(.int (1 : Int32))] [(.ref a1)] (tw24 hw) (own_selP (tw2 hw) (tw25 hw) (tw26 hw) (by decide)) (tw25 hw) (tw26 hw) (tw3 hw) (tw27 hw) (by decide) (rm4_0_4_1 l Z a0 hw [] a1 uc ui un (3 : Int32) (y0 &&& (9223372036854775807 : Int64)) (ub - ((y0.toUInt64 >>> ((63 : Int32) &&& 0x3f).toInt64.toUInt64).toInt64)) G _ n0 X.size O_a1 A_ui) pd1 rfl rfl rfl d8_53 (q := 56) rfl (W := 1) rfl (by decide) (by decide) (c2 := 0) (s2 := 0) rfl rfl (by decide) (by decide) (fun v T h' X hQ => ?_)
      obtain ⟨rfl, rfl⟩ := hQ
      show Goes p e below s _ n0 _ (T.setTop (mkF m 56 #[.val (.ref a1), .val (.long q2), .second, .val (.long y0), .second] [(.int (1 : Int32)), (.ref a1)]))
      refine g_putF X (tw28 hw) Via.refl O_a1.2.2.2.2.2.1 O_a1.1 (Or.inl (tw29 hw)) (tw2 hw) (ty := .int) (by decide) rfl rfl g_a1 d8_56 (q := 59) rfl (fun T h X W => ?_)
      have A_ui := A_ui.other W ne_ui_a1
      have A_un := A_un.other W ne_un_a1
      have O_a1 := O_WindowCounts.set4 hw W O_a1
      have K := K.wr W (Or.inl (List.mem_of_getElem? (i := 0) rfl))
      refine g_aloadN X d8_59 rfl (q := 60) rfl rfl ?_
      refine g_dup X d8_60 rfl (q := 61) rfl ?_
      refine g_getF X (tw22 hw) Via.refl O_a1.2.2.2.2.1 d8_61 (q := 64) rfl (fun T X => ?_)
      refine g_iconst X d8_64 rfl (q := 65) (v := 1) rfl ?_
      refine g_isub X d8_65 rfl (q := 66) ?_
      refine g_eqI (y := (2 : Int32)) (by decide) ?_
      refine g_putF X (tw22 hw) Via.refl O_a1.2.2.2.2.1 O_a1.1 (Or.inl (tw23 hw)) (tw2 hw) (ty := .int) (by decide) rfl rfl g_a1 d8_66 (q := 69) rfl (fun T h X W => ?_)
      have A_ui := A_ui.other W ne_ui_a1
      have A_un := A_un.other W ne_un_a1
      have O_a1 := O_WindowCounts.set3 hw W O_a1
      have K := K.wr W (Or.inl (List.mem_of_getElem? (i := 0) rfl))
      refine g_goto X d8_69 (by decide) (q := 0) rfl ?_
      refine g_aloadN X d8_0 rfl (q := 1) rfl rfl ?_
      refine g_getF X (tw22 hw) Via.refl O_a1.2.2.2.2.1 d8_1 (q := 4) rfl (fun T X => ?_)
      refine g_ifB X d8_4 (Or.inr (Or.inl rfl)) (q := 7) rfl (by decide) (t := 72) rfl (fun (c3 : (0 : Int32) < (2 : Int32)) => ?_) (fun (c3 : ¬ ((0 : Int32) < (2 : Int32))) => ?_)
      · skip
        refine g_aloadN X d8_7 rfl (q := 8) rfl rfl ?_
        refine g_iconst X d8_8 rfl (q := 9) (v := 0) rfl ?_
        refine g_callV X O_a1.1 [(.int (0 : Int32))] [] (tw35 hw) (tw36 hw) (tw38 hw) (tw37 hw) (tw3 hw) (tw39 hw) (by decide) (rm5_1_4_0 l Z a0 hw [] a1 uc ui un (2 : Int32) (y0 &&& (9223372036854775807 : Int64)) (ub - ((y0.toUInt64 >>> ((63 : Int32) &&& 0x3f).toInt64.toUInt64).toInt64)) G _ n0 X.size O_a1 A_ui) pd3 rfl rfl rfl d8_9 (q := 12) rfl (W := 0) rfl (by decide) (by decide) (c2 := 0) (s2 := 0) rfl rfl (by decide) (by decide) (fun v T h' X hQ => ?_)
        obtain ⟨rfl, rfl⟩ := hQ
        show Goes p e below s _ n0 _ (T.setTop (mkF m 12 #[.val (.ref a1), .val (.long q2), .second, .val (.long y0), .second] [(.long (G 1))]))
        refine g_lloadN X d8_12 rfl (q := 13) rfl ?_
        refine g_lcmpB X d8_13 (q1 := 14) rfl d8_14 (Or.inl rfl) (q := 17) rfl (by decide) (t := 72) rfl (fun (c4 : (G 1) < q2) => ?_) (fun (c4 : ¬ ((G 1) < q2)) => ?_)
        · skip
          refine g_aloadN X d8_17 rfl (q := 18) rfl rfl ?_
          refine g_getF X (tw30 hw) Via.refl O_a1.2.2.2.2.2.2.1 d8_18 (q := 21) rfl (fun T X => ?_)
          refine g_aloadN X d8_21 rfl (q := 22) rfl rfl ?_
          refine g_iconst X d8_22 rfl (q := 23) (v := 0) rfl ?_
          refine g_callV X O_a1.1 [(.int (0 : Int32))] [(.long (y0 &&& (9223372036854775807 : Int64)))] (tw40 hw) (tw41 hw) (tw43 hw) (tw42 hw) (tw3 hw) (tw44 hw) (by decide) (rm6_1_4_0 l Z a0 hw [] a1 uc ui un (2 : Int32) (y0 &&& (9223372036854775807 : Int64)) (ub - ((y0.toUInt64 >>> ((63 : Int32) &&& 0x3f).toInt64.toUInt64).toInt64)) G H _ n0 X.size O_a1 A_ui A_un) pd3 rfl rfl rfl d8_23 (q := 26) rfl (W := 2) rfl (by decide) (by decide) (c2 := 0) (s2 := 0) rfl rfl (by decide) (by decide) (fun v T h' X hQ => ?_)
          obtain ⟨rfl, rfl⟩ := hQ
          show Goes p e below s _ n0 _ (T.setTop (mkF m 26 #[.val (.ref a1), .val (.long q2), .second, .val (.long y0), .second] [(.long (H 1)), (.long (y0 &&& (9223372036854775807 : Int64)))]))
          refine g_lsub X d8_26 rfl (q := 27) ?_
          refine g_letJ (fun y1 hy1 => ?_)
          have hS2 := own_subT hS1 hk p1 (by omega) hy1
          refine g_lstoreN X d8_27 rfl (q := 28) (L' := #[.val (.ref a1), .val (.long q2), .second, .val (.long y1), .second]) rfl ?_
          refine g_aloadN X d8_28 rfl (q := 29) rfl rfl ?_
          refine g_dup X d8_29 rfl (q := 30) rfl ?_
          refine g_getF X (tw32 hw) Via.refl O_a1.2.2.2.2.2.2.2 d8_30 (q := 33) rfl (fun T X => ?_)
          refine g_lloadN X d8_33 rfl (q := 34) rfl ?_
          refine g_bipush X d8_34 rfl (q := 36) (v := 63) rfl ?_
          refine g_lushr X d8_36 rfl (q := 37) ?_
          refine g_lsub X d8_37 rfl (q := 38) ?_
          refine g_putF X (tw32 hw) Via.refl O_a1.2.2.2.2.2.2.2 O_a1.1 (Or.inl (tw33 hw)) (tw2 hw) (ty := .long) (by decide) rfl rfl g_a1 d8_38 (q := 41) rfl (fun T h X W => ?_)
          have A_ui := A_ui.other W ne_ui_a1
          have A_un := A_un.other W ne_un_a1
          have O_a1 := O_WindowCounts.set6 hw W O_a1
          have K := K.wr W (Or.inl (List.mem_of_getElem? (i := 0) rfl))
          refine g_aloadN X d8_41 rfl (q := 42) rfl rfl ?_
          refine g_lloadN X d8_42 rfl (q := 43) rfl ?_
          refine g_ldc2 X (tw34 hw) d8_43 (q := 46) rfl ?_
          refine g_land X d8_46 rfl (q := 47) ?_
          refine g_putF X (tw30 hw) Via.refl O_a1.2.2.2.2.2.2.1 O_a1.1 (Or.inl (tw31 hw)) (tw2 hw) (ty := .long) (by decide) rfl rfl g_a1 d8_47 (q := 50) rfl (fun T h X W => ?_)
          have A_ui := A_ui.other W ne_ui_a1
          have A_un := A_un.other W ne_un_a1
          have O_a1 := O_WindowCounts.set5 hw W O_a1
          have K := K.wr W (Or.inl (List.mem_of_getElem? (i := 0) rfl))
          refine g_aloadN X d8_50 rfl (q := 51) rfl rfl ?_
          refine g_aloadN X d8_51 rfl (q := 52) rfl rfl ?_
          refine g_iconst X d8_52 rfl (q := 53) (v := 1) rfl ?_
          refine g_callP X O_a1.1 [(.int (1 : Int32))] [(.ref a1)] (tw24 hw) (own_selP (tw2 hw) (tw25 hw) (tw26 hw) (by decide)) (tw25 hw) (tw26 hw) (tw3 hw) (tw27 hw) (by decide) (rm4_1_4_1 l Z a0 hw [] a1 uc ui un (2 : Int32) (y1 &&& (9223372036854775807 : Int64)) ((ub - ((y0.toUInt64 >>> ((63 : Int32) &&& 0x3f).toInt64.toUInt64).toInt64)) - ((y1.toUInt64 >>> ((63 : Int32) &&& 0x3f).toInt64.toUInt64).toInt64)) G _ n0 X.size O_a1 A_ui) pd1 rfl rfl rfl d8_53 (q := 56) rfl (W := 1) rfl (by decide) (by decide) (c2 := 0) (s2 := 0) rfl rfl (by decide) (by decide) (fun v T h' X hQ => ?_)
          obtain ⟨rfl, rfl⟩ := hQ
          show Goes p e below s _ n0 _ (T.setTop (mkF m 56 #[.val (.ref a1), .val (.long q2), .second, .val (.long y1), .second] [(.int (2 : Int32)), (.ref a1)]))
          refine g_putF X (tw28 hw) Via.refl O_a1.2.2.2.2.2.1 O_a1.1 (Or.inl (tw29 hw)) (tw2 hw) (ty := .int) (by decide) rfl rfl g_a1 d8_56 (q := 59) rfl (fun T h X W => ?_)
          have A_ui := A_ui.other W ne_ui_a1
          have A_un := A_un.other W ne_un_a1
          have O_a1 := O_WindowCounts.set4 hw W O_a1
          have K := K.wr W (Or.inl (List.mem_of_getElem? (i := 0) rfl))
          refine g_aloadN X d8_59 rfl (q := 60) rfl rfl ?_
          refine g_dup X d8_60 rfl (q := 61) rfl ?_
          refine g_getF X (tw22 hw) Via.refl O_a1.2.2.2.2.1 d8_61 (q := 64) rfl (fun T X => ?_)
          refine g_iconst X d8_64 rfl (q := 65) (v := 1) rfl ?_
          refine g_isub X d8_65 rfl (q := 66) ?_
          refine g_eqI (y := (1 : Int32)) (by decide) ?_
          refine g_putF X (tw22 hw) Via.refl O_a1.2.2.2.2.1 O_a1.1 (Or.inl (tw23 hw)) (tw2 hw) (ty := .int) (by decide) rfl rfl g_a1 d8_66 (q := 69) rfl (fun T h X W => ?_)
          have A_ui := A_ui.other W ne_ui_a1
          have A_un := A_un.other W ne_un_a1
          have O_a1 := O_WindowCounts.set3 hw W O_a1
          have K := K.wr W (Or.inl (List.mem_of_getElem? (i := 0) rfl))
          refine g_goto X d8_69 (by decide) (q := 0) rfl ?_
          refine g_aloadN X d8_0 rfl (q := 1) rfl rfl ?_
          refine g_getF X (tw22 hw) Via.refl O_a1.2.2.2.2.1 d8_1 (q := 4) rfl (fun T X => ?_)
          refine g_ifB X d8_4 (Or.inr (Or.inl rfl)) (q := 7) rfl (by decide) (t := 72) rfl (fun (c5 : (0 : Int32) < (1 : Int32)) => ?_) (fun (c5 : ¬ ((0 : Int32) < (1 : Int32))) => ?_)
          · skip
            refine g_aloadN X d8_7 rfl (q := 8) rfl rfl ?_
            refine g_iconst X d8_8 rfl (q := 9) (v := 0) rfl ?_
            refine g_callV X O_a1.1 [(.int (0 : Int32))] [] (tw35 hw) (tw36 hw) (tw38 hw) (tw37 hw) (tw3 hw) (tw39 hw) (by decide) (rm5_2_4_0 l Z a0 hw [] a1 uc ui un (1 : Int32) (y1 &&& (9223372036854775807 : Int64)) ((ub - ((y0.toUInt64 >>> ((63 : Int32) &&& 0x3f).toInt64.toUInt64).toInt64)) - ((y1.toUInt64 >>> ((63 : Int32) &&& 0x3f).toInt64.toUInt64).toInt64)) G _ n0 X.size O_a1 A_ui) pd3 rfl rfl rfl d8_9 (q := 12) rfl (W := 0) rfl (by decide) (by decide) (c2 := 0) (s2 := 0) rfl rfl (by decide) (by decide) (fun v T h' X hQ => ?_)
            obtain ⟨rfl, rfl⟩ := hQ
            show Goes p e below s _ n0 _ (T.setTop (mkF m 12 #[.val (.ref a1), .val (.long q2), .second, .val (.long y1), .second] [(.long (G 2))]))
            refine g_lloadN X d8_12 rfl (q := 13) rfl ?_
            refine g_lcmpB X d8_13 (q1 := 14) rfl d8_14 (Or.inl rfl) (q := 17) rfl (by decide) (t := 72) rfl (fun (c6 : (G 2) < q2) => ?_) (fun (c6 : ¬ ((G 2) < q2)) => ?_)
            · skip
              exact absurd c6 dn
            · skip
              refine g_aloadN X d8_72 rfl (q := 73) rfl rfl ?_
              refine g_getF X (tw11 hw) Via.refl O_a1.2.1 d8_73 (q := 76) rfl (fun T X => ?_)
              refine g_alenJ X A_ui d8_76 (q := 77) rfl ?_
              show Goes p e below s _ n0 _ (T.setTop (mkF m 77 #[.val (.ref a1), .val (.long q2), .second, .val (.long y1), .second] [(.int (4 : Int32))]))
              refine g_iconst X d8_77 rfl (q := 78) (v := 2) rfl ?_
              refine g_icmpB X d8_78 (Or.inr (Or.inl rfl)) (q := 81) rfl (by decide) (t := 106) rfl (fun (c7 : (2 : Int32) < (4 : Int32)) => ?_) (fun (c7 : ¬ ((2 : Int32) < (4 : Int32))) => ?_)
              · skip
                refine g_aloadN X d8_81 rfl (q := 82) rfl rfl ?_
                refine g_getF X (tw22 hw) Via.refl O_a1.2.2.2.2.1 d8_82 (q := 85) rfl (fun T X => ?_)
                refine g_aloadN X d8_85 rfl (q := 86) rfl rfl ?_
                refine g_getF X (tw11 hw) Via.refl O_a1.2.1 d8_86 (q := 89) rfl (fun T X => ?_)
                refine g_alenJ X A_ui d8_89 (q := 90) rfl ?_
                show Goes p e below s _ n0 _ (T.setTop (mkF m 90 #[.val (.ref a1), .val (.long q2), .second, .val (.long y1), .second] [(.int (4 : Int32)), (.int (1 : Int32))]))
                refine g_iconst X d8_90 rfl (q := 91) (v := 4) rfl ?_
                refine g_idiv X d8_91 rfl (q := 92) (by decide) ?_
                refine g_eqI (y := (1 : Int32)) (by decide) ?_
                refine g_icmpB X d8_92 (Or.inl rfl) (q := 95) rfl (by decide) (t := 106) rfl (fun (c8 : (1 : Int32) < (1 : Int32)) => ?_) (fun (c8 : ¬ ((1 : Int32) < (1 : Int32))) => ?_)
                · skip
                  exact absurd c8 (by decide)
                · skip
                  exact g_ret0 X d8_106 (by decide) (by decide) ⟨(y1 &&& (9223372036854775807 : Int64)), ((ub - ((y0.toUInt64 >>> ((63 : Int32) &&& 0x3f).toInt64.toUInt64).toInt64)) - ((y1.toUInt64 >>> ((63 : Int32) &&& 0x3f).toInt64.toUInt64).toInt64)), ui, un, (2 : Int32), (1 : Int32), rfl, K, O_a1, hS2⟩
              · skip
                exact absurd c7 (by decide)
          · skip
            exact absurd c5 (by decide)
        · skip
          exact absurd d1 c4
      · skip
        exact absurd c3 (by decide)
    · skip
      exact absurd d0 c2
  · skip
    exact absurd c1 (by decide)
theorem pn6_2_4_0 : plainName "com/example/teddington/teddington/WindowCounts" = true := by first | (simp [plainName, overriddenIn]; done) | decide +kernel
theorem ef6_2_4_0 (m : MethodId) (x0 : Addr) (x1 : Int32) : entryFrame m #[(.ref x0), (.int x1)] 2 = mkF m 0 #[.val (.ref x0), .val (.int x1)] [] := by first | (simp [entryFrame, mkF, argsToLocals, Value.category]; done) | rfl
set_option maxRecDepth 65536 in
set_option maxHeartbeats 40000000 in
theorem rm6_2_4_0 (l : Launch) (Z : State) (a0 : Array Value) (hw : ∀ d ∈ tables_1, d.before a0 Z = true) (ws : List Jvm.Cond) (a1 : Addr) (uc : Int64) (ui : Addr) (un : Addr) (us : Int32) (ut : Int64) (ub : Int64) (G : Nat → Int64) (H : Nat → Int64) (h0 : Heap) (n0 : Nat) (Z0 : n0 ≤ h0.size) (O_a1 : O_WindowCounts Z h0 a1 (.ref ui) (.ref un) (.long uc) (.int us) (.int (2 : Int32)) (.long ut) (.long ub)) (A_ui : AJ Z h0 ui 4 G) (A_un : AJ Z h0 un 4 H) :
    Met l Z (⟨"com/example/teddington/teddington/WindowCounts", "count", "(I)J"⟩ : MethodName) prog_47_method_8_code 2 (some .long) ({ frames := 1, cells := 0, slots := 0, locals := 14 } : Room) ws n0 #[(.ref a1), (.int (0 : Int32))] h0 (fun v h' => v = some (.long (H 2)) ∧ h0 = h') := by
  refine Met.intro (plainFor_of_name pn6_2_4_0) Z0 ?_
  intro p e s m below meth c T X
  refine g_cast (ef6_2_4_0 m a1 (0 : Int32)) ?_
  refine g_aloadN X d6_0 rfl (q := 1) rfl rfl ?_
  refine g_getF X (tw13 hw) Via.refl O_a1.2.2.1 d6_1 (q := 4) rfl (fun T X => ?_)
  refine g_aloadN X d6_4 rfl (q := 5) rfl rfl ?_
  refine g_iloadN X d6_5 rfl (q := 6) rfl ?_
  refine g_callP X O_a1.1 [(.int (0 : Int32))] [(.ref un)] (tw24 hw) (own_selP (tw2 hw) (tw25 hw) (tw26 hw) (by decide)) (tw25 hw) (tw26 hw) (tw3 hw) (tw27 hw) (by decide) (rm4_2_4_0 l Z a0 hw [] a1 uc ui un us ut ub G _ n0 X.size O_a1 A_ui) pd1 rfl rfl rfl d6_6 (q := 9) rfl (W := 1) rfl (by decide) (by decide) (c2 := 0) (s2 := 0) rfl rfl (by decide) (by decide) (fun v T h' X hQ => ?_)
  obtain ⟨rfl, rfl⟩ := hQ
  show Goes p e below s _ n0 _ (T.setTop (mkF m 9 #[.val (.ref a1), .val (.int (0 : Int32))] [(.int (2 : Int32)), (.ref un)]))
  refine g_laload X A_un ⟨by decide, by decide⟩ d6_9 (q := 10) rfl ?_
  exact g_retJ X d6_10 (by decide) (by decide) ⟨rfl, rfl⟩
theorem pn4_2_4_1 : plainName "com/example/teddington/teddington/WindowCounts" = true := by first | (simp [plainName, overriddenIn]; done) | decide +kernel
theorem ef4_2_4_1 (m : MethodId) (x0 : Addr) (x1 : Int32) : entryFrame m #[(.ref x0), (.int x1)] 2 = mkF m 0 #[.val (.ref x0), .val (.int x1)] [] := by first | (simp [entryFrame, mkF, argsToLocals, Value.category]; done) | rfl
set_option maxRecDepth 65536 in
set_option maxHeartbeats 40000000 in
theorem rm4_2_4_1 (l : Launch) (Z : State) (a0 : Array Value) (hw : ∀ d ∈ tables_1, d.before a0 Z = true) (ws : List Jvm.Cond) (a1 : Addr) (uc : Int64) (ui : Addr) (un : Addr) (us : Int32) (ut : Int64) (ub : Int64) (G : Nat → Int64) (h0 : Heap) (n0 : Nat) (Z0 : n0 ≤ h0.size) (O_a1 : O_WindowCounts Z h0 a1 (.ref ui) (.ref un) (.long uc) (.int us) (.int (2 : Int32)) (.long ut) (.long ub)) (A_ui : AJ Z h0 ui 4 G) :
    Met l Z (⟨"com/example/teddington/teddington/WindowCounts", "at", "(I)I"⟩ : MethodName) prog_47_method_15_code 2 (some .int) ({ frames := 0, cells := 0, slots := 0, locals := 0 } : Room) ws n0 #[(.ref a1), (.int (1 : Int32))] h0 (fun v h' => v = some (.int (3 : Int32)) ∧ h0 = h') := by
  refine Met.intro (plainFor_of_name pn4_2_4_1) Z0 ?_
  intro p e s m below meth c T X
  refine g_cast (ef4_2_4_1 m a1 (1 : Int32)) ?_
  refine g_aloadN X d4_0 rfl (q := 1) rfl rfl ?_
  refine g_getF X (tw28 hw) Via.refl O_a1.2.2.2.2.2.1 d4_1 (q := 4) rfl (fun T X => ?_)
  refine g_iloadN X d4_4 rfl (q := 5) rfl ?_
  refine g_iadd X d4_5 rfl (q := 6) ?_
  refine g_eqI (y := (3 : Int32)) (by decide) ?_
  refine g_aloadN X d4_6 rfl (q := 7) rfl rfl ?_
  refine g_getF X (tw11 hw) Via.refl O_a1.2.1 d4_7 (q := 10) rfl (fun T X => ?_)
  refine g_alenJ X A_ui d4_10 (q := 11) rfl ?_
  show Goes p e below s _ n0 _ (T.setTop (mkF m 11 #[.val (.ref a1), .val (.int (1 : Int32))] [(.int (4 : Int32)), (.int (3 : Int32))]))
  refine g_iconst X d4_11 rfl (q := 12) (v := 1) rfl ?_
  refine g_isub X d4_12 rfl (q := 13) ?_
  refine g_eqI (y := (3 : Int32)) (by decide) ?_
  refine g_iand X d4_13 rfl (q := 14) ?_
  refine g_eqI (y := (3 : Int32)) (by decide) ?_
  exact g_retI X d4_14 (by decide) (by decide) ⟨rfl, rfl⟩
theorem pn12_3_0_4_2 : plainName "com/example/teddington/teddington/WindowCounts" = true := by first | (simp [plainName, overriddenIn]; done) | decide +kernel
theorem ef12_3_0_4_2 (m : MethodId) (x0 : Addr) (x1 : Int32) : entryFrame m #[(.ref x0), (.int x1)] 5 = mkF m 0 #[.val (.ref x0), .val (.int x1), .unset, .unset, .unset] [] := by first | (simp [entryFrame, mkF, argsToLocals, Value.category]; done) | rfl
set_option maxRecDepth 65536 in
set_option maxHeartbeats 40000000 in
theorem rm12_3_0_4_2 (l : Launch) (Z : State) (a0 : Array Value) (hw : ∀ d ∈ tables_1, d.before a0 Z = true) (ws : List Jvm.Cond) (a1 : Addr) (uc : Int64) (ui : Addr) (un : Addr) (ut : Int64) (ub : Int64) (G : Nat → Int64) (H : Nat → Int64) (h0 : Heap) (n0 : Nat) (Z0 : n0 ≤ h0.size) (O_a1 : O_WindowCounts Z h0 a1 (.ref ui) (.ref un) (.long uc) (.int (0 : Int32)) (.int (3 : Int32)) (.long ut) (.long ub)) (A_ui : AJ Z h0 ui 4 G) (A_un : AJ Z h0 un 4 H) (g_a1 : n0 ≤ a1) (ne_a1_ui : Apart a1 ui) (ne_a1_un : Apart a1 un) (ne_ui_a1 : Apart ui a1) (ne_ui_un : Apart ui un) (ne_un_a1 : Apart un a1) (ne_un_ui : Apart un ui) :
    Met l Z (⟨"com/example/teddington/teddington/WindowCounts", "resize", "(I)V"⟩ : MethodName) prog_47_method_16_code 5 none ({ frames := 0, cells := 2, slots := 4, locals := 0 } : Room) ws n0 #[(.ref a1), (.int (2 : Int32))] h0 (fun v h' => ∃ i1 : Addr, ∃ n1 : Addr, v = none ∧ Keep h0 h' [a1] ∧ O_WindowCounts Z h' a1 (.ref i1) (.ref n1) (.long uc) (.int (0 : Int32)) (.int (0 : Int32)) (.long ut) (.long ub) ∧ AJ Z h' i1 2 (fun _ => 0) ∧ AJ Z h' n1 2 (fun _ => 0) ∧ h0.size ≤ i1 ∧ h0.size ≤ n1 ∧ n0 ≤ i1 ∧ n0 ≤ n1 ∧ Apart i1 n1 ∧ Apart n1 i1) := by
  refine Met.intro (plainFor_of_name pn12_3_0_4_2) Z0 ?_
  intro p e s m below meth c T X
  refine g_cast (ef12_3_0_4_2 m a1 (2 : Int32)) ?_
  have K : Keep h0 h0 [a1] := Keep.refl h0 _
  refine g_iloadN X d12_0 rfl (q := 1) rfl ?_
  refine g_newarrJ X (tw10 hw) d12_1 (q := 3) rfl (by decide) (cap := 2) (by decide) (by decide) (c2 := 1) (s2 := 2) rfl rfl (by decide) (by decide) (fun T h' b9 X gz_b9 g_b9 E A_new => ?_)
  have ne_a1_b9 := own_new gz_b9 O_a1.1.lt
  have ne_b9_a1 := own_apS ne_a1_b9
  have ne_ui_b9 := own_new gz_b9 A_ui.lt
  have ne_b9_ui := own_apS ne_ui_b9
  have ne_un_b9 := own_new gz_b9 A_un.lt
  have ne_b9_un := own_apS ne_un_b9
  have sz_b9 := own_sz gz_b9 K
  have K := K.ext E
  have O_a1 := O_a1.ext E
  have A_ui := A_ui.ext E
  have A_un := A_un.ext E
  have A_b9 : AJ Z h' b9 2 (fun _ => 0) := A_new
  refine g_astoreN X d12_3 rfl (q := 4) (L' := #[.val (.ref a1), .val (.int (2 : Int32)), .val (.ref b9), .unset, .unset]) rfl rfl ?_
  refine g_iloadN X d12_4 rfl (q := 5) rfl ?_
  refine g_newarrJ X (tw10 hw) d12_5 (q := 7) rfl (by decide) (cap := 2) (by decide) (by decide) (c2 := 2) (s2 := 4) rfl rfl (by decide) (by decide) (fun T h' b10 X gz_b10 g_b10 E A_new => ?_)
  have ne_a1_b10 := own_new gz_b10 O_a1.1.lt
  have ne_b10_a1 := own_apS ne_a1_b10
  have ne_ui_b10 := own_new gz_b10 A_ui.lt
  have ne_b10_ui := own_apS ne_ui_b10
  have ne_un_b10 := own_new gz_b10 A_un.lt
  have ne_b10_un := own_apS ne_un_b10
  have ne_b9_b10 := own_new gz_b10 A_b9.lt
  have ne_b10_b9 := own_apS ne_b9_b10
  have sz_b10 := own_sz gz_b10 K
  have K := K.ext E
  have O_a1 := O_a1.ext E
  have A_ui := A_ui.ext E
  have A_un := A_un.ext E
  have A_b9 := A_b9.ext E
  have A_b10 : AJ Z h' b10 2 (fun _ => 0) := A_new
  refine g_astoreN X d12_7 rfl (q := 8) (L' := #[.val (.ref a1), .val (.int (2 : Int32)), .val (.ref b9), .val (.ref b10), .unset]) rfl rfl ?_
  refine g_iconst X d12_8 rfl (q := 9) (v := 0) rfl ?_
  refine g_istore X d12_9 rfl (q := 11) (L' := #[.val (.ref a1), .val (.int (2 : Int32)), .val (.ref b9), .val (.ref b10), .val (.int (0 : Int32))]) rfl ?_
  refine g_iload X d12_11 rfl (q := 13) rfl ?_
  refine g_aloadN X d12_13 rfl (q := 14) rfl rfl ?_
  refine g_getF X (tw22 hw) Via.refl O_a1.2.2.2.2.1 d12_14 (q := 17) rfl (fun T X => ?_)
  refine g_icmpB X d12_17 (Or.inl rfl) (q := 20) rfl (by decide) (t := 46) rfl (fun (c1 : (0 : Int32) < (0 : Int32)) => ?_) (fun (c1 : ¬ ((0 : Int32) < (0 : Int32))) => ?_)
  · skip
    exact absurd c1 (by decide)
  · skip
    refine g_aloadN X d12_46 rfl (q := 47) rfl rfl ?_
    refine g_aloadN X d12_47 rfl (q := 48) rfl rfl ?_
    refine g_putF X (tw11 hw) Via.refl O_a1.2.1 O_a1.1 (Or.inl (tw12 hw)) (tw2 hw) (ty := (.array .long)) (by decide) rfl rfl g_a1 d12_48 (q := 51) rfl (fun T h X W => ?_)
    have A_ui := A_ui.other W ne_ui_a1
    have A_un := A_un.other W ne_un_a1
    have A_b9 := A_b9.other W ne_b9_a1
    have A_b10 := A_b10.other W ne_b10_a1
    have O_a1 := O_WindowCounts.set0 hw W O_a1
    have K := K.wr W (Or.inl (List.mem_of_getElem? (i := 0) rfl))
    refine g_aloadN X d12_51 rfl (q := 52) rfl rfl ?_
    refine g_aloadN X d12_52 rfl (q := 53) rfl rfl ?_
    refine g_putF X (tw13 hw) Via.refl O_a1.2.2.1 O_a1.1 (Or.inl (tw14 hw)) (tw2 hw) (ty := (.array .long)) (by decide) rfl rfl g_a1 d12_53 (q := 56) rfl (fun T h X W => ?_)
    have A_ui := A_ui.other W ne_ui_a1
    have A_un := A_un.other W ne_un_a1
    have A_b9 := A_b9.other W ne_b9_a1
    have A_b10 := A_b10.other W ne_b10_a1
    have O_a1 := O_WindowCounts.set1 hw W O_a1
    have K := K.wr W (Or.inl (List.mem_of_getElem? (i := 0) rfl))
    refine g_aloadN X d12_56 rfl (q := 57) rfl rfl ?_
    refine g_iconst X d12_57 rfl (q := 58) (v := 0) rfl ?_
    refine g_putF X (tw28 hw) Via.refl O_a1.2.2.2.2.2.1 O_a1.1 (Or.inl (tw29 hw)) (tw2 hw) (ty := .int) (by decide) rfl rfl g_a1 d12_58 (q := 61) rfl (fun T h X W => ?_)
    have A_ui := A_ui.other W ne_ui_a1
    have A_un := A_un.other W ne_un_a1
    have A_b9 := A_b9.other W ne_b9_a1
    have A_b10 := A_b10.other W ne_b10_a1
    have O_a1 := O_WindowCounts.set4 hw W O_a1
    have K := K.wr W (Or.inl (List.mem_of_getElem? (i := 0) rfl))
    exact g_ret0 X d12_61 (by decide) (by decide) ⟨b9, b10, rfl, K, O_a1, A_b9, A_b10, sz_b9, sz_b10, g_b9, g_b10, ne_b9_b10, ne_b10_b9⟩
theorem pn8_3_4_3 : plainName "com/example/teddington/teddington/WindowCounts" = true := by first | (simp [plainName, overriddenIn]; done) | decide +kernel
theorem ef8_3_4_3 (m : MethodId) (x0 : Addr) (x1 : Int64) : entryFrame m #[(.ref x0), (.long x1)] 5 = mkF m 0 #[.val (.ref x0), .val (.long x1), .second, .unset, .unset] [] := by first | (simp [entryFrame, mkF, argsToLocals, Value.category]; done) | rfl
set_option maxRecDepth 65536 in
set_option maxHeartbeats 40000000 in
theorem rm8_3_4_3 (l : Launch) (Z : State) (a0 : Array Value) (hw : ∀ d ∈ tables_1, d.before a0 Z = true) (ws : List Jvm.Cond) (a1 : Addr) (q2 : Int64) (uc : Int64) (ui : Addr) (un : Addr) (ut : Int64) (ub : Int64) (G : Nat → Int64) (H : Nat → Int64) (S : Int) (k : Nat) (h0 : Heap) (n0 : Nat) (Z0 : n0 ≤ h0.size) (O_a1 : O_WindowCounts Z h0 a1 (.ref ui) (.ref un) (.long uc) (.int (3 : Int32)) (.int (0 : Int32)) (.long ut) (.long ub)) (A_ui : AJ Z h0 ui 4 G) (A_un : AJ Z h0 un 4 H) (g_a1 : n0 ≤ a1) (ne_a1_ui : Apart a1 ui) (ne_a1_un : Apart a1 un) (ne_ui_a1 : Apart ui a1) (ne_ui_un : Apart ui un) (ne_un_a1 : Apart un a1) (ne_un_ui : Apart un ui) (d0 : (G 0) < q2) (d1 : (G 1) < q2) (d2 : (G 2) < q2) (p0 : 0 ≤ (H 0).toInt) (p1 : 0 ≤ (H 1).toInt) (p2 : 0 ≤ (H 2).toInt) (hs : (H 0).toInt + (H 1).toInt + (H 2).toInt ≤ S) (hS : OKT ut ub S k) (hk : k ≤ 100) :
    Met l Z (⟨"com/example/teddington/teddington/WindowCounts", "dropBefore", "(J)V"⟩ : MethodName) prog_47_method_13_code 5 none ({ frames := 2, cells := 2, slots := 4, locals := 29 } : Room) ws n0 #[(.ref a1), (.long q2)] h0 (fun v h' => ∃ t1 : Int64, ∃ b1 : Int64, ∃ i1 : Addr, ∃ n1 : Addr, ∃ o1 : Int32, ∃ s1 : Int32, v = none ∧ Keep h0 h' [a1] ∧ O_WindowCounts Z h' a1 (.ref i1) (.ref n1) (.long uc) (.int s1) (.int o1) (.long t1) (.long b1) ∧ OKT t1 b1 (S - (H 0).toInt - (H 1).toInt - (H 2).toInt) k) := by
  refine Met.intro (plainFor_of_name pn8_3_4_3) Z0 ?_
  intro p e s m below meth c T X
  refine g_cast (ef8_3_4_3 m a1 q2) ?_
  have K : Keep h0 h0 [a1] := Keep.refl h0 _
  refine g_aloadN X d8_0 rfl (q := 1) rfl rfl ?_
  refine g_getF X (tw22 hw) Via.refl O_a1.2.2.2.2.1 d8_1 (q := 4) rfl (fun T X => ?_)
  refine g_ifB X d8_4 (Or.inr (Or.inl rfl)) (q := 7) rfl (by decide) (t := 72) rfl (fun (c1 : (0 : Int32) < (3 : Int32)) => ?_) (fun (c1 : ¬ ((0 : Int32) < (3 : Int32))) => ?_)
  · skip
    refine g_aloadN X d8_7 rfl (q := 8) rfl rfl ?_
    refine g_iconst X d8_8 rfl (q := 9) (v := 0) rfl ?_
    refine g_callV X O_a1.1 [(.int (0 : Int32))] [] (tw35 hw) (tw36 hw) (tw38 hw) (tw37 hw) (tw3 hw) (tw39 hw) (by decide) (rm5_0_4_0 l Z a0 hw [] a1 uc ui un (3 : Int32) ut ub G _ n0 X.size O_a1 A_ui) pd3 rfl rfl rfl d8_9 (q := 12) rfl (W := 0) rfl (by decide) (by decide) (c2 := 0) (s2 := 0) rfl rfl (by decide) (by decide) (fun v T h' X hQ => ?_)
    obtain ⟨rfl, rfl⟩ := hQ
    show Goes p e below s _ n0 _ (T.setTop (mkF m 12 #[.val (.ref a1), .val (.long q2), .second, .unset, .unset] [(.long (G 0))]))
    refine g_lloadN X d8_12 rfl (q := 13) rfl ?_
    refine g_lcmpB X d8_13 (q1 := 14) rfl d8_14 (Or.inl rfl) (q := 17) rfl (by decide) (t := 72) rfl (fun (c2 : (G 0) < q2) => ?_) (fun (c2 : ¬ ((G 0) < q2)) => ?_)
    · skip
      refine g_aloadN X d8_17 rfl (q := 18) rfl rfl ?_
      refine g_getF X (tw30 hw) Via.refl O_a1.2.2.2.2.2.2.1 d8_18 (q := 21) rfl (fun T X => ?_)
      refine g_aloadN X d8_21 rfl (q := 22) rfl rfl ?_
      refine g_iconst X d8_22 rfl (q := 23) (v := 0) rfl ?_
      refine g_callV X O_a1.1 [(.int (0 : Int32))] [(.long ut)] (tw40 hw) (tw41 hw) (tw43 hw) (tw42 hw) (tw3 hw) (tw44 hw) (by decide) (rm6_0_4_0 l Z a0 hw [] a1 uc ui un (3 : Int32) ut ub G H _ n0 X.size O_a1 A_ui A_un) pd3 rfl rfl rfl d8_23 (q := 26) rfl (W := 2) rfl (by decide) (by decide) (c2 := 0) (s2 := 0) rfl rfl (by decide) (by decide) (fun v T h' X hQ => ?_)
      obtain ⟨rfl, rfl⟩ := hQ
      show Goes p e below s _ n0 _ (T.setTop (mkF m 26 #[.val (.ref a1), .val (.long q2), .second, .unset, .unset] [(.long (H 0)), (.long ut)]))
      refine g_lsub X d8_26 rfl (q := 27) ?_
      refine g_letJ (fun y0 hy0 => ?_)
      have hS1 := own_subT hS hk p0 (by omega) hy0
      refine g_lstoreN X d8_27 rfl (q := 28) (L' := #[.val (.ref a1), .val (.long q2), .second, .val (.long y0), .second]) rfl ?_
      refine g_aloadN X d8_28 rfl (q := 29) rfl rfl ?_
      refine g_dup X d8_29 rfl (q := 30) rfl ?_
      refine g_getF X (tw32 hw) Via.refl O_a1.2.2.2.2.2.2.2 d8_30 (q := 33) rfl (fun T X => ?_)
      refine g_lloadN X d8_33 rfl (q := 34) rfl ?_
      refine g_bipush X d8_34 rfl (q := 36) (v := 63) rfl ?_
      refine g_lushr X d8_36 rfl (q := 37) ?_
      refine g_lsub X d8_37 rfl (q := 38) ?_
      refine g_putF X (tw32 hw) Via.refl O_a1.2.2.2.2.2.2.2 O_a1.1 (Or.inl (tw33 hw)) (tw2 hw) (ty := .long) (by decide) rfl rfl g_a1 d8_38 (q := 41) rfl (fun T h X W => ?_)
      have A_ui := A_ui.other W ne_ui_a1
      have A_un := A_un.other W ne_un_a1
      have O_a1 := O_WindowCounts.set6 hw W O_a1
      have K := K.wr W (Or.inl (List.mem_of_getElem? (i := 0) rfl))
      refine g_aloadN X d8_41 rfl (q := 42) rfl rfl ?_
      refine g_lloadN X d8_42 rfl (q := 43) rfl ?_
      refine g_ldc2 X (tw34 hw) d8_43 (q := 46) rfl ?_
      refine g_land X d8_46 rfl (q := 47) ?_
      refine g_putF X (tw30 hw) Via.refl O_a1.2.2.2.2.2.2.1 O_a1.1 (Or.inl (tw31 hw)) (tw2 hw) (ty := .long) (by decide) rfl rfl g_a1 d8_47 (q := 50) rfl (fun T h X W => ?_)
      have A_ui := A_ui.other W ne_ui_a1
      have A_un := A_un.other W ne_un_a1
      have O_a1 := O_WindowCounts.set5 hw W O_a1
      have K := K.wr W (Or.inl (List.mem_of_getElem? (i := 0) rfl))
      refine g_aloadN X d8_50 rfl (q := 51) rfl rfl ?_
      refine g_aloadN X d8_51 rfl (q := 52) rfl rfl ?_
      refine g_iconst X d8_52 rfl (q := 53) (v := 1) rfl ?_
      refine g_callP X O_a1.1 [(.int (1 : Int32))] [(.ref a1)] (tw24 hw) (own_selP (tw2 hw) (tw25 hw) (tw26 hw) (by decide)) (tw25 hw) (tw26 hw) (tw3 hw) (tw27 hw) (by decide) (rm4_0_4_1 l Z a0 hw [] a1 uc ui un (3 : Int32) (y0 &&& (9223372036854775807 : Int64)) (ub - ((y0.toUInt64 >>> ((63 : Int32) &&& 0x3f).toInt64.toUInt64).toInt64)) G _ n0 X.size O_a1 A_ui) pd1 rfl rfl rfl d8_53 (q := 56) rfl (W := 1) rfl (by decide) (by decide) (c2 := 0) (s2 := 0) rfl rfl (by decide) (by decide) (fun v T h' X hQ => ?_)
      obtain ⟨rfl, rfl⟩ := hQ
      show Goes p e below s _ n0 _ (T.setTop (mkF m 56 #[.val (.ref a1), .val (.long q2), .second, .val (.long y0), .second] [(.int (1 : Int32)), (.ref a1)]))
      refine g_putF X (tw28 hw) Via.refl O_a1.2.2.2.2.2.1 O_a1.1 (Or.inl (tw29 hw)) (tw2 hw) (ty := .int) (by decide) rfl rfl g_a1 d8_56 (q := 59) rfl (fun T h X W => ?_)
      have A_ui := A_ui.other W ne_ui_a1
      have A_un := A_un.other W ne_un_a1
      have O_a1 := O_WindowCounts.set4 hw W O_a1
      have K := K.wr W (Or.inl (List.mem_of_getElem? (i := 0) rfl))
      refine g_aloadN X d8_59 rfl (q := 60) rfl rfl ?_
      refine g_dup X d8_60 rfl (q := 61) rfl ?_
      refine g_getF X (tw22 hw) Via.refl O_a1.2.2.2.2.1 d8_61 (q := 64) rfl (fun T X => ?_)
      refine g_iconst X d8_64 rfl (q := 65) (v := 1) rfl ?_
      refine g_isub X d8_65 rfl (q := 66) ?_
      refine g_eqI (y := (2 : Int32)) (by decide) ?_
      refine g_putF X (tw22 hw) Via.refl O_a1.2.2.2.2.1 O_a1.1 (Or.inl (tw23 hw)) (tw2 hw) (ty := .int) (by decide) rfl rfl g_a1 d8_66 (q := 69) rfl (fun T h X W => ?_)
      have A_ui := A_ui.other W ne_ui_a1
      have A_un := A_un.other W ne_un_a1
      have O_a1 := O_WindowCounts.set3 hw W O_a1
      have K := K.wr W (Or.inl (List.mem_of_getElem? (i := 0) rfl))
      refine g_goto X d8_69 (by decide) (q := 0) rfl ?_
      refine g_aloadN X d8_0 rfl (q := 1) rfl rfl ?_
      refine g_getF X (tw22 hw) Via.refl O_a1.2.2.2.2.1 d8_1 (q := 4) rfl (fun T X => ?_)
      refine g_ifB X d8_4 (Or.inr (Or.inl rfl)) (q := 7) rfl (by decide) (t := 72) rfl (fun (c3 : (0 : Int32) < (2 : Int32)) => ?_) (fun (c3 : ¬ ((0 : Int32) < (2 : Int32))) => ?_)
      · skip
        refine g_aloadN X d8_7 rfl (q := 8) rfl rfl ?_
        refine g_iconst X d8_8 rfl (q := 9) (v := 0) rfl ?_
        refine g_callV X O_a1.1 [(.int (0 : Int32))] [] (tw35 hw) (tw36 hw) (tw38 hw) (tw37 hw) (tw3 hw) (tw39 hw) (by decide) (rm5_1_4_0 l Z a0 hw [] a1 uc ui un (2 : Int32) (y0 &&& (9223372036854775807 : Int64)) (ub - ((y0.toUInt64 >>> ((63 : Int32) &&& 0x3f).toInt64.toUInt64).toInt64)) G _ n0 X.size O_a1 A_ui) pd3 rfl rfl rfl d8_9 (q := 12) rfl (W := 0) rfl (by decide) (by decide) (c2 := 0) (s2 := 0) rfl rfl (by decide) (by decide) (fun v T h' X hQ => ?_)
        obtain ⟨rfl, rfl⟩ := hQ
        show Goes p e below s _ n0 _ (T.setTop (mkF m 12 #[.val (.ref a1), .val (.long q2), .second, .val (.long y0), .second] [(.long (G 1))]))
        refine g_lloadN X d8_12 rfl (q := 13) rfl ?_
        refine g_lcmpB X d8_13 (q1 := 14) rfl d8_14 (Or.inl rfl) (q := 17) rfl (by decide) (t := 72) rfl (fun (c4 : (G 1) < q2) => ?_) (fun (c4 : ¬ ((G 1) < q2)) => ?_)
        · skip
          refine g_aloadN X d8_17 rfl (q := 18) rfl rfl ?_
          refine g_getF X (tw30 hw) Via.refl O_a1.2.2.2.2.2.2.1 d8_18 (q := 21) rfl (fun T X => ?_)
          refine g_aloadN X d8_21 rfl (q := 22) rfl rfl ?_
          refine g_iconst X d8_22 rfl (q := 23) (v := 0) rfl ?_
          refine g_callV X O_a1.1 [(.int (0 : Int32))] [(.long (y0 &&& (9223372036854775807 : Int64)))] (tw40 hw) (tw41 hw) (tw43 hw) (tw42 hw) (tw3 hw) (tw44 hw) (by decide) (rm6_1_4_0 l Z a0 hw [] a1 uc ui un (2 : Int32) (y0 &&& (9223372036854775807 : Int64)) (ub - ((y0.toUInt64 >>> ((63 : Int32) &&& 0x3f).toInt64.toUInt64).toInt64)) G H _ n0 X.size O_a1 A_ui A_un) pd3 rfl rfl rfl d8_23 (q := 26) rfl (W := 2) rfl (by decide) (by decide) (c2 := 0) (s2 := 0) rfl rfl (by decide) (by decide) (fun v T h' X hQ => ?_)
          obtain ⟨rfl, rfl⟩ := hQ
          show Goes p e below s _ n0 _ (T.setTop (mkF m 26 #[.val (.ref a1), .val (.long q2), .second, .val (.long y0), .second] [(.long (H 1)), (.long (y0 &&& (9223372036854775807 : Int64)))]))
          refine g_lsub X d8_26 rfl (q := 27) ?_
          refine g_letJ (fun y1 hy1 => ?_)
          have hS2 := own_subT hS1 hk p1 (by omega) hy1
          refine g_lstoreN X d8_27 rfl (q := 28) (L' := #[.val (.ref a1), .val (.long q2), .second, .val (.long y1), .second]) rfl ?_
          refine g_aloadN X d8_28 rfl (q := 29) rfl rfl ?_
          refine g_dup X d8_29 rfl (q := 30) rfl ?_
          refine g_getF X (tw32 hw) Via.refl O_a1.2.2.2.2.2.2.2 d8_30 (q := 33) rfl (fun T X => ?_)
          refine g_lloadN X d8_33 rfl (q := 34) rfl ?_
          refine g_bipush X d8_34 rfl (q := 36) (v := 63) rfl ?_
          refine g_lushr X d8_36 rfl (q := 37) ?_
          refine g_lsub X d8_37 rfl (q := 38) ?_
          refine g_putF X (tw32 hw) Via.refl O_a1.2.2.2.2.2.2.2 O_a1.1 (Or.inl (tw33 hw)) (tw2 hw) (ty := .long) (by decide) rfl rfl g_a1 d8_38 (q := 41) rfl (fun T h X W => ?_)
          have A_ui := A_ui.other W ne_ui_a1
          have A_un := A_un.other W ne_un_a1
          have O_a1 := O_WindowCounts.set6 hw W O_a1
          have K := K.wr W (Or.inl (List.mem_of_getElem? (i := 0) rfl))
          refine g_aloadN X d8_41 rfl (q := 42) rfl rfl ?_
          refine g_lloadN X d8_42 rfl (q := 43) rfl ?_
          refine g_ldc2 X (tw34 hw) d8_43 (q := 46) rfl ?_
          refine g_land X d8_46 rfl (q := 47) ?_
          refine g_putF X (tw30 hw) Via.refl O_a1.2.2.2.2.2.2.1 O_a1.1 (Or.inl (tw31 hw)) (tw2 hw) (ty := .long) (by decide) rfl rfl g_a1 d8_47 (q := 50) rfl (fun T h X W => ?_)
          have A_ui := A_ui.other W ne_ui_a1
          have A_un := A_un.other W ne_un_a1
          have O_a1 := O_WindowCounts.set5 hw W O_a1
          have K := K.wr W (Or.inl (List.mem_of_getElem? (i := 0) rfl))
          refine g_aloadN X d8_50 rfl (q := 51) rfl rfl ?_
          refine g_aloadN X d8_51 rfl (q := 52) rfl rfl ?_
          refine g_iconst X d8_52 rfl (q := 53) (v := 1) rfl ?_
          refine g_callP X O_a1.1 [(.int (1 : Int32))] [(.ref a1)] (tw24 hw) (own_selP (tw2 hw) (tw25 hw) (tw26 hw) (by decide)) (tw25 hw) (tw26 hw) (tw3 hw) (tw27 hw) (by decide) (rm4_1_4_1 l Z a0 hw [] a1 uc ui un (2 : Int32) (y1 &&& (9223372036854775807 : Int64)) ((ub - ((y0.toUInt64 >>> ((63 : Int32) &&& 0x3f).toInt64.toUInt64).toInt64)) - ((y1.toUInt64 >>> ((63 : Int32) &&& 0x3f).toInt64.toUInt64).toInt64)) G _ n0 X.size O_a1 A_ui) pd1 rfl rfl rfl d8_53 (q := 56) rfl (W := 1) rfl (by decide) (by decide) (c2 := 0) (s2 := 0) rfl rfl (by decide) (by decide) (fun v T h' X hQ => ?_)
          obtain ⟨rfl, rfl⟩ := hQ
          show Goes p e below s _ n0 _ (T.setTop (mkF m 56 #[.val (.ref a1), .val (.long q2), .second, .val (.long y1), .second] [(.int (2 : Int32)), (.ref a1)]))
          refine g_putF X (tw28 hw) Via.refl O_a1.2.2.2.2.2.1 O_a1.1 (Or.inl (tw29 hw)) (tw2 hw) (ty := .int) (by decide) rfl rfl g_a1 d8_56 (q := 59) rfl (fun T h X W => ?_)
          have A_ui := A_ui.other W ne_ui_a1
          have A_un := A_un.other W ne_un_a1
          have O_a1 := O_WindowCounts.set4 hw W O_a1
          have K := K.wr W (Or.inl (List.mem_of_getElem? (i := 0) rfl))
          refine g_aloadN X d8_59 rfl (q := 60) rfl rfl ?_
          refine g_dup X d8_60 rfl (q := 61) rfl ?_
          refine g_getF X (tw22 hw) Via.refl O_a1.2.2.2.2.1 d8_61 (q := 64) rfl (fun T X => ?_)
          refine g_iconst X d8_64 rfl (q := 65) (v := 1) rfl ?_
          refine g_isub X d8_65 rfl (q := 66) ?_
          refine g_eqI (y := (1 : Int32)) (by decide) ?_
          refine g_putF X (tw22 hw) Via.refl O_a1.2.2.2.2.1 O_a1.1 (Or.inl (tw23 hw)) (tw2 hw) (ty := .int) (by decide) rfl rfl g_a1 d8_66 (q := 69) rfl (fun T h X W => ?_)
          have A_ui := A_ui.other W ne_ui_a1
          have A_un := A_un.other W ne_un_a1
          have O_a1 := O_WindowCounts.set3 hw W O_a1
          have K := K.wr W (Or.inl (List.mem_of_getElem? (i := 0) rfl))
          refine g_goto X d8_69 (by decide) (q := 0) rfl ?_
          refine g_aloadN X d8_0 rfl (q := 1) rfl rfl ?_
          refine g_getF X (tw22 hw) Via.refl O_a1.2.2.2.2.1 d8_1 (q := 4) rfl (fun T X => ?_)
          refine g_ifB X d8_4 (Or.inr (Or.inl rfl)) (q := 7) rfl (by decide) (t := 72) rfl (fun (c5 : (0 : Int32) < (1 : Int32)) => ?_) (fun (c5 : ¬ ((0 : Int32) < (1 : Int32))) => ?_)
          · skip
            refine g_aloadN X d8_7 rfl (q := 8) rfl rfl ?_
            refine g_iconst X d8_8 rfl (q := 9) (v := 0) rfl ?_
            refine g_callV X O_a1.1 [(.int (0 : Int32))] [] (tw35 hw) (tw36 hw) (tw38 hw) (tw37 hw) (tw3 hw) (tw39 hw) (by decide) (rm5_2_4_0 l Z a0 hw [] a1 uc ui un (1 : Int32) (y1 &&& (9223372036854775807 : Int64)) ((ub - ((y0.toUInt64 >>> ((63 : Int32) &&& 0x3f).toInt64.toUInt64).toInt64)) - ((y1.toUInt64 >>> ((63 : Int32) &&& 0x3f).toInt64.toUInt64).toInt64)) G _ n0 X.size O_a1 A_ui) pd3 rfl rfl rfl d8_9 (q := 12) rfl (W := 0) rfl (by decide) (by decide) (c2 := 0) (s2 := 0) rfl rfl (by decide) (by decide) (fun v T h' X hQ => ?_)
            obtain ⟨rfl, rfl⟩ := hQ
            show Goes p e below s _ n0 _ (T.setTop (mkF m 12 #[.val (.ref a1), .val (.long q2), .second, .val (.long y1), .second] [(.long (G 2))]))
            refine g_lloadN X d8_12 rfl (q := 13) rfl ?_
            refine g_lcmpB X d8_13 (q1 := 14) rfl d8_14 (Or.inl rfl) (q := 17) rfl (by decide) (t := 72) rfl (fun (c6 : (G 2) < q2) => ?_) (fun (c6 : ¬ ((G 2) < q2)) => ?_)
            · skip
              refine g_aloadN X d8_17 rfl (q := 18) rfl rfl ?_
              refine g_getF X (tw30 hw) Via.refl O_a1.2.2.2.2.2.2.1 d8_18 (q := 21) rfl (fun T X => ?_)
              refine g_aloadN X d8_21 rfl (q := 22) rfl rfl ?_
              refine g_iconst X d8_22 rfl (q := 23) (v := 0) rfl ?_
              refine g_callV X O_a1.1 [(.int (0 : Int32))] [(.long (y1 &&& (9223372036854775807 : Int64)))] (tw40 hw) (tw41 hw) (tw43 hw) (tw42 hw) (tw3 hw) (tw44 hw) (by decide) (rm6_2_4_0 l Z a0 hw [] a1 uc ui un (1 : Int32) (y1 &&& (9223372036854775807 : Int64)) ((ub - ((y0.toUInt64 >>> ((63 : Int32) &&& 0x3f).toInt64.toUInt64).toInt64)) - ((y1.toUInt64 >>> ((63 : Int32) &&& 0x3f).toInt64.toUInt64).toInt64)) G H _ n0 X.size O_a1 A_ui A_un) pd3 rfl rfl rfl d8_23 (q := 26) rfl (W := 2) rfl (by decide) (by decide) (c2 := 0) (s2 := 0) rfl rfl (by decide) (by decide) (fun v T h' X hQ => ?_)
              obtain ⟨rfl, rfl⟩ := hQ
              show Goes p e below s _ n0 _ (T.setTop (mkF m 26 #[.val (.ref a1), .val (.long q2), .second, .val (.long y1), .second] [(.long (H 2)), (.long (y1 &&& (9223372036854775807 : Int64)))]))
              refine g_lsub X d8_26 rfl (q := 27) ?_
              refine g_letJ (fun y2 hy2 => ?_)
              have hS3 := own_subT hS2 hk p2 (by omega) hy2
              refine g_lstoreN X d8_27 rfl (q := 28) (L' := #[.val (.ref a1), .val (.long q2), .second, .val (.long y2), .second]) rfl ?_
              refine g_aloadN X d8_28 rfl (q := 29) rfl rfl ?_
              refine g_dup X d8_29 rfl (q := 30) rfl ?_
              refine g_getF X (tw32 hw) Via.refl O_a1.2.2.2.2.2.2.2 d8_30 (q := 33) rfl (fun T X => ?_)
              refine g_lloadN X d8_33 rfl (q := 34) rfl ?_
              refine g_bipush X d8_34 rfl (q := 36) (v := 63) rfl ?_
              refine g_lushr X d8_36 rfl (q := 37) ?_
              refine g_lsub X d8_37 rfl (q := 38) ?_
              refine g_putF X (tw32 hw) Via.refl O_a1.2.2.2.2.2.2.2 O_a1.1 (Or.inl (tw33 hw)) (tw2 hw) (ty := .long) (by decide) rfl rfl g_a1 d8_38 (q := 41) rfl (fun T h X W => ?_)
              have A_ui := A_ui.other W ne_ui_a1
              have A_un := A_un.other W ne_un_a1
              have O_a1 := O_WindowCounts.set6 hw W O_a1
              have K := K.wr W (Or.inl (List.mem_of_getElem? (i := 0) rfl))
              refine g_aloadN X d8_41 rfl (q := 42) rfl rfl ?_
              refine g_lloadN X d8_42 rfl (q := 43) rfl ?_
              refine g_ldc2 X (tw34 hw) d8_43 (q := 46) rfl ?_
              refine g_land X d8_46 rfl (q := 47) ?_
              refine g_putF X (tw30 hw) Via.refl O_a1.2.2.2.2.2.2.1 O_a1.1 (Or.inl (tw31 hw)) (tw2 hw) (ty := .long) (by decide) rfl rfl g_a1 d8_47 (q := 50) rfl (fun T h X W => ?_)
              have A_ui := A_ui.other W ne_ui_a1
              have A_un := A_un.other W ne_un_a1
              have O_a1 := O_WindowCounts.set5 hw W O_a1
              have K := K.wr W (Or.inl (List.mem_of_getElem? (i := 0) rfl))
              refine g_aloadN X d8_50 rfl (q := 51) rfl rfl ?_
              refine g_aloadN X d8_51 rfl (q := 52) rfl rfl ?_
              refine g_iconst X d8_52 rfl (q := 53) (v := 1) rfl ?_
              refine g_callP X O_a1.1 [(.int (1 : Int32))] [(.ref a1)] (tw24 hw) (own_selP (tw2 hw) (tw25 hw) (tw26 hw) (by decide)) (tw25 hw) (tw26 hw) (tw3 hw) (tw27 hw) (by decide) (rm4_2_4_1 l Z a0 hw [] a1 uc ui un (1 : Int32) (y2 &&& (9223372036854775807 : Int64)) (((ub - ((y0.toUInt64 >>> ((63 : Int32) &&& 0x3f).toInt64.toUInt64).toInt64)) - ((y1.toUInt64 >>> ((63 : Int32) &&& 0x3f).toInt64.toUInt64).toInt64)) - ((y2.toUInt64 >>> ((63 : Int32) &&& 0x3f).toInt64.toUInt64).toInt64)) G _ n0 X.size O_a1 A_ui) pd1 rfl rfl rfl d8_53 (q := 56) rfl (W := 1) rfl (by decide) (by decide) (c2 := 0) (s2 := 0) rfl rfl (by decide) (by decide) (fun v T h' X hQ => ?_)
              obtain ⟨rfl, rfl⟩ := hQ
              show Goes p e below s _ n0 _ (T.setTop (mkF m 56 #[.val (.ref a1), .val (.long q2), .second, .val (.long y2), .second] [(.int (3 : Int32)), (.ref a1)]))
              refine g_putF X (tw28 hw) Via.refl O_a1.2.2.2.2.2.1 O_a1.1 (Or.inl (tw29 hw)) (tw2 hw) (ty := .int) (by decide) rfl rfl g_a1 d8_56 (q := 59) rfl (fun T h X W => ?_)
              have A_ui := A_ui.other W ne_ui_a1
              have A_un := A_un.other W ne_un_a1
              have O_a1 := O_WindowCounts.set4 hw W O_a1
              have K := K.wr W (Or.inl (List.mem_of_getElem? (i := 0) rfl))
              refine g_aloadN X d8_59 rfl (q := 60) rfl rfl ?_
              refine g_dup X d8_60 rfl (q := 61) rfl ?_
              refine g_getF X (tw22 hw) Via.refl O_a1.2.2.2.2.1 d8_61 (q := 64) rfl (fun T X => ?_)
              refine g_iconst X d8_64 rfl (q := 65) (v := 1) rfl ?_
              refine g_isub X d8_65 rfl (q := 66) ?_
              refine g_eqI (y := (0 : Int32)) (by decide) ?_
              refine g_putF X (tw22 hw) Via.refl O_a1.2.2.2.2.1 O_a1.1 (Or.inl (tw23 hw)) (tw2 hw) (ty := .int) (by decide) rfl rfl g_a1 d8_66 (q := 69) rfl (fun T h X W => ?_)
              have A_ui := A_ui.other W ne_ui_a1
              have A_un := A_un.other W ne_un_a1
              have O_a1 := O_WindowCounts.set3 hw W O_a1
              have K := K.wr W (Or.inl (List.mem_of_getElem? (i := 0) rfl))
              refine g_goto X d8_69 (by decide) (q := 0) rfl ?_
              refine g_aloadN X d8_0 rfl (q := 1) rfl rfl ?_
              refine g_getF X (tw22 hw) Via.refl O_a1.2.2.2.2.1 d8_1 (q := 4) rfl (fun T X => ?_)
              refine g_ifB X d8_4 (Or.inr (Or.inl rfl)) (q := 7) rfl (by decide) (t := 72) rfl (fun (c7 : (0 : Int32) < (0 : Int32)) => ?_) (fun (c7 : ¬ ((0 : Int32) < (0 : Int32))) => ?_)
              · skip
                exact absurd c7 (by decide)
              · skip
                refine g_aloadN X d8_72 rfl (q := 73) rfl rfl ?_
                refine g_getF X (tw11 hw) Via.refl O_a1.2.1 d8_73 (q := 76) rfl (fun T X => ?_)
                refine g_alenJ X A_ui d8_76 (q := 77) rfl ?_
                show Goes p e below s _ n0 _ (T.setTop (mkF m 77 #[.val (.ref a1), .val (.long q2), .second, .val (.long y2), .second] [(.int (4 : Int32))]))
                refine g_iconst X d8_77 rfl (q := 78) (v := 2) rfl ?_
                refine g_icmpB X d8_78 (Or.inr (Or.inl rfl)) (q := 81) rfl (by decide) (t := 106) rfl (fun (c8 : (2 : Int32) < (4 : Int32)) => ?_) (fun (c8 : ¬ ((2 : Int32) < (4 : Int32))) => ?_)
                · skip
                  refine g_aloadN X d8_81 rfl (q := 82) rfl rfl ?_
                  refine g_getF X (tw22 hw) Via.refl O_a1.2.2.2.2.1 d8_82 (q := 85) rfl (fun T X => ?_)
                  refine g_aloadN X d8_85 rfl (q := 86) rfl rfl ?_
                  refine g_getF X (tw11 hw) Via.refl O_a1.2.1 d8_86 (q := 89) rfl (fun T X => ?_)
                  refine g_alenJ X A_ui d8_89 (q := 90) rfl ?_
                  show Goes p e below s _ n0 _ (T.setTop (mkF m 90 #[.val (.ref a1), .val (.long q2), .second, .val (.long y2), .second] [(.int (4 : Int32)), (.int (0 : Int32))]))
                  refine g_iconst X d8_90 rfl (q := 91) (v := 4) rfl ?_
                  refine g_idiv X d8_91 rfl (q := 92) (by decide) ?_
                  refine g_eqI (y := (1 : Int32)) (by decide) ?_
                  refine g_icmpB X d8_92 (Or.inl rfl) (q := 95) rfl (by decide) (t := 106) rfl (fun (c9 : (0 : Int32) < (1 : Int32)) => ?_) (fun (c9 : ¬ ((0 : Int32) < (1 : Int32))) => ?_)
                  · skip
                    refine g_aloadN X d8_95 rfl (q := 96) rfl rfl ?_
                    refine g_aloadN X d8_96 rfl (q := 97) rfl rfl ?_
                    refine g_getF X (tw11 hw) Via.refl O_a1.2.1 d8_97 (q := 100) rfl (fun T X => ?_)
                    refine g_alenJ X A_ui d8_100 (q := 101) rfl ?_
                    show Goes p e below s _ n0 _ (T.setTop (mkF m 101 #[.val (.ref a1), .val (.long q2), .second, .val (.long y2), .second] [(.int (4 : Int32)), (.ref a1)]))
                    refine g_iconst X d8_101 rfl (q := 102) (v := 2) rfl ?_
                    refine g_idiv X d8_102 rfl (q := 103) (by decide) ?_
                    refine g_eqI (y := (2 : Int32)) (by decide) ?_
                    refine g_callP X O_a1.1 [(.int (2 : Int32))] [] (tw66 hw) (own_selP (tw2 hw) (tw67 hw) (tw68 hw) (by decide)) (tw67 hw) (tw68 hw) (tw3 hw) (tw69 hw) (by decide) (rm12_3_0_4_2 l Z a0 hw [] a1 uc ui un (y2 &&& (9223372036854775807 : Int64)) (((ub - ((y0.toUInt64 >>> ((63 : Int32) &&& 0x3f).toInt64.toUInt64).toInt64)) - ((y1.toUInt64 >>> ((63 : Int32) &&& 0x3f).toInt64.toUInt64).toInt64)) - ((y2.toUInt64 >>> ((63 : Int32) &&& 0x3f).toInt64.toUInt64).toInt64)) G H _ n0 X.size O_a1 A_ui A_un g_a1 ne_a1_ui ne_a1_un ne_ui_a1 ne_ui_un ne_un_a1 ne_un_ui) pd7 rfl rfl rfl d8_103 (q := 106) rfl (W := 0) rfl (by decide) (by decide) (c2 := 2) (s2 := 4) rfl rfl (by decide) (by decide) (fun v T h' X hQ => ?_)
                    obtain ⟨i1_103, n1_103, rfl, Kc, O_a1', A_i1_103', A_n1_103', sq_i1_103, sq_n1_103, g_i1_103, g_n1_103, ne_i1_103_n1_103, ne_n1_103_i1_103⟩ := hQ
                    have ne_a1_i1_103 := own_far O_a1.1.lt sq_i1_103
                    have ne_i1_103_a1 := own_apS ne_a1_i1_103
                    have ne_ui_i1_103 := own_far A_ui.lt sq_i1_103
                    have ne_i1_103_ui := own_apS ne_ui_i1_103
                    have ne_un_i1_103 := own_far A_un.lt sq_i1_103
                    have ne_i1_103_un := own_apS ne_un_i1_103
                    have sz_i1_103 := Nat.le_trans K.1 sq_i1_103
                    have ne_a1_n1_103 := own_far O_a1.1.lt sq_n1_103
                    have ne_n1_103_a1 := own_apS ne_a1_n1_103
                    have ne_ui_n1_103 := own_far A_ui.lt sq_n1_103
                    have ne_n1_103_ui := own_apS ne_ui_n1_103
                    have ne_un_n1_103 := own_far A_un.lt sq_n1_103
                    have ne_n1_103_un := own_apS ne_un_n1_103
                    have sz_n1_103 := Nat.le_trans K.1 sq_n1_103
                    have A_ui := A_ui.keep Kc (ninS ne_ui_a1 nin0)
                    have A_un := A_un.keep Kc (ninS ne_un_a1 nin0)
                    have O_a1 := O_a1'
                    have A_i1_103 := A_i1_103'
                    have A_n1_103 := A_n1_103'
                    have K := K.trans Kc (allS (Or.inl (List.mem_of_getElem? (i := 0) rfl)) all0)
                    show Goes p e below s _ n0 _ (T.setTop (mkF m 106 #[.val (.ref a1), .val (.long q2), .second, .val (.long y2), .second] []))
                    exact g_ret0 X d8_106 (by decide) (by decide) ⟨(y2 &&& (9223372036854775807 : Int64)), (((ub - ((y0.toUInt64 >>> ((63 : Int32) &&& 0x3f).toInt64.toUInt64).toInt64)) - ((y1.toUInt64 >>> ((63 : Int32) &&& 0x3f).toInt64.toUInt64).toInt64)) - ((y2.toUInt64 >>> ((63 : Int32) &&& 0x3f).toInt64.toUInt64).toInt64)), i1_103, n1_103, (0 : Int32), (0 : Int32), rfl, K, O_a1, hS3⟩
                  · skip
                    exact absurd c9 (by decide)
                · skip
                  exact absurd c8 (by decide)
            · skip
              exact absurd d2 c6
          · skip
            exact absurd c5 (by decide)
        · skip
          exact absurd d1 c4
      · skip
        exact absurd c3 (by decide)
    · skip
      exact absurd d0 c2
  · skip
    exact absurd c1 (by decide)
theorem pn0 : plainName "com/example/teddington/teddington/WindowCountsTotalPinLaw" = true := by first | (simp [plainName, overriddenIn]; done) | decide +kernel
theorem ef0 (m : MethodId) (x0 : Int64) (x1 : Int64) (x2 : Int64) (x3 : Int32) (x4 : Int64) : entryFrame m #[(.long x0), (.long x1), (.long x2), (.int x3), (.long x4)] maxLocals = mkF m 0 #[.val (.long x0), .second, .val (.long x1), .second, .val (.long x2), .second, .val (.int x3), .val (.long x4), .second, .unset, .unset, .unset, .unset, .unset, .unset, .unset, .unset, .unset, .unset, .unset, .unset, .unset, .unset, .unset, .unset, .unset, .unset, .unset, .unset, .unset, .unset, .unset] [] := by first | (simp [entryFrame, mkF, argsToLocals, Value.category, maxLocals]; done) | rfl
set_option maxRecDepth 65536 in
set_option maxHeartbeats 40000000 in
theorem rm0 (l : Launch) (Z : State) (a0 : Array Value) (hw : ∀ d ∈ tables_1, d.before a0 Z = true) (ws : List Jvm.Cond) (q1 : Int64) (q2 : Int64) (q3 : Int64) (p4 : Int32) (q5 : Int64) (h0 : Heap) (n0 : Nat) (Z0 : n0 ≤ h0.size) :
    Met l Z x code maxLocals ret room_1 ws n0 #[(.long q1), (.long q2), (.long q3), (.int p4), (.long q5)] h0 (fun v h' => v = some (.int 1)) := by
  refine Met.intro (plainFor_of_name pn0) Z0 ?_
  intro p e s m below meth c T X
  refine g_cast (ef0 m q1 q2 q3 p4 q5) ?_
  refine g_lloadN X at_0 rfl (q := 1) rfl ?_
  refine g_ldc2 X (tw0 hw) at_1 (q := 4) rfl ?_
  refine g_land X at_4 rfl (q := 5) ?_
  refine g_letJ (fun x5 hx5 => ?_)
  have s_x5 := own_mk hx5
  refine g_lstore X at_5 rfl (q := 7) (L' := #[.val (.long q1), .second, .val (.long q2), .second, .val (.long q3), .second, .val (.int p4), .val (.long q5), .second, .val (.long x5), .second, .unset, .unset, .unset, .unset, .unset, .unset, .unset, .unset, .unset, .unset, .unset, .unset, .unset, .unset, .unset, .unset, .unset, .unset, .unset, .unset, .unset]) rfl ?_
  refine g_lloadN X at_7 rfl (q := 8) rfl ?_
  refine g_ldc2 X (tw0 hw) at_8 (q := 11) rfl ?_
  refine g_land X at_11 rfl (q := 12) ?_
  refine g_letJ (fun x12 hx12 => ?_)
  have s_x12 := own_mk hx12
  refine g_lstore X at_12 rfl (q := 14) (L' := #[.val (.long q1), .second, .val (.long q2), .second, .val (.long q3), .second, .val (.int p4), .val (.long q5), .second, .val (.long x5), .second, .val (.long x12), .second, .unset, .unset, .unset, .unset, .unset, .unset, .unset, .unset, .unset, .unset, .unset, .unset, .unset, .unset, .unset, .unset, .unset, .unset, .unset]) rfl ?_
  refine g_lload X at_14 rfl (q := 16) rfl ?_
  refine g_ldc2 X (tw0 hw) at_16 (q := 19) rfl ?_
  refine g_land X at_19 rfl (q := 20) ?_
  refine g_letJ (fun x20 hx20 => ?_)
  have s_x20 := own_mk hx20
  refine g_lstore X at_20 rfl (q := 22) (L' := #[.val (.long q1), .second, .val (.long q2), .second, .val (.long q3), .second, .val (.int p4), .val (.long q5), .second, .val (.long x5), .second, .val (.long x12), .second, .val (.long x20), .second, .unset, .unset, .unset, .unset, .unset, .unset, .unset, .unset, .unset, .unset, .unset, .unset, .unset, .unset, .unset, .unset, .unset]) rfl ?_
  refine g_iload X at_22 rfl (q := 24) rfl ?_
  refine g_iconst X at_24 rfl (q := 25) (v := 1) rfl ?_
  refine g_iand X at_25 rfl (q := 26) ?_
  refine g_i2l X at_26 rfl (q := 27) ?_
  rcases own_b1 p4 with qq27 | qq27
  · refine g_eqJ (y := (0 : Int64)) qq27 ?_
    refine g_lstore X at_27 rfl (q := 29) (L' := #[.val (.long q1), .second, .val (.long q2), .second, .val (.long q3), .second, .val (.int p4), .val (.long q5), .second, .val (.long x5), .second, .val (.long x12), .second, .val (.long x20), .second, .val (.long (0 : Int64)), .second, .unset, .unset, .unset, .unset, .unset, .unset, .unset, .unset, .unset, .unset, .unset, .unset, .unset, .unset, .unset]) rfl ?_
    refine g_lload X at_29 rfl (q := 31) rfl ?_
    refine g_iload X at_31 rfl (q := 33) rfl ?_
    refine g_iconst X at_33 rfl (q := 34) (v := 1) rfl ?_
    refine g_ishr X at_34 rfl (q := 35) ?_
    refine g_iconst X at_35 rfl (q := 36) (v := 1) rfl ?_
    refine g_iand X at_36 rfl (q := 37) ?_
    refine g_i2l X at_37 rfl (q := 38) ?_
    rcases own_b1 (p4 >>> ((1 : Int32) &&& 31)) with qq38 | qq38
    · refine g_eqJ (y := (0 : Int64)) qq38 ?_
      refine g_ladd X at_38 rfl (q := 39) ?_
      refine g_eqJ (y := (0 : Int64)) (by decide) ?_
      refine g_lstore X at_39 rfl (q := 41) (L' := #[.val (.long q1), .second, .val (.long q2), .second, .val (.long q3), .second, .val (.int p4), .val (.long q5), .second, .val (.long x5), .second, .val (.long x12), .second, .val (.long x20), .second, .val (.long (0 : Int64)), .second, .val (.long (0 : Int64)), .second, .unset, .unset, .unset, .unset, .unset, .unset, .unset, .unset, .unset, .unset, .unset, .unset, .unset]) rfl ?_
      refine g_iload X at_41 rfl (q := 43) rfl ?_
      refine g_iconst X at_43 rfl (q := 44) (v := 2) rfl ?_
      refine g_ishr X at_44 rfl (q := 45) ?_
      refine g_iconst X at_45 rfl (q := 46) (v := 3) rfl ?_
      refine g_iand X at_46 rfl (q := 47) ?_
      refine g_i2l X at_47 rfl (q := 48) ?_
      refine g_letJ (fun xd hxd => ?_)
      refine g_lstore X at_48 rfl (q := 50) (L' := #[.val (.long q1), .second, .val (.long q2), .second, .val (.long q3), .second, .val (.int p4), .val (.long q5), .second, .val (.long x5), .second, .val (.long x12), .second, .val (.long x20), .second, .val (.long (0 : Int64)), .second, .val (.long (0 : Int64)), .second, .val (.long xd), .second, .unset, .unset, .unset, .unset, .unset, .unset, .unset, .unset, .unset, .unset, .unset]) rfl ?_
      refine g_new X (tw1 hw) (tw2 hw) (tw3 hw) at_50 (q := 53) rfl (c2 := 1) (s2 := 7) rfl rfl (by decide) (by decide) (fun T h' b3 X gz_b3 g_b3 E Ex D => ?_)
      have O_b3 : O_WindowCounts Z h' b3 .null .null (.long (0 : Int64)) (.int (0 : Int32)) (.int (0 : Int32)) (.long (0 : Int64)) (.long (0 : Int64)) := ⟨Ex, D (Or.inl (tw12 hw)) (ty := (.array .long)) (by decide), D (Or.inl (tw14 hw)) (ty := (.array .long)) (by decide), D (Or.inl (tw16 hw)) (ty := .long) (by decide), D (Or.inl (tw23 hw)) (ty := .int) (by decide), D (Or.inl (tw29 hw)) (ty := .int) (by decide), D (Or.inl (tw31 hw)) (ty := .long) (by decide), D (Or.inl (tw33 hw)) (ty := .long) (by decide)⟩
      refine g_dup X at_53 rfl (q := 54) rfl ?_
      refine g_lload X at_54 rfl (q := 56) rfl ?_
      refine g_callI X [(.long q5)] [(.ref b3)] rfl (tw4 hw) (tw5 hw) (tw3 hw) (tw6 hw) (by decide) (rm1 l Z a0 hw [] b3 q5 _ n0 X.size O_b3 g_b3) pd0 rfl rfl rfl at_56 (q := 59) rfl (W := 1) rfl (by decide) (by decide) (c2 := 3) (s2 := 11) rfl rfl (by decide) (by decide) (fun v T h' X hQ => ?_)
      obtain ⟨i1_56, n1_56, rfl, Kc, O_b3', A_i1_56', A_n1_56', sq_i1_56, sq_n1_56, g_i1_56, g_n1_56, ne_i1_56_n1_56, ne_n1_56_i1_56⟩ := hQ
      have ne_b3_i1_56 := own_far O_b3.1.lt sq_i1_56
      have ne_i1_56_b3 := own_apS ne_b3_i1_56
      have ne_b3_n1_56 := own_far O_b3.1.lt sq_n1_56
      have ne_n1_56_b3 := own_apS ne_b3_n1_56
      have O_b3 := O_b3'
      have A_i1_56 := A_i1_56'
      have A_n1_56 := A_n1_56'
      show Goes p e below s _ n0 _ (T.setTop (mkF m 59 #[.val (.long q1), .second, .val (.long q2), .second, .val (.long q3), .second, .val (.int p4), .val (.long q5), .second, .val (.long x5), .second, .val (.long x12), .second, .val (.long x20), .second, .val (.long (0 : Int64)), .second, .val (.long (0 : Int64)), .second, .val (.long xd), .second, .unset, .unset, .unset, .unset, .unset, .unset, .unset, .unset, .unset, .unset, .unset] [(.ref b3)]))
      refine g_astore X at_59 rfl (q := 61) (L' := #[.val (.long q1), .second, .val (.long q2), .second, .val (.long q3), .second, .val (.int p4), .val (.long q5), .second, .val (.long x5), .second, .val (.long x12), .second, .val (.long x20), .second, .val (.long (0 : Int64)), .second, .val (.long (0 : Int64)), .second, .val (.long xd), .second, .val (.ref b3), .unset, .unset, .unset, .unset, .unset, .unset, .unset, .unset, .unset, .unset]) rfl rfl ?_
      refine g_aload X at_61 rfl (q := 63) rfl rfl ?_
      refine g_lconst X at_63 rfl (q := 64) (v := 0) rfl ?_
      refine g_lload X at_64 rfl (q := 66) rfl ?_
      refine g_callV X O_b3.1 [(.long (0 : Int64)), (.long x5)] [] (tw17 hw) (tw18 hw) (tw20 hw) (tw19 hw) (tw3 hw) (tw21 hw) (by decide) (rm3_0_2_z l Z a0 hw [] b3 (0 : Int64) x5 q5 i1_56 n1_56 (0 : Int64) (0 : Int64) (fun _ => 0) (fun _ => 0) 0 0 _ n0 X.size O_b3 A_i1_56 A_n1_56 g_b3 g_i1_56 g_n1_56 ne_b3_i1_56 ne_b3_n1_56 ne_i1_56_b3 ne_i1_56_n1_56 ne_n1_56_b3 ne_n1_56_i1_56 (own_nnJ s_x5.1) own_okt0 (by decide)) pd2 rfl rfl rfl at_66 (q := 69) rfl (W := 0) rfl (by decide) (by decide) (c2 := 3) (s2 := 11) rfl rfl (by decide) (by decide) (fun v T h' X hQ => ?_)
      obtain ⟨t1_66, b1_66, rfl, Kc, O_b3', A_i1_56', A_n1_56', hS1_66⟩ := hQ
      have O_b3 := O_b3'
      have A_i1_56 := A_i1_56'
      have A_n1_56 := A_n1_56'
      show Goes p e below s _ n0 _ (T.setTop (mkF m 69 #[.val (.long q1), .second, .val (.long q2), .second, .val (.long q3), .second, .val (.int p4), .val (.long q5), .second, .val (.long x5), .second, .val (.long x12), .second, .val (.long x20), .second, .val (.long (0 : Int64)), .second, .val (.long (0 : Int64)), .second, .val (.long xd), .second, .val (.ref b3), .unset, .unset, .unset, .unset, .unset, .unset, .unset, .unset, .unset, .unset] []))
      have A_n1_56 : AJ Z _ n1_56 2 (own_up (fun _ => 0) 0 x5) := A_n1_56.to (fun j hj => by rcases (show j = 0 ∨ j = 1 by omega) with rfl | rfl <;> rfl)
      refine g_aload X at_69 rfl (q := 71) rfl rfl ?_
      refine g_lload X at_71 rfl (q := 73) rfl ?_
      refine g_lload X at_73 rfl (q := 75) rfl ?_
      refine g_callV X O_b3.1 [(.long (0 : Int64)), (.long x12)] [] (tw17 hw) (tw18 hw) (tw20 hw) (tw19 hw) (tw3 hw) (tw21 hw) (by decide) (rm3_1_2_e l Z a0 hw [] b3 (0 : Int64) x12 q5 i1_56 n1_56 t1_66 b1_66 (own_up (fun _ => 0) 0 (0 : Int64)) (own_up (fun _ => 0) 0 x5) (0 + x5.toInt) (0 + 1) _ n0 X.size O_b3 A_i1_56 A_n1_56 g_b3 g_i1_56 g_n1_56 ne_b3_i1_56 ne_b3_n1_56 ne_i1_56_b3 ne_i1_56_n1_56 ne_n1_56_b3 ne_n1_56_i1_56 (own_nnJ s_x12.1) (by decide) (by decide) (show (0 : Int) ≤ (x5 : Int64).toInt from s_x5.1) hS1_66 (by decide)) pd2 rfl rfl rfl at_75 (q := 78) rfl (W := 0) rfl (by decide) (by decide) (c2 := 3) (s2 := 11) rfl rfl (by decide) (by decide) (fun v T h' X hQ => ?_)
      obtain ⟨t1_75, b1_75, rfl, Kc, O_b3', A_n1_56', hS1_75⟩ := hQ
      have A_i1_56 := A_i1_56.keep Kc (ninS ne_i1_56_b3 (ninS ne_i1_56_n1_56 nin0))
      have O_b3 := O_b3'
      have A_n1_56 := A_n1_56'
      show Goes p e below s _ n0 _ (T.setTop (mkF m 78 #[.val (.long q1), .second, .val (.long q2), .second, .val (.long q3), .second, .val (.int p4), .val (.long q5), .second, .val (.long x5), .second, .val (.long x12), .second, .val (.long x20), .second, .val (.long (0 : Int64)), .second, .val (.long (0 : Int64)), .second, .val (.long xd), .second, .val (.ref b3), .unset, .unset, .unset, .unset, .unset, .unset, .unset, .unset, .unset, .unset] []))
      obtain ⟨w75, hw75⟩ : ∃ z, z = sm x5 x12 := ⟨_, rfl⟩
      have A_n1_56 : AJ Z h' n1_56 2 (own_up (own_up (fun _ => 0) 0 x5) 0 w75) := by rw [hw75]; exact A_n1_56
      have hSw75 : OKT t1_75 b1_75 ((0 + x5.toInt) + (w75.toInt - x5.toInt)) ((0 + 1) + 1) := by rw [hw75]; exact hS1_75
      have s_w75 := own_smI hw75 s_x5.1 s_x12.1
      refine g_aload X at_78 rfl (q := 80) rfl rfl ?_
      refine g_lload X at_80 rfl (q := 82) rfl ?_
      refine g_lload X at_82 rfl (q := 84) rfl ?_
      refine g_callV X O_b3.1 [(.long (0 : Int64)), (.long x20)] [] (tw17 hw) (tw18 hw) (tw20 hw) (tw19 hw) (tw3 hw) (tw21 hw) (by decide) (rm3_1_2_e l Z a0 hw [] b3 (0 : Int64) x20 q5 i1_56 n1_56 t1_75 b1_75 (own_up (fun _ => 0) 0 (0 : Int64)) (own_up (own_up (fun _ => 0) 0 x5) 0 w75) ((0 + x5.toInt) + (w75.toInt - x5.toInt)) ((0 + 1) + 1) _ n0 X.size O_b3 A_i1_56 A_n1_56 g_b3 g_i1_56 g_n1_56 ne_b3_i1_56 ne_b3_n1_56 ne_i1_56_b3 ne_i1_56_n1_56 ne_n1_56_b3 ne_n1_56_i1_56 (own_nnJ s_x20.1) (by decide) (by decide) (show (0 : Int) ≤ (w75 : Int64).toInt from s_w75.1) hSw75 (by decide)) pd2 rfl rfl rfl at_84 (q := 87) rfl (W := 0) rfl (by decide) (by decide) (c2 := 3) (s2 := 11) rfl rfl (by decide) (by decide) (fun v T h' X hQ => ?_)
      obtain ⟨t1_84, b1_84, rfl, Kc, O_b3', A_n1_56', hS1_84⟩ := hQ
      have A_i1_56 := A_i1_56.keep Kc (ninS ne_i1_56_b3 (ninS ne_i1_56_n1_56 nin0))
      have O_b3 := O_b3'
      have A_n1_56 := A_n1_56'
      show Goes p e below s _ n0 _ (T.setTop (mkF m 87 #[.val (.long q1), .second, .val (.long q2), .second, .val (.long q3), .second, .val (.int p4), .val (.long q5), .second, .val (.long x5), .second, .val (.long x12), .second, .val (.long x20), .second, .val (.long (0 : Int64)), .second, .val (.long (0 : Int64)), .second, .val (.long xd), .second, .val (.ref b3), .unset, .unset, .unset, .unset, .unset, .unset, .unset, .unset, .unset, .unset] []))
      obtain ⟨w84, hw84⟩ : ∃ z, z = sm w75 x20 := ⟨_, rfl⟩
      have A_n1_56 : AJ Z h' n1_56 2 (own_up (own_up (own_up (fun _ => 0) 0 x5) 0 w75) 0 w84) := by rw [hw84]; exact A_n1_56
      have hSw84 : OKT t1_84 b1_84 (((0 + x5.toInt) + (w75.toInt - x5.toInt)) + (w84.toInt - w75.toInt)) (((0 + 1) + 1) + 1) := by rw [hw84]; exact hS1_84
      have s_w84 := own_smI hw84 s_w75.1 s_x20.1
      refine g_aload X at_87 rfl (q := 89) rfl rfl ?_
      have hd4 := own_b3 (p4 >>> ((2 : Int32) &&& 31))
      rw [← hxd] at hd4
      rcases hd4 with q4 | q4 | q4 | q4
      · subst q4
        show Goes p e below s _ n0 _ (T.setTop (mkF m 89 #[.val (.long q1), .second, .val (.long q2), .second, .val (.long q3), .second, .val (.int p4), .val (.long q5), .second, .val (.long x5), .second, .val (.long x12), .second, .val (.long x20), .second, .val (.long (0 : Int64)), .second, .val (.long (0 : Int64)), .second, .val (.long (0 : Int64)), .second, .val (.ref b3), .unset, .unset, .unset, .unset, .unset, .unset, .unset, .unset, .unset, .unset] [(.ref b3)]))
        refine g_lload X at_89 rfl (q := 91) rfl ?_
        refine g_callV X O_b3.1 [(.long (0 : Int64))] [] (tw48 hw) (tw49 hw) (tw51 hw) (tw50 hw) (tw3 hw) (tw52 hw) (by decide) (rm8_1_2_0 l Z a0 hw [] b3 (0 : Int64) q5 i1_56 n1_56 t1_84 b1_84 (own_up (fun _ => 0) 0 (0 : Int64)) (own_up (own_up (own_up (fun _ => 0) 0 x5) 0 w75) 0 w84) (((0 + x5.toInt) + (w75.toInt - x5.toInt)) + (w84.toInt - w75.toInt)) (((0 + 1) + 1) + 1) _ n0 X.size O_b3 A_i1_56 A_n1_56 g_b3 ne_b3_i1_56 ne_b3_n1_56 ne_i1_56_b3 ne_i1_56_n1_56 ne_n1_56_b3 ne_n1_56_i1_56 (by decide) hSw84 (by decide)) pd0 rfl rfl rfl at_91 (q := 94) rfl (W := 0) rfl (by decide) (by decide) (c2 := 3) (s2 := 11) rfl rfl (by decide) (by decide) (fun v T h' X hQ => ?_)
        obtain ⟨t1_91, b1_91, i1_91, n1_91, o1_91, s1_91, rfl, Kc, O_b3', hS1_91⟩ := hQ
        have A_i1_56 := A_i1_56.keep Kc (ninS ne_i1_56_b3 nin0)
        have A_n1_56 := A_n1_56.keep Kc (ninS ne_n1_56_b3 nin0)
        have O_b3 := O_b3'
        show Goes p e below s _ n0 _ (T.setTop (mkF m 94 #[.val (.long q1), .second, .val (.long q2), .second, .val (.long q3), .second, .val (.int p4), .val (.long q5), .second, .val (.long x5), .second, .val (.long x12), .second, .val (.long x20), .second, .val (.long (0 : Int64)), .second, .val (.long (0 : Int64)), .second, .val (.long (0 : Int64)), .second, .val (.ref b3), .unset, .unset, .unset, .unset, .unset, .unset, .unset, .unset, .unset, .unset] []))
        have hT : OKT t1_91 b1_91 ((((0 + x5.toInt) + (w75.toInt - x5.toInt)) + (w84.toInt - w75.toInt))) (((0 + 1) + 1) + 1) := hS1_91
        refine g_aload X at_94 rfl (q := 96) rfl rfl ?_
        refine g_callV X O_b3.1 [] [] (tw53 hw) (tw54 hw) (tw56 hw) (tw55 hw) (tw3 hw) (tw57 hw) (by decide) (rm9 l Z a0 hw [] b3 q5 i1_91 n1_91 o1_91 s1_91 t1_91 b1_91 _ n0 X.size O_b3) pd5 rfl rfl rfl at_96 (q := 99) rfl (W := 0) rfl (by decide) (by decide) (c2 := 3) (s2 := 11) rfl rfl (by decide) (by decide) (fun v T h' X hQ => ?_)
        obtain ⟨rfl, rfl⟩ := hQ
        show Goes p e below s _ n0 _ (T.setTop (mkF m 99 #[.val (.long q1), .second, .val (.long q2), .second, .val (.long q3), .second, .val (.int p4), .val (.long q5), .second, .val (.long x5), .second, .val (.long x12), .second, .val (.long x20), .second, .val (.long (0 : Int64)), .second, .val (.long (0 : Int64)), .second, .val (.long (0 : Int64)), .second, .val (.ref b3), .unset, .unset, .unset, .unset, .unset, .unset, .unset, .unset, .unset, .unset] [(.long (if b1_91 = (0 : Int64) then t1_91 else (9223372036854775807 : Int64)))]))
        refine g_letJ (fun r96 hr96 => ?_)
        have s_r96 := own_totI hr96 hT
        refine g_lstore X at_99 rfl (q := 101) (L' := #[.val (.long q1), .second, .val (.long q2), .second, .val (.long q3), .second, .val (.int p4), .val (.long q5), .second, .val (.long x5), .second, .val (.long x12), .second, .val (.long x20), .second, .val (.long (0 : Int64)), .second, .val (.long (0 : Int64)), .second, .val (.long (0 : Int64)), .second, .val (.ref b3), .val (.long r96), .second, .unset, .unset, .unset, .unset, .unset, .unset, .unset, .unset]) rfl ?_
        refine g_lload X at_101 rfl (q := 103) rfl ?_
        refine g_lstore X at_103 rfl (q := 105) (L' := #[.val (.long q1), .second, .val (.long q2), .second, .val (.long q3), .second, .val (.int p4), .val (.long q5), .second, .val (.long x5), .second, .val (.long x12), .second, .val (.long x20), .second, .val (.long (0 : Int64)), .second, .val (.long (0 : Int64)), .second, .val (.long (0 : Int64)), .second, .val (.ref b3), .val (.long r96), .second, .val (.long x5), .second, .unset, .unset, .unset, .unset, .unset, .unset]) rfl ?_
        refine g_lconst X at_105 rfl (q := 106) (v := 0) rfl ?_
        refine g_lstore X at_106 rfl (q := 108) (L' := #[.val (.long q1), .second, .val (.long q2), .second, .val (.long q3), .second, .val (.int p4), .val (.long q5), .second, .val (.long x5), .second, .val (.long x12), .second, .val (.long x20), .second, .val (.long (0 : Int64)), .second, .val (.long (0 : Int64)), .second, .val (.long (0 : Int64)), .second, .val (.ref b3), .val (.long r96), .second, .val (.long x5), .second, .val (.long (0 : Int64)), .second, .unset, .unset, .unset, .unset]) rfl ?_
        refine g_lconst X at_108 rfl (q := 109) (v := 0) rfl ?_
        refine g_lstore X at_109 rfl (q := 111) (L' := #[.val (.long q1), .second, .val (.long q2), .second, .val (.long q3), .second, .val (.int p4), .val (.long q5), .second, .val (.long x5), .second, .val (.long x12), .second, .val (.long x20), .second, .val (.long (0 : Int64)), .second, .val (.long (0 : Int64)), .second, .val (.long (0 : Int64)), .second, .val (.ref b3), .val (.long r96), .second, .val (.long x5), .second, .val (.long (0 : Int64)), .second, .val (.long (0 : Int64)), .second, .unset, .unset]) rfl ?_
        refine g_lload X at_111 rfl (q := 113) rfl ?_
        refine g_lconst X at_113 rfl (q := 114) (v := 0) rfl ?_
        refine g_lcmpB X at_114 (q1 := 115) rfl at_115 (Or.inr (Or.inr rfl)) (q := 118) rfl (by decide) (t := 130) rfl (fun (c1 : (0 : Int64) = (0 : Int64)) => ?_) (fun (c1 : ¬ ((0 : Int64) = (0 : Int64))) => ?_)
        · skip
          refine g_lload X at_118 rfl (q := 120) rfl ?_
          refine g_lload X at_120 rfl (q := 122) rfl ?_
          refine g_callS X [(.long x5), (.long x12)] [] (tw58 hw) (tw59 hw) (tw60 hw) (tw61 hw) (by decide) (rm10 l Z a0 hw [] x5 x12 _ n0 X.size) pd4 rfl rfl rfl at_122 (q := 125) rfl (W := 0) rfl (by decide) (by decide) (c2 := 3) (s2 := 11) rfl rfl (by decide) (by decide) (fun v T h' X hQ => ?_)
          obtain ⟨rfl, rfl⟩ := hQ
          show Goes p e below s _ n0 _ (T.setTop (mkF m 125 #[.val (.long q1), .second, .val (.long q2), .second, .val (.long q3), .second, .val (.int p4), .val (.long q5), .second, .val (.long x5), .second, .val (.long x12), .second, .val (.long x20), .second, .val (.long (0 : Int64)), .second, .val (.long (0 : Int64)), .second, .val (.long (0 : Int64)), .second, .val (.ref b3), .val (.long r96), .second, .val (.long x5), .second, .val (.long (0 : Int64)), .second, .val (.long (0 : Int64)), .second, .unset, .unset] [(.long (if ((9223372036854775807 : Int64) - x12) < x5 then (9223372036854775807 : Int64) else (x5 + x12)))]))
          refine g_letJ (fun r122 hr122 => ?_)
          have s_r122 := own_satI hr122 s_x5.1 s_x12.1
          refine g_lstore X at_125 rfl (q := 127) (L' := #[.val (.long q1), .second, .val (.long q2), .second, .val (.long q3), .second, .val (.int p4), .val (.long q5), .second, .val (.long x5), .second, .val (.long x12), .second, .val (.long x20), .second, .val (.long (0 : Int64)), .second, .val (.long (0 : Int64)), .second, .val (.long (0 : Int64)), .second, .val (.ref b3), .val (.long r96), .second, .val (.long r122), .second, .val (.long (0 : Int64)), .second, .val (.long (0 : Int64)), .second, .unset, .unset]) rfl ?_
          refine g_goto X at_127 (by decide) (q := 134) rfl ?_
          refine g_lload X at_134 rfl (q := 136) rfl ?_
          refine g_lload X at_136 rfl (q := 138) rfl ?_
          refine g_lcmpB X at_138 (q1 := 139) rfl at_139 (Or.inr (Or.inr rfl)) (q := 142) rfl (by decide) (t := 173) rfl (fun (c2 : (0 : Int64) = (0 : Int64)) => ?_) (fun (c2 : ¬ ((0 : Int64) = (0 : Int64))) => ?_)
          · skip
            refine g_lload X at_142 rfl (q := 144) rfl ?_
            refine g_lconst X at_144 rfl (q := 145) (v := 0) rfl ?_
            refine g_lcmpB X at_145 (q1 := 146) rfl at_146 (Or.inr (Or.inr rfl)) (q := 149) rfl (by decide) (t := 161) rfl (fun (c3 : (0 : Int64) = (0 : Int64)) => ?_) (fun (c3 : ¬ ((0 : Int64) = (0 : Int64))) => ?_)
            · skip
              refine g_lload X at_149 rfl (q := 151) rfl ?_
              refine g_lload X at_151 rfl (q := 153) rfl ?_
              refine g_callS X [(.long r122), (.long x20)] [] (tw58 hw) (tw59 hw) (tw60 hw) (tw61 hw) (by decide) (rm10 l Z a0 hw [] r122 x20 _ n0 X.size) pd4 rfl rfl rfl at_153 (q := 156) rfl (W := 0) rfl (by decide) (by decide) (c2 := 3) (s2 := 11) rfl rfl (by decide) (by decide) (fun v T h' X hQ => ?_)
              obtain ⟨rfl, rfl⟩ := hQ
              show Goes p e below s _ n0 _ (T.setTop (mkF m 156 #[.val (.long q1), .second, .val (.long q2), .second, .val (.long q3), .second, .val (.int p4), .val (.long q5), .second, .val (.long x5), .second, .val (.long x12), .second, .val (.long x20), .second, .val (.long (0 : Int64)), .second, .val (.long (0 : Int64)), .second, .val (.long (0 : Int64)), .second, .val (.ref b3), .val (.long r96), .second, .val (.long r122), .second, .val (.long (0 : Int64)), .second, .val (.long (0 : Int64)), .second, .unset, .unset] [(.long (if ((9223372036854775807 : Int64) - x20) < r122 then (9223372036854775807 : Int64) else (r122 + x20)))]))
              refine g_letJ (fun r153 hr153 => ?_)
              have s_r153 := own_satI hr153 s_r122.1 s_x20.1
              refine g_lstore X at_156 rfl (q := 158) (L' := #[.val (.long q1), .second, .val (.long q2), .second, .val (.long q3), .second, .val (.int p4), .val (.long q5), .second, .val (.long x5), .second, .val (.long x12), .second, .val (.long x20), .second, .val (.long (0 : Int64)), .second, .val (.long (0 : Int64)), .second, .val (.long (0 : Int64)), .second, .val (.ref b3), .val (.long r96), .second, .val (.long r153), .second, .val (.long (0 : Int64)), .second, .val (.long (0 : Int64)), .second, .unset, .unset]) rfl ?_
              refine g_goto X at_158 (by decide) (q := 191) rfl ?_
              refine g_lconst X at_191 rfl (q := 192) (v := 0) rfl ?_
              refine g_lload X at_192 rfl (q := 194) rfl ?_
              refine g_lload X at_194 rfl (q := 196) rfl ?_
              refine g_callS X [(.long (0 : Int64)), (.long r153), (.long (0 : Int64))] [] (tw62 hw) (tw63 hw) (tw60 hw) (tw64 hw) (by decide) (rm11_0_0 l Z a0 hw [] r153 _ n0 X.size) pd6 rfl rfl rfl at_196 (q := 199) rfl (W := 0) rfl (by decide) (by decide) (c2 := 3) (s2 := 11) rfl rfl (by decide) (by decide) (fun v T h' X hQ => ?_)
              obtain ⟨rfl, rfl⟩ := hQ
              show Goes p e below s _ n0 _ (T.setTop (mkF m 199 #[.val (.long q1), .second, .val (.long q2), .second, .val (.long q3), .second, .val (.int p4), .val (.long q5), .second, .val (.long x5), .second, .val (.long x12), .second, .val (.long x20), .second, .val (.long (0 : Int64)), .second, .val (.long (0 : Int64)), .second, .val (.long (0 : Int64)), .second, .val (.ref b3), .val (.long r96), .second, .val (.long r153), .second, .val (.long (0 : Int64)), .second, .val (.long (0 : Int64)), .second, .unset, .unset] [(.long r153)]))
              refine g_lconst X at_199 rfl (q := 200) (v := 1) rfl ?_
              refine g_lload X at_200 rfl (q := 202) rfl ?_
              refine g_lload X at_202 rfl (q := 204) rfl ?_
              refine g_callS X [(.long (1 : Int64)), (.long (0 : Int64)), (.long (0 : Int64))] [(.long r153)] (tw62 hw) (tw63 hw) (tw60 hw) (tw64 hw) (by decide) (rm11_1_0 l Z a0 hw [] (0 : Int64) _ n0 X.size) pd6 rfl rfl rfl at_204 (q := 207) rfl (W := 2) rfl (by decide) (by decide) (c2 := 3) (s2 := 11) rfl rfl (by decide) (by decide) (fun v T h' X hQ => ?_)
              obtain ⟨rfl, rfl⟩ := hQ
              show Goes p e below s _ n0 _ (T.setTop (mkF m 207 #[.val (.long q1), .second, .val (.long q2), .second, .val (.long q3), .second, .val (.int p4), .val (.long q5), .second, .val (.long x5), .second, .val (.long x12), .second, .val (.long x20), .second, .val (.long (0 : Int64)), .second, .val (.long (0 : Int64)), .second, .val (.long (0 : Int64)), .second, .val (.ref b3), .val (.long r96), .second, .val (.long r153), .second, .val (.long (0 : Int64)), .second, .val (.long (0 : Int64)), .second, .unset, .unset] [(.long (0 : Int64)), (.long r153)]))
              refine g_callS X [(.long r153), (.long (0 : Int64))] [] (tw58 hw) (tw59 hw) (tw60 hw) (tw61 hw) (by decide) (rm10 l Z a0 hw [] r153 (0 : Int64) _ n0 X.size) pd4 rfl rfl rfl at_207 (q := 210) rfl (W := 0) rfl (by decide) (by decide) (c2 := 3) (s2 := 11) rfl rfl (by decide) (by decide) (fun v T h' X hQ => ?_)
              obtain ⟨rfl, rfl⟩ := hQ
              show Goes p e below s _ n0 _ (T.setTop (mkF m 210 #[.val (.long q1), .second, .val (.long q2), .second, .val (.long q3), .second, .val (.int p4), .val (.long q5), .second, .val (.long x5), .second, .val (.long x12), .second, .val (.long x20), .second, .val (.long (0 : Int64)), .second, .val (.long (0 : Int64)), .second, .val (.long (0 : Int64)), .second, .val (.ref b3), .val (.long r96), .second, .val (.long r153), .second, .val (.long (0 : Int64)), .second, .val (.long (0 : Int64)), .second, .unset, .unset] [(.long (if ((9223372036854775807 : Int64) - (0 : Int64)) < r153 then (9223372036854775807 : Int64) else (r153 + (0 : Int64))))]))
              refine g_letJ (fun r207 hr207 => ?_)
              have s_r207 := own_satI hr207 s_r153.1 (by decide)
              refine g_ldc2 X (tw65 hw) at_210 (q := 213) rfl ?_
              refine g_lload X at_213 rfl (q := 215) rfl ?_
              refine g_lload X at_215 rfl (q := 217) rfl ?_
              refine g_callS X [(.long (2 : Int64)), (.long (0 : Int64)), (.long (0 : Int64))] [(.long r207)] (tw62 hw) (tw63 hw) (tw60 hw) (tw64 hw) (by decide) (rm11_2_0 l Z a0 hw [] (0 : Int64) _ n0 X.size) pd6 rfl rfl rfl at_217 (q := 220) rfl (W := 2) rfl (by decide) (by decide) (c2 := 3) (s2 := 11) rfl rfl (by decide) (by decide) (fun v T h' X hQ => ?_)
              obtain ⟨rfl, rfl⟩ := hQ
              show Goes p e below s _ n0 _ (T.setTop (mkF m 220 #[.val (.long q1), .second, .val (.long q2), .second, .val (.long q3), .second, .val (.int p4), .val (.long q5), .second, .val (.long x5), .second, .val (.long x12), .second, .val (.long x20), .second, .val (.long (0 : Int64)), .second, .val (.long (0 : Int64)), .second, .val (.long (0 : Int64)), .second, .val (.ref b3), .val (.long r96), .second, .val (.long r153), .second, .val (.long (0 : Int64)), .second, .val (.long (0 : Int64)), .second, .unset, .unset] [(.long (0 : Int64)), (.long r207)]))
              refine g_callS X [(.long r207), (.long (0 : Int64))] [] (tw58 hw) (tw59 hw) (tw60 hw) (tw61 hw) (by decide) (rm10 l Z a0 hw [] r207 (0 : Int64) _ n0 X.size) pd4 rfl rfl rfl at_220 (q := 223) rfl (W := 0) rfl (by decide) (by decide) (c2 := 3) (s2 := 11) rfl rfl (by decide) (by decide) (fun v T h' X hQ => ?_)
              obtain ⟨rfl, rfl⟩ := hQ
              show Goes p e below s _ n0 _ (T.setTop (mkF m 223 #[.val (.long q1), .second, .val (.long q2), .second, .val (.long q3), .second, .val (.int p4), .val (.long q5), .second, .val (.long x5), .second, .val (.long x12), .second, .val (.long x20), .second, .val (.long (0 : Int64)), .second, .val (.long (0 : Int64)), .second, .val (.long (0 : Int64)), .second, .val (.ref b3), .val (.long r96), .second, .val (.long r153), .second, .val (.long (0 : Int64)), .second, .val (.long (0 : Int64)), .second, .unset, .unset] [(.long (if ((9223372036854775807 : Int64) - (0 : Int64)) < r207 then (9223372036854775807 : Int64) else (r207 + (0 : Int64))))]))
              refine g_letJ (fun r220 hr220 => ?_)
              have s_r220 := own_satI hr220 s_r207.1 (by decide)
              refine g_lstore X at_223 rfl (q := 225) (L' := #[.val (.long q1), .second, .val (.long q2), .second, .val (.long q3), .second, .val (.int p4), .val (.long q5), .second, .val (.long x5), .second, .val (.long x12), .second, .val (.long x20), .second, .val (.long (0 : Int64)), .second, .val (.long (0 : Int64)), .second, .val (.long (0 : Int64)), .second, .val (.ref b3), .val (.long r96), .second, .val (.long r153), .second, .val (.long (0 : Int64)), .second, .val (.long (0 : Int64)), .second, .val (.long r220), .second]) rfl ?_
              refine g_lload X at_225 rfl (q := 227) rfl ?_
              refine g_lload X at_227 rfl (q := 229) rfl ?_
              refine g_jT1 X (J := 238) (P := fun (s0_238 : Int32) => s0_238 = (bI (r96 = r220))) (L := fun s0_238 => #[.val (.long q1), .second, .val (.long q2), .second, .val (.long q3), .second, .val (.int p4), .val (.long q5), .second, .val (.long x5), .second, .val (.long x12), .second, .val (.long x20), .second, .val (.long (0 : Int64)), .second, .val (.long (0 : Int64)), .second, .val (.long (0 : Int64)), .second, .val (.ref b3), .val (.long r96), .second, .val (.long r153), .second, .val (.long (0 : Int64)), .second, .val (.long (0 : Int64)), .second, .val (.long r220), .second]) (S := fun s0_238 => [(.int s0_238)]) ?_ ?_
              · intro T X s0_238 hs0_238
                replace hs0_238 : s0_238 = (bI (r96 = r220)) := hs0_238
                subst hs0_238
                show Goes p e below s _ n0 _ (T.setTop (mkF m 238 #[.val (.long q1), .second, .val (.long q2), .second, .val (.long q3), .second, .val (.int p4), .val (.long q5), .second, .val (.long x5), .second, .val (.long x12), .second, .val (.long x20), .second, .val (.long (0 : Int64)), .second, .val (.long (0 : Int64)), .second, .val (.long (0 : Int64)), .second, .val (.ref b3), .val (.long r96), .second, .val (.long r153), .second, .val (.long (0 : Int64)), .second, .val (.long (0 : Int64)), .second, .val (.long r220), .second] [(.int (bI (r96 = r220)))]))
                refine g_retZ X at_238 (by decide) (by decide) (bI_01 _) (own_fin ?_)
                show r96 = r220
                apply Int64.toInt_inj.mp
                (try simp only [Int64.reduceToInt] at s_x5 s_x12 s_x20 s_w75 s_w84 s_r96 s_r122 s_r153 s_r207 s_r220)
                omega
              · intro J238_3
                refine g_lcmpB X at_229 (q1 := 230) rfl at_230 (Or.inr (Or.inr rfl)) (q := 233) rfl (by decide) (t := 237) rfl (fun (c4 : r96 = r220) => ?_) (fun (c4 : ¬ (r96 = r220)) => ?_)
                · skip
                  refine g_iconst X at_233 rfl (q := 234) (v := 1) rfl ?_
                  refine g_goto X at_234 (by decide) (q := 238) rfl ?_
                  exact J238_3 T X _ (bI_t c4)
                · skip
                  refine g_iconst X at_237 rfl (q := 238) (v := 0) rfl ?_
                  exact J238_3 T X _ (bI_f c4)
            · skip
              exact absurd c3 (by decide)
          · skip
            exact absurd c2 (by decide)
        · skip
          exact absurd c1 (by decide)
      · subst q4
        show Goes p e below s _ n0 _ (T.setTop (mkF m 89 #[.val (.long q1), .second, .val (.long q2), .second, .val (.long q3), .second, .val (.int p4), .val (.long q5), .second, .val (.long x5), .second, .val (.long x12), .second, .val (.long x20), .second, .val (.long (0 : Int64)), .second, .val (.long (0 : Int64)), .second, .val (.long (1 : Int64)), .second, .val (.ref b3), .unset, .unset, .unset, .unset, .unset, .unset, .unset, .unset, .unset, .unset] [(.ref b3)]))
        refine g_lload X at_89 rfl (q := 91) rfl ?_
        refine g_callV X O_b3.1 [(.long (1 : Int64))] [] (tw48 hw) (tw49 hw) (tw51 hw) (tw50 hw) (tw3 hw) (tw52 hw) (by decide) (rm8_1_2_1 l Z a0 hw [] b3 (1 : Int64) q5 i1_56 n1_56 t1_84 b1_84 (own_up (fun _ => 0) 0 (0 : Int64)) (own_up (own_up (own_up (fun _ => 0) 0 x5) 0 w75) 0 w84) (((0 + x5.toInt) + (w75.toInt - x5.toInt)) + (w84.toInt - w75.toInt)) (((0 + 1) + 1) + 1) _ n0 X.size O_b3 A_i1_56 A_n1_56 g_b3 ne_b3_i1_56 ne_b3_n1_56 ne_i1_56_b3 ne_i1_56_n1_56 ne_n1_56_b3 ne_n1_56_i1_56 (by decide) (show (0 : Int) ≤ (w84 : Int64).toInt from s_w84.1) (show (w84 : Int64).toInt ≤ (((0 + x5.toInt) + (w75.toInt - x5.toInt)) + (w84.toInt - w75.toInt)) from by omega) hSw84 (by decide)) pd0 rfl rfl rfl at_91 (q := 94) rfl (W := 0) rfl (by decide) (by decide) (c2 := 3) (s2 := 11) rfl rfl (by decide) (by decide) (fun v T h' X hQ => ?_)
        obtain ⟨t1_91, b1_91, i1_91, n1_91, o1_91, s1_91, rfl, Kc, O_b3', hS1_91⟩ := hQ
        have A_i1_56 := A_i1_56.keep Kc (ninS ne_i1_56_b3 nin0)
        have A_n1_56 := A_n1_56.keep Kc (ninS ne_n1_56_b3 nin0)
        have O_b3 := O_b3'
        show Goes p e below s _ n0 _ (T.setTop (mkF m 94 #[.val (.long q1), .second, .val (.long q2), .second, .val (.long q3), .second, .val (.int p4), .val (.long q5), .second, .val (.long x5), .second, .val (.long x12), .second, .val (.long x20), .second, .val (.long (0 : Int64)), .second, .val (.long (0 : Int64)), .second, .val (.long (1 : Int64)), .second, .val (.ref b3), .unset, .unset, .unset, .unset, .unset, .unset, .unset, .unset, .unset, .unset] []))
        have hT : OKT t1_91 b1_91 ((((0 + x5.toInt) + (w75.toInt - x5.toInt)) + (w84.toInt - w75.toInt)) - w84.toInt) (((0 + 1) + 1) + 1) := hS1_91
        refine g_aload X at_94 rfl (q := 96) rfl rfl ?_
        refine g_callV X O_b3.1 [] [] (tw53 hw) (tw54 hw) (tw56 hw) (tw55 hw) (tw3 hw) (tw57 hw) (by decide) (rm9 l Z a0 hw [] b3 q5 i1_91 n1_91 o1_91 s1_91 t1_91 b1_91 _ n0 X.size O_b3) pd5 rfl rfl rfl at_96 (q := 99) rfl (W := 0) rfl (by decide) (by decide) (c2 := 3) (s2 := 11) rfl rfl (by decide) (by decide) (fun v T h' X hQ => ?_)
        obtain ⟨rfl, rfl⟩ := hQ
        show Goes p e below s _ n0 _ (T.setTop (mkF m 99 #[.val (.long q1), .second, .val (.long q2), .second, .val (.long q3), .second, .val (.int p4), .val (.long q5), .second, .val (.long x5), .second, .val (.long x12), .second, .val (.long x20), .second, .val (.long (0 : Int64)), .second, .val (.long (0 : Int64)), .second, .val (.long (1 : Int64)), .second, .val (.ref b3), .unset, .unset, .unset, .unset, .unset, .unset, .unset, .unset, .unset, .unset] [(.long (if b1_91 = (0 : Int64) then t1_91 else (9223372036854775807 : Int64)))]))
        refine g_letJ (fun r96 hr96 => ?_)
        have s_r96 := own_totI hr96 hT
        refine g_lstore X at_99 rfl (q := 101) (L' := #[.val (.long q1), .second, .val (.long q2), .second, .val (.long q3), .second, .val (.int p4), .val (.long q5), .second, .val (.long x5), .second, .val (.long x12), .second, .val (.long x20), .second, .val (.long (0 : Int64)), .second, .val (.long (0 : Int64)), .second, .val (.long (1 : Int64)), .second, .val (.ref b3), .val (.long r96), .second, .unset, .unset, .unset, .unset, .unset, .unset, .unset, .unset]) rfl ?_
        refine g_lload X at_101 rfl (q := 103) rfl ?_
        refine g_lstore X at_103 rfl (q := 105) (L' := #[.val (.long q1), .second, .val (.long q2), .second, .val (.long q3), .second, .val (.int p4), .val (.long q5), .second, .val (.long x5), .second, .val (.long x12), .second, .val (.long x20), .second, .val (.long (0 : Int64)), .second, .val (.long (0 : Int64)), .second, .val (.long (1 : Int64)), .second, .val (.ref b3), .val (.long r96), .second, .val (.long x5), .second, .unset, .unset, .unset, .unset, .unset, .unset]) rfl ?_
        refine g_lconst X at_105 rfl (q := 106) (v := 0) rfl ?_
        refine g_lstore X at_106 rfl (q := 108) (L' := #[.val (.long q1), .second, .val (.long q2), .second, .val (.long q3), .second, .val (.int p4), .val (.long q5), .second, .val (.long x5), .second, .val (.long x12), .second, .val (.long x20), .second, .val (.long (0 : Int64)), .second, .val (.long (0 : Int64)), .second, .val (.long (1 : Int64)), .second, .val (.ref b3), .val (.long r96), .second, .val (.long x5), .second, .val (.long (0 : Int64)), .second, .unset, .unset, .unset, .unset]) rfl ?_
        refine g_lconst X at_108 rfl (q := 109) (v := 0) rfl ?_
        refine g_lstore X at_109 rfl (q := 111) (L' := #[.val (.long q1), .second, .val (.long q2), .second, .val (.long q3), .second, .val (.int p4), .val (.long q5), .second, .val (.long x5), .second, .val (.long x12), .second, .val (.long x20), .second, .val (.long (0 : Int64)), .second, .val (.long (0 : Int64)), .second, .val (.long (1 : Int64)), .second, .val (.ref b3), .val (.long r96), .second, .val (.long x5), .second, .val (.long (0 : Int64)), .second, .val (.long (0 : Int64)), .second, .unset, .unset]) rfl ?_
        refine g_lload X at_111 rfl (q := 113) rfl ?_
        refine g_lconst X at_113 rfl (q := 114) (v := 0) rfl ?_
        refine g_lcmpB X at_114 (q1 := 115) rfl at_115 (Or.inr (Or.inr rfl)) (q := 118) rfl (by decide) (t := 130) rfl (fun (c5 : (0 : Int64) = (0 : Int64)) => ?_) (fun (c5 : ¬ ((0 : Int64) = (0 : Int64))) => ?_)
        · skip
          refine g_lload X at_118 rfl (q := 120) rfl ?_
          refine g_lload X at_120 rfl (q := 122) rfl ?_
          refine g_callS X [(.long x5), (.long x12)] [] (tw58 hw) (tw59 hw) (tw60 hw) (tw61 hw) (by decide) (rm10 l Z a0 hw [] x5 x12 _ n0 X.size) pd4 rfl rfl rfl at_122 (q := 125) rfl (W := 0) rfl (by decide) (by decide) (c2 := 3) (s2 := 11) rfl rfl (by decide) (by decide) (fun v T h' X hQ => ?_)
          obtain ⟨rfl, rfl⟩ := hQ
          show Goes p e below s _ n0 _ (T.setTop (mkF m 125 #[.val (.long q1), .second, .val (.long q2), .second, .val (.long q3), .second, .val (.int p4), .val (.long q5), .second, .val (.long x5), .second, .val (.long x12), .second, .val (.long x20), .second, .val (.long (0 : Int64)), .second, .val (.long (0 : Int64)), .second, .val (.long (1 : Int64)), .second, .val (.ref b3), .val (.long r96), .second, .val (.long x5), .second, .val (.long (0 : Int64)), .second, .val (.long (0 : Int64)), .second, .unset, .unset] [(.long (if ((9223372036854775807 : Int64) - x12) < x5 then (9223372036854775807 : Int64) else (x5 + x12)))]))
          refine g_letJ (fun r122 hr122 => ?_)
          have s_r122 := own_satI hr122 s_x5.1 s_x12.1
          refine g_lstore X at_125 rfl (q := 127) (L' := #[.val (.long q1), .second, .val (.long q2), .second, .val (.long q3), .second, .val (.int p4), .val (.long q5), .second, .val (.long x5), .second, .val (.long x12), .second, .val (.long x20), .second, .val (.long (0 : Int64)), .second, .val (.long (0 : Int64)), .second, .val (.long (1 : Int64)), .second, .val (.ref b3), .val (.long r96), .second, .val (.long r122), .second, .val (.long (0 : Int64)), .second, .val (.long (0 : Int64)), .second, .unset, .unset]) rfl ?_
          refine g_goto X at_127 (by decide) (q := 134) rfl ?_
          refine g_lload X at_134 rfl (q := 136) rfl ?_
          refine g_lload X at_136 rfl (q := 138) rfl ?_
          refine g_lcmpB X at_138 (q1 := 139) rfl at_139 (Or.inr (Or.inr rfl)) (q := 142) rfl (by decide) (t := 173) rfl (fun (c6 : (0 : Int64) = (0 : Int64)) => ?_) (fun (c6 : ¬ ((0 : Int64) = (0 : Int64))) => ?_)
          · skip
            refine g_lload X at_142 rfl (q := 144) rfl ?_
            refine g_lconst X at_144 rfl (q := 145) (v := 0) rfl ?_
            refine g_lcmpB X at_145 (q1 := 146) rfl at_146 (Or.inr (Or.inr rfl)) (q := 149) rfl (by decide) (t := 161) rfl (fun (c7 : (0 : Int64) = (0 : Int64)) => ?_) (fun (c7 : ¬ ((0 : Int64) = (0 : Int64))) => ?_)
            · skip
              refine g_lload X at_149 rfl (q := 151) rfl ?_
              refine g_lload X at_151 rfl (q := 153) rfl ?_
              refine g_callS X [(.long r122), (.long x20)] [] (tw58 hw) (tw59 hw) (tw60 hw) (tw61 hw) (by decide) (rm10 l Z a0 hw [] r122 x20 _ n0 X.size) pd4 rfl rfl rfl at_153 (q := 156) rfl (W := 0) rfl (by decide) (by decide) (c2 := 3) (s2 := 11) rfl rfl (by decide) (by decide) (fun v T h' X hQ => ?_)
              obtain ⟨rfl, rfl⟩ := hQ
              show Goes p e below s _ n0 _ (T.setTop (mkF m 156 #[.val (.long q1), .second, .val (.long q2), .second, .val (.long q3), .second, .val (.int p4), .val (.long q5), .second, .val (.long x5), .second, .val (.long x12), .second, .val (.long x20), .second, .val (.long (0 : Int64)), .second, .val (.long (0 : Int64)), .second, .val (.long (1 : Int64)), .second, .val (.ref b3), .val (.long r96), .second, .val (.long r122), .second, .val (.long (0 : Int64)), .second, .val (.long (0 : Int64)), .second, .unset, .unset] [(.long (if ((9223372036854775807 : Int64) - x20) < r122 then (9223372036854775807 : Int64) else (r122 + x20)))]))
              refine g_letJ (fun r153 hr153 => ?_)
              have s_r153 := own_satI hr153 s_r122.1 s_x20.1
              refine g_lstore X at_156 rfl (q := 158) (L' := #[.val (.long q1), .second, .val (.long q2), .second, .val (.long q3), .second, .val (.int p4), .val (.long q5), .second, .val (.long x5), .second, .val (.long x12), .second, .val (.long x20), .second, .val (.long (0 : Int64)), .second, .val (.long (0 : Int64)), .second, .val (.long (1 : Int64)), .second, .val (.ref b3), .val (.long r96), .second, .val (.long r153), .second, .val (.long (0 : Int64)), .second, .val (.long (0 : Int64)), .second, .unset, .unset]) rfl ?_
              refine g_goto X at_158 (by decide) (q := 191) rfl ?_
              refine g_lconst X at_191 rfl (q := 192) (v := 0) rfl ?_
              refine g_lload X at_192 rfl (q := 194) rfl ?_
              refine g_lload X at_194 rfl (q := 196) rfl ?_
              refine g_callS X [(.long (0 : Int64)), (.long r153), (.long (1 : Int64))] [] (tw62 hw) (tw63 hw) (tw60 hw) (tw64 hw) (by decide) (rm11_0_1 l Z a0 hw [] r153 _ n0 X.size) pd6 rfl rfl rfl at_196 (q := 199) rfl (W := 0) rfl (by decide) (by decide) (c2 := 3) (s2 := 11) rfl rfl (by decide) (by decide) (fun v T h' X hQ => ?_)
              obtain ⟨rfl, rfl⟩ := hQ
              show Goes p e below s _ n0 _ (T.setTop (mkF m 199 #[.val (.long q1), .second, .val (.long q2), .second, .val (.long q3), .second, .val (.int p4), .val (.long q5), .second, .val (.long x5), .second, .val (.long x12), .second, .val (.long x20), .second, .val (.long (0 : Int64)), .second, .val (.long (0 : Int64)), .second, .val (.long (1 : Int64)), .second, .val (.ref b3), .val (.long r96), .second, .val (.long r153), .second, .val (.long (0 : Int64)), .second, .val (.long (0 : Int64)), .second, .unset, .unset] [(.long (0 : Int64))]))
              refine g_lconst X at_199 rfl (q := 200) (v := 1) rfl ?_
              refine g_lload X at_200 rfl (q := 202) rfl ?_
              refine g_lload X at_202 rfl (q := 204) rfl ?_
              refine g_callS X [(.long (1 : Int64)), (.long (0 : Int64)), (.long (1 : Int64))] [(.long (0 : Int64))] (tw62 hw) (tw63 hw) (tw60 hw) (tw64 hw) (by decide) (rm11_1_1 l Z a0 hw [] (0 : Int64) _ n0 X.size) pd6 rfl rfl rfl at_204 (q := 207) rfl (W := 2) rfl (by decide) (by decide) (c2 := 3) (s2 := 11) rfl rfl (by decide) (by decide) (fun v T h' X hQ => ?_)
              obtain ⟨rfl, rfl⟩ := hQ
              show Goes p e below s _ n0 _ (T.setTop (mkF m 207 #[.val (.long q1), .second, .val (.long q2), .second, .val (.long q3), .second, .val (.int p4), .val (.long q5), .second, .val (.long x5), .second, .val (.long x12), .second, .val (.long x20), .second, .val (.long (0 : Int64)), .second, .val (.long (0 : Int64)), .second, .val (.long (1 : Int64)), .second, .val (.ref b3), .val (.long r96), .second, .val (.long r153), .second, .val (.long (0 : Int64)), .second, .val (.long (0 : Int64)), .second, .unset, .unset] [(.long (0 : Int64)), (.long (0 : Int64))]))
              refine g_callS X [(.long (0 : Int64)), (.long (0 : Int64))] [] (tw58 hw) (tw59 hw) (tw60 hw) (tw61 hw) (by decide) (rm10 l Z a0 hw [] (0 : Int64) (0 : Int64) _ n0 X.size) pd4 rfl rfl rfl at_207 (q := 210) rfl (W := 0) rfl (by decide) (by decide) (c2 := 3) (s2 := 11) rfl rfl (by decide) (by decide) (fun v T h' X hQ => ?_)
              obtain ⟨rfl, rfl⟩ := hQ
              show Goes p e below s _ n0 _ (T.setTop (mkF m 210 #[.val (.long q1), .second, .val (.long q2), .second, .val (.long q3), .second, .val (.int p4), .val (.long q5), .second, .val (.long x5), .second, .val (.long x12), .second, .val (.long x20), .second, .val (.long (0 : Int64)), .second, .val (.long (0 : Int64)), .second, .val (.long (1 : Int64)), .second, .val (.ref b3), .val (.long r96), .second, .val (.long r153), .second, .val (.long (0 : Int64)), .second, .val (.long (0 : Int64)), .second, .unset, .unset] [(.long (if ((9223372036854775807 : Int64) - (0 : Int64)) < (0 : Int64) then (9223372036854775807 : Int64) else ((0 : Int64) + (0 : Int64))))]))
              refine g_letJ (fun r207 hr207 => ?_)
              have s_r207 := own_satI hr207 (by decide) (by decide)
              refine g_ldc2 X (tw65 hw) at_210 (q := 213) rfl ?_
              refine g_lload X at_213 rfl (q := 215) rfl ?_
              refine g_lload X at_215 rfl (q := 217) rfl ?_
              refine g_callS X [(.long (2 : Int64)), (.long (0 : Int64)), (.long (1 : Int64))] [(.long r207)] (tw62 hw) (tw63 hw) (tw60 hw) (tw64 hw) (by decide) (rm11_2_1 l Z a0 hw [] (0 : Int64) _ n0 X.size) pd6 rfl rfl rfl at_217 (q := 220) rfl (W := 2) rfl (by decide) (by decide) (c2 := 3) (s2 := 11) rfl rfl (by decide) (by decide) (fun v T h' X hQ => ?_)
              obtain ⟨rfl, rfl⟩ := hQ
              show Goes p e below s _ n0 _ (T.setTop (mkF m 220 #[.val (.long q1), .second, .val (.long q2), .second, .val (.long q3), .second, .val (.int p4), .val (.long q5), .second, .val (.long x5), .second, .val (.long x12), .second, .val (.long x20), .second, .val (.long (0 : Int64)), .second, .val (.long (0 : Int64)), .second, .val (.long (1 : Int64)), .second, .val (.ref b3), .val (.long r96), .second, .val (.long r153), .second, .val (.long (0 : Int64)), .second, .val (.long (0 : Int64)), .second, .unset, .unset] [(.long (0 : Int64)), (.long r207)]))
              refine g_callS X [(.long r207), (.long (0 : Int64))] [] (tw58 hw) (tw59 hw) (tw60 hw) (tw61 hw) (by decide) (rm10 l Z a0 hw [] r207 (0 : Int64) _ n0 X.size) pd4 rfl rfl rfl at_220 (q := 223) rfl (W := 0) rfl (by decide) (by decide) (c2 := 3) (s2 := 11) rfl rfl (by decide) (by decide) (fun v T h' X hQ => ?_)
              obtain ⟨rfl, rfl⟩ := hQ
              show Goes p e below s _ n0 _ (T.setTop (mkF m 223 #[.val (.long q1), .second, .val (.long q2), .second, .val (.long q3), .second, .val (.int p4), .val (.long q5), .second, .val (.long x5), .second, .val (.long x12), .second, .val (.long x20), .second, .val (.long (0 : Int64)), .second, .val (.long (0 : Int64)), .second, .val (.long (1 : Int64)), .second, .val (.ref b3), .val (.long r96), .second, .val (.long r153), .second, .val (.long (0 : Int64)), .second, .val (.long (0 : Int64)), .second, .unset, .unset] [(.long (if ((9223372036854775807 : Int64) - (0 : Int64)) < r207 then (9223372036854775807 : Int64) else (r207 + (0 : Int64))))]))
              refine g_letJ (fun r220 hr220 => ?_)
              have s_r220 := own_satI hr220 s_r207.1 (by decide)
              refine g_lstore X at_223 rfl (q := 225) (L' := #[.val (.long q1), .second, .val (.long q2), .second, .val (.long q3), .second, .val (.int p4), .val (.long q5), .second, .val (.long x5), .second, .val (.long x12), .second, .val (.long x20), .second, .val (.long (0 : Int64)), .second, .val (.long (0 : Int64)), .second, .val (.long (1 : Int64)), .second, .val (.ref b3), .val (.long r96), .second, .val (.long r153), .second, .val (.long (0 : Int64)), .second, .val (.long (0 : Int64)), .second, .val (.long r220), .second]) rfl ?_
              refine g_lload X at_225 rfl (q := 227) rfl ?_
              refine g_lload X at_227 rfl (q := 229) rfl ?_
              refine g_jT1 X (J := 238) (P := fun (s0_238 : Int32) => s0_238 = (bI (r96 = r220))) (L := fun s0_238 => #[.val (.long q1), .second, .val (.long q2), .second, .val (.long q3), .second, .val (.int p4), .val (.long q5), .second, .val (.long x5), .second, .val (.long x12), .second, .val (.long x20), .second, .val (.long (0 : Int64)), .second, .val (.long (0 : Int64)), .second, .val (.long (1 : Int64)), .second, .val (.ref b3), .val (.long r96), .second, .val (.long r153), .second, .val (.long (0 : Int64)), .second, .val (.long (0 : Int64)), .second, .val (.long r220), .second]) (S := fun s0_238 => [(.int s0_238)]) ?_ ?_
              · intro T X s0_238 hs0_238
                replace hs0_238 : s0_238 = (bI (r96 = r220)) := hs0_238
                subst hs0_238
                show Goes p e below s _ n0 _ (T.setTop (mkF m 238 #[.val (.long q1), .second, .val (.long q2), .second, .val (.long q3), .second, .val (.int p4), .val (.long q5), .second, .val (.long x5), .second, .val (.long x12), .second, .val (.long x20), .second, .val (.long (0 : Int64)), .second, .val (.long (0 : Int64)), .second, .val (.long (1 : Int64)), .second, .val (.ref b3), .val (.long r96), .second, .val (.long r153), .second, .val (.long (0 : Int64)), .second, .val (.long (0 : Int64)), .second, .val (.long r220), .second] [(.int (bI (r96 = r220)))]))
                refine g_retZ X at_238 (by decide) (by decide) (bI_01 _) (own_fin ?_)
                show r96 = r220
                apply Int64.toInt_inj.mp
                (try simp only [Int64.reduceToInt] at s_x5 s_x12 s_x20 s_w75 s_w84 s_r96 s_r122 s_r153 s_r207 s_r220)
                omega
              · intro J238_7
                refine g_lcmpB X at_229 (q1 := 230) rfl at_230 (Or.inr (Or.inr rfl)) (q := 233) rfl (by decide) (t := 237) rfl (fun (c8 : r96 = r220) => ?_) (fun (c8 : ¬ (r96 = r220)) => ?_)
                · skip
                  refine g_iconst X at_233 rfl (q := 234) (v := 1) rfl ?_
                  refine g_goto X at_234 (by decide) (q := 238) rfl ?_
                  exact J238_7 T X _ (bI_t c8)
                · skip
                  refine g_iconst X at_237 rfl (q := 238) (v := 0) rfl ?_
                  exact J238_7 T X _ (bI_f c8)
            · skip
              exact absurd c7 (by decide)
          · skip
            exact absurd c6 (by decide)
        · skip
          exact absurd c5 (by decide)
      · subst q4
        show Goes p e below s _ n0 _ (T.setTop (mkF m 89 #[.val (.long q1), .second, .val (.long q2), .second, .val (.long q3), .second, .val (.int p4), .val (.long q5), .second, .val (.long x5), .second, .val (.long x12), .second, .val (.long x20), .second, .val (.long (0 : Int64)), .second, .val (.long (0 : Int64)), .second, .val (.long (2 : Int64)), .second, .val (.ref b3), .unset, .unset, .unset, .unset, .unset, .unset, .unset, .unset, .unset, .unset] [(.ref b3)]))
        refine g_lload X at_89 rfl (q := 91) rfl ?_
        refine g_callV X O_b3.1 [(.long (2 : Int64))] [] (tw48 hw) (tw49 hw) (tw51 hw) (tw50 hw) (tw3 hw) (tw52 hw) (by decide) (rm8_1_2_1 l Z a0 hw [] b3 (2 : Int64) q5 i1_56 n1_56 t1_84 b1_84 (own_up (fun _ => 0) 0 (0 : Int64)) (own_up (own_up (own_up (fun _ => 0) 0 x5) 0 w75) 0 w84) (((0 + x5.toInt) + (w75.toInt - x5.toInt)) + (w84.toInt - w75.toInt)) (((0 + 1) + 1) + 1) _ n0 X.size O_b3 A_i1_56 A_n1_56 g_b3 ne_b3_i1_56 ne_b3_n1_56 ne_i1_56_b3 ne_i1_56_n1_56 ne_n1_56_b3 ne_n1_56_i1_56 (by decide) (show (0 : Int) ≤ (w84 : Int64).toInt from s_w84.1) (show (w84 : Int64).toInt ≤ (((0 + x5.toInt) + (w75.toInt - x5.toInt)) + (w84.toInt - w75.toInt)) from by omega) hSw84 (by decide)) pd0 rfl rfl rfl at_91 (q := 94) rfl (W := 0) rfl (by decide) (by decide) (c2 := 3) (s2 := 11) rfl rfl (by decide) (by decide) (fun v T h' X hQ => ?_)
        obtain ⟨t1_91, b1_91, i1_91, n1_91, o1_91, s1_91, rfl, Kc, O_b3', hS1_91⟩ := hQ
        have A_i1_56 := A_i1_56.keep Kc (ninS ne_i1_56_b3 nin0)
        have A_n1_56 := A_n1_56.keep Kc (ninS ne_n1_56_b3 nin0)
        have O_b3 := O_b3'
        show Goes p e below s _ n0 _ (T.setTop (mkF m 94 #[.val (.long q1), .second, .val (.long q2), .second, .val (.long q3), .second, .val (.int p4), .val (.long q5), .second, .val (.long x5), .second, .val (.long x12), .second, .val (.long x20), .second, .val (.long (0 : Int64)), .second, .val (.long (0 : Int64)), .second, .val (.long (2 : Int64)), .second, .val (.ref b3), .unset, .unset, .unset, .unset, .unset, .unset, .unset, .unset, .unset, .unset] []))
        have hT : OKT t1_91 b1_91 ((((0 + x5.toInt) + (w75.toInt - x5.toInt)) + (w84.toInt - w75.toInt)) - w84.toInt) (((0 + 1) + 1) + 1) := hS1_91
        refine g_aload X at_94 rfl (q := 96) rfl rfl ?_
        refine g_callV X O_b3.1 [] [] (tw53 hw) (tw54 hw) (tw56 hw) (tw55 hw) (tw3 hw) (tw57 hw) (by decide) (rm9 l Z a0 hw [] b3 q5 i1_91 n1_91 o1_91 s1_91 t1_91 b1_91 _ n0 X.size O_b3) pd5 rfl rfl rfl at_96 (q := 99) rfl (W := 0) rfl (by decide) (by decide) (c2 := 3) (s2 := 11) rfl rfl (by decide) (by decide) (fun v T h' X hQ => ?_)
        obtain ⟨rfl, rfl⟩ := hQ
        show Goes p e below s _ n0 _ (T.setTop (mkF m 99 #[.val (.long q1), .second, .val (.long q2), .second, .val (.long q3), .second, .val (.int p4), .val (.long q5), .second, .val (.long x5), .second, .val (.long x12), .second, .val (.long x20), .second, .val (.long (0 : Int64)), .second, .val (.long (0 : Int64)), .second, .val (.long (2 : Int64)), .second, .val (.ref b3), .unset, .unset, .unset, .unset, .unset, .unset, .unset, .unset, .unset, .unset] [(.long (if b1_91 = (0 : Int64) then t1_91 else (9223372036854775807 : Int64)))]))
        refine g_letJ (fun r96 hr96 => ?_)
        have s_r96 := own_totI hr96 hT
        refine g_lstore X at_99 rfl (q := 101) (L' := #[.val (.long q1), .second, .val (.long q2), .second, .val (.long q3), .second, .val (.int p4), .val (.long q5), .second, .val (.long x5), .second, .val (.long x12), .second, .val (.long x20), .second, .val (.long (0 : Int64)), .second, .val (.long (0 : Int64)), .second, .val (.long (2 : Int64)), .second, .val (.ref b3), .val (.long r96), .second, .unset, .unset, .unset, .unset, .unset, .unset, .unset, .unset]) rfl ?_
        refine g_lload X at_101 rfl (q := 103) rfl ?_
        refine g_lstore X at_103 rfl (q := 105) (L' := #[.val (.long q1), .second, .val (.long q2), .second, .val (.long q3), .second, .val (.int p4), .val (.long q5), .second, .val (.long x5), .second, .val (.long x12), .second, .val (.long x20), .second, .val (.long (0 : Int64)), .second, .val (.long (0 : Int64)), .second, .val (.long (2 : Int64)), .second, .val (.ref b3), .val (.long r96), .second, .val (.long x5), .second, .unset, .unset, .unset, .unset, .unset, .unset]) rfl ?_
        refine g_lconst X at_105 rfl (q := 106) (v := 0) rfl ?_
        refine g_lstore X at_106 rfl (q := 108) (L' := #[.val (.long q1), .second, .val (.long q2), .second, .val (.long q3), .second, .val (.int p4), .val (.long q5), .second, .val (.long x5), .second, .val (.long x12), .second, .val (.long x20), .second, .val (.long (0 : Int64)), .second, .val (.long (0 : Int64)), .second, .val (.long (2 : Int64)), .second, .val (.ref b3), .val (.long r96), .second, .val (.long x5), .second, .val (.long (0 : Int64)), .second, .unset, .unset, .unset, .unset]) rfl ?_
        refine g_lconst X at_108 rfl (q := 109) (v := 0) rfl ?_
        refine g_lstore X at_109 rfl (q := 111) (L' := #[.val (.long q1), .second, .val (.long q2), .second, .val (.long q3), .second, .val (.int p4), .val (.long q5), .second, .val (.long x5), .second, .val (.long x12), .second, .val (.long x20), .second, .val (.long (0 : Int64)), .second, .val (.long (0 : Int64)), .second, .val (.long (2 : Int64)), .second, .val (.ref b3), .val (.long r96), .second, .val (.long x5), .second, .val (.long (0 : Int64)), .second, .val (.long (0 : Int64)), .second, .unset, .unset]) rfl ?_
        refine g_lload X at_111 rfl (q := 113) rfl ?_
        refine g_lconst X at_113 rfl (q := 114) (v := 0) rfl ?_
        refine g_lcmpB X at_114 (q1 := 115) rfl at_115 (Or.inr (Or.inr rfl)) (q := 118) rfl (by decide) (t := 130) rfl (fun (c9 : (0 : Int64) = (0 : Int64)) => ?_) (fun (c9 : ¬ ((0 : Int64) = (0 : Int64))) => ?_)
        · skip
          refine g_lload X at_118 rfl (q := 120) rfl ?_
          refine g_lload X at_120 rfl (q := 122) rfl ?_
          refine g_callS X [(.long x5), (.long x12)] [] (tw58 hw) (tw59 hw) (tw60 hw) (tw61 hw) (by decide) (rm10 l Z a0 hw [] x5 x12 _ n0 X.size) pd4 rfl rfl rfl at_122 (q := 125) rfl (W := 0) rfl (by decide) (by decide) (c2 := 3) (s2 := 11) rfl rfl (by decide) (by decide) (fun v T h' X hQ => ?_)
          obtain ⟨rfl, rfl⟩ := hQ
          show Goes p e below s _ n0 _ (T.setTop (mkF m 125 #[.val (.long q1), .second, .val (.long q2), .second, .val (.long q3), .second, .val (.int p4), .val (.long q5), .second, .val (.long x5), .second, .val (.long x12), .second, .val (.long x20), .second, .val (.long (0 : Int64)), .second, .val (.long (0 : Int64)), .second, .val (.long (2 : Int64)), .second, .val (.ref b3), .val (.long r96), .second, .val (.long x5), .second, .val (.long (0 : Int64)), .second, .val (.long (0 : Int64)), .second, .unset, .unset] [(.long (if ((9223372036854775807 : Int64) - x12) < x5 then (9223372036854775807 : Int64) else (x5 + x12)))]))
          refine g_letJ (fun r122 hr122 => ?_)
          have s_r122 := own_satI hr122 s_x5.1 s_x12.1
          refine g_lstore X at_125 rfl (q := 127) (L' := #[.val (.long q1), .second, .val (.long q2), .second, .val (.long q3), .second, .val (.int p4), .val (.long q5), .second, .val (.long x5), .second, .val (.long x12), .second, .val (.long x20), .second, .val (.long (0 : Int64)), .second, .val (.long (0 : Int64)), .second, .val (.long (2 : Int64)), .second, .val (.ref b3), .val (.long r96), .second, .val (.long r122), .second, .val (.long (0 : Int64)), .second, .val (.long (0 : Int64)), .second, .unset, .unset]) rfl ?_
          refine g_goto X at_127 (by decide) (q := 134) rfl ?_
          refine g_lload X at_134 rfl (q := 136) rfl ?_
          refine g_lload X at_136 rfl (q := 138) rfl ?_
          refine g_lcmpB X at_138 (q1 := 139) rfl at_139 (Or.inr (Or.inr rfl)) (q := 142) rfl (by decide) (t := 173) rfl (fun (c10 : (0 : Int64) = (0 : Int64)) => ?_) (fun (c10 : ¬ ((0 : Int64) = (0 : Int64))) => ?_)
          · skip
            refine g_lload X at_142 rfl (q := 144) rfl ?_
            refine g_lconst X at_144 rfl (q := 145) (v := 0) rfl ?_
            refine g_lcmpB X at_145 (q1 := 146) rfl at_146 (Or.inr (Or.inr rfl)) (q := 149) rfl (by decide) (t := 161) rfl (fun (c11 : (0 : Int64) = (0 : Int64)) => ?_) (fun (c11 : ¬ ((0 : Int64) = (0 : Int64))) => ?_)
            · skip
              refine g_lload X at_149 rfl (q := 151) rfl ?_
              refine g_lload X at_151 rfl (q := 153) rfl ?_
              refine g_callS X [(.long r122), (.long x20)] [] (tw58 hw) (tw59 hw) (tw60 hw) (tw61 hw) (by decide) (rm10 l Z a0 hw [] r122 x20 _ n0 X.size) pd4 rfl rfl rfl at_153 (q := 156) rfl (W := 0) rfl (by decide) (by decide) (c2 := 3) (s2 := 11) rfl rfl (by decide) (by decide) (fun v T h' X hQ => ?_)
              obtain ⟨rfl, rfl⟩ := hQ
              show Goes p e below s _ n0 _ (T.setTop (mkF m 156 #[.val (.long q1), .second, .val (.long q2), .second, .val (.long q3), .second, .val (.int p4), .val (.long q5), .second, .val (.long x5), .second, .val (.long x12), .second, .val (.long x20), .second, .val (.long (0 : Int64)), .second, .val (.long (0 : Int64)), .second, .val (.long (2 : Int64)), .second, .val (.ref b3), .val (.long r96), .second, .val (.long r122), .second, .val (.long (0 : Int64)), .second, .val (.long (0 : Int64)), .second, .unset, .unset] [(.long (if ((9223372036854775807 : Int64) - x20) < r122 then (9223372036854775807 : Int64) else (r122 + x20)))]))
              refine g_letJ (fun r153 hr153 => ?_)
              have s_r153 := own_satI hr153 s_r122.1 s_x20.1
              refine g_lstore X at_156 rfl (q := 158) (L' := #[.val (.long q1), .second, .val (.long q2), .second, .val (.long q3), .second, .val (.int p4), .val (.long q5), .second, .val (.long x5), .second, .val (.long x12), .second, .val (.long x20), .second, .val (.long (0 : Int64)), .second, .val (.long (0 : Int64)), .second, .val (.long (2 : Int64)), .second, .val (.ref b3), .val (.long r96), .second, .val (.long r153), .second, .val (.long (0 : Int64)), .second, .val (.long (0 : Int64)), .second, .unset, .unset]) rfl ?_
              refine g_goto X at_158 (by decide) (q := 191) rfl ?_
              refine g_lconst X at_191 rfl (q := 192) (v := 0) rfl ?_
              refine g_lload X at_192 rfl (q := 194) rfl ?_
              refine g_lload X at_194 rfl (q := 196) rfl ?_
              refine g_callS X [(.long (0 : Int64)), (.long r153), (.long (2 : Int64))] [] (tw62 hw) (tw63 hw) (tw60 hw) (tw64 hw) (by decide) (rm11_0_2 l Z a0 hw [] r153 _ n0 X.size) pd6 rfl rfl rfl at_196 (q := 199) rfl (W := 0) rfl (by decide) (by decide) (c2 := 3) (s2 := 11) rfl rfl (by decide) (by decide) (fun v T h' X hQ => ?_)
              obtain ⟨rfl, rfl⟩ := hQ
              show Goes p e below s _ n0 _ (T.setTop (mkF m 199 #[.val (.long q1), .second, .val (.long q2), .second, .val (.long q3), .second, .val (.int p4), .val (.long q5), .second, .val (.long x5), .second, .val (.long x12), .second, .val (.long x20), .second, .val (.long (0 : Int64)), .second, .val (.long (0 : Int64)), .second, .val (.long (2 : Int64)), .second, .val (.ref b3), .val (.long r96), .second, .val (.long r153), .second, .val (.long (0 : Int64)), .second, .val (.long (0 : Int64)), .second, .unset, .unset] [(.long (0 : Int64))]))
              refine g_lconst X at_199 rfl (q := 200) (v := 1) rfl ?_
              refine g_lload X at_200 rfl (q := 202) rfl ?_
              refine g_lload X at_202 rfl (q := 204) rfl ?_
              refine g_callS X [(.long (1 : Int64)), (.long (0 : Int64)), (.long (2 : Int64))] [(.long (0 : Int64))] (tw62 hw) (tw63 hw) (tw60 hw) (tw64 hw) (by decide) (rm11_1_2 l Z a0 hw [] (0 : Int64) _ n0 X.size) pd6 rfl rfl rfl at_204 (q := 207) rfl (W := 2) rfl (by decide) (by decide) (c2 := 3) (s2 := 11) rfl rfl (by decide) (by decide) (fun v T h' X hQ => ?_)
              obtain ⟨rfl, rfl⟩ := hQ
              show Goes p e below s _ n0 _ (T.setTop (mkF m 207 #[.val (.long q1), .second, .val (.long q2), .second, .val (.long q3), .second, .val (.int p4), .val (.long q5), .second, .val (.long x5), .second, .val (.long x12), .second, .val (.long x20), .second, .val (.long (0 : Int64)), .second, .val (.long (0 : Int64)), .second, .val (.long (2 : Int64)), .second, .val (.ref b3), .val (.long r96), .second, .val (.long r153), .second, .val (.long (0 : Int64)), .second, .val (.long (0 : Int64)), .second, .unset, .unset] [(.long (0 : Int64)), (.long (0 : Int64))]))
              refine g_callS X [(.long (0 : Int64)), (.long (0 : Int64))] [] (tw58 hw) (tw59 hw) (tw60 hw) (tw61 hw) (by decide) (rm10 l Z a0 hw [] (0 : Int64) (0 : Int64) _ n0 X.size) pd4 rfl rfl rfl at_207 (q := 210) rfl (W := 0) rfl (by decide) (by decide) (c2 := 3) (s2 := 11) rfl rfl (by decide) (by decide) (fun v T h' X hQ => ?_)
              obtain ⟨rfl, rfl⟩ := hQ
              show Goes p e below s _ n0 _ (T.setTop (mkF m 210 #[.val (.long q1), .second, .val (.long q2), .second, .val (.long q3), .second, .val (.int p4), .val (.long q5), .second, .val (.long x5), .second, .val (.long x12), .second, .val (.long x20), .second, .val (.long (0 : Int64)), .second, .val (.long (0 : Int64)), .second, .val (.long (2 : Int64)), .second, .val (.ref b3), .val (.long r96), .second, .val (.long r153), .second, .val (.long (0 : Int64)), .second, .val (.long (0 : Int64)), .second, .unset, .unset] [(.long (if ((9223372036854775807 : Int64) - (0 : Int64)) < (0 : Int64) then (9223372036854775807 : Int64) else ((0 : Int64) + (0 : Int64))))]))
              refine g_letJ (fun r207 hr207 => ?_)
              have s_r207 := own_satI hr207 (by decide) (by decide)
              refine g_ldc2 X (tw65 hw) at_210 (q := 213) rfl ?_
              refine g_lload X at_213 rfl (q := 215) rfl ?_
              refine g_lload X at_215 rfl (q := 217) rfl ?_
              refine g_callS X [(.long (2 : Int64)), (.long (0 : Int64)), (.long (2 : Int64))] [(.long r207)] (tw62 hw) (tw63 hw) (tw60 hw) (tw64 hw) (by decide) (rm11_2_2 l Z a0 hw [] (0 : Int64) _ n0 X.size) pd6 rfl rfl rfl at_217 (q := 220) rfl (W := 2) rfl (by decide) (by decide) (c2 := 3) (s2 := 11) rfl rfl (by decide) (by decide) (fun v T h' X hQ => ?_)
              obtain ⟨rfl, rfl⟩ := hQ
              show Goes p e below s _ n0 _ (T.setTop (mkF m 220 #[.val (.long q1), .second, .val (.long q2), .second, .val (.long q3), .second, .val (.int p4), .val (.long q5), .second, .val (.long x5), .second, .val (.long x12), .second, .val (.long x20), .second, .val (.long (0 : Int64)), .second, .val (.long (0 : Int64)), .second, .val (.long (2 : Int64)), .second, .val (.ref b3), .val (.long r96), .second, .val (.long r153), .second, .val (.long (0 : Int64)), .second, .val (.long (0 : Int64)), .second, .unset, .unset] [(.long (0 : Int64)), (.long r207)]))
              refine g_callS X [(.long r207), (.long (0 : Int64))] [] (tw58 hw) (tw59 hw) (tw60 hw) (tw61 hw) (by decide) (rm10 l Z a0 hw [] r207 (0 : Int64) _ n0 X.size) pd4 rfl rfl rfl at_220 (q := 223) rfl (W := 0) rfl (by decide) (by decide) (c2 := 3) (s2 := 11) rfl rfl (by decide) (by decide) (fun v T h' X hQ => ?_)
              obtain ⟨rfl, rfl⟩ := hQ
              show Goes p e below s _ n0 _ (T.setTop (mkF m 223 #[.val (.long q1), .second, .val (.long q2), .second, .val (.long q3), .second, .val (.int p4), .val (.long q5), .second, .val (.long x5), .second, .val (.long x12), .second, .val (.long x20), .second, .val (.long (0 : Int64)), .second, .val (.long (0 : Int64)), .second, .val (.long (2 : Int64)), .second, .val (.ref b3), .val (.long r96), .second, .val (.long r153), .second, .val (.long (0 : Int64)), .second, .val (.long (0 : Int64)), .second, .unset, .unset] [(.long (if ((9223372036854775807 : Int64) - (0 : Int64)) < r207 then (9223372036854775807 : Int64) else (r207 + (0 : Int64))))]))
              refine g_letJ (fun r220 hr220 => ?_)
              have s_r220 := own_satI hr220 s_r207.1 (by decide)
              refine g_lstore X at_223 rfl (q := 225) (L' := #[.val (.long q1), .second, .val (.long q2), .second, .val (.long q3), .second, .val (.int p4), .val (.long q5), .second, .val (.long x5), .second, .val (.long x12), .second, .val (.long x20), .second, .val (.long (0 : Int64)), .second, .val (.long (0 : Int64)), .second, .val (.long (2 : Int64)), .second, .val (.ref b3), .val (.long r96), .second, .val (.long r153), .second, .val (.long (0 : Int64)), .second, .val (.long (0 : Int64)), .second, .val (.long r220), .second]) rfl ?_
              refine g_lload X at_225 rfl (q := 227) rfl ?_
              refine g_lload X at_227 rfl (q := 229) rfl ?_
              refine g_jT1 X (J := 238) (P := fun (s0_238 : Int32) => s0_238 = (bI (r96 = r220))) (L := fun s0_238 => #[.val (.long q1), .second, .val (.long q2), .second, .val (.long q3), .second, .val (.int p4), .val (.long q5), .second, .val (.long x5), .second, .val (.long x12), .second, .val (.long x20), .second, .val (.long (0 : Int64)), .second, .val (.long (0 : Int64)), .second, .val (.long (2 : Int64)), .second, .val (.ref b3), .val (.long r96), .second, .val (.long r153), .second, .val (.long (0 : Int64)), .second, .val (.long (0 : Int64)), .second, .val (.long r220), .second]) (S := fun s0_238 => [(.int s0_238)]) ?_ ?_
              · intro T X s0_238 hs0_238
                replace hs0_238 : s0_238 = (bI (r96 = r220)) := hs0_238
                subst hs0_238
                show Goes p e below s _ n0 _ (T.setTop (mkF m 238 #[.val (.long q1), .second, .val (.long q2), .second, .val (.long q3), .second, .val (.int p4), .val (.long q5), .second, .val (.long x5), .second, .val (.long x12), .second, .val (.long x20), .second, .val (.long (0 : Int64)), .second, .val (.long (0 : Int64)), .second, .val (.long (2 : Int64)), .second, .val (.ref b3), .val (.long r96), .second, .val (.long r153), .second, .val (.long (0 : Int64)), .second, .val (.long (0 : Int64)), .second, .val (.long r220), .second] [(.int (bI (r96 = r220)))]))
                refine g_retZ X at_238 (by decide) (by decide) (bI_01 _) (own_fin ?_)
                show r96 = r220
                apply Int64.toInt_inj.mp
                (try simp only [Int64.reduceToInt] at s_x5 s_x12 s_x20 s_w75 s_w84 s_r96 s_r122 s_r153 s_r207 s_r220)
                omega
              · intro J238_11
                refine g_lcmpB X at_229 (q1 := 230) rfl at_230 (Or.inr (Or.inr rfl)) (q := 233) rfl (by decide) (t := 237) rfl (fun (c12 : r96 = r220) => ?_) (fun (c12 : ¬ (r96 = r220)) => ?_)
                · skip
                  refine g_iconst X at_233 rfl (q := 234) (v := 1) rfl ?_
                  refine g_goto X at_234 (by decide) (q := 238) rfl ?_
                  exact J238_11 T X _ (bI_t c12)
                · skip
                  refine g_iconst X at_237 rfl (q := 238) (v := 0) rfl ?_
                  exact J238_11 T X _ (bI_f c12)
            · skip
              exact absurd c11 (by decide)
          · skip
            exact absurd c10 (by decide)
        · skip
          exact absurd c9 (by decide)
      · subst q4
        show Goes p e below s _ n0 _ (T.setTop (mkF m 89 #[.val (.long q1), .second, .val (.long q2), .second, .val (.long q3), .second, .val (.int p4), .val (.long q5), .second, .val (.long x5), .second, .val (.long x12), .second, .val (.long x20), .second, .val (.long (0 : Int64)), .second, .val (.long (0 : Int64)), .second, .val (.long (3 : Int64)), .second, .val (.ref b3), .unset, .unset, .unset, .unset, .unset, .unset, .unset, .unset, .unset, .unset] [(.ref b3)]))
        refine g_lload X at_89 rfl (q := 91) rfl ?_
        refine g_callV X O_b3.1 [(.long (3 : Int64))] [] (tw48 hw) (tw49 hw) (tw51 hw) (tw50 hw) (tw3 hw) (tw52 hw) (by decide) (rm8_1_2_1 l Z a0 hw [] b3 (3 : Int64) q5 i1_56 n1_56 t1_84 b1_84 (own_up (fun _ => 0) 0 (0 : Int64)) (own_up (own_up (own_up (fun _ => 0) 0 x5) 0 w75) 0 w84) (((0 + x5.toInt) + (w75.toInt - x5.toInt)) + (w84.toInt - w75.toInt)) (((0 + 1) + 1) + 1) _ n0 X.size O_b3 A_i1_56 A_n1_56 g_b3 ne_b3_i1_56 ne_b3_n1_56 ne_i1_56_b3 ne_i1_56_n1_56 ne_n1_56_b3 ne_n1_56_i1_56 (by decide) (show (0 : Int) ≤ (w84 : Int64).toInt from s_w84.1) (show (w84 : Int64).toInt ≤ (((0 + x5.toInt) + (w75.toInt - x5.toInt)) + (w84.toInt - w75.toInt)) from by omega) hSw84 (by decide)) pd0 rfl rfl rfl at_91 (q := 94) rfl (W := 0) rfl (by decide) (by decide) (c2 := 3) (s2 := 11) rfl rfl (by decide) (by decide) (fun v T h' X hQ => ?_)
        obtain ⟨t1_91, b1_91, i1_91, n1_91, o1_91, s1_91, rfl, Kc, O_b3', hS1_91⟩ := hQ
        have A_i1_56 := A_i1_56.keep Kc (ninS ne_i1_56_b3 nin0)
        have A_n1_56 := A_n1_56.keep Kc (ninS ne_n1_56_b3 nin0)
        have O_b3 := O_b3'
        show Goes p e below s _ n0 _ (T.setTop (mkF m 94 #[.val (.long q1), .second, .val (.long q2), .second, .val (.long q3), .second, .val (.int p4), .val (.long q5), .second, .val (.long x5), .second, .val (.long x12), .second, .val (.long x20), .second, .val (.long (0 : Int64)), .second, .val (.long (0 : Int64)), .second, .val (.long (3 : Int64)), .second, .val (.ref b3), .unset, .unset, .unset, .unset, .unset, .unset, .unset, .unset, .unset, .unset] []))
        have hT : OKT t1_91 b1_91 ((((0 + x5.toInt) + (w75.toInt - x5.toInt)) + (w84.toInt - w75.toInt)) - w84.toInt) (((0 + 1) + 1) + 1) := hS1_91
        refine g_aload X at_94 rfl (q := 96) rfl rfl ?_
        refine g_callV X O_b3.1 [] [] (tw53 hw) (tw54 hw) (tw56 hw) (tw55 hw) (tw3 hw) (tw57 hw) (by decide) (rm9 l Z a0 hw [] b3 q5 i1_91 n1_91 o1_91 s1_91 t1_91 b1_91 _ n0 X.size O_b3) pd5 rfl rfl rfl at_96 (q := 99) rfl (W := 0) rfl (by decide) (by decide) (c2 := 3) (s2 := 11) rfl rfl (by decide) (by decide) (fun v T h' X hQ => ?_)
        obtain ⟨rfl, rfl⟩ := hQ
        show Goes p e below s _ n0 _ (T.setTop (mkF m 99 #[.val (.long q1), .second, .val (.long q2), .second, .val (.long q3), .second, .val (.int p4), .val (.long q5), .second, .val (.long x5), .second, .val (.long x12), .second, .val (.long x20), .second, .val (.long (0 : Int64)), .second, .val (.long (0 : Int64)), .second, .val (.long (3 : Int64)), .second, .val (.ref b3), .unset, .unset, .unset, .unset, .unset, .unset, .unset, .unset, .unset, .unset] [(.long (if b1_91 = (0 : Int64) then t1_91 else (9223372036854775807 : Int64)))]))
        refine g_letJ (fun r96 hr96 => ?_)
        have s_r96 := own_totI hr96 hT
        refine g_lstore X at_99 rfl (q := 101) (L' := #[.val (.long q1), .second, .val (.long q2), .second, .val (.long q3), .second, .val (.int p4), .val (.long q5), .second, .val (.long x5), .second, .val (.long x12), .second, .val (.long x20), .second, .val (.long (0 : Int64)), .second, .val (.long (0 : Int64)), .second, .val (.long (3 : Int64)), .second, .val (.ref b3), .val (.long r96), .second, .unset, .unset, .unset, .unset, .unset, .unset, .unset, .unset]) rfl ?_
        refine g_lload X at_101 rfl (q := 103) rfl ?_
        refine g_lstore X at_103 rfl (q := 105) (L' := #[.val (.long q1), .second, .val (.long q2), .second, .val (.long q3), .second, .val (.int p4), .val (.long q5), .second, .val (.long x5), .second, .val (.long x12), .second, .val (.long x20), .second, .val (.long (0 : Int64)), .second, .val (.long (0 : Int64)), .second, .val (.long (3 : Int64)), .second, .val (.ref b3), .val (.long r96), .second, .val (.long x5), .second, .unset, .unset, .unset, .unset, .unset, .unset]) rfl ?_
        refine g_lconst X at_105 rfl (q := 106) (v := 0) rfl ?_
        refine g_lstore X at_106 rfl (q := 108) (L' := #[.val (.long q1), .second, .val (.long q2), .second, .val (.long q3), .second, .val (.int p4), .val (.long q5), .second, .val (.long x5), .second, .val (.long x12), .second, .val (.long x20), .second, .val (.long (0 : Int64)), .second, .val (.long (0 : Int64)), .second, .val (.long (3 : Int64)), .second, .val (.ref b3), .val (.long r96), .second, .val (.long x5), .second, .val (.long (0 : Int64)), .second, .unset, .unset, .unset, .unset]) rfl ?_
        refine g_lconst X at_108 rfl (q := 109) (v := 0) rfl ?_
        refine g_lstore X at_109 rfl (q := 111) (L' := #[.val (.long q1), .second, .val (.long q2), .second, .val (.long q3), .second, .val (.int p4), .val (.long q5), .second, .val (.long x5), .second, .val (.long x12), .second, .val (.long x20), .second, .val (.long (0 : Int64)), .second, .val (.long (0 : Int64)), .second, .val (.long (3 : Int64)), .second, .val (.ref b3), .val (.long r96), .second, .val (.long x5), .second, .val (.long (0 : Int64)), .second, .val (.long (0 : Int64)), .second, .unset, .unset]) rfl ?_
        refine g_lload X at_111 rfl (q := 113) rfl ?_
        refine g_lconst X at_113 rfl (q := 114) (v := 0) rfl ?_
        refine g_lcmpB X at_114 (q1 := 115) rfl at_115 (Or.inr (Or.inr rfl)) (q := 118) rfl (by decide) (t := 130) rfl (fun (c13 : (0 : Int64) = (0 : Int64)) => ?_) (fun (c13 : ¬ ((0 : Int64) = (0 : Int64))) => ?_)
        · skip
          refine g_lload X at_118 rfl (q := 120) rfl ?_
          refine g_lload X at_120 rfl (q := 122) rfl ?_
          refine g_callS X [(.long x5), (.long x12)] [] (tw58 hw) (tw59 hw) (tw60 hw) (tw61 hw) (by decide) (rm10 l Z a0 hw [] x5 x12 _ n0 X.size) pd4 rfl rfl rfl at_122 (q := 125) rfl (W := 0) rfl (by decide) (by decide) (c2 := 3) (s2 := 11) rfl rfl (by decide) (by decide) (fun v T h' X hQ => ?_)
          obtain ⟨rfl, rfl⟩ := hQ
          show Goes p e below s _ n0 _ (T.setTop (mkF m 125 #[.val (.long q1), .second, .val (.long q2), .second, .val (.long q3), .second, .val (.int p4), .val (.long q5), .second, .val (.long x5), .second, .val (.long x12), .second, .val (.long x20), .second, .val (.long (0 : Int64)), .second, .val (.long (0 : Int64)), .second, .val (.long (3 : Int64)), .second, .val (.ref b3), .val (.long r96), .second, .val (.long x5), .second, .val (.long (0 : Int64)), .second, .val (.long (0 : Int64)), .second, .unset, .unset] [(.long (if ((9223372036854775807 : Int64) - x12) < x5 then (9223372036854775807 : Int64) else (x5 + x12)))]))
          refine g_letJ (fun r122 hr122 => ?_)
          have s_r122 := own_satI hr122 s_x5.1 s_x12.1
          refine g_lstore X at_125 rfl (q := 127) (L' := #[.val (.long q1), .second, .val (.long q2), .second, .val (.long q3), .second, .val (.int p4), .val (.long q5), .second, .val (.long x5), .second, .val (.long x12), .second, .val (.long x20), .second, .val (.long (0 : Int64)), .second, .val (.long (0 : Int64)), .second, .val (.long (3 : Int64)), .second, .val (.ref b3), .val (.long r96), .second, .val (.long r122), .second, .val (.long (0 : Int64)), .second, .val (.long (0 : Int64)), .second, .unset, .unset]) rfl ?_
          refine g_goto X at_127 (by decide) (q := 134) rfl ?_
          refine g_lload X at_134 rfl (q := 136) rfl ?_
          refine g_lload X at_136 rfl (q := 138) rfl ?_
          refine g_lcmpB X at_138 (q1 := 139) rfl at_139 (Or.inr (Or.inr rfl)) (q := 142) rfl (by decide) (t := 173) rfl (fun (c14 : (0 : Int64) = (0 : Int64)) => ?_) (fun (c14 : ¬ ((0 : Int64) = (0 : Int64))) => ?_)
          · skip
            refine g_lload X at_142 rfl (q := 144) rfl ?_
            refine g_lconst X at_144 rfl (q := 145) (v := 0) rfl ?_
            refine g_lcmpB X at_145 (q1 := 146) rfl at_146 (Or.inr (Or.inr rfl)) (q := 149) rfl (by decide) (t := 161) rfl (fun (c15 : (0 : Int64) = (0 : Int64)) => ?_) (fun (c15 : ¬ ((0 : Int64) = (0 : Int64))) => ?_)
            · skip
              refine g_lload X at_149 rfl (q := 151) rfl ?_
              refine g_lload X at_151 rfl (q := 153) rfl ?_
              refine g_callS X [(.long r122), (.long x20)] [] (tw58 hw) (tw59 hw) (tw60 hw) (tw61 hw) (by decide) (rm10 l Z a0 hw [] r122 x20 _ n0 X.size) pd4 rfl rfl rfl at_153 (q := 156) rfl (W := 0) rfl (by decide) (by decide) (c2 := 3) (s2 := 11) rfl rfl (by decide) (by decide) (fun v T h' X hQ => ?_)
              obtain ⟨rfl, rfl⟩ := hQ
              show Goes p e below s _ n0 _ (T.setTop (mkF m 156 #[.val (.long q1), .second, .val (.long q2), .second, .val (.long q3), .second, .val (.int p4), .val (.long q5), .second, .val (.long x5), .second, .val (.long x12), .second, .val (.long x20), .second, .val (.long (0 : Int64)), .second, .val (.long (0 : Int64)), .second, .val (.long (3 : Int64)), .second, .val (.ref b3), .val (.long r96), .second, .val (.long r122), .second, .val (.long (0 : Int64)), .second, .val (.long (0 : Int64)), .second, .unset, .unset] [(.long (if ((9223372036854775807 : Int64) - x20) < r122 then (9223372036854775807 : Int64) else (r122 + x20)))]))
              refine g_letJ (fun r153 hr153 => ?_)
              have s_r153 := own_satI hr153 s_r122.1 s_x20.1
              refine g_lstore X at_156 rfl (q := 158) (L' := #[.val (.long q1), .second, .val (.long q2), .second, .val (.long q3), .second, .val (.int p4), .val (.long q5), .second, .val (.long x5), .second, .val (.long x12), .second, .val (.long x20), .second, .val (.long (0 : Int64)), .second, .val (.long (0 : Int64)), .second, .val (.long (3 : Int64)), .second, .val (.ref b3), .val (.long r96), .second, .val (.long r153), .second, .val (.long (0 : Int64)), .second, .val (.long (0 : Int64)), .second, .unset, .unset]) rfl ?_
              refine g_goto X at_158 (by decide) (q := 191) rfl ?_
              refine g_lconst X at_191 rfl (q := 192) (v := 0) rfl ?_
              refine g_lload X at_192 rfl (q := 194) rfl ?_
              refine g_lload X at_194 rfl (q := 196) rfl ?_
              refine g_callS X [(.long (0 : Int64)), (.long r153), (.long (3 : Int64))] [] (tw62 hw) (tw63 hw) (tw60 hw) (tw64 hw) (by decide) (rm11_0_3 l Z a0 hw [] r153 _ n0 X.size) pd6 rfl rfl rfl at_196 (q := 199) rfl (W := 0) rfl (by decide) (by decide) (c2 := 3) (s2 := 11) rfl rfl (by decide) (by decide) (fun v T h' X hQ => ?_)
              obtain ⟨rfl, rfl⟩ := hQ
              show Goes p e below s _ n0 _ (T.setTop (mkF m 199 #[.val (.long q1), .second, .val (.long q2), .second, .val (.long q3), .second, .val (.int p4), .val (.long q5), .second, .val (.long x5), .second, .val (.long x12), .second, .val (.long x20), .second, .val (.long (0 : Int64)), .second, .val (.long (0 : Int64)), .second, .val (.long (3 : Int64)), .second, .val (.ref b3), .val (.long r96), .second, .val (.long r153), .second, .val (.long (0 : Int64)), .second, .val (.long (0 : Int64)), .second, .unset, .unset] [(.long (0 : Int64))]))
              refine g_lconst X at_199 rfl (q := 200) (v := 1) rfl ?_
              refine g_lload X at_200 rfl (q := 202) rfl ?_
              refine g_lload X at_202 rfl (q := 204) rfl ?_
              refine g_callS X [(.long (1 : Int64)), (.long (0 : Int64)), (.long (3 : Int64))] [(.long (0 : Int64))] (tw62 hw) (tw63 hw) (tw60 hw) (tw64 hw) (by decide) (rm11_1_3 l Z a0 hw [] (0 : Int64) _ n0 X.size) pd6 rfl rfl rfl at_204 (q := 207) rfl (W := 2) rfl (by decide) (by decide) (c2 := 3) (s2 := 11) rfl rfl (by decide) (by decide) (fun v T h' X hQ => ?_)
              obtain ⟨rfl, rfl⟩ := hQ
              show Goes p e below s _ n0 _ (T.setTop (mkF m 207 #[.val (.long q1), .second, .val (.long q2), .second, .val (.long q3), .second, .val (.int p4), .val (.long q5), .second, .val (.long x5), .second, .val (.long x12), .second, .val (.long x20), .second, .val (.long (0 : Int64)), .second, .val (.long (0 : Int64)), .second, .val (.long (3 : Int64)), .second, .val (.ref b3), .val (.long r96), .second, .val (.long r153), .second, .val (.long (0 : Int64)), .second, .val (.long (0 : Int64)), .second, .unset, .unset] [(.long (0 : Int64)), (.long (0 : Int64))]))
              refine g_callS X [(.long (0 : Int64)), (.long (0 : Int64))] [] (tw58 hw) (tw59 hw) (tw60 hw) (tw61 hw) (by decide) (rm10 l Z a0 hw [] (0 : Int64) (0 : Int64) _ n0 X.size) pd4 rfl rfl rfl at_207 (q := 210) rfl (W := 0) rfl (by decide) (by decide) (c2 := 3) (s2 := 11) rfl rfl (by decide) (by decide) (fun v T h' X hQ => ?_)
              obtain ⟨rfl, rfl⟩ := hQ
              show Goes p e below s _ n0 _ (T.setTop (mkF m 210 #[.val (.long q1), .second, .val (.long q2), .second, .val (.long q3), .second, .val (.int p4), .val (.long q5), .second, .val (.long x5), .second, .val (.long x12), .second, .val (.long x20), .second, .val (.long (0 : Int64)), .second, .val (.long (0 : Int64)), .second, .val (.long (3 : Int64)), .second, .val (.ref b3), .val (.long r96), .second, .val (.long r153), .second, .val (.long (0 : Int64)), .second, .val (.long (0 : Int64)), .second, .unset, .unset] [(.long (if ((9223372036854775807 : Int64) - (0 : Int64)) < (0 : Int64) then (9223372036854775807 : Int64) else ((0 : Int64) + (0 : Int64))))]))
              refine g_letJ (fun r207 hr207 => ?_)
              have s_r207 := own_satI hr207 (by decide) (by decide)
              refine g_ldc2 X (tw65 hw) at_210 (q := 213) rfl ?_
              refine g_lload X at_213 rfl (q := 215) rfl ?_
              refine g_lload X at_215 rfl (q := 217) rfl ?_
              refine g_callS X [(.long (2 : Int64)), (.long (0 : Int64)), (.long (3 : Int64))] [(.long r207)] (tw62 hw) (tw63 hw) (tw60 hw) (tw64 hw) (by decide) (rm11_2_3 l Z a0 hw [] (0 : Int64) _ n0 X.size) pd6 rfl rfl rfl at_217 (q := 220) rfl (W := 2) rfl (by decide) (by decide) (c2 := 3) (s2 := 11) rfl rfl (by decide) (by decide) (fun v T h' X hQ => ?_)
              obtain ⟨rfl, rfl⟩ := hQ
              show Goes p e below s _ n0 _ (T.setTop (mkF m 220 #[.val (.long q1), .second, .val (.long q2), .second, .val (.long q3), .second, .val (.int p4), .val (.long q5), .second, .val (.long x5), .second, .val (.long x12), .second, .val (.long x20), .second, .val (.long (0 : Int64)), .second, .val (.long (0 : Int64)), .second, .val (.long (3 : Int64)), .second, .val (.ref b3), .val (.long r96), .second, .val (.long r153), .second, .val (.long (0 : Int64)), .second, .val (.long (0 : Int64)), .second, .unset, .unset] [(.long (0 : Int64)), (.long r207)]))
              refine g_callS X [(.long r207), (.long (0 : Int64))] [] (tw58 hw) (tw59 hw) (tw60 hw) (tw61 hw) (by decide) (rm10 l Z a0 hw [] r207 (0 : Int64) _ n0 X.size) pd4 rfl rfl rfl at_220 (q := 223) rfl (W := 0) rfl (by decide) (by decide) (c2 := 3) (s2 := 11) rfl rfl (by decide) (by decide) (fun v T h' X hQ => ?_)
              obtain ⟨rfl, rfl⟩ := hQ
              show Goes p e below s _ n0 _ (T.setTop (mkF m 223 #[.val (.long q1), .second, .val (.long q2), .second, .val (.long q3), .second, .val (.int p4), .val (.long q5), .second, .val (.long x5), .second, .val (.long x12), .second, .val (.long x20), .second, .val (.long (0 : Int64)), .second, .val (.long (0 : Int64)), .second, .val (.long (3 : Int64)), .second, .val (.ref b3), .val (.long r96), .second, .val (.long r153), .second, .val (.long (0 : Int64)), .second, .val (.long (0 : Int64)), .second, .unset, .unset] [(.long (if ((9223372036854775807 : Int64) - (0 : Int64)) < r207 then (9223372036854775807 : Int64) else (r207 + (0 : Int64))))]))
              refine g_letJ (fun r220 hr220 => ?_)
              have s_r220 := own_satI hr220 s_r207.1 (by decide)
              refine g_lstore X at_223 rfl (q := 225) (L' := #[.val (.long q1), .second, .val (.long q2), .second, .val (.long q3), .second, .val (.int p4), .val (.long q5), .second, .val (.long x5), .second, .val (.long x12), .second, .val (.long x20), .second, .val (.long (0 : Int64)), .second, .val (.long (0 : Int64)), .second, .val (.long (3 : Int64)), .second, .val (.ref b3), .val (.long r96), .second, .val (.long r153), .second, .val (.long (0 : Int64)), .second, .val (.long (0 : Int64)), .second, .val (.long r220), .second]) rfl ?_
              refine g_lload X at_225 rfl (q := 227) rfl ?_
              refine g_lload X at_227 rfl (q := 229) rfl ?_
              refine g_jT1 X (J := 238) (P := fun (s0_238 : Int32) => s0_238 = (bI (r96 = r220))) (L := fun s0_238 => #[.val (.long q1), .second, .val (.long q2), .second, .val (.long q3), .second, .val (.int p4), .val (.long q5), .second, .val (.long x5), .second, .val (.long x12), .second, .val (.long x20), .second, .val (.long (0 : Int64)), .second, .val (.long (0 : Int64)), .second, .val (.long (3 : Int64)), .second, .val (.ref b3), .val (.long r96), .second, .val (.long r153), .second, .val (.long (0 : Int64)), .second, .val (.long (0 : Int64)), .second, .val (.long r220), .second]) (S := fun s0_238 => [(.int s0_238)]) ?_ ?_
              · intro T X s0_238 hs0_238
                replace hs0_238 : s0_238 = (bI (r96 = r220)) := hs0_238
                subst hs0_238
                show Goes p e below s _ n0 _ (T.setTop (mkF m 238 #[.val (.long q1), .second, .val (.long q2), .second, .val (.long q3), .second, .val (.int p4), .val (.long q5), .second, .val (.long x5), .second, .val (.long x12), .second, .val (.long x20), .second, .val (.long (0 : Int64)), .second, .val (.long (0 : Int64)), .second, .val (.long (3 : Int64)), .second, .val (.ref b3), .val (.long r96), .second, .val (.long r153), .second, .val (.long (0 : Int64)), .second, .val (.long (0 : Int64)), .second, .val (.long r220), .second] [(.int (bI (r96 = r220)))]))
                refine g_retZ X at_238 (by decide) (by decide) (bI_01 _) (own_fin ?_)
                show r96 = r220
                apply Int64.toInt_inj.mp
                (try simp only [Int64.reduceToInt] at s_x5 s_x12 s_x20 s_w75 s_w84 s_r96 s_r122 s_r153 s_r207 s_r220)
                omega
              · intro J238_15
                refine g_lcmpB X at_229 (q1 := 230) rfl at_230 (Or.inr (Or.inr rfl)) (q := 233) rfl (by decide) (t := 237) rfl (fun (c16 : r96 = r220) => ?_) (fun (c16 : ¬ (r96 = r220)) => ?_)
                · skip
                  refine g_iconst X at_233 rfl (q := 234) (v := 1) rfl ?_
                  refine g_goto X at_234 (by decide) (q := 238) rfl ?_
                  exact J238_15 T X _ (bI_t c16)
                · skip
                  refine g_iconst X at_237 rfl (q := 238) (v := 0) rfl ?_
                  exact J238_15 T X _ (bI_f c16)
            · skip
              exact absurd c15 (by decide)
          · skip
            exact absurd c14 (by decide)
        · skip
          exact absurd c13 (by decide)
    · refine g_eqJ (y := (1 : Int64)) qq38 ?_
      refine g_ladd X at_38 rfl (q := 39) ?_
      refine g_eqJ (y := (1 : Int64)) (by decide) ?_
      refine g_lstore X at_39 rfl (q := 41) (L' := #[.val (.long q1), .second, .val (.long q2), .second, .val (.long q3), .second, .val (.int p4), .val (.long q5), .second, .val (.long x5), .second, .val (.long x12), .second, .val (.long x20), .second, .val (.long (0 : Int64)), .second, .val (.long (1 : Int64)), .second, .unset, .unset, .unset, .unset, .unset, .unset, .unset, .unset, .unset, .unset, .unset, .unset, .unset]) rfl ?_
      refine g_iload X at_41 rfl (q := 43) rfl ?_
      refine g_iconst X at_43 rfl (q := 44) (v := 2) rfl ?_
      refine g_ishr X at_44 rfl (q := 45) ?_
      refine g_iconst X at_45 rfl (q := 46) (v := 3) rfl ?_
      refine g_iand X at_46 rfl (q := 47) ?_
      refine g_i2l X at_47 rfl (q := 48) ?_
      refine g_letJ (fun xd hxd => ?_)
      refine g_lstore X at_48 rfl (q := 50) (L' := #[.val (.long q1), .second, .val (.long q2), .second, .val (.long q3), .second, .val (.int p4), .val (.long q5), .second, .val (.long x5), .second, .val (.long x12), .second, .val (.long x20), .second, .val (.long (0 : Int64)), .second, .val (.long (1 : Int64)), .second, .val (.long xd), .second, .unset, .unset, .unset, .unset, .unset, .unset, .unset, .unset, .unset, .unset, .unset]) rfl ?_
      refine g_new X (tw1 hw) (tw2 hw) (tw3 hw) at_50 (q := 53) rfl (c2 := 1) (s2 := 7) rfl rfl (by decide) (by decide) (fun T h' b4 X gz_b4 g_b4 E Ex D => ?_)
      have O_b4 : O_WindowCounts Z h' b4 .null .null (.long (0 : Int64)) (.int (0 : Int32)) (.int (0 : Int32)) (.long (0 : Int64)) (.long (0 : Int64)) := ⟨Ex, D (Or.inl (tw12 hw)) (ty := (.array .long)) (by decide), D (Or.inl (tw14 hw)) (ty := (.array .long)) (by decide), D (Or.inl (tw16 hw)) (ty := .long) (by decide), D (Or.inl (tw23 hw)) (ty := .int) (by decide), D (Or.inl (tw29 hw)) (ty := .int) (by decide), D (Or.inl (tw31 hw)) (ty := .long) (by decide), D (Or.inl (tw33 hw)) (ty := .long) (by decide)⟩
      refine g_dup X at_53 rfl (q := 54) rfl ?_
      refine g_lload X at_54 rfl (q := 56) rfl ?_
      refine g_callI X [(.long q5)] [(.ref b4)] rfl (tw4 hw) (tw5 hw) (tw3 hw) (tw6 hw) (by decide) (rm1 l Z a0 hw [] b4 q5 _ n0 X.size O_b4 g_b4) pd0 rfl rfl rfl at_56 (q := 59) rfl (W := 1) rfl (by decide) (by decide) (c2 := 3) (s2 := 11) rfl rfl (by decide) (by decide) (fun v T h' X hQ => ?_)
      obtain ⟨i1_56, n1_56, rfl, Kc, O_b4', A_i1_56', A_n1_56', sq_i1_56, sq_n1_56, g_i1_56, g_n1_56, ne_i1_56_n1_56, ne_n1_56_i1_56⟩ := hQ
      have ne_b4_i1_56 := own_far O_b4.1.lt sq_i1_56
      have ne_i1_56_b4 := own_apS ne_b4_i1_56
      have ne_b4_n1_56 := own_far O_b4.1.lt sq_n1_56
      have ne_n1_56_b4 := own_apS ne_b4_n1_56
      have O_b4 := O_b4'
      have A_i1_56 := A_i1_56'
      have A_n1_56 := A_n1_56'
      show Goes p e below s _ n0 _ (T.setTop (mkF m 59 #[.val (.long q1), .second, .val (.long q2), .second, .val (.long q3), .second, .val (.int p4), .val (.long q5), .second, .val (.long x5), .second, .val (.long x12), .second, .val (.long x20), .second, .val (.long (0 : Int64)), .second, .val (.long (1 : Int64)), .second, .val (.long xd), .second, .unset, .unset, .unset, .unset, .unset, .unset, .unset, .unset, .unset, .unset, .unset] [(.ref b4)]))
      refine g_astore X at_59 rfl (q := 61) (L' := #[.val (.long q1), .second, .val (.long q2), .second, .val (.long q3), .second, .val (.int p4), .val (.long q5), .second, .val (.long x5), .second, .val (.long x12), .second, .val (.long x20), .second, .val (.long (0 : Int64)), .second, .val (.long (1 : Int64)), .second, .val (.long xd), .second, .val (.ref b4), .unset, .unset, .unset, .unset, .unset, .unset, .unset, .unset, .unset, .unset]) rfl rfl ?_
      refine g_aload X at_61 rfl (q := 63) rfl rfl ?_
      refine g_lconst X at_63 rfl (q := 64) (v := 0) rfl ?_
      refine g_lload X at_64 rfl (q := 66) rfl ?_
      refine g_callV X O_b4.1 [(.long (0 : Int64)), (.long x5)] [] (tw17 hw) (tw18 hw) (tw20 hw) (tw19 hw) (tw3 hw) (tw21 hw) (by decide) (rm3_0_2_z l Z a0 hw [] b4 (0 : Int64) x5 q5 i1_56 n1_56 (0 : Int64) (0 : Int64) (fun _ => 0) (fun _ => 0) 0 0 _ n0 X.size O_b4 A_i1_56 A_n1_56 g_b4 g_i1_56 g_n1_56 ne_b4_i1_56 ne_b4_n1_56 ne_i1_56_b4 ne_i1_56_n1_56 ne_n1_56_b4 ne_n1_56_i1_56 (own_nnJ s_x5.1) own_okt0 (by decide)) pd2 rfl rfl rfl at_66 (q := 69) rfl (W := 0) rfl (by decide) (by decide) (c2 := 3) (s2 := 11) rfl rfl (by decide) (by decide) (fun v T h' X hQ => ?_)
      obtain ⟨t1_66, b1_66, rfl, Kc, O_b4', A_i1_56', A_n1_56', hS1_66⟩ := hQ
      have O_b4 := O_b4'
      have A_i1_56 := A_i1_56'
      have A_n1_56 := A_n1_56'
      show Goes p e below s _ n0 _ (T.setTop (mkF m 69 #[.val (.long q1), .second, .val (.long q2), .second, .val (.long q3), .second, .val (.int p4), .val (.long q5), .second, .val (.long x5), .second, .val (.long x12), .second, .val (.long x20), .second, .val (.long (0 : Int64)), .second, .val (.long (1 : Int64)), .second, .val (.long xd), .second, .val (.ref b4), .unset, .unset, .unset, .unset, .unset, .unset, .unset, .unset, .unset, .unset] []))
      have A_n1_56 : AJ Z _ n1_56 2 (own_up (fun _ => 0) 0 x5) := A_n1_56.to (fun j hj => by rcases (show j = 0 ∨ j = 1 by omega) with rfl | rfl <;> rfl)
      refine g_aload X at_69 rfl (q := 71) rfl rfl ?_
      refine g_lload X at_71 rfl (q := 73) rfl ?_
      refine g_lload X at_73 rfl (q := 75) rfl ?_
      refine g_callV X O_b4.1 [(.long (0 : Int64)), (.long x12)] [] (tw17 hw) (tw18 hw) (tw20 hw) (tw19 hw) (tw3 hw) (tw21 hw) (by decide) (rm3_1_2_e l Z a0 hw [] b4 (0 : Int64) x12 q5 i1_56 n1_56 t1_66 b1_66 (own_up (fun _ => 0) 0 (0 : Int64)) (own_up (fun _ => 0) 0 x5) (0 + x5.toInt) (0 + 1) _ n0 X.size O_b4 A_i1_56 A_n1_56 g_b4 g_i1_56 g_n1_56 ne_b4_i1_56 ne_b4_n1_56 ne_i1_56_b4 ne_i1_56_n1_56 ne_n1_56_b4 ne_n1_56_i1_56 (own_nnJ s_x12.1) (by decide) (by decide) (show (0 : Int) ≤ (x5 : Int64).toInt from s_x5.1) hS1_66 (by decide)) pd2 rfl rfl rfl at_75 (q := 78) rfl (W := 0) rfl (by decide) (by decide) (c2 := 3) (s2 := 11) rfl rfl (by decide) (by decide) (fun v T h' X hQ => ?_)
      obtain ⟨t1_75, b1_75, rfl, Kc, O_b4', A_n1_56', hS1_75⟩ := hQ
      have A_i1_56 := A_i1_56.keep Kc (ninS ne_i1_56_b4 (ninS ne_i1_56_n1_56 nin0))
      have O_b4 := O_b4'
      have A_n1_56 := A_n1_56'
      show Goes p e below s _ n0 _ (T.setTop (mkF m 78 #[.val (.long q1), .second, .val (.long q2), .second, .val (.long q3), .second, .val (.int p4), .val (.long q5), .second, .val (.long x5), .second, .val (.long x12), .second, .val (.long x20), .second, .val (.long (0 : Int64)), .second, .val (.long (1 : Int64)), .second, .val (.long xd), .second, .val (.ref b4), .unset, .unset, .unset, .unset, .unset, .unset, .unset, .unset, .unset, .unset] []))
      obtain ⟨w75, hw75⟩ : ∃ z, z = sm x5 x12 := ⟨_, rfl⟩
      have A_n1_56 : AJ Z h' n1_56 2 (own_up (own_up (fun _ => 0) 0 x5) 0 w75) := by rw [hw75]; exact A_n1_56
      have hSw75 : OKT t1_75 b1_75 ((0 + x5.toInt) + (w75.toInt - x5.toInt)) ((0 + 1) + 1) := by rw [hw75]; exact hS1_75
      have s_w75 := own_smI hw75 s_x5.1 s_x12.1
      refine g_aload X at_78 rfl (q := 80) rfl rfl ?_
      refine g_lload X at_80 rfl (q := 82) rfl ?_
      refine g_lload X at_82 rfl (q := 84) rfl ?_
      refine g_callV X O_b4.1 [(.long (1 : Int64)), (.long x20)] [] (tw17 hw) (tw18 hw) (tw20 hw) (tw19 hw) (tw3 hw) (tw21 hw) (by decide) (rm3_1_2_g l Z a0 hw [] b4 (1 : Int64) x20 q5 i1_56 n1_56 t1_75 b1_75 (own_up (fun _ => 0) 0 (0 : Int64)) (own_up (own_up (fun _ => 0) 0 x5) 0 w75) ((0 + x5.toInt) + (w75.toInt - x5.toInt)) ((0 + 1) + 1) _ n0 X.size O_b4 A_i1_56 A_n1_56 g_b4 g_i1_56 g_n1_56 ne_b4_i1_56 ne_b4_n1_56 ne_i1_56_b4 ne_i1_56_n1_56 ne_n1_56_b4 ne_n1_56_i1_56 (own_nnJ s_x20.1) (by decide) (by decide) hSw75 (by decide)) pd2 rfl rfl rfl at_84 (q := 87) rfl (W := 0) rfl (by decide) (by decide) (c2 := 3) (s2 := 11) rfl rfl (by decide) (by decide) (fun v T h' X hQ => ?_)
      obtain ⟨t1_84, b1_84, rfl, Kc, O_b4', A_i1_56', A_n1_56', hS1_84⟩ := hQ
      have O_b4 := O_b4'
      have A_i1_56 := A_i1_56'
      have A_n1_56 := A_n1_56'
      show Goes p e below s _ n0 _ (T.setTop (mkF m 87 #[.val (.long q1), .second, .val (.long q2), .second, .val (.long q3), .second, .val (.int p4), .val (.long q5), .second, .val (.long x5), .second, .val (.long x12), .second, .val (.long x20), .second, .val (.long (0 : Int64)), .second, .val (.long (1 : Int64)), .second, .val (.long xd), .second, .val (.ref b4), .unset, .unset, .unset, .unset, .unset, .unset, .unset, .unset, .unset, .unset] []))
      have A_n1_56 : AJ Z _ n1_56 2 (own_up (own_up (fun _ => 0) 0 w75) 1 x20) := A_n1_56.to (fun j hj => by rcases (show j = 0 ∨ j = 1 by omega) with rfl | rfl <;> rfl)
      refine g_aload X at_87 rfl (q := 89) rfl rfl ?_
      have hd4 := own_b3 (p4 >>> ((2 : Int32) &&& 31))
      rw [← hxd] at hd4
      rcases hd4 with q4 | q4 | q4 | q4
      · subst q4
        show Goes p e below s _ n0 _ (T.setTop (mkF m 89 #[.val (.long q1), .second, .val (.long q2), .second, .val (.long q3), .second, .val (.int p4), .val (.long q5), .second, .val (.long x5), .second, .val (.long x12), .second, .val (.long x20), .second, .val (.long (0 : Int64)), .second, .val (.long (1 : Int64)), .second, .val (.long (0 : Int64)), .second, .val (.ref b4), .unset, .unset, .unset, .unset, .unset, .unset, .unset, .unset, .unset, .unset] [(.ref b4)]))
        refine g_lload X at_89 rfl (q := 91) rfl ?_
        refine g_callV X O_b4.1 [(.long (0 : Int64))] [] (tw48 hw) (tw49 hw) (tw51 hw) (tw50 hw) (tw3 hw) (tw52 hw) (by decide) (rm8_2_2_0 l Z a0 hw [] b4 (0 : Int64) q5 i1_56 n1_56 t1_84 b1_84 (own_up (own_up (fun _ => 0) 0 (0 : Int64)) 1 (1 : Int64)) (own_up (own_up (fun _ => 0) 0 w75) 1 x20) (((0 + x5.toInt) + (w75.toInt - x5.toInt)) + x20.toInt) (((0 + 1) + 1) + 1) _ n0 X.size O_b4 A_i1_56 A_n1_56 g_b4 ne_b4_i1_56 ne_b4_n1_56 ne_i1_56_b4 ne_i1_56_n1_56 ne_n1_56_b4 ne_n1_56_i1_56 (by decide) hS1_84 (by decide)) pd0 rfl rfl rfl at_91 (q := 94) rfl (W := 0) rfl (by decide) (by decide) (c2 := 3) (s2 := 11) rfl rfl (by decide) (by decide) (fun v T h' X hQ => ?_)
        obtain ⟨t1_91, b1_91, i1_91, n1_91, o1_91, s1_91, rfl, Kc, O_b4', hS1_91⟩ := hQ
        have A_i1_56 := A_i1_56.keep Kc (ninS ne_i1_56_b4 nin0)
        have A_n1_56 := A_n1_56.keep Kc (ninS ne_n1_56_b4 nin0)
        have O_b4 := O_b4'
        show Goes p e below s _ n0 _ (T.setTop (mkF m 94 #[.val (.long q1), .second, .val (.long q2), .second, .val (.long q3), .second, .val (.int p4), .val (.long q5), .second, .val (.long x5), .second, .val (.long x12), .second, .val (.long x20), .second, .val (.long (0 : Int64)), .second, .val (.long (1 : Int64)), .second, .val (.long (0 : Int64)), .second, .val (.ref b4), .unset, .unset, .unset, .unset, .unset, .unset, .unset, .unset, .unset, .unset] []))
        have hT : OKT t1_91 b1_91 ((((0 + x5.toInt) + (w75.toInt - x5.toInt)) + x20.toInt)) (((0 + 1) + 1) + 1) := hS1_91
        refine g_aload X at_94 rfl (q := 96) rfl rfl ?_
        refine g_callV X O_b4.1 [] [] (tw53 hw) (tw54 hw) (tw56 hw) (tw55 hw) (tw3 hw) (tw57 hw) (by decide) (rm9 l Z a0 hw [] b4 q5 i1_91 n1_91 o1_91 s1_91 t1_91 b1_91 _ n0 X.size O_b4) pd5 rfl rfl rfl at_96 (q := 99) rfl (W := 0) rfl (by decide) (by decide) (c2 := 3) (s2 := 11) rfl rfl (by decide) (by decide) (fun v T h' X hQ => ?_)
        obtain ⟨rfl, rfl⟩ := hQ
        show Goes p e below s _ n0 _ (T.setTop (mkF m 99 #[.val (.long q1), .second, .val (.long q2), .second, .val (.long q3), .second, .val (.int p4), .val (.long q5), .second, .val (.long x5), .second, .val (.long x12), .second, .val (.long x20), .second, .val (.long (0 : Int64)), .second, .val (.long (1 : Int64)), .second, .val (.long (0 : Int64)), .second, .val (.ref b4), .unset, .unset, .unset, .unset, .unset, .unset, .unset, .unset, .unset, .unset] [(.long (if b1_91 = (0 : Int64) then t1_91 else (9223372036854775807 : Int64)))]))
        refine g_letJ (fun r96 hr96 => ?_)
        have s_r96 := own_totI hr96 hT
        refine g_lstore X at_99 rfl (q := 101) (L' := #[.val (.long q1), .second, .val (.long q2), .second, .val (.long q3), .second, .val (.int p4), .val (.long q5), .second, .val (.long x5), .second, .val (.long x12), .second, .val (.long x20), .second, .val (.long (0 : Int64)), .second, .val (.long (1 : Int64)), .second, .val (.long (0 : Int64)), .second, .val (.ref b4), .val (.long r96), .second, .unset, .unset, .unset, .unset, .unset, .unset, .unset, .unset]) rfl ?_
        refine g_lload X at_101 rfl (q := 103) rfl ?_
        refine g_lstore X at_103 rfl (q := 105) (L' := #[.val (.long q1), .second, .val (.long q2), .second, .val (.long q3), .second, .val (.int p4), .val (.long q5), .second, .val (.long x5), .second, .val (.long x12), .second, .val (.long x20), .second, .val (.long (0 : Int64)), .second, .val (.long (1 : Int64)), .second, .val (.long (0 : Int64)), .second, .val (.ref b4), .val (.long r96), .second, .val (.long x5), .second, .unset, .unset, .unset, .unset, .unset, .unset]) rfl ?_
        refine g_lconst X at_105 rfl (q := 106) (v := 0) rfl ?_
        refine g_lstore X at_106 rfl (q := 108) (L' := #[.val (.long q1), .second, .val (.long q2), .second, .val (.long q3), .second, .val (.int p4), .val (.long q5), .second, .val (.long x5), .second, .val (.long x12), .second, .val (.long x20), .second, .val (.long (0 : Int64)), .second, .val (.long (1 : Int64)), .second, .val (.long (0 : Int64)), .second, .val (.ref b4), .val (.long r96), .second, .val (.long x5), .second, .val (.long (0 : Int64)), .second, .unset, .unset, .unset, .unset]) rfl ?_
        refine g_lconst X at_108 rfl (q := 109) (v := 0) rfl ?_
        refine g_lstore X at_109 rfl (q := 111) (L' := #[.val (.long q1), .second, .val (.long q2), .second, .val (.long q3), .second, .val (.int p4), .val (.long q5), .second, .val (.long x5), .second, .val (.long x12), .second, .val (.long x20), .second, .val (.long (0 : Int64)), .second, .val (.long (1 : Int64)), .second, .val (.long (0 : Int64)), .second, .val (.ref b4), .val (.long r96), .second, .val (.long x5), .second, .val (.long (0 : Int64)), .second, .val (.long (0 : Int64)), .second, .unset, .unset]) rfl ?_
        refine g_lload X at_111 rfl (q := 113) rfl ?_
        refine g_lconst X at_113 rfl (q := 114) (v := 0) rfl ?_
        refine g_lcmpB X at_114 (q1 := 115) rfl at_115 (Or.inr (Or.inr rfl)) (q := 118) rfl (by decide) (t := 130) rfl (fun (c17 : (0 : Int64) = (0 : Int64)) => ?_) (fun (c17 : ¬ ((0 : Int64) = (0 : Int64))) => ?_)
        · skip
          refine g_lload X at_118 rfl (q := 120) rfl ?_
          refine g_lload X at_120 rfl (q := 122) rfl ?_
          refine g_callS X [(.long x5), (.long x12)] [] (tw58 hw) (tw59 hw) (tw60 hw) (tw61 hw) (by decide) (rm10 l Z a0 hw [] x5 x12 _ n0 X.size) pd4 rfl rfl rfl at_122 (q := 125) rfl (W := 0) rfl (by decide) (by decide) (c2 := 3) (s2 := 11) rfl rfl (by decide) (by decide) (fun v T h' X hQ => ?_)
          obtain ⟨rfl, rfl⟩ := hQ
          show Goes p e below s _ n0 _ (T.setTop (mkF m 125 #[.val (.long q1), .second, .val (.long q2), .second, .val (.long q3), .second, .val (.int p4), .val (.long q5), .second, .val (.long x5), .second, .val (.long x12), .second, .val (.long x20), .second, .val (.long (0 : Int64)), .second, .val (.long (1 : Int64)), .second, .val (.long (0 : Int64)), .second, .val (.ref b4), .val (.long r96), .second, .val (.long x5), .second, .val (.long (0 : Int64)), .second, .val (.long (0 : Int64)), .second, .unset, .unset] [(.long (if ((9223372036854775807 : Int64) - x12) < x5 then (9223372036854775807 : Int64) else (x5 + x12)))]))
          refine g_letJ (fun r122 hr122 => ?_)
          have s_r122 := own_satI hr122 s_x5.1 s_x12.1
          refine g_lstore X at_125 rfl (q := 127) (L' := #[.val (.long q1), .second, .val (.long q2), .second, .val (.long q3), .second, .val (.int p4), .val (.long q5), .second, .val (.long x5), .second, .val (.long x12), .second, .val (.long x20), .second, .val (.long (0 : Int64)), .second, .val (.long (1 : Int64)), .second, .val (.long (0 : Int64)), .second, .val (.ref b4), .val (.long r96), .second, .val (.long r122), .second, .val (.long (0 : Int64)), .second, .val (.long (0 : Int64)), .second, .unset, .unset]) rfl ?_
          refine g_goto X at_127 (by decide) (q := 134) rfl ?_
          refine g_lload X at_134 rfl (q := 136) rfl ?_
          refine g_lload X at_136 rfl (q := 138) rfl ?_
          refine g_lcmpB X at_138 (q1 := 139) rfl at_139 (Or.inr (Or.inr rfl)) (q := 142) rfl (by decide) (t := 173) rfl (fun (c18 : (1 : Int64) = (0 : Int64)) => ?_) (fun (c18 : ¬ ((1 : Int64) = (0 : Int64))) => ?_)
          · skip
            exact absurd c18 (by decide)
          · skip
            refine g_lload X at_173 rfl (q := 175) rfl ?_
            refine g_lconst X at_175 rfl (q := 176) (v := 0) rfl ?_
            refine g_lcmpB X at_176 (q1 := 177) rfl at_177 (Or.inr (Or.inr rfl)) (q := 180) rfl (by decide) (t := 187) rfl (fun (c19 : (0 : Int64) = (0 : Int64)) => ?_) (fun (c19 : ¬ ((0 : Int64) = (0 : Int64))) => ?_)
            · skip
              refine g_lload X at_180 rfl (q := 182) rfl ?_
              refine g_lstore X at_182 rfl (q := 184) (L' := #[.val (.long q1), .second, .val (.long q2), .second, .val (.long q3), .second, .val (.int p4), .val (.long q5), .second, .val (.long x5), .second, .val (.long x12), .second, .val (.long x20), .second, .val (.long (0 : Int64)), .second, .val (.long (1 : Int64)), .second, .val (.long (0 : Int64)), .second, .val (.ref b4), .val (.long r96), .second, .val (.long r122), .second, .val (.long x20), .second, .val (.long (0 : Int64)), .second, .unset, .unset]) rfl ?_
              refine g_goto X at_184 (by decide) (q := 191) rfl ?_
              refine g_lconst X at_191 rfl (q := 192) (v := 0) rfl ?_
              refine g_lload X at_192 rfl (q := 194) rfl ?_
              refine g_lload X at_194 rfl (q := 196) rfl ?_
              refine g_callS X [(.long (0 : Int64)), (.long r122), (.long (0 : Int64))] [] (tw62 hw) (tw63 hw) (tw60 hw) (tw64 hw) (by decide) (rm11_0_0 l Z a0 hw [] r122 _ n0 X.size) pd6 rfl rfl rfl at_196 (q := 199) rfl (W := 0) rfl (by decide) (by decide) (c2 := 3) (s2 := 11) rfl rfl (by decide) (by decide) (fun v T h' X hQ => ?_)
              obtain ⟨rfl, rfl⟩ := hQ
              show Goes p e below s _ n0 _ (T.setTop (mkF m 199 #[.val (.long q1), .second, .val (.long q2), .second, .val (.long q3), .second, .val (.int p4), .val (.long q5), .second, .val (.long x5), .second, .val (.long x12), .second, .val (.long x20), .second, .val (.long (0 : Int64)), .second, .val (.long (1 : Int64)), .second, .val (.long (0 : Int64)), .second, .val (.ref b4), .val (.long r96), .second, .val (.long r122), .second, .val (.long x20), .second, .val (.long (0 : Int64)), .second, .unset, .unset] [(.long r122)]))
              refine g_lconst X at_199 rfl (q := 200) (v := 1) rfl ?_
              refine g_lload X at_200 rfl (q := 202) rfl ?_
              refine g_lload X at_202 rfl (q := 204) rfl ?_
              refine g_callS X [(.long (1 : Int64)), (.long x20), (.long (0 : Int64))] [(.long r122)] (tw62 hw) (tw63 hw) (tw60 hw) (tw64 hw) (by decide) (rm11_1_0 l Z a0 hw [] x20 _ n0 X.size) pd6 rfl rfl rfl at_204 (q := 207) rfl (W := 2) rfl (by decide) (by decide) (c2 := 3) (s2 := 11) rfl rfl (by decide) (by decide) (fun v T h' X hQ => ?_)
              obtain ⟨rfl, rfl⟩ := hQ
              show Goes p e below s _ n0 _ (T.setTop (mkF m 207 #[.val (.long q1), .second, .val (.long q2), .second, .val (.long q3), .second, .val (.int p4), .val (.long q5), .second, .val (.long x5), .second, .val (.long x12), .second, .val (.long x20), .second, .val (.long (0 : Int64)), .second, .val (.long (1 : Int64)), .second, .val (.long (0 : Int64)), .second, .val (.ref b4), .val (.long r96), .second, .val (.long r122), .second, .val (.long x20), .second, .val (.long (0 : Int64)), .second, .unset, .unset] [(.long x20), (.long r122)]))
              refine g_callS X [(.long r122), (.long x20)] [] (tw58 hw) (tw59 hw) (tw60 hw) (tw61 hw) (by decide) (rm10 l Z a0 hw [] r122 x20 _ n0 X.size) pd4 rfl rfl rfl at_207 (q := 210) rfl (W := 0) rfl (by decide) (by decide) (c2 := 3) (s2 := 11) rfl rfl (by decide) (by decide) (fun v T h' X hQ => ?_)
              obtain ⟨rfl, rfl⟩ := hQ
              show Goes p e below s _ n0 _ (T.setTop (mkF m 210 #[.val (.long q1), .second, .val (.long q2), .second, .val (.long q3), .second, .val (.int p4), .val (.long q5), .second, .val (.long x5), .second, .val (.long x12), .second, .val (.long x20), .second, .val (.long (0 : Int64)), .second, .val (.long (1 : Int64)), .second, .val (.long (0 : Int64)), .second, .val (.ref b4), .val (.long r96), .second, .val (.long r122), .second, .val (.long x20), .second, .val (.long (0 : Int64)), .second, .unset, .unset] [(.long (if ((9223372036854775807 : Int64) - x20) < r122 then (9223372036854775807 : Int64) else (r122 + x20)))]))
              refine g_letJ (fun r207 hr207 => ?_)
              have s_r207 := own_satI hr207 s_r122.1 s_x20.1
              refine g_ldc2 X (tw65 hw) at_210 (q := 213) rfl ?_
              refine g_lload X at_213 rfl (q := 215) rfl ?_
              refine g_lload X at_215 rfl (q := 217) rfl ?_
              refine g_callS X [(.long (2 : Int64)), (.long (0 : Int64)), (.long (0 : Int64))] [(.long r207)] (tw62 hw) (tw63 hw) (tw60 hw) (tw64 hw) (by decide) (rm11_2_0 l Z a0 hw [] (0 : Int64) _ n0 X.size) pd6 rfl rfl rfl at_217 (q := 220) rfl (W := 2) rfl (by decide) (by decide) (c2 := 3) (s2 := 11) rfl rfl (by decide) (by decide) (fun v T h' X hQ => ?_)
              obtain ⟨rfl, rfl⟩ := hQ
              show Goes p e below s _ n0 _ (T.setTop (mkF m 220 #[.val (.long q1), .second, .val (.long q2), .second, .val (.long q3), .second, .val (.int p4), .val (.long q5), .second, .val (.long x5), .second, .val (.long x12), .second, .val (.long x20), .second, .val (.long (0 : Int64)), .second, .val (.long (1 : Int64)), .second, .val (.long (0 : Int64)), .second, .val (.ref b4), .val (.long r96), .second, .val (.long r122), .second, .val (.long x20), .second, .val (.long (0 : Int64)), .second, .unset, .unset] [(.long (0 : Int64)), (.long r207)]))
              refine g_callS X [(.long r207), (.long (0 : Int64))] [] (tw58 hw) (tw59 hw) (tw60 hw) (tw61 hw) (by decide) (rm10 l Z a0 hw [] r207 (0 : Int64) _ n0 X.size) pd4 rfl rfl rfl at_220 (q := 223) rfl (W := 0) rfl (by decide) (by decide) (c2 := 3) (s2 := 11) rfl rfl (by decide) (by decide) (fun v T h' X hQ => ?_)
              obtain ⟨rfl, rfl⟩ := hQ
              show Goes p e below s _ n0 _ (T.setTop (mkF m 223 #[.val (.long q1), .second, .val (.long q2), .second, .val (.long q3), .second, .val (.int p4), .val (.long q5), .second, .val (.long x5), .second, .val (.long x12), .second, .val (.long x20), .second, .val (.long (0 : Int64)), .second, .val (.long (1 : Int64)), .second, .val (.long (0 : Int64)), .second, .val (.ref b4), .val (.long r96), .second, .val (.long r122), .second, .val (.long x20), .second, .val (.long (0 : Int64)), .second, .unset, .unset] [(.long (if ((9223372036854775807 : Int64) - (0 : Int64)) < r207 then (9223372036854775807 : Int64) else (r207 + (0 : Int64))))]))
              refine g_letJ (fun r220 hr220 => ?_)
              have s_r220 := own_satI hr220 s_r207.1 (by decide)
              refine g_lstore X at_223 rfl (q := 225) (L' := #[.val (.long q1), .second, .val (.long q2), .second, .val (.long q3), .second, .val (.int p4), .val (.long q5), .second, .val (.long x5), .second, .val (.long x12), .second, .val (.long x20), .second, .val (.long (0 : Int64)), .second, .val (.long (1 : Int64)), .second, .val (.long (0 : Int64)), .second, .val (.ref b4), .val (.long r96), .second, .val (.long r122), .second, .val (.long x20), .second, .val (.long (0 : Int64)), .second, .val (.long r220), .second]) rfl ?_
              refine g_lload X at_225 rfl (q := 227) rfl ?_
              refine g_lload X at_227 rfl (q := 229) rfl ?_
              refine g_jT1 X (J := 238) (P := fun (s0_238 : Int32) => s0_238 = (bI (r96 = r220))) (L := fun s0_238 => #[.val (.long q1), .second, .val (.long q2), .second, .val (.long q3), .second, .val (.int p4), .val (.long q5), .second, .val (.long x5), .second, .val (.long x12), .second, .val (.long x20), .second, .val (.long (0 : Int64)), .second, .val (.long (1 : Int64)), .second, .val (.long (0 : Int64)), .second, .val (.ref b4), .val (.long r96), .second, .val (.long r122), .second, .val (.long x20), .second, .val (.long (0 : Int64)), .second, .val (.long r220), .second]) (S := fun s0_238 => [(.int s0_238)]) ?_ ?_
              · intro T X s0_238 hs0_238
                replace hs0_238 : s0_238 = (bI (r96 = r220)) := hs0_238
                subst hs0_238
                show Goes p e below s _ n0 _ (T.setTop (mkF m 238 #[.val (.long q1), .second, .val (.long q2), .second, .val (.long q3), .second, .val (.int p4), .val (.long q5), .second, .val (.long x5), .second, .val (.long x12), .second, .val (.long x20), .second, .val (.long (0 : Int64)), .second, .val (.long (1 : Int64)), .second, .val (.long (0 : Int64)), .second, .val (.ref b4), .val (.long r96), .second, .val (.long r122), .second, .val (.long x20), .second, .val (.long (0 : Int64)), .second, .val (.long r220), .second] [(.int (bI (r96 = r220)))]))
                refine g_retZ X at_238 (by decide) (by decide) (bI_01 _) (own_fin ?_)
                show r96 = r220
                apply Int64.toInt_inj.mp
                (try simp only [Int64.reduceToInt] at s_x5 s_x12 s_x20 s_w75 s_r96 s_r122 s_r207 s_r220)
                omega
              · intro J238_19
                refine g_lcmpB X at_229 (q1 := 230) rfl at_230 (Or.inr (Or.inr rfl)) (q := 233) rfl (by decide) (t := 237) rfl (fun (c20 : r96 = r220) => ?_) (fun (c20 : ¬ (r96 = r220)) => ?_)
                · skip
                  refine g_iconst X at_233 rfl (q := 234) (v := 1) rfl ?_
                  refine g_goto X at_234 (by decide) (q := 238) rfl ?_
                  exact J238_19 T X _ (bI_t c20)
                · skip
                  refine g_iconst X at_237 rfl (q := 238) (v := 0) rfl ?_
                  exact J238_19 T X _ (bI_f c20)
            · skip
              exact absurd c19 (by decide)
        · skip
          exact absurd c17 (by decide)
      · subst q4
        show Goes p e below s _ n0 _ (T.setTop (mkF m 89 #[.val (.long q1), .second, .val (.long q2), .second, .val (.long q3), .second, .val (.int p4), .val (.long q5), .second, .val (.long x5), .second, .val (.long x12), .second, .val (.long x20), .second, .val (.long (0 : Int64)), .second, .val (.long (1 : Int64)), .second, .val (.long (1 : Int64)), .second, .val (.ref b4), .unset, .unset, .unset, .unset, .unset, .unset, .unset, .unset, .unset, .unset] [(.ref b4)]))
        refine g_lload X at_89 rfl (q := 91) rfl ?_
        refine g_callV X O_b4.1 [(.long (1 : Int64))] [] (tw48 hw) (tw49 hw) (tw51 hw) (tw50 hw) (tw3 hw) (tw52 hw) (by decide) (rm8_2_2_1 l Z a0 hw [] b4 (1 : Int64) q5 i1_56 n1_56 t1_84 b1_84 (own_up (own_up (fun _ => 0) 0 (0 : Int64)) 1 (1 : Int64)) (own_up (own_up (fun _ => 0) 0 w75) 1 x20) (((0 + x5.toInt) + (w75.toInt - x5.toInt)) + x20.toInt) (((0 + 1) + 1) + 1) _ n0 X.size O_b4 A_i1_56 A_n1_56 g_b4 ne_b4_i1_56 ne_b4_n1_56 ne_i1_56_b4 ne_i1_56_n1_56 ne_n1_56_b4 ne_n1_56_i1_56 (by decide) (by decide) (show (0 : Int) ≤ (w75 : Int64).toInt from s_w75.1) (show (w75 : Int64).toInt ≤ (((0 + x5.toInt) + (w75.toInt - x5.toInt)) + x20.toInt) from by omega) hS1_84 (by decide)) pd0 rfl rfl rfl at_91 (q := 94) rfl (W := 0) rfl (by decide) (by decide) (c2 := 3) (s2 := 11) rfl rfl (by decide) (by decide) (fun v T h' X hQ => ?_)
        obtain ⟨t1_91, b1_91, i1_91, n1_91, o1_91, s1_91, rfl, Kc, O_b4', hS1_91⟩ := hQ
        have A_i1_56 := A_i1_56.keep Kc (ninS ne_i1_56_b4 nin0)
        have A_n1_56 := A_n1_56.keep Kc (ninS ne_n1_56_b4 nin0)
        have O_b4 := O_b4'
        show Goes p e below s _ n0 _ (T.setTop (mkF m 94 #[.val (.long q1), .second, .val (.long q2), .second, .val (.long q3), .second, .val (.int p4), .val (.long q5), .second, .val (.long x5), .second, .val (.long x12), .second, .val (.long x20), .second, .val (.long (0 : Int64)), .second, .val (.long (1 : Int64)), .second, .val (.long (1 : Int64)), .second, .val (.ref b4), .unset, .unset, .unset, .unset, .unset, .unset, .unset, .unset, .unset, .unset] []))
        have hT : OKT t1_91 b1_91 ((((0 + x5.toInt) + (w75.toInt - x5.toInt)) + x20.toInt) - w75.toInt) (((0 + 1) + 1) + 1) := hS1_91
        refine g_aload X at_94 rfl (q := 96) rfl rfl ?_
        refine g_callV X O_b4.1 [] [] (tw53 hw) (tw54 hw) (tw56 hw) (tw55 hw) (tw3 hw) (tw57 hw) (by decide) (rm9 l Z a0 hw [] b4 q5 i1_91 n1_91 o1_91 s1_91 t1_91 b1_91 _ n0 X.size O_b4) pd5 rfl rfl rfl at_96 (q := 99) rfl (W := 0) rfl (by decide) (by decide) (c2 := 3) (s2 := 11) rfl rfl (by decide) (by decide) (fun v T h' X hQ => ?_)
        obtain ⟨rfl, rfl⟩ := hQ
        show Goes p e below s _ n0 _ (T.setTop (mkF m 99 #[.val (.long q1), .second, .val (.long q2), .second, .val (.long q3), .second, .val (.int p4), .val (.long q5), .second, .val (.long x5), .second, .val (.long x12), .second, .val (.long x20), .second, .val (.long (0 : Int64)), .second, .val (.long (1 : Int64)), .second, .val (.long (1 : Int64)), .second, .val (.ref b4), .unset, .unset, .unset, .unset, .unset, .unset, .unset, .unset, .unset, .unset] [(.long (if b1_91 = (0 : Int64) then t1_91 else (9223372036854775807 : Int64)))]))
        refine g_letJ (fun r96 hr96 => ?_)
        have s_r96 := own_totI hr96 hT
        refine g_lstore X at_99 rfl (q := 101) (L' := #[.val (.long q1), .second, .val (.long q2), .second, .val (.long q3), .second, .val (.int p4), .val (.long q5), .second, .val (.long x5), .second, .val (.long x12), .second, .val (.long x20), .second, .val (.long (0 : Int64)), .second, .val (.long (1 : Int64)), .second, .val (.long (1 : Int64)), .second, .val (.ref b4), .val (.long r96), .second, .unset, .unset, .unset, .unset, .unset, .unset, .unset, .unset]) rfl ?_
        refine g_lload X at_101 rfl (q := 103) rfl ?_
        refine g_lstore X at_103 rfl (q := 105) (L' := #[.val (.long q1), .second, .val (.long q2), .second, .val (.long q3), .second, .val (.int p4), .val (.long q5), .second, .val (.long x5), .second, .val (.long x12), .second, .val (.long x20), .second, .val (.long (0 : Int64)), .second, .val (.long (1 : Int64)), .second, .val (.long (1 : Int64)), .second, .val (.ref b4), .val (.long r96), .second, .val (.long x5), .second, .unset, .unset, .unset, .unset, .unset, .unset]) rfl ?_
        refine g_lconst X at_105 rfl (q := 106) (v := 0) rfl ?_
        refine g_lstore X at_106 rfl (q := 108) (L' := #[.val (.long q1), .second, .val (.long q2), .second, .val (.long q3), .second, .val (.int p4), .val (.long q5), .second, .val (.long x5), .second, .val (.long x12), .second, .val (.long x20), .second, .val (.long (0 : Int64)), .second, .val (.long (1 : Int64)), .second, .val (.long (1 : Int64)), .second, .val (.ref b4), .val (.long r96), .second, .val (.long x5), .second, .val (.long (0 : Int64)), .second, .unset, .unset, .unset, .unset]) rfl ?_
        refine g_lconst X at_108 rfl (q := 109) (v := 0) rfl ?_
        refine g_lstore X at_109 rfl (q := 111) (L' := #[.val (.long q1), .second, .val (.long q2), .second, .val (.long q3), .second, .val (.int p4), .val (.long q5), .second, .val (.long x5), .second, .val (.long x12), .second, .val (.long x20), .second, .val (.long (0 : Int64)), .second, .val (.long (1 : Int64)), .second, .val (.long (1 : Int64)), .second, .val (.ref b4), .val (.long r96), .second, .val (.long x5), .second, .val (.long (0 : Int64)), .second, .val (.long (0 : Int64)), .second, .unset, .unset]) rfl ?_
        refine g_lload X at_111 rfl (q := 113) rfl ?_
        refine g_lconst X at_113 rfl (q := 114) (v := 0) rfl ?_
        refine g_lcmpB X at_114 (q1 := 115) rfl at_115 (Or.inr (Or.inr rfl)) (q := 118) rfl (by decide) (t := 130) rfl (fun (c21 : (0 : Int64) = (0 : Int64)) => ?_) (fun (c21 : ¬ ((0 : Int64) = (0 : Int64))) => ?_)
        · skip
          refine g_lload X at_118 rfl (q := 120) rfl ?_
          refine g_lload X at_120 rfl (q := 122) rfl ?_
          refine g_callS X [(.long x5), (.long x12)] [] (tw58 hw) (tw59 hw) (tw60 hw) (tw61 hw) (by decide) (rm10 l Z a0 hw [] x5 x12 _ n0 X.size) pd4 rfl rfl rfl at_122 (q := 125) rfl (W := 0) rfl (by decide) (by decide) (c2 := 3) (s2 := 11) rfl rfl (by decide) (by decide) (fun v T h' X hQ => ?_)
          obtain ⟨rfl, rfl⟩ := hQ
          show Goes p e below s _ n0 _ (T.setTop (mkF m 125 #[.val (.long q1), .second, .val (.long q2), .second, .val (.long q3), .second, .val (.int p4), .val (.long q5), .second, .val (.long x5), .second, .val (.long x12), .second, .val (.long x20), .second, .val (.long (0 : Int64)), .second, .val (.long (1 : Int64)), .second, .val (.long (1 : Int64)), .second, .val (.ref b4), .val (.long r96), .second, .val (.long x5), .second, .val (.long (0 : Int64)), .second, .val (.long (0 : Int64)), .second, .unset, .unset] [(.long (if ((9223372036854775807 : Int64) - x12) < x5 then (9223372036854775807 : Int64) else (x5 + x12)))]))
          refine g_letJ (fun r122 hr122 => ?_)
          have s_r122 := own_satI hr122 s_x5.1 s_x12.1
          refine g_lstore X at_125 rfl (q := 127) (L' := #[.val (.long q1), .second, .val (.long q2), .second, .val (.long q3), .second, .val (.int p4), .val (.long q5), .second, .val (.long x5), .second, .val (.long x12), .second, .val (.long x20), .second, .val (.long (0 : Int64)), .second, .val (.long (1 : Int64)), .second, .val (.long (1 : Int64)), .second, .val (.ref b4), .val (.long r96), .second, .val (.long r122), .second, .val (.long (0 : Int64)), .second, .val (.long (0 : Int64)), .second, .unset, .unset]) rfl ?_
          refine g_goto X at_127 (by decide) (q := 134) rfl ?_
          refine g_lload X at_134 rfl (q := 136) rfl ?_
          refine g_lload X at_136 rfl (q := 138) rfl ?_
          refine g_lcmpB X at_138 (q1 := 139) rfl at_139 (Or.inr (Or.inr rfl)) (q := 142) rfl (by decide) (t := 173) rfl (fun (c22 : (1 : Int64) = (0 : Int64)) => ?_) (fun (c22 : ¬ ((1 : Int64) = (0 : Int64))) => ?_)
          · skip
            exact absurd c22 (by decide)
          · skip
            refine g_lload X at_173 rfl (q := 175) rfl ?_
            refine g_lconst X at_175 rfl (q := 176) (v := 0) rfl ?_
            refine g_lcmpB X at_176 (q1 := 177) rfl at_177 (Or.inr (Or.inr rfl)) (q := 180) rfl (by decide) (t := 187) rfl (fun (c23 : (0 : Int64) = (0 : Int64)) => ?_) (fun (c23 : ¬ ((0 : Int64) = (0 : Int64))) => ?_)
            · skip
              refine g_lload X at_180 rfl (q := 182) rfl ?_
              refine g_lstore X at_182 rfl (q := 184) (L' := #[.val (.long q1), .second, .val (.long q2), .second, .val (.long q3), .second, .val (.int p4), .val (.long q5), .second, .val (.long x5), .second, .val (.long x12), .second, .val (.long x20), .second, .val (.long (0 : Int64)), .second, .val (.long (1 : Int64)), .second, .val (.long (1 : Int64)), .second, .val (.ref b4), .val (.long r96), .second, .val (.long r122), .second, .val (.long x20), .second, .val (.long (0 : Int64)), .second, .unset, .unset]) rfl ?_
              refine g_goto X at_184 (by decide) (q := 191) rfl ?_
              refine g_lconst X at_191 rfl (q := 192) (v := 0) rfl ?_
              refine g_lload X at_192 rfl (q := 194) rfl ?_
              refine g_lload X at_194 rfl (q := 196) rfl ?_
              refine g_callS X [(.long (0 : Int64)), (.long r122), (.long (1 : Int64))] [] (tw62 hw) (tw63 hw) (tw60 hw) (tw64 hw) (by decide) (rm11_0_1 l Z a0 hw [] r122 _ n0 X.size) pd6 rfl rfl rfl at_196 (q := 199) rfl (W := 0) rfl (by decide) (by decide) (c2 := 3) (s2 := 11) rfl rfl (by decide) (by decide) (fun v T h' X hQ => ?_)
              obtain ⟨rfl, rfl⟩ := hQ
              show Goes p e below s _ n0 _ (T.setTop (mkF m 199 #[.val (.long q1), .second, .val (.long q2), .second, .val (.long q3), .second, .val (.int p4), .val (.long q5), .second, .val (.long x5), .second, .val (.long x12), .second, .val (.long x20), .second, .val (.long (0 : Int64)), .second, .val (.long (1 : Int64)), .second, .val (.long (1 : Int64)), .second, .val (.ref b4), .val (.long r96), .second, .val (.long r122), .second, .val (.long x20), .second, .val (.long (0 : Int64)), .second, .unset, .unset] [(.long (0 : Int64))]))
              refine g_lconst X at_199 rfl (q := 200) (v := 1) rfl ?_
              refine g_lload X at_200 rfl (q := 202) rfl ?_
              refine g_lload X at_202 rfl (q := 204) rfl ?_
              refine g_callS X [(.long (1 : Int64)), (.long x20), (.long (1 : Int64))] [(.long (0 : Int64))] (tw62 hw) (tw63 hw) (tw60 hw) (tw64 hw) (by decide) (rm11_1_1 l Z a0 hw [] x20 _ n0 X.size) pd6 rfl rfl rfl at_204 (q := 207) rfl (W := 2) rfl (by decide) (by decide) (c2 := 3) (s2 := 11) rfl rfl (by decide) (by decide) (fun v T h' X hQ => ?_)
              obtain ⟨rfl, rfl⟩ := hQ
              show Goes p e below s _ n0 _ (T.setTop (mkF m 207 #[.val (.long q1), .second, .val (.long q2), .second, .val (.long q3), .second, .val (.int p4), .val (.long q5), .second, .val (.long x5), .second, .val (.long x12), .second, .val (.long x20), .second, .val (.long (0 : Int64)), .second, .val (.long (1 : Int64)), .second, .val (.long (1 : Int64)), .second, .val (.ref b4), .val (.long r96), .second, .val (.long r122), .second, .val (.long x20), .second, .val (.long (0 : Int64)), .second, .unset, .unset] [(.long x20), (.long (0 : Int64))]))
              refine g_callS X [(.long (0 : Int64)), (.long x20)] [] (tw58 hw) (tw59 hw) (tw60 hw) (tw61 hw) (by decide) (rm10 l Z a0 hw [] (0 : Int64) x20 _ n0 X.size) pd4 rfl rfl rfl at_207 (q := 210) rfl (W := 0) rfl (by decide) (by decide) (c2 := 3) (s2 := 11) rfl rfl (by decide) (by decide) (fun v T h' X hQ => ?_)
              obtain ⟨rfl, rfl⟩ := hQ
              show Goes p e below s _ n0 _ (T.setTop (mkF m 210 #[.val (.long q1), .second, .val (.long q2), .second, .val (.long q3), .second, .val (.int p4), .val (.long q5), .second, .val (.long x5), .second, .val (.long x12), .second, .val (.long x20), .second, .val (.long (0 : Int64)), .second, .val (.long (1 : Int64)), .second, .val (.long (1 : Int64)), .second, .val (.ref b4), .val (.long r96), .second, .val (.long r122), .second, .val (.long x20), .second, .val (.long (0 : Int64)), .second, .unset, .unset] [(.long (if ((9223372036854775807 : Int64) - x20) < (0 : Int64) then (9223372036854775807 : Int64) else ((0 : Int64) + x20)))]))
              refine g_letJ (fun r207 hr207 => ?_)
              have s_r207 := own_satI hr207 (by decide) s_x20.1
              refine g_ldc2 X (tw65 hw) at_210 (q := 213) rfl ?_
              refine g_lload X at_213 rfl (q := 215) rfl ?_
              refine g_lload X at_215 rfl (q := 217) rfl ?_
              refine g_callS X [(.long (2 : Int64)), (.long (0 : Int64)), (.long (1 : Int64))] [(.long r207)] (tw62 hw) (tw63 hw) (tw60 hw) (tw64 hw) (by decide) (rm11_2_1 l Z a0 hw [] (0 : Int64) _ n0 X.size) pd6 rfl rfl rfl at_217 (q := 220) rfl (W := 2) rfl (by decide) (by decide) (c2 := 3) (s2 := 11) rfl rfl (by decide) (by decide) (fun v T h' X hQ => ?_)
              obtain ⟨rfl, rfl⟩ := hQ
              show Goes p e below s _ n0 _ (T.setTop (mkF m 220 #[.val (.long q1), .second, .val (.long q2), .second, .val (.long q3), .second, .val (.int p4), .val (.long q5), .second, .val (.long x5), .second, .val (.long x12), .second, .val (.long x20), .second, .val (.long (0 : Int64)), .second, .val (.long (1 : Int64)), .second, .val (.long (1 : Int64)), .second, .val (.ref b4), .val (.long r96), .second, .val (.long r122), .second, .val (.long x20), .second, .val (.long (0 : Int64)), .second, .unset, .unset] [(.long (0 : Int64)), (.long r207)]))
              refine g_callS X [(.long r207), (.long (0 : Int64))] [] (tw58 hw) (tw59 hw) (tw60 hw) (tw61 hw) (by decide) (rm10 l Z a0 hw [] r207 (0 : Int64) _ n0 X.size) pd4 rfl rfl rfl at_220 (q := 223) rfl (W := 0) rfl (by decide) (by decide) (c2 := 3) (s2 := 11) rfl rfl (by decide) (by decide) (fun v T h' X hQ => ?_)
              obtain ⟨rfl, rfl⟩ := hQ
              show Goes p e below s _ n0 _ (T.setTop (mkF m 223 #[.val (.long q1), .second, .val (.long q2), .second, .val (.long q3), .second, .val (.int p4), .val (.long q5), .second, .val (.long x5), .second, .val (.long x12), .second, .val (.long x20), .second, .val (.long (0 : Int64)), .second, .val (.long (1 : Int64)), .second, .val (.long (1 : Int64)), .second, .val (.ref b4), .val (.long r96), .second, .val (.long r122), .second, .val (.long x20), .second, .val (.long (0 : Int64)), .second, .unset, .unset] [(.long (if ((9223372036854775807 : Int64) - (0 : Int64)) < r207 then (9223372036854775807 : Int64) else (r207 + (0 : Int64))))]))
              refine g_letJ (fun r220 hr220 => ?_)
              have s_r220 := own_satI hr220 s_r207.1 (by decide)
              refine g_lstore X at_223 rfl (q := 225) (L' := #[.val (.long q1), .second, .val (.long q2), .second, .val (.long q3), .second, .val (.int p4), .val (.long q5), .second, .val (.long x5), .second, .val (.long x12), .second, .val (.long x20), .second, .val (.long (0 : Int64)), .second, .val (.long (1 : Int64)), .second, .val (.long (1 : Int64)), .second, .val (.ref b4), .val (.long r96), .second, .val (.long r122), .second, .val (.long x20), .second, .val (.long (0 : Int64)), .second, .val (.long r220), .second]) rfl ?_
              refine g_lload X at_225 rfl (q := 227) rfl ?_
              refine g_lload X at_227 rfl (q := 229) rfl ?_
              refine g_jT1 X (J := 238) (P := fun (s0_238 : Int32) => s0_238 = (bI (r96 = r220))) (L := fun s0_238 => #[.val (.long q1), .second, .val (.long q2), .second, .val (.long q3), .second, .val (.int p4), .val (.long q5), .second, .val (.long x5), .second, .val (.long x12), .second, .val (.long x20), .second, .val (.long (0 : Int64)), .second, .val (.long (1 : Int64)), .second, .val (.long (1 : Int64)), .second, .val (.ref b4), .val (.long r96), .second, .val (.long r122), .second, .val (.long x20), .second, .val (.long (0 : Int64)), .second, .val (.long r220), .second]) (S := fun s0_238 => [(.int s0_238)]) ?_ ?_
              · intro T X s0_238 hs0_238
                replace hs0_238 : s0_238 = (bI (r96 = r220)) := hs0_238
                subst hs0_238
                show Goes p e below s _ n0 _ (T.setTop (mkF m 238 #[.val (.long q1), .second, .val (.long q2), .second, .val (.long q3), .second, .val (.int p4), .val (.long q5), .second, .val (.long x5), .second, .val (.long x12), .second, .val (.long x20), .second, .val (.long (0 : Int64)), .second, .val (.long (1 : Int64)), .second, .val (.long (1 : Int64)), .second, .val (.ref b4), .val (.long r96), .second, .val (.long r122), .second, .val (.long x20), .second, .val (.long (0 : Int64)), .second, .val (.long r220), .second] [(.int (bI (r96 = r220)))]))
                refine g_retZ X at_238 (by decide) (by decide) (bI_01 _) (own_fin ?_)
                show r96 = r220
                apply Int64.toInt_inj.mp
                (try simp only [Int64.reduceToInt] at s_x5 s_x12 s_x20 s_w75 s_r96 s_r122 s_r207 s_r220)
                omega
              · intro J238_23
                refine g_lcmpB X at_229 (q1 := 230) rfl at_230 (Or.inr (Or.inr rfl)) (q := 233) rfl (by decide) (t := 237) rfl (fun (c24 : r96 = r220) => ?_) (fun (c24 : ¬ (r96 = r220)) => ?_)
                · skip
                  refine g_iconst X at_233 rfl (q := 234) (v := 1) rfl ?_
                  refine g_goto X at_234 (by decide) (q := 238) rfl ?_
                  exact J238_23 T X _ (bI_t c24)
                · skip
                  refine g_iconst X at_237 rfl (q := 238) (v := 0) rfl ?_
                  exact J238_23 T X _ (bI_f c24)
            · skip
              exact absurd c23 (by decide)
        · skip
          exact absurd c21 (by decide)
      · subst q4
        show Goes p e below s _ n0 _ (T.setTop (mkF m 89 #[.val (.long q1), .second, .val (.long q2), .second, .val (.long q3), .second, .val (.int p4), .val (.long q5), .second, .val (.long x5), .second, .val (.long x12), .second, .val (.long x20), .second, .val (.long (0 : Int64)), .second, .val (.long (1 : Int64)), .second, .val (.long (2 : Int64)), .second, .val (.ref b4), .unset, .unset, .unset, .unset, .unset, .unset, .unset, .unset, .unset, .unset] [(.ref b4)]))
        refine g_lload X at_89 rfl (q := 91) rfl ?_
        refine g_callV X O_b4.1 [(.long (2 : Int64))] [] (tw48 hw) (tw49 hw) (tw51 hw) (tw50 hw) (tw3 hw) (tw52 hw) (by decide) (rm8_2_2_2 l Z a0 hw [] b4 (2 : Int64) q5 i1_56 n1_56 t1_84 b1_84 (own_up (own_up (fun _ => 0) 0 (0 : Int64)) 1 (1 : Int64)) (own_up (own_up (fun _ => 0) 0 w75) 1 x20) (((0 + x5.toInt) + (w75.toInt - x5.toInt)) + x20.toInt) (((0 + 1) + 1) + 1) _ n0 X.size O_b4 A_i1_56 A_n1_56 g_b4 ne_b4_i1_56 ne_b4_n1_56 ne_i1_56_b4 ne_i1_56_n1_56 ne_n1_56_b4 ne_n1_56_i1_56 (by decide) (by decide) (show (0 : Int) ≤ (w75 : Int64).toInt from s_w75.1) (show (0 : Int) ≤ (x20 : Int64).toInt from s_x20.1) (show (w75 : Int64).toInt + (x20 : Int64).toInt ≤ (((0 + x5.toInt) + (w75.toInt - x5.toInt)) + x20.toInt) from by omega) hS1_84 (by decide)) pd0 rfl rfl rfl at_91 (q := 94) rfl (W := 0) rfl (by decide) (by decide) (c2 := 3) (s2 := 11) rfl rfl (by decide) (by decide) (fun v T h' X hQ => ?_)
        obtain ⟨t1_91, b1_91, i1_91, n1_91, o1_91, s1_91, rfl, Kc, O_b4', hS1_91⟩ := hQ
        have A_i1_56 := A_i1_56.keep Kc (ninS ne_i1_56_b4 nin0)
        have A_n1_56 := A_n1_56.keep Kc (ninS ne_n1_56_b4 nin0)
        have O_b4 := O_b4'
        show Goes p e below s _ n0 _ (T.setTop (mkF m 94 #[.val (.long q1), .second, .val (.long q2), .second, .val (.long q3), .second, .val (.int p4), .val (.long q5), .second, .val (.long x5), .second, .val (.long x12), .second, .val (.long x20), .second, .val (.long (0 : Int64)), .second, .val (.long (1 : Int64)), .second, .val (.long (2 : Int64)), .second, .val (.ref b4), .unset, .unset, .unset, .unset, .unset, .unset, .unset, .unset, .unset, .unset] []))
        have hT : OKT t1_91 b1_91 ((((0 + x5.toInt) + (w75.toInt - x5.toInt)) + x20.toInt) - w75.toInt - x20.toInt) (((0 + 1) + 1) + 1) := hS1_91
        refine g_aload X at_94 rfl (q := 96) rfl rfl ?_
        refine g_callV X O_b4.1 [] [] (tw53 hw) (tw54 hw) (tw56 hw) (tw55 hw) (tw3 hw) (tw57 hw) (by decide) (rm9 l Z a0 hw [] b4 q5 i1_91 n1_91 o1_91 s1_91 t1_91 b1_91 _ n0 X.size O_b4) pd5 rfl rfl rfl at_96 (q := 99) rfl (W := 0) rfl (by decide) (by decide) (c2 := 3) (s2 := 11) rfl rfl (by decide) (by decide) (fun v T h' X hQ => ?_)
        obtain ⟨rfl, rfl⟩ := hQ
        show Goes p e below s _ n0 _ (T.setTop (mkF m 99 #[.val (.long q1), .second, .val (.long q2), .second, .val (.long q3), .second, .val (.int p4), .val (.long q5), .second, .val (.long x5), .second, .val (.long x12), .second, .val (.long x20), .second, .val (.long (0 : Int64)), .second, .val (.long (1 : Int64)), .second, .val (.long (2 : Int64)), .second, .val (.ref b4), .unset, .unset, .unset, .unset, .unset, .unset, .unset, .unset, .unset, .unset] [(.long (if b1_91 = (0 : Int64) then t1_91 else (9223372036854775807 : Int64)))]))
        refine g_letJ (fun r96 hr96 => ?_)
        have s_r96 := own_totI hr96 hT
        refine g_lstore X at_99 rfl (q := 101) (L' := #[.val (.long q1), .second, .val (.long q2), .second, .val (.long q3), .second, .val (.int p4), .val (.long q5), .second, .val (.long x5), .second, .val (.long x12), .second, .val (.long x20), .second, .val (.long (0 : Int64)), .second, .val (.long (1 : Int64)), .second, .val (.long (2 : Int64)), .second, .val (.ref b4), .val (.long r96), .second, .unset, .unset, .unset, .unset, .unset, .unset, .unset, .unset]) rfl ?_
        refine g_lload X at_101 rfl (q := 103) rfl ?_
        refine g_lstore X at_103 rfl (q := 105) (L' := #[.val (.long q1), .second, .val (.long q2), .second, .val (.long q3), .second, .val (.int p4), .val (.long q5), .second, .val (.long x5), .second, .val (.long x12), .second, .val (.long x20), .second, .val (.long (0 : Int64)), .second, .val (.long (1 : Int64)), .second, .val (.long (2 : Int64)), .second, .val (.ref b4), .val (.long r96), .second, .val (.long x5), .second, .unset, .unset, .unset, .unset, .unset, .unset]) rfl ?_
        refine g_lconst X at_105 rfl (q := 106) (v := 0) rfl ?_
        refine g_lstore X at_106 rfl (q := 108) (L' := #[.val (.long q1), .second, .val (.long q2), .second, .val (.long q3), .second, .val (.int p4), .val (.long q5), .second, .val (.long x5), .second, .val (.long x12), .second, .val (.long x20), .second, .val (.long (0 : Int64)), .second, .val (.long (1 : Int64)), .second, .val (.long (2 : Int64)), .second, .val (.ref b4), .val (.long r96), .second, .val (.long x5), .second, .val (.long (0 : Int64)), .second, .unset, .unset, .unset, .unset]) rfl ?_
        refine g_lconst X at_108 rfl (q := 109) (v := 0) rfl ?_
        refine g_lstore X at_109 rfl (q := 111) (L' := #[.val (.long q1), .second, .val (.long q2), .second, .val (.long q3), .second, .val (.int p4), .val (.long q5), .second, .val (.long x5), .second, .val (.long x12), .second, .val (.long x20), .second, .val (.long (0 : Int64)), .second, .val (.long (1 : Int64)), .second, .val (.long (2 : Int64)), .second, .val (.ref b4), .val (.long r96), .second, .val (.long x5), .second, .val (.long (0 : Int64)), .second, .val (.long (0 : Int64)), .second, .unset, .unset]) rfl ?_
        refine g_lload X at_111 rfl (q := 113) rfl ?_
        refine g_lconst X at_113 rfl (q := 114) (v := 0) rfl ?_
        refine g_lcmpB X at_114 (q1 := 115) rfl at_115 (Or.inr (Or.inr rfl)) (q := 118) rfl (by decide) (t := 130) rfl (fun (c25 : (0 : Int64) = (0 : Int64)) => ?_) (fun (c25 : ¬ ((0 : Int64) = (0 : Int64))) => ?_)
        · skip
          refine g_lload X at_118 rfl (q := 120) rfl ?_
          refine g_lload X at_120 rfl (q := 122) rfl ?_
          refine g_callS X [(.long x5), (.long x12)] [] (tw58 hw) (tw59 hw) (tw60 hw) (tw61 hw) (by decide) (rm10 l Z a0 hw [] x5 x12 _ n0 X.size) pd4 rfl rfl rfl at_122 (q := 125) rfl (W := 0) rfl (by decide) (by decide) (c2 := 3) (s2 := 11) rfl rfl (by decide) (by decide) (fun v T h' X hQ => ?_)
          obtain ⟨rfl, rfl⟩ := hQ
          show Goes p e below s _ n0 _ (T.setTop (mkF m 125 #[.val (.long q1), .second, .val (.long q2), .second, .val (.long q3), .second, .val (.int p4), .val (.long q5), .second, .val (.long x5), .second, .val (.long x12), .second, .val (.long x20), .second, .val (.long (0 : Int64)), .second, .val (.long (1 : Int64)), .second, .val (.long (2 : Int64)), .second, .val (.ref b4), .val (.long r96), .second, .val (.long x5), .second, .val (.long (0 : Int64)), .second, .val (.long (0 : Int64)), .second, .unset, .unset] [(.long (if ((9223372036854775807 : Int64) - x12) < x5 then (9223372036854775807 : Int64) else (x5 + x12)))]))
          refine g_letJ (fun r122 hr122 => ?_)
          have s_r122 := own_satI hr122 s_x5.1 s_x12.1
          refine g_lstore X at_125 rfl (q := 127) (L' := #[.val (.long q1), .second, .val (.long q2), .second, .val (.long q3), .second, .val (.int p4), .val (.long q5), .second, .val (.long x5), .second, .val (.long x12), .second, .val (.long x20), .second, .val (.long (0 : Int64)), .second, .val (.long (1 : Int64)), .second, .val (.long (2 : Int64)), .second, .val (.ref b4), .val (.long r96), .second, .val (.long r122), .second, .val (.long (0 : Int64)), .second, .val (.long (0 : Int64)), .second, .unset, .unset]) rfl ?_
          refine g_goto X at_127 (by decide) (q := 134) rfl ?_
          refine g_lload X at_134 rfl (q := 136) rfl ?_
          refine g_lload X at_136 rfl (q := 138) rfl ?_
          refine g_lcmpB X at_138 (q1 := 139) rfl at_139 (Or.inr (Or.inr rfl)) (q := 142) rfl (by decide) (t := 173) rfl (fun (c26 : (1 : Int64) = (0 : Int64)) => ?_) (fun (c26 : ¬ ((1 : Int64) = (0 : Int64))) => ?_)
          · skip
            exact absurd c26 (by decide)
          · skip
            refine g_lload X at_173 rfl (q := 175) rfl ?_
            refine g_lconst X at_175 rfl (q := 176) (v := 0) rfl ?_
            refine g_lcmpB X at_176 (q1 := 177) rfl at_177 (Or.inr (Or.inr rfl)) (q := 180) rfl (by decide) (t := 187) rfl (fun (c27 : (0 : Int64) = (0 : Int64)) => ?_) (fun (c27 : ¬ ((0 : Int64) = (0 : Int64))) => ?_)
            · skip
              refine g_lload X at_180 rfl (q := 182) rfl ?_
              refine g_lstore X at_182 rfl (q := 184) (L' := #[.val (.long q1), .second, .val (.long q2), .second, .val (.long q3), .second, .val (.int p4), .val (.long q5), .second, .val (.long x5), .second, .val (.long x12), .second, .val (.long x20), .second, .val (.long (0 : Int64)), .second, .val (.long (1 : Int64)), .second, .val (.long (2 : Int64)), .second, .val (.ref b4), .val (.long r96), .second, .val (.long r122), .second, .val (.long x20), .second, .val (.long (0 : Int64)), .second, .unset, .unset]) rfl ?_
              refine g_goto X at_184 (by decide) (q := 191) rfl ?_
              refine g_lconst X at_191 rfl (q := 192) (v := 0) rfl ?_
              refine g_lload X at_192 rfl (q := 194) rfl ?_
              refine g_lload X at_194 rfl (q := 196) rfl ?_
              refine g_callS X [(.long (0 : Int64)), (.long r122), (.long (2 : Int64))] [] (tw62 hw) (tw63 hw) (tw60 hw) (tw64 hw) (by decide) (rm11_0_2 l Z a0 hw [] r122 _ n0 X.size) pd6 rfl rfl rfl at_196 (q := 199) rfl (W := 0) rfl (by decide) (by decide) (c2 := 3) (s2 := 11) rfl rfl (by decide) (by decide) (fun v T h' X hQ => ?_)
              obtain ⟨rfl, rfl⟩ := hQ
              show Goes p e below s _ n0 _ (T.setTop (mkF m 199 #[.val (.long q1), .second, .val (.long q2), .second, .val (.long q3), .second, .val (.int p4), .val (.long q5), .second, .val (.long x5), .second, .val (.long x12), .second, .val (.long x20), .second, .val (.long (0 : Int64)), .second, .val (.long (1 : Int64)), .second, .val (.long (2 : Int64)), .second, .val (.ref b4), .val (.long r96), .second, .val (.long r122), .second, .val (.long x20), .second, .val (.long (0 : Int64)), .second, .unset, .unset] [(.long (0 : Int64))]))
              refine g_lconst X at_199 rfl (q := 200) (v := 1) rfl ?_
              refine g_lload X at_200 rfl (q := 202) rfl ?_
              refine g_lload X at_202 rfl (q := 204) rfl ?_
              refine g_callS X [(.long (1 : Int64)), (.long x20), (.long (2 : Int64))] [(.long (0 : Int64))] (tw62 hw) (tw63 hw) (tw60 hw) (tw64 hw) (by decide) (rm11_1_2 l Z a0 hw [] x20 _ n0 X.size) pd6 rfl rfl rfl at_204 (q := 207) rfl (W := 2) rfl (by decide) (by decide) (c2 := 3) (s2 := 11) rfl rfl (by decide) (by decide) (fun v T h' X hQ => ?_)
              obtain ⟨rfl, rfl⟩ := hQ
              show Goes p e below s _ n0 _ (T.setTop (mkF m 207 #[.val (.long q1), .second, .val (.long q2), .second, .val (.long q3), .second, .val (.int p4), .val (.long q5), .second, .val (.long x5), .second, .val (.long x12), .second, .val (.long x20), .second, .val (.long (0 : Int64)), .second, .val (.long (1 : Int64)), .second, .val (.long (2 : Int64)), .second, .val (.ref b4), .val (.long r96), .second, .val (.long r122), .second, .val (.long x20), .second, .val (.long (0 : Int64)), .second, .unset, .unset] [(.long (0 : Int64)), (.long (0 : Int64))]))
              refine g_callS X [(.long (0 : Int64)), (.long (0 : Int64))] [] (tw58 hw) (tw59 hw) (tw60 hw) (tw61 hw) (by decide) (rm10 l Z a0 hw [] (0 : Int64) (0 : Int64) _ n0 X.size) pd4 rfl rfl rfl at_207 (q := 210) rfl (W := 0) rfl (by decide) (by decide) (c2 := 3) (s2 := 11) rfl rfl (by decide) (by decide) (fun v T h' X hQ => ?_)
              obtain ⟨rfl, rfl⟩ := hQ
              show Goes p e below s _ n0 _ (T.setTop (mkF m 210 #[.val (.long q1), .second, .val (.long q2), .second, .val (.long q3), .second, .val (.int p4), .val (.long q5), .second, .val (.long x5), .second, .val (.long x12), .second, .val (.long x20), .second, .val (.long (0 : Int64)), .second, .val (.long (1 : Int64)), .second, .val (.long (2 : Int64)), .second, .val (.ref b4), .val (.long r96), .second, .val (.long r122), .second, .val (.long x20), .second, .val (.long (0 : Int64)), .second, .unset, .unset] [(.long (if ((9223372036854775807 : Int64) - (0 : Int64)) < (0 : Int64) then (9223372036854775807 : Int64) else ((0 : Int64) + (0 : Int64))))]))
              refine g_letJ (fun r207 hr207 => ?_)
              have s_r207 := own_satI hr207 (by decide) (by decide)
              refine g_ldc2 X (tw65 hw) at_210 (q := 213) rfl ?_
              refine g_lload X at_213 rfl (q := 215) rfl ?_
              refine g_lload X at_215 rfl (q := 217) rfl ?_
              refine g_callS X [(.long (2 : Int64)), (.long (0 : Int64)), (.long (2 : Int64))] [(.long r207)] (tw62 hw) (tw63 hw) (tw60 hw) (tw64 hw) (by decide) (rm11_2_2 l Z a0 hw [] (0 : Int64) _ n0 X.size) pd6 rfl rfl rfl at_217 (q := 220) rfl (W := 2) rfl (by decide) (by decide) (c2 := 3) (s2 := 11) rfl rfl (by decide) (by decide) (fun v T h' X hQ => ?_)
              obtain ⟨rfl, rfl⟩ := hQ
              show Goes p e below s _ n0 _ (T.setTop (mkF m 220 #[.val (.long q1), .second, .val (.long q2), .second, .val (.long q3), .second, .val (.int p4), .val (.long q5), .second, .val (.long x5), .second, .val (.long x12), .second, .val (.long x20), .second, .val (.long (0 : Int64)), .second, .val (.long (1 : Int64)), .second, .val (.long (2 : Int64)), .second, .val (.ref b4), .val (.long r96), .second, .val (.long r122), .second, .val (.long x20), .second, .val (.long (0 : Int64)), .second, .unset, .unset] [(.long (0 : Int64)), (.long r207)]))
              refine g_callS X [(.long r207), (.long (0 : Int64))] [] (tw58 hw) (tw59 hw) (tw60 hw) (tw61 hw) (by decide) (rm10 l Z a0 hw [] r207 (0 : Int64) _ n0 X.size) pd4 rfl rfl rfl at_220 (q := 223) rfl (W := 0) rfl (by decide) (by decide) (c2 := 3) (s2 := 11) rfl rfl (by decide) (by decide) (fun v T h' X hQ => ?_)
              obtain ⟨rfl, rfl⟩ := hQ
              show Goes p e below s _ n0 _ (T.setTop (mkF m 223 #[.val (.long q1), .second, .val (.long q2), .second, .val (.long q3), .second, .val (.int p4), .val (.long q5), .second, .val (.long x5), .second, .val (.long x12), .second, .val (.long x20), .second, .val (.long (0 : Int64)), .second, .val (.long (1 : Int64)), .second, .val (.long (2 : Int64)), .second, .val (.ref b4), .val (.long r96), .second, .val (.long r122), .second, .val (.long x20), .second, .val (.long (0 : Int64)), .second, .unset, .unset] [(.long (if ((9223372036854775807 : Int64) - (0 : Int64)) < r207 then (9223372036854775807 : Int64) else (r207 + (0 : Int64))))]))
              refine g_letJ (fun r220 hr220 => ?_)
              have s_r220 := own_satI hr220 s_r207.1 (by decide)
              refine g_lstore X at_223 rfl (q := 225) (L' := #[.val (.long q1), .second, .val (.long q2), .second, .val (.long q3), .second, .val (.int p4), .val (.long q5), .second, .val (.long x5), .second, .val (.long x12), .second, .val (.long x20), .second, .val (.long (0 : Int64)), .second, .val (.long (1 : Int64)), .second, .val (.long (2 : Int64)), .second, .val (.ref b4), .val (.long r96), .second, .val (.long r122), .second, .val (.long x20), .second, .val (.long (0 : Int64)), .second, .val (.long r220), .second]) rfl ?_
              refine g_lload X at_225 rfl (q := 227) rfl ?_
              refine g_lload X at_227 rfl (q := 229) rfl ?_
              refine g_jT1 X (J := 238) (P := fun (s0_238 : Int32) => s0_238 = (bI (r96 = r220))) (L := fun s0_238 => #[.val (.long q1), .second, .val (.long q2), .second, .val (.long q3), .second, .val (.int p4), .val (.long q5), .second, .val (.long x5), .second, .val (.long x12), .second, .val (.long x20), .second, .val (.long (0 : Int64)), .second, .val (.long (1 : Int64)), .second, .val (.long (2 : Int64)), .second, .val (.ref b4), .val (.long r96), .second, .val (.long r122), .second, .val (.long x20), .second, .val (.long (0 : Int64)), .second, .val (.long r220), .second]) (S := fun s0_238 => [(.int s0_238)]) ?_ ?_
              · intro T X s0_238 hs0_238
                replace hs0_238 : s0_238 = (bI (r96 = r220)) := hs0_238
                subst hs0_238
                show Goes p e below s _ n0 _ (T.setTop (mkF m 238 #[.val (.long q1), .second, .val (.long q2), .second, .val (.long q3), .second, .val (.int p4), .val (.long q5), .second, .val (.long x5), .second, .val (.long x12), .second, .val (.long x20), .second, .val (.long (0 : Int64)), .second, .val (.long (1 : Int64)), .second, .val (.long (2 : Int64)), .second, .val (.ref b4), .val (.long r96), .second, .val (.long r122), .second, .val (.long x20), .second, .val (.long (0 : Int64)), .second, .val (.long r220), .second] [(.int (bI (r96 = r220)))]))
                refine g_retZ X at_238 (by decide) (by decide) (bI_01 _) (own_fin ?_)
                show r96 = r220
                apply Int64.toInt_inj.mp
                (try simp only [Int64.reduceToInt] at s_x5 s_x12 s_x20 s_w75 s_r96 s_r122 s_r207 s_r220)
                omega
              · intro J238_27
                refine g_lcmpB X at_229 (q1 := 230) rfl at_230 (Or.inr (Or.inr rfl)) (q := 233) rfl (by decide) (t := 237) rfl (fun (c28 : r96 = r220) => ?_) (fun (c28 : ¬ (r96 = r220)) => ?_)
                · skip
                  refine g_iconst X at_233 rfl (q := 234) (v := 1) rfl ?_
                  refine g_goto X at_234 (by decide) (q := 238) rfl ?_
                  exact J238_27 T X _ (bI_t c28)
                · skip
                  refine g_iconst X at_237 rfl (q := 238) (v := 0) rfl ?_
                  exact J238_27 T X _ (bI_f c28)
            · skip
              exact absurd c27 (by decide)
        · skip
          exact absurd c25 (by decide)
      · subst q4
        show Goes p e below s _ n0 _ (T.setTop (mkF m 89 #[.val (.long q1), .second, .val (.long q2), .second, .val (.long q3), .second, .val (.int p4), .val (.long q5), .second, .val (.long x5), .second, .val (.long x12), .second, .val (.long x20), .second, .val (.long (0 : Int64)), .second, .val (.long (1 : Int64)), .second, .val (.long (3 : Int64)), .second, .val (.ref b4), .unset, .unset, .unset, .unset, .unset, .unset, .unset, .unset, .unset, .unset] [(.ref b4)]))
        refine g_lload X at_89 rfl (q := 91) rfl ?_
        refine g_callV X O_b4.1 [(.long (3 : Int64))] [] (tw48 hw) (tw49 hw) (tw51 hw) (tw50 hw) (tw3 hw) (tw52 hw) (by decide) (rm8_2_2_2 l Z a0 hw [] b4 (3 : Int64) q5 i1_56 n1_56 t1_84 b1_84 (own_up (own_up (fun _ => 0) 0 (0 : Int64)) 1 (1 : Int64)) (own_up (own_up (fun _ => 0) 0 w75) 1 x20) (((0 + x5.toInt) + (w75.toInt - x5.toInt)) + x20.toInt) (((0 + 1) + 1) + 1) _ n0 X.size O_b4 A_i1_56 A_n1_56 g_b4 ne_b4_i1_56 ne_b4_n1_56 ne_i1_56_b4 ne_i1_56_n1_56 ne_n1_56_b4 ne_n1_56_i1_56 (by decide) (by decide) (show (0 : Int) ≤ (w75 : Int64).toInt from s_w75.1) (show (0 : Int) ≤ (x20 : Int64).toInt from s_x20.1) (show (w75 : Int64).toInt + (x20 : Int64).toInt ≤ (((0 + x5.toInt) + (w75.toInt - x5.toInt)) + x20.toInt) from by omega) hS1_84 (by decide)) pd0 rfl rfl rfl at_91 (q := 94) rfl (W := 0) rfl (by decide) (by decide) (c2 := 3) (s2 := 11) rfl rfl (by decide) (by decide) (fun v T h' X hQ => ?_)
        obtain ⟨t1_91, b1_91, i1_91, n1_91, o1_91, s1_91, rfl, Kc, O_b4', hS1_91⟩ := hQ
        have A_i1_56 := A_i1_56.keep Kc (ninS ne_i1_56_b4 nin0)
        have A_n1_56 := A_n1_56.keep Kc (ninS ne_n1_56_b4 nin0)
        have O_b4 := O_b4'
        show Goes p e below s _ n0 _ (T.setTop (mkF m 94 #[.val (.long q1), .second, .val (.long q2), .second, .val (.long q3), .second, .val (.int p4), .val (.long q5), .second, .val (.long x5), .second, .val (.long x12), .second, .val (.long x20), .second, .val (.long (0 : Int64)), .second, .val (.long (1 : Int64)), .second, .val (.long (3 : Int64)), .second, .val (.ref b4), .unset, .unset, .unset, .unset, .unset, .unset, .unset, .unset, .unset, .unset] []))
        have hT : OKT t1_91 b1_91 ((((0 + x5.toInt) + (w75.toInt - x5.toInt)) + x20.toInt) - w75.toInt - x20.toInt) (((0 + 1) + 1) + 1) := hS1_91
        refine g_aload X at_94 rfl (q := 96) rfl rfl ?_
        refine g_callV X O_b4.1 [] [] (tw53 hw) (tw54 hw) (tw56 hw) (tw55 hw) (tw3 hw) (tw57 hw) (by decide) (rm9 l Z a0 hw [] b4 q5 i1_91 n1_91 o1_91 s1_91 t1_91 b1_91 _ n0 X.size O_b4) pd5 rfl rfl rfl at_96 (q := 99) rfl (W := 0) rfl (by decide) (by decide) (c2 := 3) (s2 := 11) rfl rfl (by decide) (by decide) (fun v T h' X hQ => ?_)
        obtain ⟨rfl, rfl⟩ := hQ
        show Goes p e below s _ n0 _ (T.setTop (mkF m 99 #[.val (.long q1), .second, .val (.long q2), .second, .val (.long q3), .second, .val (.int p4), .val (.long q5), .second, .val (.long x5), .second, .val (.long x12), .second, .val (.long x20), .second, .val (.long (0 : Int64)), .second, .val (.long (1 : Int64)), .second, .val (.long (3 : Int64)), .second, .val (.ref b4), .unset, .unset, .unset, .unset, .unset, .unset, .unset, .unset, .unset, .unset] [(.long (if b1_91 = (0 : Int64) then t1_91 else (9223372036854775807 : Int64)))]))
        refine g_letJ (fun r96 hr96 => ?_)
        have s_r96 := own_totI hr96 hT
        refine g_lstore X at_99 rfl (q := 101) (L' := #[.val (.long q1), .second, .val (.long q2), .second, .val (.long q3), .second, .val (.int p4), .val (.long q5), .second, .val (.long x5), .second, .val (.long x12), .second, .val (.long x20), .second, .val (.long (0 : Int64)), .second, .val (.long (1 : Int64)), .second, .val (.long (3 : Int64)), .second, .val (.ref b4), .val (.long r96), .second, .unset, .unset, .unset, .unset, .unset, .unset, .unset, .unset]) rfl ?_
        refine g_lload X at_101 rfl (q := 103) rfl ?_
        refine g_lstore X at_103 rfl (q := 105) (L' := #[.val (.long q1), .second, .val (.long q2), .second, .val (.long q3), .second, .val (.int p4), .val (.long q5), .second, .val (.long x5), .second, .val (.long x12), .second, .val (.long x20), .second, .val (.long (0 : Int64)), .second, .val (.long (1 : Int64)), .second, .val (.long (3 : Int64)), .second, .val (.ref b4), .val (.long r96), .second, .val (.long x5), .second, .unset, .unset, .unset, .unset, .unset, .unset]) rfl ?_
        refine g_lconst X at_105 rfl (q := 106) (v := 0) rfl ?_
        refine g_lstore X at_106 rfl (q := 108) (L' := #[.val (.long q1), .second, .val (.long q2), .second, .val (.long q3), .second, .val (.int p4), .val (.long q5), .second, .val (.long x5), .second, .val (.long x12), .second, .val (.long x20), .second, .val (.long (0 : Int64)), .second, .val (.long (1 : Int64)), .second, .val (.long (3 : Int64)), .second, .val (.ref b4), .val (.long r96), .second, .val (.long x5), .second, .val (.long (0 : Int64)), .second, .unset, .unset, .unset, .unset]) rfl ?_
        refine g_lconst X at_108 rfl (q := 109) (v := 0) rfl ?_
        refine g_lstore X at_109 rfl (q := 111) (L' := #[.val (.long q1), .second, .val (.long q2), .second, .val (.long q3), .second, .val (.int p4), .val (.long q5), .second, .val (.long x5), .second, .val (.long x12), .second, .val (.long x20), .second, .val (.long (0 : Int64)), .second, .val (.long (1 : Int64)), .second, .val (.long (3 : Int64)), .second, .val (.ref b4), .val (.long r96), .second, .val (.long x5), .second, .val (.long (0 : Int64)), .second, .val (.long (0 : Int64)), .second, .unset, .unset]) rfl ?_
        refine g_lload X at_111 rfl (q := 113) rfl ?_
        refine g_lconst X at_113 rfl (q := 114) (v := 0) rfl ?_
        refine g_lcmpB X at_114 (q1 := 115) rfl at_115 (Or.inr (Or.inr rfl)) (q := 118) rfl (by decide) (t := 130) rfl (fun (c29 : (0 : Int64) = (0 : Int64)) => ?_) (fun (c29 : ¬ ((0 : Int64) = (0 : Int64))) => ?_)
        · skip
          refine g_lload X at_118 rfl (q := 120) rfl ?_
          refine g_lload X at_120 rfl (q := 122) rfl ?_
          refine g_callS X [(.long x5), (.long x12)] [] (tw58 hw) (tw59 hw) (tw60 hw) (tw61 hw) (by decide) (rm10 l Z a0 hw [] x5 x12 _ n0 X.size) pd4 rfl rfl rfl at_122 (q := 125) rfl (W := 0) rfl (by decide) (by decide) (c2 := 3) (s2 := 11) rfl rfl (by decide) (by decide) (fun v T h' X hQ => ?_)
          obtain ⟨rfl, rfl⟩ := hQ
          show Goes p e below s _ n0 _ (T.setTop (mkF m 125 #[.val (.long q1), .second, .val (.long q2), .second, .val (.long q3), .second, .val (.int p4), .val (.long q5), .second, .val (.long x5), .second, .val (.long x12), .second, .val (.long x20), .second, .val (.long (0 : Int64)), .second, .val (.long (1 : Int64)), .second, .val (.long (3 : Int64)), .second, .val (.ref b4), .val (.long r96), .second, .val (.long x5), .second, .val (.long (0 : Int64)), .second, .val (.long (0 : Int64)), .second, .unset, .unset] [(.long (if ((9223372036854775807 : Int64) - x12) < x5 then (9223372036854775807 : Int64) else (x5 + x12)))]))
          refine g_letJ (fun r122 hr122 => ?_)
          have s_r122 := own_satI hr122 s_x5.1 s_x12.1
          refine g_lstore X at_125 rfl (q := 127) (L' := #[.val (.long q1), .second, .val (.long q2), .second, .val (.long q3), .second, .val (.int p4), .val (.long q5), .second, .val (.long x5), .second, .val (.long x12), .second, .val (.long x20), .second, .val (.long (0 : Int64)), .second, .val (.long (1 : Int64)), .second, .val (.long (3 : Int64)), .second, .val (.ref b4), .val (.long r96), .second, .val (.long r122), .second, .val (.long (0 : Int64)), .second, .val (.long (0 : Int64)), .second, .unset, .unset]) rfl ?_
          refine g_goto X at_127 (by decide) (q := 134) rfl ?_
          refine g_lload X at_134 rfl (q := 136) rfl ?_
          refine g_lload X at_136 rfl (q := 138) rfl ?_
          refine g_lcmpB X at_138 (q1 := 139) rfl at_139 (Or.inr (Or.inr rfl)) (q := 142) rfl (by decide) (t := 173) rfl (fun (c30 : (1 : Int64) = (0 : Int64)) => ?_) (fun (c30 : ¬ ((1 : Int64) = (0 : Int64))) => ?_)
          · skip
            exact absurd c30 (by decide)
          · skip
            refine g_lload X at_173 rfl (q := 175) rfl ?_
            refine g_lconst X at_175 rfl (q := 176) (v := 0) rfl ?_
            refine g_lcmpB X at_176 (q1 := 177) rfl at_177 (Or.inr (Or.inr rfl)) (q := 180) rfl (by decide) (t := 187) rfl (fun (c31 : (0 : Int64) = (0 : Int64)) => ?_) (fun (c31 : ¬ ((0 : Int64) = (0 : Int64))) => ?_)
            · skip
              refine g_lload X at_180 rfl (q := 182) rfl ?_
              refine g_lstore X at_182 rfl (q := 184) (L' := #[.val (.long q1), .second, .val (.long q2), .second, .val (.long q3), .second, .val (.int p4), .val (.long q5), .second, .val (.long x5), .second, .val (.long x12), .second, .val (.long x20), .second, .val (.long (0 : Int64)), .second, .val (.long (1 : Int64)), .second, .val (.long (3 : Int64)), .second, .val (.ref b4), .val (.long r96), .second, .val (.long r122), .second, .val (.long x20), .second, .val (.long (0 : Int64)), .second, .unset, .unset]) rfl ?_
              refine g_goto X at_184 (by decide) (q := 191) rfl ?_
              refine g_lconst X at_191 rfl (q := 192) (v := 0) rfl ?_
              refine g_lload X at_192 rfl (q := 194) rfl ?_
              refine g_lload X at_194 rfl (q := 196) rfl ?_
              refine g_callS X [(.long (0 : Int64)), (.long r122), (.long (3 : Int64))] [] (tw62 hw) (tw63 hw) (tw60 hw) (tw64 hw) (by decide) (rm11_0_3 l Z a0 hw [] r122 _ n0 X.size) pd6 rfl rfl rfl at_196 (q := 199) rfl (W := 0) rfl (by decide) (by decide) (c2 := 3) (s2 := 11) rfl rfl (by decide) (by decide) (fun v T h' X hQ => ?_)
              obtain ⟨rfl, rfl⟩ := hQ
              show Goes p e below s _ n0 _ (T.setTop (mkF m 199 #[.val (.long q1), .second, .val (.long q2), .second, .val (.long q3), .second, .val (.int p4), .val (.long q5), .second, .val (.long x5), .second, .val (.long x12), .second, .val (.long x20), .second, .val (.long (0 : Int64)), .second, .val (.long (1 : Int64)), .second, .val (.long (3 : Int64)), .second, .val (.ref b4), .val (.long r96), .second, .val (.long r122), .second, .val (.long x20), .second, .val (.long (0 : Int64)), .second, .unset, .unset] [(.long (0 : Int64))]))
              refine g_lconst X at_199 rfl (q := 200) (v := 1) rfl ?_
              refine g_lload X at_200 rfl (q := 202) rfl ?_
              refine g_lload X at_202 rfl (q := 204) rfl ?_
              refine g_callS X [(.long (1 : Int64)), (.long x20), (.long (3 : Int64))] [(.long (0 : Int64))] (tw62 hw) (tw63 hw) (tw60 hw) (tw64 hw) (by decide) (rm11_1_3 l Z a0 hw [] x20 _ n0 X.size) pd6 rfl rfl rfl at_204 (q := 207) rfl (W := 2) rfl (by decide) (by decide) (c2 := 3) (s2 := 11) rfl rfl (by decide) (by decide) (fun v T h' X hQ => ?_)
              obtain ⟨rfl, rfl⟩ := hQ
              show Goes p e below s _ n0 _ (T.setTop (mkF m 207 #[.val (.long q1), .second, .val (.long q2), .second, .val (.long q3), .second, .val (.int p4), .val (.long q5), .second, .val (.long x5), .second, .val (.long x12), .second, .val (.long x20), .second, .val (.long (0 : Int64)), .second, .val (.long (1 : Int64)), .second, .val (.long (3 : Int64)), .second, .val (.ref b4), .val (.long r96), .second, .val (.long r122), .second, .val (.long x20), .second, .val (.long (0 : Int64)), .second, .unset, .unset] [(.long (0 : Int64)), (.long (0 : Int64))]))
              refine g_callS X [(.long (0 : Int64)), (.long (0 : Int64))] [] (tw58 hw) (tw59 hw) (tw60 hw) (tw61 hw) (by decide) (rm10 l Z a0 hw [] (0 : Int64) (0 : Int64) _ n0 X.size) pd4 rfl rfl rfl at_207 (q := 210) rfl (W := 0) rfl (by decide) (by decide) (c2 := 3) (s2 := 11) rfl rfl (by decide) (by decide) (fun v T h' X hQ => ?_)
              obtain ⟨rfl, rfl⟩ := hQ
              show Goes p e below s _ n0 _ (T.setTop (mkF m 210 #[.val (.long q1), .second, .val (.long q2), .second, .val (.long q3), .second, .val (.int p4), .val (.long q5), .second, .val (.long x5), .second, .val (.long x12), .second, .val (.long x20), .second, .val (.long (0 : Int64)), .second, .val (.long (1 : Int64)), .second, .val (.long (3 : Int64)), .second, .val (.ref b4), .val (.long r96), .second, .val (.long r122), .second, .val (.long x20), .second, .val (.long (0 : Int64)), .second, .unset, .unset] [(.long (if ((9223372036854775807 : Int64) - (0 : Int64)) < (0 : Int64) then (9223372036854775807 : Int64) else ((0 : Int64) + (0 : Int64))))]))
              refine g_letJ (fun r207 hr207 => ?_)
              have s_r207 := own_satI hr207 (by decide) (by decide)
              refine g_ldc2 X (tw65 hw) at_210 (q := 213) rfl ?_
              refine g_lload X at_213 rfl (q := 215) rfl ?_
              refine g_lload X at_215 rfl (q := 217) rfl ?_
              refine g_callS X [(.long (2 : Int64)), (.long (0 : Int64)), (.long (3 : Int64))] [(.long r207)] (tw62 hw) (tw63 hw) (tw60 hw) (tw64 hw) (by decide) (rm11_2_3 l Z a0 hw [] (0 : Int64) _ n0 X.size) pd6 rfl rfl rfl at_217 (q := 220) rfl (W := 2) rfl (by decide) (by decide) (c2 := 3) (s2 := 11) rfl rfl (by decide) (by decide) (fun v T h' X hQ => ?_)
              obtain ⟨rfl, rfl⟩ := hQ
              show Goes p e below s _ n0 _ (T.setTop (mkF m 220 #[.val (.long q1), .second, .val (.long q2), .second, .val (.long q3), .second, .val (.int p4), .val (.long q5), .second, .val (.long x5), .second, .val (.long x12), .second, .val (.long x20), .second, .val (.long (0 : Int64)), .second, .val (.long (1 : Int64)), .second, .val (.long (3 : Int64)), .second, .val (.ref b4), .val (.long r96), .second, .val (.long r122), .second, .val (.long x20), .second, .val (.long (0 : Int64)), .second, .unset, .unset] [(.long (0 : Int64)), (.long r207)]))
              refine g_callS X [(.long r207), (.long (0 : Int64))] [] (tw58 hw) (tw59 hw) (tw60 hw) (tw61 hw) (by decide) (rm10 l Z a0 hw [] r207 (0 : Int64) _ n0 X.size) pd4 rfl rfl rfl at_220 (q := 223) rfl (W := 0) rfl (by decide) (by decide) (c2 := 3) (s2 := 11) rfl rfl (by decide) (by decide) (fun v T h' X hQ => ?_)
              obtain ⟨rfl, rfl⟩ := hQ
              show Goes p e below s _ n0 _ (T.setTop (mkF m 223 #[.val (.long q1), .second, .val (.long q2), .second, .val (.long q3), .second, .val (.int p4), .val (.long q5), .second, .val (.long x5), .second, .val (.long x12), .second, .val (.long x20), .second, .val (.long (0 : Int64)), .second, .val (.long (1 : Int64)), .second, .val (.long (3 : Int64)), .second, .val (.ref b4), .val (.long r96), .second, .val (.long r122), .second, .val (.long x20), .second, .val (.long (0 : Int64)), .second, .unset, .unset] [(.long (if ((9223372036854775807 : Int64) - (0 : Int64)) < r207 then (9223372036854775807 : Int64) else (r207 + (0 : Int64))))]))
              refine g_letJ (fun r220 hr220 => ?_)
              have s_r220 := own_satI hr220 s_r207.1 (by decide)
              refine g_lstore X at_223 rfl (q := 225) (L' := #[.val (.long q1), .second, .val (.long q2), .second, .val (.long q3), .second, .val (.int p4), .val (.long q5), .second, .val (.long x5), .second, .val (.long x12), .second, .val (.long x20), .second, .val (.long (0 : Int64)), .second, .val (.long (1 : Int64)), .second, .val (.long (3 : Int64)), .second, .val (.ref b4), .val (.long r96), .second, .val (.long r122), .second, .val (.long x20), .second, .val (.long (0 : Int64)), .second, .val (.long r220), .second]) rfl ?_
              refine g_lload X at_225 rfl (q := 227) rfl ?_
              refine g_lload X at_227 rfl (q := 229) rfl ?_
              refine g_jT1 X (J := 238) (P := fun (s0_238 : Int32) => s0_238 = (bI (r96 = r220))) (L := fun s0_238 => #[.val (.long q1), .second, .val (.long q2), .second, .val (.long q3), .second, .val (.int p4), .val (.long q5), .second, .val (.long x5), .second, .val (.long x12), .second, .val (.long x20), .second, .val (.long (0 : Int64)), .second, .val (.long (1 : Int64)), .second, .val (.long (3 : Int64)), .second, .val (.ref b4), .val (.long r96), .second, .val (.long r122), .second, .val (.long x20), .second, .val (.long (0 : Int64)), .second, .val (.long r220), .second]) (S := fun s0_238 => [(.int s0_238)]) ?_ ?_
              · intro T X s0_238 hs0_238
                replace hs0_238 : s0_238 = (bI (r96 = r220)) := hs0_238
                subst hs0_238
                show Goes p e below s _ n0 _ (T.setTop (mkF m 238 #[.val (.long q1), .second, .val (.long q2), .second, .val (.long q3), .second, .val (.int p4), .val (.long q5), .second, .val (.long x5), .second, .val (.long x12), .second, .val (.long x20), .second, .val (.long (0 : Int64)), .second, .val (.long (1 : Int64)), .second, .val (.long (3 : Int64)), .second, .val (.ref b4), .val (.long r96), .second, .val (.long r122), .second, .val (.long x20), .second, .val (.long (0 : Int64)), .second, .val (.long r220), .second] [(.int (bI (r96 = r220)))]))
                refine g_retZ X at_238 (by decide) (by decide) (bI_01 _) (own_fin ?_)
                show r96 = r220
                apply Int64.toInt_inj.mp
                (try simp only [Int64.reduceToInt] at s_x5 s_x12 s_x20 s_w75 s_r96 s_r122 s_r207 s_r220)
                omega
              · intro J238_31
                refine g_lcmpB X at_229 (q1 := 230) rfl at_230 (Or.inr (Or.inr rfl)) (q := 233) rfl (by decide) (t := 237) rfl (fun (c32 : r96 = r220) => ?_) (fun (c32 : ¬ (r96 = r220)) => ?_)
                · skip
                  refine g_iconst X at_233 rfl (q := 234) (v := 1) rfl ?_
                  refine g_goto X at_234 (by decide) (q := 238) rfl ?_
                  exact J238_31 T X _ (bI_t c32)
                · skip
                  refine g_iconst X at_237 rfl (q := 238) (v := 0) rfl ?_
                  exact J238_31 T X _ (bI_f c32)
            · skip
              exact absurd c31 (by decide)
        · skip
          exact absurd c29 (by decide)
  · refine g_eqJ (y := (1 : Int64)) qq27 ?_
    refine g_lstore X at_27 rfl (q := 29) (L' := #[.val (.long q1), .second, .val (.long q2), .second, .val (.long q3), .second, .val (.int p4), .val (.long q5), .second, .val (.long x5), .second, .val (.long x12), .second, .val (.long x20), .second, .val (.long (1 : Int64)), .second, .unset, .unset, .unset, .unset, .unset, .unset, .unset, .unset, .unset, .unset, .unset, .unset, .unset, .unset, .unset]) rfl ?_
    refine g_lload X at_29 rfl (q := 31) rfl ?_
    refine g_iload X at_31 rfl (q := 33) rfl ?_
    refine g_iconst X at_33 rfl (q := 34) (v := 1) rfl ?_
    refine g_ishr X at_34 rfl (q := 35) ?_
    refine g_iconst X at_35 rfl (q := 36) (v := 1) rfl ?_
    refine g_iand X at_36 rfl (q := 37) ?_
    refine g_i2l X at_37 rfl (q := 38) ?_
    rcases own_b1 (p4 >>> ((1 : Int32) &&& 31)) with qq38 | qq38
    · refine g_eqJ (y := (0 : Int64)) qq38 ?_
      refine g_ladd X at_38 rfl (q := 39) ?_
      refine g_eqJ (y := (1 : Int64)) (by decide) ?_
      refine g_lstore X at_39 rfl (q := 41) (L' := #[.val (.long q1), .second, .val (.long q2), .second, .val (.long q3), .second, .val (.int p4), .val (.long q5), .second, .val (.long x5), .second, .val (.long x12), .second, .val (.long x20), .second, .val (.long (1 : Int64)), .second, .val (.long (1 : Int64)), .second, .unset, .unset, .unset, .unset, .unset, .unset, .unset, .unset, .unset, .unset, .unset, .unset, .unset]) rfl ?_
      refine g_iload X at_41 rfl (q := 43) rfl ?_
      refine g_iconst X at_43 rfl (q := 44) (v := 2) rfl ?_
      refine g_ishr X at_44 rfl (q := 45) ?_
      refine g_iconst X at_45 rfl (q := 46) (v := 3) rfl ?_
      refine g_iand X at_46 rfl (q := 47) ?_
      refine g_i2l X at_47 rfl (q := 48) ?_
      refine g_letJ (fun xd hxd => ?_)
      refine g_lstore X at_48 rfl (q := 50) (L' := #[.val (.long q1), .second, .val (.long q2), .second, .val (.long q3), .second, .val (.int p4), .val (.long q5), .second, .val (.long x5), .second, .val (.long x12), .second, .val (.long x20), .second, .val (.long (1 : Int64)), .second, .val (.long (1 : Int64)), .second, .val (.long xd), .second, .unset, .unset, .unset, .unset, .unset, .unset, .unset, .unset, .unset, .unset, .unset]) rfl ?_
      refine g_new X (tw1 hw) (tw2 hw) (tw3 hw) at_50 (q := 53) rfl (c2 := 1) (s2 := 7) rfl rfl (by decide) (by decide) (fun T h' b5 X gz_b5 g_b5 E Ex D => ?_)
      have O_b5 : O_WindowCounts Z h' b5 .null .null (.long (0 : Int64)) (.int (0 : Int32)) (.int (0 : Int32)) (.long (0 : Int64)) (.long (0 : Int64)) := ⟨Ex, D (Or.inl (tw12 hw)) (ty := (.array .long)) (by decide), D (Or.inl (tw14 hw)) (ty := (.array .long)) (by decide), D (Or.inl (tw16 hw)) (ty := .long) (by decide), D (Or.inl (tw23 hw)) (ty := .int) (by decide), D (Or.inl (tw29 hw)) (ty := .int) (by decide), D (Or.inl (tw31 hw)) (ty := .long) (by decide), D (Or.inl (tw33 hw)) (ty := .long) (by decide)⟩
      refine g_dup X at_53 rfl (q := 54) rfl ?_
      refine g_lload X at_54 rfl (q := 56) rfl ?_
      refine g_callI X [(.long q5)] [(.ref b5)] rfl (tw4 hw) (tw5 hw) (tw3 hw) (tw6 hw) (by decide) (rm1 l Z a0 hw [] b5 q5 _ n0 X.size O_b5 g_b5) pd0 rfl rfl rfl at_56 (q := 59) rfl (W := 1) rfl (by decide) (by decide) (c2 := 3) (s2 := 11) rfl rfl (by decide) (by decide) (fun v T h' X hQ => ?_)
      obtain ⟨i1_56, n1_56, rfl, Kc, O_b5', A_i1_56', A_n1_56', sq_i1_56, sq_n1_56, g_i1_56, g_n1_56, ne_i1_56_n1_56, ne_n1_56_i1_56⟩ := hQ
      have ne_b5_i1_56 := own_far O_b5.1.lt sq_i1_56
      have ne_i1_56_b5 := own_apS ne_b5_i1_56
      have ne_b5_n1_56 := own_far O_b5.1.lt sq_n1_56
      have ne_n1_56_b5 := own_apS ne_b5_n1_56
      have O_b5 := O_b5'
      have A_i1_56 := A_i1_56'
      have A_n1_56 := A_n1_56'
      show Goes p e below s _ n0 _ (T.setTop (mkF m 59 #[.val (.long q1), .second, .val (.long q2), .second, .val (.long q3), .second, .val (.int p4), .val (.long q5), .second, .val (.long x5), .second, .val (.long x12), .second, .val (.long x20), .second, .val (.long (1 : Int64)), .second, .val (.long (1 : Int64)), .second, .val (.long xd), .second, .unset, .unset, .unset, .unset, .unset, .unset, .unset, .unset, .unset, .unset, .unset] [(.ref b5)]))
      refine g_astore X at_59 rfl (q := 61) (L' := #[.val (.long q1), .second, .val (.long q2), .second, .val (.long q3), .second, .val (.int p4), .val (.long q5), .second, .val (.long x5), .second, .val (.long x12), .second, .val (.long x20), .second, .val (.long (1 : Int64)), .second, .val (.long (1 : Int64)), .second, .val (.long xd), .second, .val (.ref b5), .unset, .unset, .unset, .unset, .unset, .unset, .unset, .unset, .unset, .unset]) rfl rfl ?_
      refine g_aload X at_61 rfl (q := 63) rfl rfl ?_
      refine g_lconst X at_63 rfl (q := 64) (v := 0) rfl ?_
      refine g_lload X at_64 rfl (q := 66) rfl ?_
      refine g_callV X O_b5.1 [(.long (0 : Int64)), (.long x5)] [] (tw17 hw) (tw18 hw) (tw20 hw) (tw19 hw) (tw3 hw) (tw21 hw) (by decide) (rm3_0_2_z l Z a0 hw [] b5 (0 : Int64) x5 q5 i1_56 n1_56 (0 : Int64) (0 : Int64) (fun _ => 0) (fun _ => 0) 0 0 _ n0 X.size O_b5 A_i1_56 A_n1_56 g_b5 g_i1_56 g_n1_56 ne_b5_i1_56 ne_b5_n1_56 ne_i1_56_b5 ne_i1_56_n1_56 ne_n1_56_b5 ne_n1_56_i1_56 (own_nnJ s_x5.1) own_okt0 (by decide)) pd2 rfl rfl rfl at_66 (q := 69) rfl (W := 0) rfl (by decide) (by decide) (c2 := 3) (s2 := 11) rfl rfl (by decide) (by decide) (fun v T h' X hQ => ?_)
      obtain ⟨t1_66, b1_66, rfl, Kc, O_b5', A_i1_56', A_n1_56', hS1_66⟩ := hQ
      have O_b5 := O_b5'
      have A_i1_56 := A_i1_56'
      have A_n1_56 := A_n1_56'
      show Goes p e below s _ n0 _ (T.setTop (mkF m 69 #[.val (.long q1), .second, .val (.long q2), .second, .val (.long q3), .second, .val (.int p4), .val (.long q5), .second, .val (.long x5), .second, .val (.long x12), .second, .val (.long x20), .second, .val (.long (1 : Int64)), .second, .val (.long (1 : Int64)), .second, .val (.long xd), .second, .val (.ref b5), .unset, .unset, .unset, .unset, .unset, .unset, .unset, .unset, .unset, .unset] []))
      have A_n1_56 : AJ Z _ n1_56 2 (own_up (fun _ => 0) 0 x5) := A_n1_56.to (fun j hj => by rcases (show j = 0 ∨ j = 1 by omega) with rfl | rfl <;> rfl)
      refine g_aload X at_69 rfl (q := 71) rfl rfl ?_
      refine g_lload X at_71 rfl (q := 73) rfl ?_
      refine g_lload X at_73 rfl (q := 75) rfl ?_
      refine g_callV X O_b5.1 [(.long (1 : Int64)), (.long x12)] [] (tw17 hw) (tw18 hw) (tw20 hw) (tw19 hw) (tw3 hw) (tw21 hw) (by decide) (rm3_1_2_g l Z a0 hw [] b5 (1 : Int64) x12 q5 i1_56 n1_56 t1_66 b1_66 (own_up (fun _ => 0) 0 (0 : Int64)) (own_up (fun _ => 0) 0 x5) (0 + x5.toInt) (0 + 1) _ n0 X.size O_b5 A_i1_56 A_n1_56 g_b5 g_i1_56 g_n1_56 ne_b5_i1_56 ne_b5_n1_56 ne_i1_56_b5 ne_i1_56_n1_56 ne_n1_56_b5 ne_n1_56_i1_56 (own_nnJ s_x12.1) (by decide) (by decide) hS1_66 (by decide)) pd2 rfl rfl rfl at_75 (q := 78) rfl (W := 0) rfl (by decide) (by decide) (c2 := 3) (s2 := 11) rfl rfl (by decide) (by decide) (fun v T h' X hQ => ?_)
      obtain ⟨t1_75, b1_75, rfl, Kc, O_b5', A_i1_56', A_n1_56', hS1_75⟩ := hQ
      have O_b5 := O_b5'
      have A_i1_56 := A_i1_56'
      have A_n1_56 := A_n1_56'
      show Goes p e below s _ n0 _ (T.setTop (mkF m 78 #[.val (.long q1), .second, .val (.long q2), .second, .val (.long q3), .second, .val (.int p4), .val (.long q5), .second, .val (.long x5), .second, .val (.long x12), .second, .val (.long x20), .second, .val (.long (1 : Int64)), .second, .val (.long (1 : Int64)), .second, .val (.long xd), .second, .val (.ref b5), .unset, .unset, .unset, .unset, .unset, .unset, .unset, .unset, .unset, .unset] []))
      have A_n1_56 : AJ Z _ n1_56 2 (own_up (own_up (fun _ => 0) 0 x5) 1 x12) := A_n1_56.to (fun j hj => by rcases (show j = 0 ∨ j = 1 by omega) with rfl | rfl <;> rfl)
      refine g_aload X at_78 rfl (q := 80) rfl rfl ?_
      refine g_lload X at_80 rfl (q := 82) rfl ?_
      refine g_lload X at_82 rfl (q := 84) rfl ?_
      refine g_callV X O_b5.1 [(.long (1 : Int64)), (.long x20)] [] (tw17 hw) (tw18 hw) (tw20 hw) (tw19 hw) (tw3 hw) (tw21 hw) (by decide) (rm3_2_2_e l Z a0 hw [] b5 (1 : Int64) x20 q5 i1_56 n1_56 t1_75 b1_75 (own_up (own_up (fun _ => 0) 0 (0 : Int64)) 1 (1 : Int64)) (own_up (own_up (fun _ => 0) 0 x5) 1 x12) ((0 + x5.toInt) + x12.toInt) ((0 + 1) + 1) _ n0 X.size O_b5 A_i1_56 A_n1_56 g_b5 g_i1_56 g_n1_56 ne_b5_i1_56 ne_b5_n1_56 ne_i1_56_b5 ne_i1_56_n1_56 ne_n1_56_b5 ne_n1_56_i1_56 (own_nnJ s_x20.1) (by decide) (by decide) (show (0 : Int) ≤ (x12 : Int64).toInt from s_x12.1) hS1_75 (by decide)) pd2 rfl rfl rfl at_84 (q := 87) rfl (W := 0) rfl (by decide) (by decide) (c2 := 3) (s2 := 11) rfl rfl (by decide) (by decide) (fun v T h' X hQ => ?_)
      obtain ⟨t1_84, b1_84, rfl, Kc, O_b5', A_n1_56', hS1_84⟩ := hQ
      have A_i1_56 := A_i1_56.keep Kc (ninS ne_i1_56_b5 (ninS ne_i1_56_n1_56 nin0))
      have O_b5 := O_b5'
      have A_n1_56 := A_n1_56'
      show Goes p e below s _ n0 _ (T.setTop (mkF m 87 #[.val (.long q1), .second, .val (.long q2), .second, .val (.long q3), .second, .val (.int p4), .val (.long q5), .second, .val (.long x5), .second, .val (.long x12), .second, .val (.long x20), .second, .val (.long (1 : Int64)), .second, .val (.long (1 : Int64)), .second, .val (.long xd), .second, .val (.ref b5), .unset, .unset, .unset, .unset, .unset, .unset, .unset, .unset, .unset, .unset] []))
      obtain ⟨w84, hw84⟩ : ∃ z, z = sm x12 x20 := ⟨_, rfl⟩
      have A_n1_56 : AJ Z h' n1_56 2 (own_up (own_up (own_up (fun _ => 0) 0 x5) 1 x12) 1 w84) := by rw [hw84]; exact A_n1_56
      have hSw84 : OKT t1_84 b1_84 (((0 + x5.toInt) + x12.toInt) + (w84.toInt - x12.toInt)) (((0 + 1) + 1) + 1) := by rw [hw84]; exact hS1_84
      have s_w84 := own_smI hw84 s_x12.1 s_x20.1
      refine g_aload X at_87 rfl (q := 89) rfl rfl ?_
      have hd4 := own_b3 (p4 >>> ((2 : Int32) &&& 31))
      rw [← hxd] at hd4
      rcases hd4 with q4 | q4 | q4 | q4
      · subst q4
        show Goes p e below s _ n0 _ (T.setTop (mkF m 89 #[.val (.long q1), .second, .val (.long q2), .second, .val (.long q3), .second, .val (.int p4), .val (.long q5), .second, .val (.long x5), .second, .val (.long x12), .second, .val (.long x20), .second, .val (.long (1 : Int64)), .second, .val (.long (1 : Int64)), .second, .val (.long (0 : Int64)), .second, .val (.ref b5), .unset, .unset, .unset, .unset, .unset, .unset, .unset, .unset, .unset, .unset] [(.ref b5)]))
        refine g_lload X at_89 rfl (q := 91) rfl ?_
        refine g_callV X O_b5.1 [(.long (0 : Int64))] [] (tw48 hw) (tw49 hw) (tw51 hw) (tw50 hw) (tw3 hw) (tw52 hw) (by decide) (rm8_2_2_0 l Z a0 hw [] b5 (0 : Int64) q5 i1_56 n1_56 t1_84 b1_84 (own_up (own_up (fun _ => 0) 0 (0 : Int64)) 1 (1 : Int64)) (own_up (own_up (own_up (fun _ => 0) 0 x5) 1 x12) 1 w84) (((0 + x5.toInt) + x12.toInt) + (w84.toInt - x12.toInt)) (((0 + 1) + 1) + 1) _ n0 X.size O_b5 A_i1_56 A_n1_56 g_b5 ne_b5_i1_56 ne_b5_n1_56 ne_i1_56_b5 ne_i1_56_n1_56 ne_n1_56_b5 ne_n1_56_i1_56 (by decide) hSw84 (by decide)) pd0 rfl rfl rfl at_91 (q := 94) rfl (W := 0) rfl (by decide) (by decide) (c2 := 3) (s2 := 11) rfl rfl (by decide) (by decide) (fun v T h' X hQ => ?_)
        obtain ⟨t1_91, b1_91, i1_91, n1_91, o1_91, s1_91, rfl, Kc, O_b5', hS1_91⟩ := hQ
        have A_i1_56 := A_i1_56.keep Kc (ninS ne_i1_56_b5 nin0)
        have A_n1_56 := A_n1_56.keep Kc (ninS ne_n1_56_b5 nin0)
        have O_b5 := O_b5'
        show Goes p e below s _ n0 _ (T.setTop (mkF m 94 #[.val (.long q1), .second, .val (.long q2), .second, .val (.long q3), .second, .val (.int p4), .val (.long q5), .second, .val (.long x5), .second, .val (.long x12), .second, .val (.long x20), .second, .val (.long (1 : Int64)), .second, .val (.long (1 : Int64)), .second, .val (.long (0 : Int64)), .second, .val (.ref b5), .unset, .unset, .unset, .unset, .unset, .unset, .unset, .unset, .unset, .unset] []))
        have hT : OKT t1_91 b1_91 ((((0 + x5.toInt) + x12.toInt) + (w84.toInt - x12.toInt))) (((0 + 1) + 1) + 1) := hS1_91
        refine g_aload X at_94 rfl (q := 96) rfl rfl ?_
        refine g_callV X O_b5.1 [] [] (tw53 hw) (tw54 hw) (tw56 hw) (tw55 hw) (tw3 hw) (tw57 hw) (by decide) (rm9 l Z a0 hw [] b5 q5 i1_91 n1_91 o1_91 s1_91 t1_91 b1_91 _ n0 X.size O_b5) pd5 rfl rfl rfl at_96 (q := 99) rfl (W := 0) rfl (by decide) (by decide) (c2 := 3) (s2 := 11) rfl rfl (by decide) (by decide) (fun v T h' X hQ => ?_)
        obtain ⟨rfl, rfl⟩ := hQ
        show Goes p e below s _ n0 _ (T.setTop (mkF m 99 #[.val (.long q1), .second, .val (.long q2), .second, .val (.long q3), .second, .val (.int p4), .val (.long q5), .second, .val (.long x5), .second, .val (.long x12), .second, .val (.long x20), .second, .val (.long (1 : Int64)), .second, .val (.long (1 : Int64)), .second, .val (.long (0 : Int64)), .second, .val (.ref b5), .unset, .unset, .unset, .unset, .unset, .unset, .unset, .unset, .unset, .unset] [(.long (if b1_91 = (0 : Int64) then t1_91 else (9223372036854775807 : Int64)))]))
        refine g_letJ (fun r96 hr96 => ?_)
        have s_r96 := own_totI hr96 hT
        refine g_lstore X at_99 rfl (q := 101) (L' := #[.val (.long q1), .second, .val (.long q2), .second, .val (.long q3), .second, .val (.int p4), .val (.long q5), .second, .val (.long x5), .second, .val (.long x12), .second, .val (.long x20), .second, .val (.long (1 : Int64)), .second, .val (.long (1 : Int64)), .second, .val (.long (0 : Int64)), .second, .val (.ref b5), .val (.long r96), .second, .unset, .unset, .unset, .unset, .unset, .unset, .unset, .unset]) rfl ?_
        refine g_lload X at_101 rfl (q := 103) rfl ?_
        refine g_lstore X at_103 rfl (q := 105) (L' := #[.val (.long q1), .second, .val (.long q2), .second, .val (.long q3), .second, .val (.int p4), .val (.long q5), .second, .val (.long x5), .second, .val (.long x12), .second, .val (.long x20), .second, .val (.long (1 : Int64)), .second, .val (.long (1 : Int64)), .second, .val (.long (0 : Int64)), .second, .val (.ref b5), .val (.long r96), .second, .val (.long x5), .second, .unset, .unset, .unset, .unset, .unset, .unset]) rfl ?_
        refine g_lconst X at_105 rfl (q := 106) (v := 0) rfl ?_
        refine g_lstore X at_106 rfl (q := 108) (L' := #[.val (.long q1), .second, .val (.long q2), .second, .val (.long q3), .second, .val (.int p4), .val (.long q5), .second, .val (.long x5), .second, .val (.long x12), .second, .val (.long x20), .second, .val (.long (1 : Int64)), .second, .val (.long (1 : Int64)), .second, .val (.long (0 : Int64)), .second, .val (.ref b5), .val (.long r96), .second, .val (.long x5), .second, .val (.long (0 : Int64)), .second, .unset, .unset, .unset, .unset]) rfl ?_
        refine g_lconst X at_108 rfl (q := 109) (v := 0) rfl ?_
        refine g_lstore X at_109 rfl (q := 111) (L' := #[.val (.long q1), .second, .val (.long q2), .second, .val (.long q3), .second, .val (.int p4), .val (.long q5), .second, .val (.long x5), .second, .val (.long x12), .second, .val (.long x20), .second, .val (.long (1 : Int64)), .second, .val (.long (1 : Int64)), .second, .val (.long (0 : Int64)), .second, .val (.ref b5), .val (.long r96), .second, .val (.long x5), .second, .val (.long (0 : Int64)), .second, .val (.long (0 : Int64)), .second, .unset, .unset]) rfl ?_
        refine g_lload X at_111 rfl (q := 113) rfl ?_
        refine g_lconst X at_113 rfl (q := 114) (v := 0) rfl ?_
        refine g_lcmpB X at_114 (q1 := 115) rfl at_115 (Or.inr (Or.inr rfl)) (q := 118) rfl (by decide) (t := 130) rfl (fun (c33 : (1 : Int64) = (0 : Int64)) => ?_) (fun (c33 : ¬ ((1 : Int64) = (0 : Int64))) => ?_)
        · skip
          exact absurd c33 (by decide)
        · skip
          refine g_lload X at_130 rfl (q := 132) rfl ?_
          refine g_lstore X at_132 rfl (q := 134) (L' := #[.val (.long q1), .second, .val (.long q2), .second, .val (.long q3), .second, .val (.int p4), .val (.long q5), .second, .val (.long x5), .second, .val (.long x12), .second, .val (.long x20), .second, .val (.long (1 : Int64)), .second, .val (.long (1 : Int64)), .second, .val (.long (0 : Int64)), .second, .val (.ref b5), .val (.long r96), .second, .val (.long x5), .second, .val (.long x12), .second, .val (.long (0 : Int64)), .second, .unset, .unset]) rfl ?_
          refine g_lload X at_134 rfl (q := 136) rfl ?_
          refine g_lload X at_136 rfl (q := 138) rfl ?_
          refine g_lcmpB X at_138 (q1 := 139) rfl at_139 (Or.inr (Or.inr rfl)) (q := 142) rfl (by decide) (t := 173) rfl (fun (c34 : (1 : Int64) = (1 : Int64)) => ?_) (fun (c34 : ¬ ((1 : Int64) = (1 : Int64))) => ?_)
          · skip
            refine g_lload X at_142 rfl (q := 144) rfl ?_
            refine g_lconst X at_144 rfl (q := 145) (v := 0) rfl ?_
            refine g_lcmpB X at_145 (q1 := 146) rfl at_146 (Or.inr (Or.inr rfl)) (q := 149) rfl (by decide) (t := 161) rfl (fun (c35 : (1 : Int64) = (0 : Int64)) => ?_) (fun (c35 : ¬ ((1 : Int64) = (0 : Int64))) => ?_)
            · skip
              exact absurd c35 (by decide)
            · skip
              refine g_lload X at_161 rfl (q := 163) rfl ?_
              refine g_lload X at_163 rfl (q := 165) rfl ?_
              refine g_callS X [(.long x12), (.long x20)] [] (tw58 hw) (tw59 hw) (tw60 hw) (tw61 hw) (by decide) (rm10 l Z a0 hw [] x12 x20 _ n0 X.size) pd4 rfl rfl rfl at_165 (q := 168) rfl (W := 0) rfl (by decide) (by decide) (c2 := 3) (s2 := 11) rfl rfl (by decide) (by decide) (fun v T h' X hQ => ?_)
              obtain ⟨rfl, rfl⟩ := hQ
              show Goes p e below s _ n0 _ (T.setTop (mkF m 168 #[.val (.long q1), .second, .val (.long q2), .second, .val (.long q3), .second, .val (.int p4), .val (.long q5), .second, .val (.long x5), .second, .val (.long x12), .second, .val (.long x20), .second, .val (.long (1 : Int64)), .second, .val (.long (1 : Int64)), .second, .val (.long (0 : Int64)), .second, .val (.ref b5), .val (.long r96), .second, .val (.long x5), .second, .val (.long x12), .second, .val (.long (0 : Int64)), .second, .unset, .unset] [(.long (if ((9223372036854775807 : Int64) - x20) < x12 then (9223372036854775807 : Int64) else (x12 + x20)))]))
              refine g_letJ (fun r165 hr165 => ?_)
              have s_r165 := own_satI hr165 s_x12.1 s_x20.1
              refine g_lstore X at_168 rfl (q := 170) (L' := #[.val (.long q1), .second, .val (.long q2), .second, .val (.long q3), .second, .val (.int p4), .val (.long q5), .second, .val (.long x5), .second, .val (.long x12), .second, .val (.long x20), .second, .val (.long (1 : Int64)), .second, .val (.long (1 : Int64)), .second, .val (.long (0 : Int64)), .second, .val (.ref b5), .val (.long r96), .second, .val (.long x5), .second, .val (.long r165), .second, .val (.long (0 : Int64)), .second, .unset, .unset]) rfl ?_
              refine g_goto X at_170 (by decide) (q := 191) rfl ?_
              refine g_lconst X at_191 rfl (q := 192) (v := 0) rfl ?_
              refine g_lload X at_192 rfl (q := 194) rfl ?_
              refine g_lload X at_194 rfl (q := 196) rfl ?_
              refine g_callS X [(.long (0 : Int64)), (.long x5), (.long (0 : Int64))] [] (tw62 hw) (tw63 hw) (tw60 hw) (tw64 hw) (by decide) (rm11_0_0 l Z a0 hw [] x5 _ n0 X.size) pd6 rfl rfl rfl at_196 (q := 199) rfl (W := 0) rfl (by decide) (by decide) (c2 := 3) (s2 := 11) rfl rfl (by decide) (by decide) (fun v T h' X hQ => ?_)
              obtain ⟨rfl, rfl⟩ := hQ
              show Goes p e below s _ n0 _ (T.setTop (mkF m 199 #[.val (.long q1), .second, .val (.long q2), .second, .val (.long q3), .second, .val (.int p4), .val (.long q5), .second, .val (.long x5), .second, .val (.long x12), .second, .val (.long x20), .second, .val (.long (1 : Int64)), .second, .val (.long (1 : Int64)), .second, .val (.long (0 : Int64)), .second, .val (.ref b5), .val (.long r96), .second, .val (.long x5), .second, .val (.long r165), .second, .val (.long (0 : Int64)), .second, .unset, .unset] [(.long x5)]))
              refine g_lconst X at_199 rfl (q := 200) (v := 1) rfl ?_
              refine g_lload X at_200 rfl (q := 202) rfl ?_
              refine g_lload X at_202 rfl (q := 204) rfl ?_
              refine g_callS X [(.long (1 : Int64)), (.long r165), (.long (0 : Int64))] [(.long x5)] (tw62 hw) (tw63 hw) (tw60 hw) (tw64 hw) (by decide) (rm11_1_0 l Z a0 hw [] r165 _ n0 X.size) pd6 rfl rfl rfl at_204 (q := 207) rfl (W := 2) rfl (by decide) (by decide) (c2 := 3) (s2 := 11) rfl rfl (by decide) (by decide) (fun v T h' X hQ => ?_)
              obtain ⟨rfl, rfl⟩ := hQ
              show Goes p e below s _ n0 _ (T.setTop (mkF m 207 #[.val (.long q1), .second, .val (.long q2), .second, .val (.long q3), .second, .val (.int p4), .val (.long q5), .second, .val (.long x5), .second, .val (.long x12), .second, .val (.long x20), .second, .val (.long (1 : Int64)), .second, .val (.long (1 : Int64)), .second, .val (.long (0 : Int64)), .second, .val (.ref b5), .val (.long r96), .second, .val (.long x5), .second, .val (.long r165), .second, .val (.long (0 : Int64)), .second, .unset, .unset] [(.long r165), (.long x5)]))
              refine g_callS X [(.long x5), (.long r165)] [] (tw58 hw) (tw59 hw) (tw60 hw) (tw61 hw) (by decide) (rm10 l Z a0 hw [] x5 r165 _ n0 X.size) pd4 rfl rfl rfl at_207 (q := 210) rfl (W := 0) rfl (by decide) (by decide) (c2 := 3) (s2 := 11) rfl rfl (by decide) (by decide) (fun v T h' X hQ => ?_)
              obtain ⟨rfl, rfl⟩ := hQ
              show Goes p e below s _ n0 _ (T.setTop (mkF m 210 #[.val (.long q1), .second, .val (.long q2), .second, .val (.long q3), .second, .val (.int p4), .val (.long q5), .second, .val (.long x5), .second, .val (.long x12), .second, .val (.long x20), .second, .val (.long (1 : Int64)), .second, .val (.long (1 : Int64)), .second, .val (.long (0 : Int64)), .second, .val (.ref b5), .val (.long r96), .second, .val (.long x5), .second, .val (.long r165), .second, .val (.long (0 : Int64)), .second, .unset, .unset] [(.long (if ((9223372036854775807 : Int64) - r165) < x5 then (9223372036854775807 : Int64) else (x5 + r165)))]))
              refine g_letJ (fun r207 hr207 => ?_)
              have s_r207 := own_satI hr207 s_x5.1 s_r165.1
              refine g_ldc2 X (tw65 hw) at_210 (q := 213) rfl ?_
              refine g_lload X at_213 rfl (q := 215) rfl ?_
              refine g_lload X at_215 rfl (q := 217) rfl ?_
              refine g_callS X [(.long (2 : Int64)), (.long (0 : Int64)), (.long (0 : Int64))] [(.long r207)] (tw62 hw) (tw63 hw) (tw60 hw) (tw64 hw) (by decide) (rm11_2_0 l Z a0 hw [] (0 : Int64) _ n0 X.size) pd6 rfl rfl rfl at_217 (q := 220) rfl (W := 2) rfl (by decide) (by decide) (c2 := 3) (s2 := 11) rfl rfl (by decide) (by decide) (fun v T h' X hQ => ?_)
              obtain ⟨rfl, rfl⟩ := hQ
              show Goes p e below s _ n0 _ (T.setTop (mkF m 220 #[.val (.long q1), .second, .val (.long q2), .second, .val (.long q3), .second, .val (.int p4), .val (.long q5), .second, .val (.long x5), .second, .val (.long x12), .second, .val (.long x20), .second, .val (.long (1 : Int64)), .second, .val (.long (1 : Int64)), .second, .val (.long (0 : Int64)), .second, .val (.ref b5), .val (.long r96), .second, .val (.long x5), .second, .val (.long r165), .second, .val (.long (0 : Int64)), .second, .unset, .unset] [(.long (0 : Int64)), (.long r207)]))
              refine g_callS X [(.long r207), (.long (0 : Int64))] [] (tw58 hw) (tw59 hw) (tw60 hw) (tw61 hw) (by decide) (rm10 l Z a0 hw [] r207 (0 : Int64) _ n0 X.size) pd4 rfl rfl rfl at_220 (q := 223) rfl (W := 0) rfl (by decide) (by decide) (c2 := 3) (s2 := 11) rfl rfl (by decide) (by decide) (fun v T h' X hQ => ?_)
              obtain ⟨rfl, rfl⟩ := hQ
              show Goes p e below s _ n0 _ (T.setTop (mkF m 223 #[.val (.long q1), .second, .val (.long q2), .second, .val (.long q3), .second, .val (.int p4), .val (.long q5), .second, .val (.long x5), .second, .val (.long x12), .second, .val (.long x20), .second, .val (.long (1 : Int64)), .second, .val (.long (1 : Int64)), .second, .val (.long (0 : Int64)), .second, .val (.ref b5), .val (.long r96), .second, .val (.long x5), .second, .val (.long r165), .second, .val (.long (0 : Int64)), .second, .unset, .unset] [(.long (if ((9223372036854775807 : Int64) - (0 : Int64)) < r207 then (9223372036854775807 : Int64) else (r207 + (0 : Int64))))]))
              refine g_letJ (fun r220 hr220 => ?_)
              have s_r220 := own_satI hr220 s_r207.1 (by decide)
              refine g_lstore X at_223 rfl (q := 225) (L' := #[.val (.long q1), .second, .val (.long q2), .second, .val (.long q3), .second, .val (.int p4), .val (.long q5), .second, .val (.long x5), .second, .val (.long x12), .second, .val (.long x20), .second, .val (.long (1 : Int64)), .second, .val (.long (1 : Int64)), .second, .val (.long (0 : Int64)), .second, .val (.ref b5), .val (.long r96), .second, .val (.long x5), .second, .val (.long r165), .second, .val (.long (0 : Int64)), .second, .val (.long r220), .second]) rfl ?_
              refine g_lload X at_225 rfl (q := 227) rfl ?_
              refine g_lload X at_227 rfl (q := 229) rfl ?_
              refine g_jT1 X (J := 238) (P := fun (s0_238 : Int32) => s0_238 = (bI (r96 = r220))) (L := fun s0_238 => #[.val (.long q1), .second, .val (.long q2), .second, .val (.long q3), .second, .val (.int p4), .val (.long q5), .second, .val (.long x5), .second, .val (.long x12), .second, .val (.long x20), .second, .val (.long (1 : Int64)), .second, .val (.long (1 : Int64)), .second, .val (.long (0 : Int64)), .second, .val (.ref b5), .val (.long r96), .second, .val (.long x5), .second, .val (.long r165), .second, .val (.long (0 : Int64)), .second, .val (.long r220), .second]) (S := fun s0_238 => [(.int s0_238)]) ?_ ?_
              · intro T X s0_238 hs0_238
                replace hs0_238 : s0_238 = (bI (r96 = r220)) := hs0_238
                subst hs0_238
                show Goes p e below s _ n0 _ (T.setTop (mkF m 238 #[.val (.long q1), .second, .val (.long q2), .second, .val (.long q3), .second, .val (.int p4), .val (.long q5), .second, .val (.long x5), .second, .val (.long x12), .second, .val (.long x20), .second, .val (.long (1 : Int64)), .second, .val (.long (1 : Int64)), .second, .val (.long (0 : Int64)), .second, .val (.ref b5), .val (.long r96), .second, .val (.long x5), .second, .val (.long r165), .second, .val (.long (0 : Int64)), .second, .val (.long r220), .second] [(.int (bI (r96 = r220)))]))
                refine g_retZ X at_238 (by decide) (by decide) (bI_01 _) (own_fin ?_)
                show r96 = r220
                apply Int64.toInt_inj.mp
                (try simp only [Int64.reduceToInt] at s_x5 s_x12 s_x20 s_w84 s_r96 s_r165 s_r207 s_r220)
                omega
              · intro J238_35
                refine g_lcmpB X at_229 (q1 := 230) rfl at_230 (Or.inr (Or.inr rfl)) (q := 233) rfl (by decide) (t := 237) rfl (fun (c36 : r96 = r220) => ?_) (fun (c36 : ¬ (r96 = r220)) => ?_)
                · skip
                  refine g_iconst X at_233 rfl (q := 234) (v := 1) rfl ?_
                  refine g_goto X at_234 (by decide) (q := 238) rfl ?_
                  exact J238_35 T X _ (bI_t c36)
                · skip
                  refine g_iconst X at_237 rfl (q := 238) (v := 0) rfl ?_
                  exact J238_35 T X _ (bI_f c36)
          · skip
            exact absurd c34 (by decide)
      · subst q4
        show Goes p e below s _ n0 _ (T.setTop (mkF m 89 #[.val (.long q1), .second, .val (.long q2), .second, .val (.long q3), .second, .val (.int p4), .val (.long q5), .second, .val (.long x5), .second, .val (.long x12), .second, .val (.long x20), .second, .val (.long (1 : Int64)), .second, .val (.long (1 : Int64)), .second, .val (.long (1 : Int64)), .second, .val (.ref b5), .unset, .unset, .unset, .unset, .unset, .unset, .unset, .unset, .unset, .unset] [(.ref b5)]))
        refine g_lload X at_89 rfl (q := 91) rfl ?_
        refine g_callV X O_b5.1 [(.long (1 : Int64))] [] (tw48 hw) (tw49 hw) (tw51 hw) (tw50 hw) (tw3 hw) (tw52 hw) (by decide) (rm8_2_2_1 l Z a0 hw [] b5 (1 : Int64) q5 i1_56 n1_56 t1_84 b1_84 (own_up (own_up (fun _ => 0) 0 (0 : Int64)) 1 (1 : Int64)) (own_up (own_up (own_up (fun _ => 0) 0 x5) 1 x12) 1 w84) (((0 + x5.toInt) + x12.toInt) + (w84.toInt - x12.toInt)) (((0 + 1) + 1) + 1) _ n0 X.size O_b5 A_i1_56 A_n1_56 g_b5 ne_b5_i1_56 ne_b5_n1_56 ne_i1_56_b5 ne_i1_56_n1_56 ne_n1_56_b5 ne_n1_56_i1_56 (by decide) (by decide) (show (0 : Int) ≤ (x5 : Int64).toInt from s_x5.1) (show (x5 : Int64).toInt ≤ (((0 + x5.toInt) + x12.toInt) + (w84.toInt - x12.toInt)) from by omega) hSw84 (by decide)) pd0 rfl rfl rfl at_91 (q := 94) rfl (W := 0) rfl (by decide) (by decide) (c2 := 3) (s2 := 11) rfl rfl (by decide) (by decide) (fun v T h' X hQ => ?_)
        obtain ⟨t1_91, b1_91, i1_91, n1_91, o1_91, s1_91, rfl, Kc, O_b5', hS1_91⟩ := hQ
        have A_i1_56 := A_i1_56.keep Kc (ninS ne_i1_56_b5 nin0)
        have A_n1_56 := A_n1_56.keep Kc (ninS ne_n1_56_b5 nin0)
        have O_b5 := O_b5'
        show Goes p e below s _ n0 _ (T.setTop (mkF m 94 #[.val (.long q1), .second, .val (.long q2), .second, .val (.long q3), .second, .val (.int p4), .val (.long q5), .second, .val (.long x5), .second, .val (.long x12), .second, .val (.long x20), .second, .val (.long (1 : Int64)), .second, .val (.long (1 : Int64)), .second, .val (.long (1 : Int64)), .second, .val (.ref b5), .unset, .unset, .unset, .unset, .unset, .unset, .unset, .unset, .unset, .unset] []))
        have hT : OKT t1_91 b1_91 ((((0 + x5.toInt) + x12.toInt) + (w84.toInt - x12.toInt)) - x5.toInt) (((0 + 1) + 1) + 1) := hS1_91
        refine g_aload X at_94 rfl (q := 96) rfl rfl ?_
        refine g_callV X O_b5.1 [] [] (tw53 hw) (tw54 hw) (tw56 hw) (tw55 hw) (tw3 hw) (tw57 hw) (by decide) (rm9 l Z a0 hw [] b5 q5 i1_91 n1_91 o1_91 s1_91 t1_91 b1_91 _ n0 X.size O_b5) pd5 rfl rfl rfl at_96 (q := 99) rfl (W := 0) rfl (by decide) (by decide) (c2 := 3) (s2 := 11) rfl rfl (by decide) (by decide) (fun v T h' X hQ => ?_)
        obtain ⟨rfl, rfl⟩ := hQ
        show Goes p e below s _ n0 _ (T.setTop (mkF m 99 #[.val (.long q1), .second, .val (.long q2), .second, .val (.long q3), .second, .val (.int p4), .val (.long q5), .second, .val (.long x5), .second, .val (.long x12), .second, .val (.long x20), .second, .val (.long (1 : Int64)), .second, .val (.long (1 : Int64)), .second, .val (.long (1 : Int64)), .second, .val (.ref b5), .unset, .unset, .unset, .unset, .unset, .unset, .unset, .unset, .unset, .unset] [(.long (if b1_91 = (0 : Int64) then t1_91 else (9223372036854775807 : Int64)))]))
        refine g_letJ (fun r96 hr96 => ?_)
        have s_r96 := own_totI hr96 hT
        refine g_lstore X at_99 rfl (q := 101) (L' := #[.val (.long q1), .second, .val (.long q2), .second, .val (.long q3), .second, .val (.int p4), .val (.long q5), .second, .val (.long x5), .second, .val (.long x12), .second, .val (.long x20), .second, .val (.long (1 : Int64)), .second, .val (.long (1 : Int64)), .second, .val (.long (1 : Int64)), .second, .val (.ref b5), .val (.long r96), .second, .unset, .unset, .unset, .unset, .unset, .unset, .unset, .unset]) rfl ?_
        refine g_lload X at_101 rfl (q := 103) rfl ?_
        refine g_lstore X at_103 rfl (q := 105) (L' := #[.val (.long q1), .second, .val (.long q2), .second, .val (.long q3), .second, .val (.int p4), .val (.long q5), .second, .val (.long x5), .second, .val (.long x12), .second, .val (.long x20), .second, .val (.long (1 : Int64)), .second, .val (.long (1 : Int64)), .second, .val (.long (1 : Int64)), .second, .val (.ref b5), .val (.long r96), .second, .val (.long x5), .second, .unset, .unset, .unset, .unset, .unset, .unset]) rfl ?_
        refine g_lconst X at_105 rfl (q := 106) (v := 0) rfl ?_
        refine g_lstore X at_106 rfl (q := 108) (L' := #[.val (.long q1), .second, .val (.long q2), .second, .val (.long q3), .second, .val (.int p4), .val (.long q5), .second, .val (.long x5), .second, .val (.long x12), .second, .val (.long x20), .second, .val (.long (1 : Int64)), .second, .val (.long (1 : Int64)), .second, .val (.long (1 : Int64)), .second, .val (.ref b5), .val (.long r96), .second, .val (.long x5), .second, .val (.long (0 : Int64)), .second, .unset, .unset, .unset, .unset]) rfl ?_
        refine g_lconst X at_108 rfl (q := 109) (v := 0) rfl ?_
        refine g_lstore X at_109 rfl (q := 111) (L' := #[.val (.long q1), .second, .val (.long q2), .second, .val (.long q3), .second, .val (.int p4), .val (.long q5), .second, .val (.long x5), .second, .val (.long x12), .second, .val (.long x20), .second, .val (.long (1 : Int64)), .second, .val (.long (1 : Int64)), .second, .val (.long (1 : Int64)), .second, .val (.ref b5), .val (.long r96), .second, .val (.long x5), .second, .val (.long (0 : Int64)), .second, .val (.long (0 : Int64)), .second, .unset, .unset]) rfl ?_
        refine g_lload X at_111 rfl (q := 113) rfl ?_
        refine g_lconst X at_113 rfl (q := 114) (v := 0) rfl ?_
        refine g_lcmpB X at_114 (q1 := 115) rfl at_115 (Or.inr (Or.inr rfl)) (q := 118) rfl (by decide) (t := 130) rfl (fun (c37 : (1 : Int64) = (0 : Int64)) => ?_) (fun (c37 : ¬ ((1 : Int64) = (0 : Int64))) => ?_)
        · skip
          exact absurd c37 (by decide)
        · skip
          refine g_lload X at_130 rfl (q := 132) rfl ?_
          refine g_lstore X at_132 rfl (q := 134) (L' := #[.val (.long q1), .second, .val (.long q2), .second, .val (.long q3), .second, .val (.int p4), .val (.long q5), .second, .val (.long x5), .second, .val (.long x12), .second, .val (.long x20), .second, .val (.long (1 : Int64)), .second, .val (.long (1 : Int64)), .second, .val (.long (1 : Int64)), .second, .val (.ref b5), .val (.long r96), .second, .val (.long x5), .second, .val (.long x12), .second, .val (.long (0 : Int64)), .second, .unset, .unset]) rfl ?_
          refine g_lload X at_134 rfl (q := 136) rfl ?_
          refine g_lload X at_136 rfl (q := 138) rfl ?_
          refine g_lcmpB X at_138 (q1 := 139) rfl at_139 (Or.inr (Or.inr rfl)) (q := 142) rfl (by decide) (t := 173) rfl (fun (c38 : (1 : Int64) = (1 : Int64)) => ?_) (fun (c38 : ¬ ((1 : Int64) = (1 : Int64))) => ?_)
          · skip
            refine g_lload X at_142 rfl (q := 144) rfl ?_
            refine g_lconst X at_144 rfl (q := 145) (v := 0) rfl ?_
            refine g_lcmpB X at_145 (q1 := 146) rfl at_146 (Or.inr (Or.inr rfl)) (q := 149) rfl (by decide) (t := 161) rfl (fun (c39 : (1 : Int64) = (0 : Int64)) => ?_) (fun (c39 : ¬ ((1 : Int64) = (0 : Int64))) => ?_)
            · skip
              exact absurd c39 (by decide)
            · skip
              refine g_lload X at_161 rfl (q := 163) rfl ?_
              refine g_lload X at_163 rfl (q := 165) rfl ?_
              refine g_callS X [(.long x12), (.long x20)] [] (tw58 hw) (tw59 hw) (tw60 hw) (tw61 hw) (by decide) (rm10 l Z a0 hw [] x12 x20 _ n0 X.size) pd4 rfl rfl rfl at_165 (q := 168) rfl (W := 0) rfl (by decide) (by decide) (c2 := 3) (s2 := 11) rfl rfl (by decide) (by decide) (fun v T h' X hQ => ?_)
              obtain ⟨rfl, rfl⟩ := hQ
              show Goes p e below s _ n0 _ (T.setTop (mkF m 168 #[.val (.long q1), .second, .val (.long q2), .second, .val (.long q3), .second, .val (.int p4), .val (.long q5), .second, .val (.long x5), .second, .val (.long x12), .second, .val (.long x20), .second, .val (.long (1 : Int64)), .second, .val (.long (1 : Int64)), .second, .val (.long (1 : Int64)), .second, .val (.ref b5), .val (.long r96), .second, .val (.long x5), .second, .val (.long x12), .second, .val (.long (0 : Int64)), .second, .unset, .unset] [(.long (if ((9223372036854775807 : Int64) - x20) < x12 then (9223372036854775807 : Int64) else (x12 + x20)))]))
              refine g_letJ (fun r165 hr165 => ?_)
              have s_r165 := own_satI hr165 s_x12.1 s_x20.1
              refine g_lstore X at_168 rfl (q := 170) (L' := #[.val (.long q1), .second, .val (.long q2), .second, .val (.long q3), .second, .val (.int p4), .val (.long q5), .second, .val (.long x5), .second, .val (.long x12), .second, .val (.long x20), .second, .val (.long (1 : Int64)), .second, .val (.long (1 : Int64)), .second, .val (.long (1 : Int64)), .second, .val (.ref b5), .val (.long r96), .second, .val (.long x5), .second, .val (.long r165), .second, .val (.long (0 : Int64)), .second, .unset, .unset]) rfl ?_
              refine g_goto X at_170 (by decide) (q := 191) rfl ?_
              refine g_lconst X at_191 rfl (q := 192) (v := 0) rfl ?_
              refine g_lload X at_192 rfl (q := 194) rfl ?_
              refine g_lload X at_194 rfl (q := 196) rfl ?_
              refine g_callS X [(.long (0 : Int64)), (.long x5), (.long (1 : Int64))] [] (tw62 hw) (tw63 hw) (tw60 hw) (tw64 hw) (by decide) (rm11_0_1 l Z a0 hw [] x5 _ n0 X.size) pd6 rfl rfl rfl at_196 (q := 199) rfl (W := 0) rfl (by decide) (by decide) (c2 := 3) (s2 := 11) rfl rfl (by decide) (by decide) (fun v T h' X hQ => ?_)
              obtain ⟨rfl, rfl⟩ := hQ
              show Goes p e below s _ n0 _ (T.setTop (mkF m 199 #[.val (.long q1), .second, .val (.long q2), .second, .val (.long q3), .second, .val (.int p4), .val (.long q5), .second, .val (.long x5), .second, .val (.long x12), .second, .val (.long x20), .second, .val (.long (1 : Int64)), .second, .val (.long (1 : Int64)), .second, .val (.long (1 : Int64)), .second, .val (.ref b5), .val (.long r96), .second, .val (.long x5), .second, .val (.long r165), .second, .val (.long (0 : Int64)), .second, .unset, .unset] [(.long (0 : Int64))]))
              refine g_lconst X at_199 rfl (q := 200) (v := 1) rfl ?_
              refine g_lload X at_200 rfl (q := 202) rfl ?_
              refine g_lload X at_202 rfl (q := 204) rfl ?_
              refine g_callS X [(.long (1 : Int64)), (.long r165), (.long (1 : Int64))] [(.long (0 : Int64))] (tw62 hw) (tw63 hw) (tw60 hw) (tw64 hw) (by decide) (rm11_1_1 l Z a0 hw [] r165 _ n0 X.size) pd6 rfl rfl rfl at_204 (q := 207) rfl (W := 2) rfl (by decide) (by decide) (c2 := 3) (s2 := 11) rfl rfl (by decide) (by decide) (fun v T h' X hQ => ?_)
              obtain ⟨rfl, rfl⟩ := hQ
              show Goes p e below s _ n0 _ (T.setTop (mkF m 207 #[.val (.long q1), .second, .val (.long q2), .second, .val (.long q3), .second, .val (.int p4), .val (.long q5), .second, .val (.long x5), .second, .val (.long x12), .second, .val (.long x20), .second, .val (.long (1 : Int64)), .second, .val (.long (1 : Int64)), .second, .val (.long (1 : Int64)), .second, .val (.ref b5), .val (.long r96), .second, .val (.long x5), .second, .val (.long r165), .second, .val (.long (0 : Int64)), .second, .unset, .unset] [(.long r165), (.long (0 : Int64))]))
              refine g_callS X [(.long (0 : Int64)), (.long r165)] [] (tw58 hw) (tw59 hw) (tw60 hw) (tw61 hw) (by decide) (rm10 l Z a0 hw [] (0 : Int64) r165 _ n0 X.size) pd4 rfl rfl rfl at_207 (q := 210) rfl (W := 0) rfl (by decide) (by decide) (c2 := 3) (s2 := 11) rfl rfl (by decide) (by decide) (fun v T h' X hQ => ?_)
              obtain ⟨rfl, rfl⟩ := hQ
              show Goes p e below s _ n0 _ (T.setTop (mkF m 210 #[.val (.long q1), .second, .val (.long q2), .second, .val (.long q3), .second, .val (.int p4), .val (.long q5), .second, .val (.long x5), .second, .val (.long x12), .second, .val (.long x20), .second, .val (.long (1 : Int64)), .second, .val (.long (1 : Int64)), .second, .val (.long (1 : Int64)), .second, .val (.ref b5), .val (.long r96), .second, .val (.long x5), .second, .val (.long r165), .second, .val (.long (0 : Int64)), .second, .unset, .unset] [(.long (if ((9223372036854775807 : Int64) - r165) < (0 : Int64) then (9223372036854775807 : Int64) else ((0 : Int64) + r165)))]))
              refine g_letJ (fun r207 hr207 => ?_)
              have s_r207 := own_satI hr207 (by decide) s_r165.1
              refine g_ldc2 X (tw65 hw) at_210 (q := 213) rfl ?_
              refine g_lload X at_213 rfl (q := 215) rfl ?_
              refine g_lload X at_215 rfl (q := 217) rfl ?_
              refine g_callS X [(.long (2 : Int64)), (.long (0 : Int64)), (.long (1 : Int64))] [(.long r207)] (tw62 hw) (tw63 hw) (tw60 hw) (tw64 hw) (by decide) (rm11_2_1 l Z a0 hw [] (0 : Int64) _ n0 X.size) pd6 rfl rfl rfl at_217 (q := 220) rfl (W := 2) rfl (by decide) (by decide) (c2 := 3) (s2 := 11) rfl rfl (by decide) (by decide) (fun v T h' X hQ => ?_)
              obtain ⟨rfl, rfl⟩ := hQ
              show Goes p e below s _ n0 _ (T.setTop (mkF m 220 #[.val (.long q1), .second, .val (.long q2), .second, .val (.long q3), .second, .val (.int p4), .val (.long q5), .second, .val (.long x5), .second, .val (.long x12), .second, .val (.long x20), .second, .val (.long (1 : Int64)), .second, .val (.long (1 : Int64)), .second, .val (.long (1 : Int64)), .second, .val (.ref b5), .val (.long r96), .second, .val (.long x5), .second, .val (.long r165), .second, .val (.long (0 : Int64)), .second, .unset, .unset] [(.long (0 : Int64)), (.long r207)]))
              refine g_callS X [(.long r207), (.long (0 : Int64))] [] (tw58 hw) (tw59 hw) (tw60 hw) (tw61 hw) (by decide) (rm10 l Z a0 hw [] r207 (0 : Int64) _ n0 X.size) pd4 rfl rfl rfl at_220 (q := 223) rfl (W := 0) rfl (by decide) (by decide) (c2 := 3) (s2 := 11) rfl rfl (by decide) (by decide) (fun v T h' X hQ => ?_)
              obtain ⟨rfl, rfl⟩ := hQ
              show Goes p e below s _ n0 _ (T.setTop (mkF m 223 #[.val (.long q1), .second, .val (.long q2), .second, .val (.long q3), .second, .val (.int p4), .val (.long q5), .second, .val (.long x5), .second, .val (.long x12), .second, .val (.long x20), .second, .val (.long (1 : Int64)), .second, .val (.long (1 : Int64)), .second, .val (.long (1 : Int64)), .second, .val (.ref b5), .val (.long r96), .second, .val (.long x5), .second, .val (.long r165), .second, .val (.long (0 : Int64)), .second, .unset, .unset] [(.long (if ((9223372036854775807 : Int64) - (0 : Int64)) < r207 then (9223372036854775807 : Int64) else (r207 + (0 : Int64))))]))
              refine g_letJ (fun r220 hr220 => ?_)
              have s_r220 := own_satI hr220 s_r207.1 (by decide)
              refine g_lstore X at_223 rfl (q := 225) (L' := #[.val (.long q1), .second, .val (.long q2), .second, .val (.long q3), .second, .val (.int p4), .val (.long q5), .second, .val (.long x5), .second, .val (.long x12), .second, .val (.long x20), .second, .val (.long (1 : Int64)), .second, .val (.long (1 : Int64)), .second, .val (.long (1 : Int64)), .second, .val (.ref b5), .val (.long r96), .second, .val (.long x5), .second, .val (.long r165), .second, .val (.long (0 : Int64)), .second, .val (.long r220), .second]) rfl ?_
              refine g_lload X at_225 rfl (q := 227) rfl ?_
              refine g_lload X at_227 rfl (q := 229) rfl ?_
              refine g_jT1 X (J := 238) (P := fun (s0_238 : Int32) => s0_238 = (bI (r96 = r220))) (L := fun s0_238 => #[.val (.long q1), .second, .val (.long q2), .second, .val (.long q3), .second, .val (.int p4), .val (.long q5), .second, .val (.long x5), .second, .val (.long x12), .second, .val (.long x20), .second, .val (.long (1 : Int64)), .second, .val (.long (1 : Int64)), .second, .val (.long (1 : Int64)), .second, .val (.ref b5), .val (.long r96), .second, .val (.long x5), .second, .val (.long r165), .second, .val (.long (0 : Int64)), .second, .val (.long r220), .second]) (S := fun s0_238 => [(.int s0_238)]) ?_ ?_
              · intro T X s0_238 hs0_238
                replace hs0_238 : s0_238 = (bI (r96 = r220)) := hs0_238
                subst hs0_238
                show Goes p e below s _ n0 _ (T.setTop (mkF m 238 #[.val (.long q1), .second, .val (.long q2), .second, .val (.long q3), .second, .val (.int p4), .val (.long q5), .second, .val (.long x5), .second, .val (.long x12), .second, .val (.long x20), .second, .val (.long (1 : Int64)), .second, .val (.long (1 : Int64)), .second, .val (.long (1 : Int64)), .second, .val (.ref b5), .val (.long r96), .second, .val (.long x5), .second, .val (.long r165), .second, .val (.long (0 : Int64)), .second, .val (.long r220), .second] [(.int (bI (r96 = r220)))]))
                refine g_retZ X at_238 (by decide) (by decide) (bI_01 _) (own_fin ?_)
                show r96 = r220
                apply Int64.toInt_inj.mp
                (try simp only [Int64.reduceToInt] at s_x5 s_x12 s_x20 s_w84 s_r96 s_r165 s_r207 s_r220)
                omega
              · intro J238_39
                refine g_lcmpB X at_229 (q1 := 230) rfl at_230 (Or.inr (Or.inr rfl)) (q := 233) rfl (by decide) (t := 237) rfl (fun (c40 : r96 = r220) => ?_) (fun (c40 : ¬ (r96 = r220)) => ?_)
                · skip
                  refine g_iconst X at_233 rfl (q := 234) (v := 1) rfl ?_
                  refine g_goto X at_234 (by decide) (q := 238) rfl ?_
                  exact J238_39 T X _ (bI_t c40)
                · skip
                  refine g_iconst X at_237 rfl (q := 238) (v := 0) rfl ?_
                  exact J238_39 T X _ (bI_f c40)
          · skip
            exact absurd c38 (by decide)
      · subst q4
        show Goes p e below s _ n0 _ (T.setTop (mkF m 89 #[.val (.long q1), .second, .val (.long q2), .second, .val (.long q3), .second, .val (.int p4), .val (.long q5), .second, .val (.long x5), .second, .val (.long x12), .second, .val (.long x20), .second, .val (.long (1 : Int64)), .second, .val (.long (1 : Int64)), .second, .val (.long (2 : Int64)), .second, .val (.ref b5), .unset, .unset, .unset, .unset, .unset, .unset, .unset, .unset, .unset, .unset] [(.ref b5)]))
        refine g_lload X at_89 rfl (q := 91) rfl ?_
        refine g_callV X O_b5.1 [(.long (2 : Int64))] [] (tw48 hw) (tw49 hw) (tw51 hw) (tw50 hw) (tw3 hw) (tw52 hw) (by decide) (rm8_2_2_2 l Z a0 hw [] b5 (2 : Int64) q5 i1_56 n1_56 t1_84 b1_84 (own_up (own_up (fun _ => 0) 0 (0 : Int64)) 1 (1 : Int64)) (own_up (own_up (own_up (fun _ => 0) 0 x5) 1 x12) 1 w84) (((0 + x5.toInt) + x12.toInt) + (w84.toInt - x12.toInt)) (((0 + 1) + 1) + 1) _ n0 X.size O_b5 A_i1_56 A_n1_56 g_b5 ne_b5_i1_56 ne_b5_n1_56 ne_i1_56_b5 ne_i1_56_n1_56 ne_n1_56_b5 ne_n1_56_i1_56 (by decide) (by decide) (show (0 : Int) ≤ (x5 : Int64).toInt from s_x5.1) (show (0 : Int) ≤ (w84 : Int64).toInt from s_w84.1) (show (x5 : Int64).toInt + (w84 : Int64).toInt ≤ (((0 + x5.toInt) + x12.toInt) + (w84.toInt - x12.toInt)) from by omega) hSw84 (by decide)) pd0 rfl rfl rfl at_91 (q := 94) rfl (W := 0) rfl (by decide) (by decide) (c2 := 3) (s2 := 11) rfl rfl (by decide) (by decide) (fun v T h' X hQ => ?_)
        obtain ⟨t1_91, b1_91, i1_91, n1_91, o1_91, s1_91, rfl, Kc, O_b5', hS1_91⟩ := hQ
        have A_i1_56 := A_i1_56.keep Kc (ninS ne_i1_56_b5 nin0)
        have A_n1_56 := A_n1_56.keep Kc (ninS ne_n1_56_b5 nin0)
        have O_b5 := O_b5'
        show Goes p e below s _ n0 _ (T.setTop (mkF m 94 #[.val (.long q1), .second, .val (.long q2), .second, .val (.long q3), .second, .val (.int p4), .val (.long q5), .second, .val (.long x5), .second, .val (.long x12), .second, .val (.long x20), .second, .val (.long (1 : Int64)), .second, .val (.long (1 : Int64)), .second, .val (.long (2 : Int64)), .second, .val (.ref b5), .unset, .unset, .unset, .unset, .unset, .unset, .unset, .unset, .unset, .unset] []))
        have hT : OKT t1_91 b1_91 ((((0 + x5.toInt) + x12.toInt) + (w84.toInt - x12.toInt)) - x5.toInt - w84.toInt) (((0 + 1) + 1) + 1) := hS1_91
        refine g_aload X at_94 rfl (q := 96) rfl rfl ?_
        refine g_callV X O_b5.1 [] [] (tw53 hw) (tw54 hw) (tw56 hw) (tw55 hw) (tw3 hw) (tw57 hw) (by decide) (rm9 l Z a0 hw [] b5 q5 i1_91 n1_91 o1_91 s1_91 t1_91 b1_91 _ n0 X.size O_b5) pd5 rfl rfl rfl at_96 (q := 99) rfl (W := 0) rfl (by decide) (by decide) (c2 := 3) (s2 := 11) rfl rfl (by decide) (by decide) (fun v T h' X hQ => ?_)
        obtain ⟨rfl, rfl⟩ := hQ
        show Goes p e below s _ n0 _ (T.setTop (mkF m 99 #[.val (.long q1), .second, .val (.long q2), .second, .val (.long q3), .second, .val (.int p4), .val (.long q5), .second, .val (.long x5), .second, .val (.long x12), .second, .val (.long x20), .second, .val (.long (1 : Int64)), .second, .val (.long (1 : Int64)), .second, .val (.long (2 : Int64)), .second, .val (.ref b5), .unset, .unset, .unset, .unset, .unset, .unset, .unset, .unset, .unset, .unset] [(.long (if b1_91 = (0 : Int64) then t1_91 else (9223372036854775807 : Int64)))]))
        refine g_letJ (fun r96 hr96 => ?_)
        have s_r96 := own_totI hr96 hT
        refine g_lstore X at_99 rfl (q := 101) (L' := #[.val (.long q1), .second, .val (.long q2), .second, .val (.long q3), .second, .val (.int p4), .val (.long q5), .second, .val (.long x5), .second, .val (.long x12), .second, .val (.long x20), .second, .val (.long (1 : Int64)), .second, .val (.long (1 : Int64)), .second, .val (.long (2 : Int64)), .second, .val (.ref b5), .val (.long r96), .second, .unset, .unset, .unset, .unset, .unset, .unset, .unset, .unset]) rfl ?_
        refine g_lload X at_101 rfl (q := 103) rfl ?_
        refine g_lstore X at_103 rfl (q := 105) (L' := #[.val (.long q1), .second, .val (.long q2), .second, .val (.long q3), .second, .val (.int p4), .val (.long q5), .second, .val (.long x5), .second, .val (.long x12), .second, .val (.long x20), .second, .val (.long (1 : Int64)), .second, .val (.long (1 : Int64)), .second, .val (.long (2 : Int64)), .second, .val (.ref b5), .val (.long r96), .second, .val (.long x5), .second, .unset, .unset, .unset, .unset, .unset, .unset]) rfl ?_
        refine g_lconst X at_105 rfl (q := 106) (v := 0) rfl ?_
        refine g_lstore X at_106 rfl (q := 108) (L' := #[.val (.long q1), .second, .val (.long q2), .second, .val (.long q3), .second, .val (.int p4), .val (.long q5), .second, .val (.long x5), .second, .val (.long x12), .second, .val (.long x20), .second, .val (.long (1 : Int64)), .second, .val (.long (1 : Int64)), .second, .val (.long (2 : Int64)), .second, .val (.ref b5), .val (.long r96), .second, .val (.long x5), .second, .val (.long (0 : Int64)), .second, .unset, .unset, .unset, .unset]) rfl ?_
        refine g_lconst X at_108 rfl (q := 109) (v := 0) rfl ?_
        refine g_lstore X at_109 rfl (q := 111) (L' := #[.val (.long q1), .second, .val (.long q2), .second, .val (.long q3), .second, .val (.int p4), .val (.long q5), .second, .val (.long x5), .second, .val (.long x12), .second, .val (.long x20), .second, .val (.long (1 : Int64)), .second, .val (.long (1 : Int64)), .second, .val (.long (2 : Int64)), .second, .val (.ref b5), .val (.long r96), .second, .val (.long x5), .second, .val (.long (0 : Int64)), .second, .val (.long (0 : Int64)), .second, .unset, .unset]) rfl ?_
        refine g_lload X at_111 rfl (q := 113) rfl ?_
        refine g_lconst X at_113 rfl (q := 114) (v := 0) rfl ?_
        refine g_lcmpB X at_114 (q1 := 115) rfl at_115 (Or.inr (Or.inr rfl)) (q := 118) rfl (by decide) (t := 130) rfl (fun (c41 : (1 : Int64) = (0 : Int64)) => ?_) (fun (c41 : ¬ ((1 : Int64) = (0 : Int64))) => ?_)
        · skip
          exact absurd c41 (by decide)
        · skip
          refine g_lload X at_130 rfl (q := 132) rfl ?_
          refine g_lstore X at_132 rfl (q := 134) (L' := #[.val (.long q1), .second, .val (.long q2), .second, .val (.long q3), .second, .val (.int p4), .val (.long q5), .second, .val (.long x5), .second, .val (.long x12), .second, .val (.long x20), .second, .val (.long (1 : Int64)), .second, .val (.long (1 : Int64)), .second, .val (.long (2 : Int64)), .second, .val (.ref b5), .val (.long r96), .second, .val (.long x5), .second, .val (.long x12), .second, .val (.long (0 : Int64)), .second, .unset, .unset]) rfl ?_
          refine g_lload X at_134 rfl (q := 136) rfl ?_
          refine g_lload X at_136 rfl (q := 138) rfl ?_
          refine g_lcmpB X at_138 (q1 := 139) rfl at_139 (Or.inr (Or.inr rfl)) (q := 142) rfl (by decide) (t := 173) rfl (fun (c42 : (1 : Int64) = (1 : Int64)) => ?_) (fun (c42 : ¬ ((1 : Int64) = (1 : Int64))) => ?_)
          · skip
            refine g_lload X at_142 rfl (q := 144) rfl ?_
            refine g_lconst X at_144 rfl (q := 145) (v := 0) rfl ?_
            refine g_lcmpB X at_145 (q1 := 146) rfl at_146 (Or.inr (Or.inr rfl)) (q := 149) rfl (by decide) (t := 161) rfl (fun (c43 : (1 : Int64) = (0 : Int64)) => ?_) (fun (c43 : ¬ ((1 : Int64) = (0 : Int64))) => ?_)
            · skip
              exact absurd c43 (by decide)
            · skip
              refine g_lload X at_161 rfl (q := 163) rfl ?_
              refine g_lload X at_163 rfl (q := 165) rfl ?_
              refine g_callS X [(.long x12), (.long x20)] [] (tw58 hw) (tw59 hw) (tw60 hw) (tw61 hw) (by decide) (rm10 l Z a0 hw [] x12 x20 _ n0 X.size) pd4 rfl rfl rfl at_165 (q := 168) rfl (W := 0) rfl (by decide) (by decide) (c2 := 3) (s2 := 11) rfl rfl (by decide) (by decide) (fun v T h' X hQ => ?_)
              obtain ⟨rfl, rfl⟩ := hQ
              show Goes p e below s _ n0 _ (T.setTop (mkF m 168 #[.val (.long q1), .second, .val (.long q2), .second, .val (.long q3), .second, .val (.int p4), .val (.long q5), .second, .val (.long x5), .second, .val (.long x12), .second, .val (.long x20), .second, .val (.long (1 : Int64)), .second, .val (.long (1 : Int64)), .second, .val (.long (2 : Int64)), .second, .val (.ref b5), .val (.long r96), .second, .val (.long x5), .second, .val (.long x12), .second, .val (.long (0 : Int64)), .second, .unset, .unset] [(.long (if ((9223372036854775807 : Int64) - x20) < x12 then (9223372036854775807 : Int64) else (x12 + x20)))]))
              refine g_letJ (fun r165 hr165 => ?_)
              have s_r165 := own_satI hr165 s_x12.1 s_x20.1
              refine g_lstore X at_168 rfl (q := 170) (L' := #[.val (.long q1), .second, .val (.long q2), .second, .val (.long q3), .second, .val (.int p4), .val (.long q5), .second, .val (.long x5), .second, .val (.long x12), .second, .val (.long x20), .second, .val (.long (1 : Int64)), .second, .val (.long (1 : Int64)), .second, .val (.long (2 : Int64)), .second, .val (.ref b5), .val (.long r96), .second, .val (.long x5), .second, .val (.long r165), .second, .val (.long (0 : Int64)), .second, .unset, .unset]) rfl ?_
              refine g_goto X at_170 (by decide) (q := 191) rfl ?_
              refine g_lconst X at_191 rfl (q := 192) (v := 0) rfl ?_
              refine g_lload X at_192 rfl (q := 194) rfl ?_
              refine g_lload X at_194 rfl (q := 196) rfl ?_
              refine g_callS X [(.long (0 : Int64)), (.long x5), (.long (2 : Int64))] [] (tw62 hw) (tw63 hw) (tw60 hw) (tw64 hw) (by decide) (rm11_0_2 l Z a0 hw [] x5 _ n0 X.size) pd6 rfl rfl rfl at_196 (q := 199) rfl (W := 0) rfl (by decide) (by decide) (c2 := 3) (s2 := 11) rfl rfl (by decide) (by decide) (fun v T h' X hQ => ?_)
              obtain ⟨rfl, rfl⟩ := hQ
              show Goes p e below s _ n0 _ (T.setTop (mkF m 199 #[.val (.long q1), .second, .val (.long q2), .second, .val (.long q3), .second, .val (.int p4), .val (.long q5), .second, .val (.long x5), .second, .val (.long x12), .second, .val (.long x20), .second, .val (.long (1 : Int64)), .second, .val (.long (1 : Int64)), .second, .val (.long (2 : Int64)), .second, .val (.ref b5), .val (.long r96), .second, .val (.long x5), .second, .val (.long r165), .second, .val (.long (0 : Int64)), .second, .unset, .unset] [(.long (0 : Int64))]))
              refine g_lconst X at_199 rfl (q := 200) (v := 1) rfl ?_
              refine g_lload X at_200 rfl (q := 202) rfl ?_
              refine g_lload X at_202 rfl (q := 204) rfl ?_
              refine g_callS X [(.long (1 : Int64)), (.long r165), (.long (2 : Int64))] [(.long (0 : Int64))] (tw62 hw) (tw63 hw) (tw60 hw) (tw64 hw) (by decide) (rm11_1_2 l Z a0 hw [] r165 _ n0 X.size) pd6 rfl rfl rfl at_204 (q := 207) rfl (W := 2) rfl (by decide) (by decide) (c2 := 3) (s2 := 11) rfl rfl (by decide) (by decide) (fun v T h' X hQ => ?_)
              obtain ⟨rfl, rfl⟩ := hQ
              show Goes p e below s _ n0 _ (T.setTop (mkF m 207 #[.val (.long q1), .second, .val (.long q2), .second, .val (.long q3), .second, .val (.int p4), .val (.long q5), .second, .val (.long x5), .second, .val (.long x12), .second, .val (.long x20), .second, .val (.long (1 : Int64)), .second, .val (.long (1 : Int64)), .second, .val (.long (2 : Int64)), .second, .val (.ref b5), .val (.long r96), .second, .val (.long x5), .second, .val (.long r165), .second, .val (.long (0 : Int64)), .second, .unset, .unset] [(.long (0 : Int64)), (.long (0 : Int64))]))
              refine g_callS X [(.long (0 : Int64)), (.long (0 : Int64))] [] (tw58 hw) (tw59 hw) (tw60 hw) (tw61 hw) (by decide) (rm10 l Z a0 hw [] (0 : Int64) (0 : Int64) _ n0 X.size) pd4 rfl rfl rfl at_207 (q := 210) rfl (W := 0) rfl (by decide) (by decide) (c2 := 3) (s2 := 11) rfl rfl (by decide) (by decide) (fun v T h' X hQ => ?_)
              obtain ⟨rfl, rfl⟩ := hQ
              show Goes p e below s _ n0 _ (T.setTop (mkF m 210 #[.val (.long q1), .second, .val (.long q2), .second, .val (.long q3), .second, .val (.int p4), .val (.long q5), .second, .val (.long x5), .second, .val (.long x12), .second, .val (.long x20), .second, .val (.long (1 : Int64)), .second, .val (.long (1 : Int64)), .second, .val (.long (2 : Int64)), .second, .val (.ref b5), .val (.long r96), .second, .val (.long x5), .second, .val (.long r165), .second, .val (.long (0 : Int64)), .second, .unset, .unset] [(.long (if ((9223372036854775807 : Int64) - (0 : Int64)) < (0 : Int64) then (9223372036854775807 : Int64) else ((0 : Int64) + (0 : Int64))))]))
              refine g_letJ (fun r207 hr207 => ?_)
              have s_r207 := own_satI hr207 (by decide) (by decide)
              refine g_ldc2 X (tw65 hw) at_210 (q := 213) rfl ?_
              refine g_lload X at_213 rfl (q := 215) rfl ?_
              refine g_lload X at_215 rfl (q := 217) rfl ?_
              refine g_callS X [(.long (2 : Int64)), (.long (0 : Int64)), (.long (2 : Int64))] [(.long r207)] (tw62 hw) (tw63 hw) (tw60 hw) (tw64 hw) (by decide) (rm11_2_2 l Z a0 hw [] (0 : Int64) _ n0 X.size) pd6 rfl rfl rfl at_217 (q := 220) rfl (W := 2) rfl (by decide) (by decide) (c2 := 3) (s2 := 11) rfl rfl (by decide) (by decide) (fun v T h' X hQ => ?_)
              obtain ⟨rfl, rfl⟩ := hQ
              show Goes p e below s _ n0 _ (T.setTop (mkF m 220 #[.val (.long q1), .second, .val (.long q2), .second, .val (.long q3), .second, .val (.int p4), .val (.long q5), .second, .val (.long x5), .second, .val (.long x12), .second, .val (.long x20), .second, .val (.long (1 : Int64)), .second, .val (.long (1 : Int64)), .second, .val (.long (2 : Int64)), .second, .val (.ref b5), .val (.long r96), .second, .val (.long x5), .second, .val (.long r165), .second, .val (.long (0 : Int64)), .second, .unset, .unset] [(.long (0 : Int64)), (.long r207)]))
              refine g_callS X [(.long r207), (.long (0 : Int64))] [] (tw58 hw) (tw59 hw) (tw60 hw) (tw61 hw) (by decide) (rm10 l Z a0 hw [] r207 (0 : Int64) _ n0 X.size) pd4 rfl rfl rfl at_220 (q := 223) rfl (W := 0) rfl (by decide) (by decide) (c2 := 3) (s2 := 11) rfl rfl (by decide) (by decide) (fun v T h' X hQ => ?_)
              obtain ⟨rfl, rfl⟩ := hQ
              show Goes p e below s _ n0 _ (T.setTop (mkF m 223 #[.val (.long q1), .second, .val (.long q2), .second, .val (.long q3), .second, .val (.int p4), .val (.long q5), .second, .val (.long x5), .second, .val (.long x12), .second, .val (.long x20), .second, .val (.long (1 : Int64)), .second, .val (.long (1 : Int64)), .second, .val (.long (2 : Int64)), .second, .val (.ref b5), .val (.long r96), .second, .val (.long x5), .second, .val (.long r165), .second, .val (.long (0 : Int64)), .second, .unset, .unset] [(.long (if ((9223372036854775807 : Int64) - (0 : Int64)) < r207 then (9223372036854775807 : Int64) else (r207 + (0 : Int64))))]))
              refine g_letJ (fun r220 hr220 => ?_)
              have s_r220 := own_satI hr220 s_r207.1 (by decide)
              refine g_lstore X at_223 rfl (q := 225) (L' := #[.val (.long q1), .second, .val (.long q2), .second, .val (.long q3), .second, .val (.int p4), .val (.long q5), .second, .val (.long x5), .second, .val (.long x12), .second, .val (.long x20), .second, .val (.long (1 : Int64)), .second, .val (.long (1 : Int64)), .second, .val (.long (2 : Int64)), .second, .val (.ref b5), .val (.long r96), .second, .val (.long x5), .second, .val (.long r165), .second, .val (.long (0 : Int64)), .second, .val (.long r220), .second]) rfl ?_
              refine g_lload X at_225 rfl (q := 227) rfl ?_
              refine g_lload X at_227 rfl (q := 229) rfl ?_
              refine g_jT1 X (J := 238) (P := fun (s0_238 : Int32) => s0_238 = (bI (r96 = r220))) (L := fun s0_238 => #[.val (.long q1), .second, .val (.long q2), .second, .val (.long q3), .second, .val (.int p4), .val (.long q5), .second, .val (.long x5), .second, .val (.long x12), .second, .val (.long x20), .second, .val (.long (1 : Int64)), .second, .val (.long (1 : Int64)), .second, .val (.long (2 : Int64)), .second, .val (.ref b5), .val (.long r96), .second, .val (.long x5), .second, .val (.long r165), .second, .val (.long (0 : Int64)), .second, .val (.long r220), .second]) (S := fun s0_238 => [(.int s0_238)]) ?_ ?_
              · intro T X s0_238 hs0_238
                replace hs0_238 : s0_238 = (bI (r96 = r220)) := hs0_238
                subst hs0_238
                show Goes p e below s _ n0 _ (T.setTop (mkF m 238 #[.val (.long q1), .second, .val (.long q2), .second, .val (.long q3), .second, .val (.int p4), .val (.long q5), .second, .val (.long x5), .second, .val (.long x12), .second, .val (.long x20), .second, .val (.long (1 : Int64)), .second, .val (.long (1 : Int64)), .second, .val (.long (2 : Int64)), .second, .val (.ref b5), .val (.long r96), .second, .val (.long x5), .second, .val (.long r165), .second, .val (.long (0 : Int64)), .second, .val (.long r220), .second] [(.int (bI (r96 = r220)))]))
                refine g_retZ X at_238 (by decide) (by decide) (bI_01 _) (own_fin ?_)
                show r96 = r220
                apply Int64.toInt_inj.mp
                (try simp only [Int64.reduceToInt] at s_x5 s_x12 s_x20 s_w84 s_r96 s_r165 s_r207 s_r220)
                omega
              · intro J238_43
                refine g_lcmpB X at_229 (q1 := 230) rfl at_230 (Or.inr (Or.inr rfl)) (q := 233) rfl (by decide) (t := 237) rfl (fun (c44 : r96 = r220) => ?_) (fun (c44 : ¬ (r96 = r220)) => ?_)
                · skip
                  refine g_iconst X at_233 rfl (q := 234) (v := 1) rfl ?_
                  refine g_goto X at_234 (by decide) (q := 238) rfl ?_
                  exact J238_43 T X _ (bI_t c44)
                · skip
                  refine g_iconst X at_237 rfl (q := 238) (v := 0) rfl ?_
                  exact J238_43 T X _ (bI_f c44)
          · skip
            exact absurd c42 (by decide)
      · subst q4
        show Goes p e below s _ n0 _ (T.setTop (mkF m 89 #[.val (.long q1), .second, .val (.long q2), .second, .val (.long q3), .second, .val (.int p4), .val (.long q5), .second, .val (.long x5), .second, .val (.long x12), .second, .val (.long x20), .second, .val (.long (1 : Int64)), .second, .val (.long (1 : Int64)), .second, .val (.long (3 : Int64)), .second, .val (.ref b5), .unset, .unset, .unset, .unset, .unset, .unset, .unset, .unset, .unset, .unset] [(.ref b5)]))
        refine g_lload X at_89 rfl (q := 91) rfl ?_
        refine g_callV X O_b5.1 [(.long (3 : Int64))] [] (tw48 hw) (tw49 hw) (tw51 hw) (tw50 hw) (tw3 hw) (tw52 hw) (by decide) (rm8_2_2_2 l Z a0 hw [] b5 (3 : Int64) q5 i1_56 n1_56 t1_84 b1_84 (own_up (own_up (fun _ => 0) 0 (0 : Int64)) 1 (1 : Int64)) (own_up (own_up (own_up (fun _ => 0) 0 x5) 1 x12) 1 w84) (((0 + x5.toInt) + x12.toInt) + (w84.toInt - x12.toInt)) (((0 + 1) + 1) + 1) _ n0 X.size O_b5 A_i1_56 A_n1_56 g_b5 ne_b5_i1_56 ne_b5_n1_56 ne_i1_56_b5 ne_i1_56_n1_56 ne_n1_56_b5 ne_n1_56_i1_56 (by decide) (by decide) (show (0 : Int) ≤ (x5 : Int64).toInt from s_x5.1) (show (0 : Int) ≤ (w84 : Int64).toInt from s_w84.1) (show (x5 : Int64).toInt + (w84 : Int64).toInt ≤ (((0 + x5.toInt) + x12.toInt) + (w84.toInt - x12.toInt)) from by omega) hSw84 (by decide)) pd0 rfl rfl rfl at_91 (q := 94) rfl (W := 0) rfl (by decide) (by decide) (c2 := 3) (s2 := 11) rfl rfl (by decide) (by decide) (fun v T h' X hQ => ?_)
        obtain ⟨t1_91, b1_91, i1_91, n1_91, o1_91, s1_91, rfl, Kc, O_b5', hS1_91⟩ := hQ
        have A_i1_56 := A_i1_56.keep Kc (ninS ne_i1_56_b5 nin0)
        have A_n1_56 := A_n1_56.keep Kc (ninS ne_n1_56_b5 nin0)
        have O_b5 := O_b5'
        show Goes p e below s _ n0 _ (T.setTop (mkF m 94 #[.val (.long q1), .second, .val (.long q2), .second, .val (.long q3), .second, .val (.int p4), .val (.long q5), .second, .val (.long x5), .second, .val (.long x12), .second, .val (.long x20), .second, .val (.long (1 : Int64)), .second, .val (.long (1 : Int64)), .second, .val (.long (3 : Int64)), .second, .val (.ref b5), .unset, .unset, .unset, .unset, .unset, .unset, .unset, .unset, .unset, .unset] []))
        have hT : OKT t1_91 b1_91 ((((0 + x5.toInt) + x12.toInt) + (w84.toInt - x12.toInt)) - x5.toInt - w84.toInt) (((0 + 1) + 1) + 1) := hS1_91
        refine g_aload X at_94 rfl (q := 96) rfl rfl ?_
        refine g_callV X O_b5.1 [] [] (tw53 hw) (tw54 hw) (tw56 hw) (tw55 hw) (tw3 hw) (tw57 hw) (by decide) (rm9 l Z a0 hw [] b5 q5 i1_91 n1_91 o1_91 s1_91 t1_91 b1_91 _ n0 X.size O_b5) pd5 rfl rfl rfl at_96 (q := 99) rfl (W := 0) rfl (by decide) (by decide) (c2 := 3) (s2 := 11) rfl rfl (by decide) (by decide) (fun v T h' X hQ => ?_)
        obtain ⟨rfl, rfl⟩ := hQ
        show Goes p e below s _ n0 _ (T.setTop (mkF m 99 #[.val (.long q1), .second, .val (.long q2), .second, .val (.long q3), .second, .val (.int p4), .val (.long q5), .second, .val (.long x5), .second, .val (.long x12), .second, .val (.long x20), .second, .val (.long (1 : Int64)), .second, .val (.long (1 : Int64)), .second, .val (.long (3 : Int64)), .second, .val (.ref b5), .unset, .unset, .unset, .unset, .unset, .unset, .unset, .unset, .unset, .unset] [(.long (if b1_91 = (0 : Int64) then t1_91 else (9223372036854775807 : Int64)))]))
        refine g_letJ (fun r96 hr96 => ?_)
        have s_r96 := own_totI hr96 hT
        refine g_lstore X at_99 rfl (q := 101) (L' := #[.val (.long q1), .second, .val (.long q2), .second, .val (.long q3), .second, .val (.int p4), .val (.long q5), .second, .val (.long x5), .second, .val (.long x12), .second, .val (.long x20), .second, .val (.long (1 : Int64)), .second, .val (.long (1 : Int64)), .second, .val (.long (3 : Int64)), .second, .val (.ref b5), .val (.long r96), .second, .unset, .unset, .unset, .unset, .unset, .unset, .unset, .unset]) rfl ?_
        refine g_lload X at_101 rfl (q := 103) rfl ?_
        refine g_lstore X at_103 rfl (q := 105) (L' := #[.val (.long q1), .second, .val (.long q2), .second, .val (.long q3), .second, .val (.int p4), .val (.long q5), .second, .val (.long x5), .second, .val (.long x12), .second, .val (.long x20), .second, .val (.long (1 : Int64)), .second, .val (.long (1 : Int64)), .second, .val (.long (3 : Int64)), .second, .val (.ref b5), .val (.long r96), .second, .val (.long x5), .second, .unset, .unset, .unset, .unset, .unset, .unset]) rfl ?_
        refine g_lconst X at_105 rfl (q := 106) (v := 0) rfl ?_
        refine g_lstore X at_106 rfl (q := 108) (L' := #[.val (.long q1), .second, .val (.long q2), .second, .val (.long q3), .second, .val (.int p4), .val (.long q5), .second, .val (.long x5), .second, .val (.long x12), .second, .val (.long x20), .second, .val (.long (1 : Int64)), .second, .val (.long (1 : Int64)), .second, .val (.long (3 : Int64)), .second, .val (.ref b5), .val (.long r96), .second, .val (.long x5), .second, .val (.long (0 : Int64)), .second, .unset, .unset, .unset, .unset]) rfl ?_
        refine g_lconst X at_108 rfl (q := 109) (v := 0) rfl ?_
        refine g_lstore X at_109 rfl (q := 111) (L' := #[.val (.long q1), .second, .val (.long q2), .second, .val (.long q3), .second, .val (.int p4), .val (.long q5), .second, .val (.long x5), .second, .val (.long x12), .second, .val (.long x20), .second, .val (.long (1 : Int64)), .second, .val (.long (1 : Int64)), .second, .val (.long (3 : Int64)), .second, .val (.ref b5), .val (.long r96), .second, .val (.long x5), .second, .val (.long (0 : Int64)), .second, .val (.long (0 : Int64)), .second, .unset, .unset]) rfl ?_
        refine g_lload X at_111 rfl (q := 113) rfl ?_
        refine g_lconst X at_113 rfl (q := 114) (v := 0) rfl ?_
        refine g_lcmpB X at_114 (q1 := 115) rfl at_115 (Or.inr (Or.inr rfl)) (q := 118) rfl (by decide) (t := 130) rfl (fun (c45 : (1 : Int64) = (0 : Int64)) => ?_) (fun (c45 : ¬ ((1 : Int64) = (0 : Int64))) => ?_)
        · skip
          exact absurd c45 (by decide)
        · skip
          refine g_lload X at_130 rfl (q := 132) rfl ?_
          refine g_lstore X at_132 rfl (q := 134) (L' := #[.val (.long q1), .second, .val (.long q2), .second, .val (.long q3), .second, .val (.int p4), .val (.long q5), .second, .val (.long x5), .second, .val (.long x12), .second, .val (.long x20), .second, .val (.long (1 : Int64)), .second, .val (.long (1 : Int64)), .second, .val (.long (3 : Int64)), .second, .val (.ref b5), .val (.long r96), .second, .val (.long x5), .second, .val (.long x12), .second, .val (.long (0 : Int64)), .second, .unset, .unset]) rfl ?_
          refine g_lload X at_134 rfl (q := 136) rfl ?_
          refine g_lload X at_136 rfl (q := 138) rfl ?_
          refine g_lcmpB X at_138 (q1 := 139) rfl at_139 (Or.inr (Or.inr rfl)) (q := 142) rfl (by decide) (t := 173) rfl (fun (c46 : (1 : Int64) = (1 : Int64)) => ?_) (fun (c46 : ¬ ((1 : Int64) = (1 : Int64))) => ?_)
          · skip
            refine g_lload X at_142 rfl (q := 144) rfl ?_
            refine g_lconst X at_144 rfl (q := 145) (v := 0) rfl ?_
            refine g_lcmpB X at_145 (q1 := 146) rfl at_146 (Or.inr (Or.inr rfl)) (q := 149) rfl (by decide) (t := 161) rfl (fun (c47 : (1 : Int64) = (0 : Int64)) => ?_) (fun (c47 : ¬ ((1 : Int64) = (0 : Int64))) => ?_)
            · skip
              exact absurd c47 (by decide)
            · skip
              refine g_lload X at_161 rfl (q := 163) rfl ?_
              refine g_lload X at_163 rfl (q := 165) rfl ?_
              refine g_callS X [(.long x12), (.long x20)] [] (tw58 hw) (tw59 hw) (tw60 hw) (tw61 hw) (by decide) (rm10 l Z a0 hw [] x12 x20 _ n0 X.size) pd4 rfl rfl rfl at_165 (q := 168) rfl (W := 0) rfl (by decide) (by decide) (c2 := 3) (s2 := 11) rfl rfl (by decide) (by decide) (fun v T h' X hQ => ?_)
              obtain ⟨rfl, rfl⟩ := hQ
              show Goes p e below s _ n0 _ (T.setTop (mkF m 168 #[.val (.long q1), .second, .val (.long q2), .second, .val (.long q3), .second, .val (.int p4), .val (.long q5), .second, .val (.long x5), .second, .val (.long x12), .second, .val (.long x20), .second, .val (.long (1 : Int64)), .second, .val (.long (1 : Int64)), .second, .val (.long (3 : Int64)), .second, .val (.ref b5), .val (.long r96), .second, .val (.long x5), .second, .val (.long x12), .second, .val (.long (0 : Int64)), .second, .unset, .unset] [(.long (if ((9223372036854775807 : Int64) - x20) < x12 then (9223372036854775807 : Int64) else (x12 + x20)))]))
              refine g_letJ (fun r165 hr165 => ?_)
              have s_r165 := own_satI hr165 s_x12.1 s_x20.1
              refine g_lstore X at_168 rfl (q := 170) (L' := #[.val (.long q1), .second, .val (.long q2), .second, .val (.long q3), .second, .val (.int p4), .val (.long q5), .second, .val (.long x5), .second, .val (.long x12), .second, .val (.long x20), .second, .val (.long (1 : Int64)), .second, .val (.long (1 : Int64)), .second, .val (.long (3 : Int64)), .second, .val (.ref b5), .val (.long r96), .second, .val (.long x5), .second, .val (.long r165), .second, .val (.long (0 : Int64)), .second, .unset, .unset]) rfl ?_
              refine g_goto X at_170 (by decide) (q := 191) rfl ?_
              refine g_lconst X at_191 rfl (q := 192) (v := 0) rfl ?_
              refine g_lload X at_192 rfl (q := 194) rfl ?_
              refine g_lload X at_194 rfl (q := 196) rfl ?_
              refine g_callS X [(.long (0 : Int64)), (.long x5), (.long (3 : Int64))] [] (tw62 hw) (tw63 hw) (tw60 hw) (tw64 hw) (by decide) (rm11_0_3 l Z a0 hw [] x5 _ n0 X.size) pd6 rfl rfl rfl at_196 (q := 199) rfl (W := 0) rfl (by decide) (by decide) (c2 := 3) (s2 := 11) rfl rfl (by decide) (by decide) (fun v T h' X hQ => ?_)
              obtain ⟨rfl, rfl⟩ := hQ
              show Goes p e below s _ n0 _ (T.setTop (mkF m 199 #[.val (.long q1), .second, .val (.long q2), .second, .val (.long q3), .second, .val (.int p4), .val (.long q5), .second, .val (.long x5), .second, .val (.long x12), .second, .val (.long x20), .second, .val (.long (1 : Int64)), .second, .val (.long (1 : Int64)), .second, .val (.long (3 : Int64)), .second, .val (.ref b5), .val (.long r96), .second, .val (.long x5), .second, .val (.long r165), .second, .val (.long (0 : Int64)), .second, .unset, .unset] [(.long (0 : Int64))]))
              refine g_lconst X at_199 rfl (q := 200) (v := 1) rfl ?_
              refine g_lload X at_200 rfl (q := 202) rfl ?_
              refine g_lload X at_202 rfl (q := 204) rfl ?_
              refine g_callS X [(.long (1 : Int64)), (.long r165), (.long (3 : Int64))] [(.long (0 : Int64))] (tw62 hw) (tw63 hw) (tw60 hw) (tw64 hw) (by decide) (rm11_1_3 l Z a0 hw [] r165 _ n0 X.size) pd6 rfl rfl rfl at_204 (q := 207) rfl (W := 2) rfl (by decide) (by decide) (c2 := 3) (s2 := 11) rfl rfl (by decide) (by decide) (fun v T h' X hQ => ?_)
              obtain ⟨rfl, rfl⟩ := hQ
              show Goes p e below s _ n0 _ (T.setTop (mkF m 207 #[.val (.long q1), .second, .val (.long q2), .second, .val (.long q3), .second, .val (.int p4), .val (.long q5), .second, .val (.long x5), .second, .val (.long x12), .second, .val (.long x20), .second, .val (.long (1 : Int64)), .second, .val (.long (1 : Int64)), .second, .val (.long (3 : Int64)), .second, .val (.ref b5), .val (.long r96), .second, .val (.long x5), .second, .val (.long r165), .second, .val (.long (0 : Int64)), .second, .unset, .unset] [(.long (0 : Int64)), (.long (0 : Int64))]))
              refine g_callS X [(.long (0 : Int64)), (.long (0 : Int64))] [] (tw58 hw) (tw59 hw) (tw60 hw) (tw61 hw) (by decide) (rm10 l Z a0 hw [] (0 : Int64) (0 : Int64) _ n0 X.size) pd4 rfl rfl rfl at_207 (q := 210) rfl (W := 0) rfl (by decide) (by decide) (c2 := 3) (s2 := 11) rfl rfl (by decide) (by decide) (fun v T h' X hQ => ?_)
              obtain ⟨rfl, rfl⟩ := hQ
              show Goes p e below s _ n0 _ (T.setTop (mkF m 210 #[.val (.long q1), .second, .val (.long q2), .second, .val (.long q3), .second, .val (.int p4), .val (.long q5), .second, .val (.long x5), .second, .val (.long x12), .second, .val (.long x20), .second, .val (.long (1 : Int64)), .second, .val (.long (1 : Int64)), .second, .val (.long (3 : Int64)), .second, .val (.ref b5), .val (.long r96), .second, .val (.long x5), .second, .val (.long r165), .second, .val (.long (0 : Int64)), .second, .unset, .unset] [(.long (if ((9223372036854775807 : Int64) - (0 : Int64)) < (0 : Int64) then (9223372036854775807 : Int64) else ((0 : Int64) + (0 : Int64))))]))
              refine g_letJ (fun r207 hr207 => ?_)
              have s_r207 := own_satI hr207 (by decide) (by decide)
              refine g_ldc2 X (tw65 hw) at_210 (q := 213) rfl ?_
              refine g_lload X at_213 rfl (q := 215) rfl ?_
              refine g_lload X at_215 rfl (q := 217) rfl ?_
              refine g_callS X [(.long (2 : Int64)), (.long (0 : Int64)), (.long (3 : Int64))] [(.long r207)] (tw62 hw) (tw63 hw) (tw60 hw) (tw64 hw) (by decide) (rm11_2_3 l Z a0 hw [] (0 : Int64) _ n0 X.size) pd6 rfl rfl rfl at_217 (q := 220) rfl (W := 2) rfl (by decide) (by decide) (c2 := 3) (s2 := 11) rfl rfl (by decide) (by decide) (fun v T h' X hQ => ?_)
              obtain ⟨rfl, rfl⟩ := hQ
              show Goes p e below s _ n0 _ (T.setTop (mkF m 220 #[.val (.long q1), .second, .val (.long q2), .second, .val (.long q3), .second, .val (.int p4), .val (.long q5), .second, .val (.long x5), .second, .val (.long x12), .second, .val (.long x20), .second, .val (.long (1 : Int64)), .second, .val (.long (1 : Int64)), .second, .val (.long (3 : Int64)), .second, .val (.ref b5), .val (.long r96), .second, .val (.long x5), .second, .val (.long r165), .second, .val (.long (0 : Int64)), .second, .unset, .unset] [(.long (0 : Int64)), (.long r207)]))
              refine g_callS X [(.long r207), (.long (0 : Int64))] [] (tw58 hw) (tw59 hw) (tw60 hw) (tw61 hw) (by decide) (rm10 l Z a0 hw [] r207 (0 : Int64) _ n0 X.size) pd4 rfl rfl rfl at_220 (q := 223) rfl (W := 0) rfl (by decide) (by decide) (c2 := 3) (s2 := 11) rfl rfl (by decide) (by decide) (fun v T h' X hQ => ?_)
              obtain ⟨rfl, rfl⟩ := hQ
              show Goes p e below s _ n0 _ (T.setTop (mkF m 223 #[.val (.long q1), .second, .val (.long q2), .second, .val (.long q3), .second, .val (.int p4), .val (.long q5), .second, .val (.long x5), .second, .val (.long x12), .second, .val (.long x20), .second, .val (.long (1 : Int64)), .second, .val (.long (1 : Int64)), .second, .val (.long (3 : Int64)), .second, .val (.ref b5), .val (.long r96), .second, .val (.long x5), .second, .val (.long r165), .second, .val (.long (0 : Int64)), .second, .unset, .unset] [(.long (if ((9223372036854775807 : Int64) - (0 : Int64)) < r207 then (9223372036854775807 : Int64) else (r207 + (0 : Int64))))]))
              refine g_letJ (fun r220 hr220 => ?_)
              have s_r220 := own_satI hr220 s_r207.1 (by decide)
              refine g_lstore X at_223 rfl (q := 225) (L' := #[.val (.long q1), .second, .val (.long q2), .second, .val (.long q3), .second, .val (.int p4), .val (.long q5), .second, .val (.long x5), .second, .val (.long x12), .second, .val (.long x20), .second, .val (.long (1 : Int64)), .second, .val (.long (1 : Int64)), .second, .val (.long (3 : Int64)), .second, .val (.ref b5), .val (.long r96), .second, .val (.long x5), .second, .val (.long r165), .second, .val (.long (0 : Int64)), .second, .val (.long r220), .second]) rfl ?_
              refine g_lload X at_225 rfl (q := 227) rfl ?_
              refine g_lload X at_227 rfl (q := 229) rfl ?_
              refine g_jT1 X (J := 238) (P := fun (s0_238 : Int32) => s0_238 = (bI (r96 = r220))) (L := fun s0_238 => #[.val (.long q1), .second, .val (.long q2), .second, .val (.long q3), .second, .val (.int p4), .val (.long q5), .second, .val (.long x5), .second, .val (.long x12), .second, .val (.long x20), .second, .val (.long (1 : Int64)), .second, .val (.long (1 : Int64)), .second, .val (.long (3 : Int64)), .second, .val (.ref b5), .val (.long r96), .second, .val (.long x5), .second, .val (.long r165), .second, .val (.long (0 : Int64)), .second, .val (.long r220), .second]) (S := fun s0_238 => [(.int s0_238)]) ?_ ?_
              · intro T X s0_238 hs0_238
                replace hs0_238 : s0_238 = (bI (r96 = r220)) := hs0_238
                subst hs0_238
                show Goes p e below s _ n0 _ (T.setTop (mkF m 238 #[.val (.long q1), .second, .val (.long q2), .second, .val (.long q3), .second, .val (.int p4), .val (.long q5), .second, .val (.long x5), .second, .val (.long x12), .second, .val (.long x20), .second, .val (.long (1 : Int64)), .second, .val (.long (1 : Int64)), .second, .val (.long (3 : Int64)), .second, .val (.ref b5), .val (.long r96), .second, .val (.long x5), .second, .val (.long r165), .second, .val (.long (0 : Int64)), .second, .val (.long r220), .second] [(.int (bI (r96 = r220)))]))
                refine g_retZ X at_238 (by decide) (by decide) (bI_01 _) (own_fin ?_)
                show r96 = r220
                apply Int64.toInt_inj.mp
                (try simp only [Int64.reduceToInt] at s_x5 s_x12 s_x20 s_w84 s_r96 s_r165 s_r207 s_r220)
                omega
              · intro J238_47
                refine g_lcmpB X at_229 (q1 := 230) rfl at_230 (Or.inr (Or.inr rfl)) (q := 233) rfl (by decide) (t := 237) rfl (fun (c48 : r96 = r220) => ?_) (fun (c48 : ¬ (r96 = r220)) => ?_)
                · skip
                  refine g_iconst X at_233 rfl (q := 234) (v := 1) rfl ?_
                  refine g_goto X at_234 (by decide) (q := 238) rfl ?_
                  exact J238_47 T X _ (bI_t c48)
                · skip
                  refine g_iconst X at_237 rfl (q := 238) (v := 0) rfl ?_
                  exact J238_47 T X _ (bI_f c48)
          · skip
            exact absurd c46 (by decide)
    · refine g_eqJ (y := (1 : Int64)) qq38 ?_
      refine g_ladd X at_38 rfl (q := 39) ?_
      refine g_eqJ (y := (2 : Int64)) (by decide) ?_
      refine g_lstore X at_39 rfl (q := 41) (L' := #[.val (.long q1), .second, .val (.long q2), .second, .val (.long q3), .second, .val (.int p4), .val (.long q5), .second, .val (.long x5), .second, .val (.long x12), .second, .val (.long x20), .second, .val (.long (1 : Int64)), .second, .val (.long (2 : Int64)), .second, .unset, .unset, .unset, .unset, .unset, .unset, .unset, .unset, .unset, .unset, .unset, .unset, .unset]) rfl ?_
      refine g_iload X at_41 rfl (q := 43) rfl ?_
      refine g_iconst X at_43 rfl (q := 44) (v := 2) rfl ?_
      refine g_ishr X at_44 rfl (q := 45) ?_
      refine g_iconst X at_45 rfl (q := 46) (v := 3) rfl ?_
      refine g_iand X at_46 rfl (q := 47) ?_
      refine g_i2l X at_47 rfl (q := 48) ?_
      refine g_letJ (fun xd hxd => ?_)
      refine g_lstore X at_48 rfl (q := 50) (L' := #[.val (.long q1), .second, .val (.long q2), .second, .val (.long q3), .second, .val (.int p4), .val (.long q5), .second, .val (.long x5), .second, .val (.long x12), .second, .val (.long x20), .second, .val (.long (1 : Int64)), .second, .val (.long (2 : Int64)), .second, .val (.long xd), .second, .unset, .unset, .unset, .unset, .unset, .unset, .unset, .unset, .unset, .unset, .unset]) rfl ?_
      refine g_new X (tw1 hw) (tw2 hw) (tw3 hw) at_50 (q := 53) rfl (c2 := 1) (s2 := 7) rfl rfl (by decide) (by decide) (fun T h' b6 X gz_b6 g_b6 E Ex D => ?_)
      have O_b6 : O_WindowCounts Z h' b6 .null .null (.long (0 : Int64)) (.int (0 : Int32)) (.int (0 : Int32)) (.long (0 : Int64)) (.long (0 : Int64)) := ⟨Ex, D (Or.inl (tw12 hw)) (ty := (.array .long)) (by decide), D (Or.inl (tw14 hw)) (ty := (.array .long)) (by decide), D (Or.inl (tw16 hw)) (ty := .long) (by decide), D (Or.inl (tw23 hw)) (ty := .int) (by decide), D (Or.inl (tw29 hw)) (ty := .int) (by decide), D (Or.inl (tw31 hw)) (ty := .long) (by decide), D (Or.inl (tw33 hw)) (ty := .long) (by decide)⟩
      refine g_dup X at_53 rfl (q := 54) rfl ?_
      refine g_lload X at_54 rfl (q := 56) rfl ?_
      refine g_callI X [(.long q5)] [(.ref b6)] rfl (tw4 hw) (tw5 hw) (tw3 hw) (tw6 hw) (by decide) (rm1 l Z a0 hw [] b6 q5 _ n0 X.size O_b6 g_b6) pd0 rfl rfl rfl at_56 (q := 59) rfl (W := 1) rfl (by decide) (by decide) (c2 := 3) (s2 := 11) rfl rfl (by decide) (by decide) (fun v T h' X hQ => ?_)
      obtain ⟨i1_56, n1_56, rfl, Kc, O_b6', A_i1_56', A_n1_56', sq_i1_56, sq_n1_56, g_i1_56, g_n1_56, ne_i1_56_n1_56, ne_n1_56_i1_56⟩ := hQ
      have ne_b6_i1_56 := own_far O_b6.1.lt sq_i1_56
      have ne_i1_56_b6 := own_apS ne_b6_i1_56
      have ne_b6_n1_56 := own_far O_b6.1.lt sq_n1_56
      have ne_n1_56_b6 := own_apS ne_b6_n1_56
      have O_b6 := O_b6'
      have A_i1_56 := A_i1_56'
      have A_n1_56 := A_n1_56'
      show Goes p e below s _ n0 _ (T.setTop (mkF m 59 #[.val (.long q1), .second, .val (.long q2), .second, .val (.long q3), .second, .val (.int p4), .val (.long q5), .second, .val (.long x5), .second, .val (.long x12), .second, .val (.long x20), .second, .val (.long (1 : Int64)), .second, .val (.long (2 : Int64)), .second, .val (.long xd), .second, .unset, .unset, .unset, .unset, .unset, .unset, .unset, .unset, .unset, .unset, .unset] [(.ref b6)]))
      refine g_astore X at_59 rfl (q := 61) (L' := #[.val (.long q1), .second, .val (.long q2), .second, .val (.long q3), .second, .val (.int p4), .val (.long q5), .second, .val (.long x5), .second, .val (.long x12), .second, .val (.long x20), .second, .val (.long (1 : Int64)), .second, .val (.long (2 : Int64)), .second, .val (.long xd), .second, .val (.ref b6), .unset, .unset, .unset, .unset, .unset, .unset, .unset, .unset, .unset, .unset]) rfl rfl ?_
      refine g_aload X at_61 rfl (q := 63) rfl rfl ?_
      refine g_lconst X at_63 rfl (q := 64) (v := 0) rfl ?_
      refine g_lload X at_64 rfl (q := 66) rfl ?_
      refine g_callV X O_b6.1 [(.long (0 : Int64)), (.long x5)] [] (tw17 hw) (tw18 hw) (tw20 hw) (tw19 hw) (tw3 hw) (tw21 hw) (by decide) (rm3_0_2_z l Z a0 hw [] b6 (0 : Int64) x5 q5 i1_56 n1_56 (0 : Int64) (0 : Int64) (fun _ => 0) (fun _ => 0) 0 0 _ n0 X.size O_b6 A_i1_56 A_n1_56 g_b6 g_i1_56 g_n1_56 ne_b6_i1_56 ne_b6_n1_56 ne_i1_56_b6 ne_i1_56_n1_56 ne_n1_56_b6 ne_n1_56_i1_56 (own_nnJ s_x5.1) own_okt0 (by decide)) pd2 rfl rfl rfl at_66 (q := 69) rfl (W := 0) rfl (by decide) (by decide) (c2 := 3) (s2 := 11) rfl rfl (by decide) (by decide) (fun v T h' X hQ => ?_)
      obtain ⟨t1_66, b1_66, rfl, Kc, O_b6', A_i1_56', A_n1_56', hS1_66⟩ := hQ
      have O_b6 := O_b6'
      have A_i1_56 := A_i1_56'
      have A_n1_56 := A_n1_56'
      show Goes p e below s _ n0 _ (T.setTop (mkF m 69 #[.val (.long q1), .second, .val (.long q2), .second, .val (.long q3), .second, .val (.int p4), .val (.long q5), .second, .val (.long x5), .second, .val (.long x12), .second, .val (.long x20), .second, .val (.long (1 : Int64)), .second, .val (.long (2 : Int64)), .second, .val (.long xd), .second, .val (.ref b6), .unset, .unset, .unset, .unset, .unset, .unset, .unset, .unset, .unset, .unset] []))
      have A_n1_56 : AJ Z _ n1_56 2 (own_up (fun _ => 0) 0 x5) := A_n1_56.to (fun j hj => by rcases (show j = 0 ∨ j = 1 by omega) with rfl | rfl <;> rfl)
      refine g_aload X at_69 rfl (q := 71) rfl rfl ?_
      refine g_lload X at_71 rfl (q := 73) rfl ?_
      refine g_lload X at_73 rfl (q := 75) rfl ?_
      refine g_callV X O_b6.1 [(.long (1 : Int64)), (.long x12)] [] (tw17 hw) (tw18 hw) (tw20 hw) (tw19 hw) (tw3 hw) (tw21 hw) (by decide) (rm3_1_2_g l Z a0 hw [] b6 (1 : Int64) x12 q5 i1_56 n1_56 t1_66 b1_66 (own_up (fun _ => 0) 0 (0 : Int64)) (own_up (fun _ => 0) 0 x5) (0 + x5.toInt) (0 + 1) _ n0 X.size O_b6 A_i1_56 A_n1_56 g_b6 g_i1_56 g_n1_56 ne_b6_i1_56 ne_b6_n1_56 ne_i1_56_b6 ne_i1_56_n1_56 ne_n1_56_b6 ne_n1_56_i1_56 (own_nnJ s_x12.1) (by decide) (by decide) hS1_66 (by decide)) pd2 rfl rfl rfl at_75 (q := 78) rfl (W := 0) rfl (by decide) (by decide) (c2 := 3) (s2 := 11) rfl rfl (by decide) (by decide) (fun v T h' X hQ => ?_)
      obtain ⟨t1_75, b1_75, rfl, Kc, O_b6', A_i1_56', A_n1_56', hS1_75⟩ := hQ
      have O_b6 := O_b6'
      have A_i1_56 := A_i1_56'
      have A_n1_56 := A_n1_56'
      show Goes p e below s _ n0 _ (T.setTop (mkF m 78 #[.val (.long q1), .second, .val (.long q2), .second, .val (.long q3), .second, .val (.int p4), .val (.long q5), .second, .val (.long x5), .second, .val (.long x12), .second, .val (.long x20), .second, .val (.long (1 : Int64)), .second, .val (.long (2 : Int64)), .second, .val (.long xd), .second, .val (.ref b6), .unset, .unset, .unset, .unset, .unset, .unset, .unset, .unset, .unset, .unset] []))
      have A_n1_56 : AJ Z _ n1_56 2 (own_up (own_up (fun _ => 0) 0 x5) 1 x12) := A_n1_56.to (fun j hj => by rcases (show j = 0 ∨ j = 1 by omega) with rfl | rfl <;> rfl)
      refine g_aload X at_78 rfl (q := 80) rfl rfl ?_
      refine g_lload X at_80 rfl (q := 82) rfl ?_
      refine g_lload X at_82 rfl (q := 84) rfl ?_
      refine g_callV X O_b6.1 [(.long (2 : Int64)), (.long x20)] [] (tw17 hw) (tw18 hw) (tw20 hw) (tw19 hw) (tw3 hw) (tw21 hw) (by decide) (rm3_2_2_g l Z a0 hw [] b6 (2 : Int64) x20 q5 i1_56 n1_56 t1_75 b1_75 (own_up (own_up (fun _ => 0) 0 (0 : Int64)) 1 (1 : Int64)) (own_up (own_up (fun _ => 0) 0 x5) 1 x12) ((0 + x5.toInt) + x12.toInt) ((0 + 1) + 1) _ n0 X.size O_b6 A_i1_56 A_n1_56 g_b6 g_i1_56 g_n1_56 ne_b6_i1_56 ne_b6_n1_56 ne_i1_56_b6 ne_i1_56_n1_56 ne_n1_56_b6 ne_n1_56_i1_56 (own_nnJ s_x20.1) (by decide) (by decide) hS1_75 (by decide)) pd2 rfl rfl rfl at_84 (q := 87) rfl (W := 0) rfl (by decide) (by decide) (c2 := 5) (s2 := 19) rfl rfl (by decide) (by decide) (fun v T h' X hQ => ?_)
      obtain ⟨t1_84, b1_84, i1_84, n1_84, rfl, Kc, O_b6', A_i1_84', A_n1_84', hS1_84, sq_i1_84, sq_n1_84, g_i1_84, g_n1_84, ne_i1_84_n1_84, ne_n1_84_i1_84⟩ := hQ
      have ne_b6_i1_84 := own_far O_b6.1.lt sq_i1_84
      have ne_i1_84_b6 := own_apS ne_b6_i1_84
      have ne_i1_56_i1_84 := own_far A_i1_56.lt sq_i1_84
      have ne_i1_84_i1_56 := own_apS ne_i1_56_i1_84
      have ne_n1_56_i1_84 := own_far A_n1_56.lt sq_i1_84
      have ne_i1_84_n1_56 := own_apS ne_n1_56_i1_84
      have ne_b6_n1_84 := own_far O_b6.1.lt sq_n1_84
      have ne_n1_84_b6 := own_apS ne_b6_n1_84
      have ne_i1_56_n1_84 := own_far A_i1_56.lt sq_n1_84
      have ne_n1_84_i1_56 := own_apS ne_i1_56_n1_84
      have ne_n1_56_n1_84 := own_far A_n1_56.lt sq_n1_84
      have ne_n1_84_n1_56 := own_apS ne_n1_56_n1_84
      have A_i1_56 := A_i1_56.keep Kc (ninS ne_i1_56_b6 nin0)
      have A_n1_56 := A_n1_56.keep Kc (ninS ne_n1_56_b6 nin0)
      have O_b6 := O_b6'
      have A_i1_84 := A_i1_84'
      have A_n1_84 := A_n1_84'
      show Goes p e below s _ n0 _ (T.setTop (mkF m 87 #[.val (.long q1), .second, .val (.long q2), .second, .val (.long q3), .second, .val (.int p4), .val (.long q5), .second, .val (.long x5), .second, .val (.long x12), .second, .val (.long x20), .second, .val (.long (1 : Int64)), .second, .val (.long (2 : Int64)), .second, .val (.long xd), .second, .val (.ref b6), .unset, .unset, .unset, .unset, .unset, .unset, .unset, .unset, .unset, .unset] []))
      have A_n1_84 : AJ Z _ n1_84 4 (own_up (own_up (own_up (fun _ => 0) 0 x5) 1 x12) 2 x20) := A_n1_84.to (fun j hj => by rcases (show j = 0 ∨ j = 1 ∨ j = 2 ∨ j = 3 by omega) with rfl | rfl | rfl | rfl <;> rfl)
      have A_i1_84 : AJ Z _ i1_84 4 (own_up (own_up (own_up (fun _ => 0) 0 (0 : Int64)) 1 (1 : Int64)) 2 (2 : Int64)) := A_i1_84.to (fun j hj => by rcases (show j = 0 ∨ j = 1 ∨ j = 2 ∨ j = 3 by omega) with rfl | rfl | rfl | rfl <;> rfl)
      refine g_aload X at_87 rfl (q := 89) rfl rfl ?_
      have hd4 := own_b3 (p4 >>> ((2 : Int32) &&& 31))
      rw [← hxd] at hd4
      rcases hd4 with q4 | q4 | q4 | q4
      · subst q4
        show Goes p e below s _ n0 _ (T.setTop (mkF m 89 #[.val (.long q1), .second, .val (.long q2), .second, .val (.long q3), .second, .val (.int p4), .val (.long q5), .second, .val (.long x5), .second, .val (.long x12), .second, .val (.long x20), .second, .val (.long (1 : Int64)), .second, .val (.long (2 : Int64)), .second, .val (.long (0 : Int64)), .second, .val (.ref b6), .unset, .unset, .unset, .unset, .unset, .unset, .unset, .unset, .unset, .unset] [(.ref b6)]))
        refine g_lload X at_89 rfl (q := 91) rfl ?_
        refine g_callV X O_b6.1 [(.long (0 : Int64))] [] (tw48 hw) (tw49 hw) (tw51 hw) (tw50 hw) (tw3 hw) (tw52 hw) (by decide) (rm8_3_4_0 l Z a0 hw [] b6 (0 : Int64) q5 i1_84 n1_84 t1_84 b1_84 (own_up (own_up (own_up (fun _ => 0) 0 (0 : Int64)) 1 (1 : Int64)) 2 (2 : Int64)) (own_up (own_up (own_up (fun _ => 0) 0 x5) 1 x12) 2 x20) (((0 + x5.toInt) + x12.toInt) + x20.toInt) (((0 + 1) + 1) + 1) _ n0 X.size O_b6 A_i1_84 A_n1_84 g_b6 ne_b6_i1_84 ne_b6_n1_84 ne_i1_84_b6 ne_i1_84_n1_84 ne_n1_84_b6 ne_n1_84_i1_84 (by decide) hS1_84 (by decide)) pd0 rfl rfl rfl at_91 (q := 94) rfl (W := 0) rfl (by decide) (by decide) (c2 := 5) (s2 := 19) rfl rfl (by decide) (by decide) (fun v T h' X hQ => ?_)
        obtain ⟨t1_91, b1_91, i1_91, n1_91, o1_91, s1_91, rfl, Kc, O_b6', hS1_91⟩ := hQ
        have A_i1_56 := A_i1_56.keep Kc (ninS ne_i1_56_b6 nin0)
        have A_n1_56 := A_n1_56.keep Kc (ninS ne_n1_56_b6 nin0)
        have A_i1_84 := A_i1_84.keep Kc (ninS ne_i1_84_b6 nin0)
        have A_n1_84 := A_n1_84.keep Kc (ninS ne_n1_84_b6 nin0)
        have O_b6 := O_b6'
        show Goes p e below s _ n0 _ (T.setTop (mkF m 94 #[.val (.long q1), .second, .val (.long q2), .second, .val (.long q3), .second, .val (.int p4), .val (.long q5), .second, .val (.long x5), .second, .val (.long x12), .second, .val (.long x20), .second, .val (.long (1 : Int64)), .second, .val (.long (2 : Int64)), .second, .val (.long (0 : Int64)), .second, .val (.ref b6), .unset, .unset, .unset, .unset, .unset, .unset, .unset, .unset, .unset, .unset] []))
        have hT : OKT t1_91 b1_91 ((((0 + x5.toInt) + x12.toInt) + x20.toInt)) (((0 + 1) + 1) + 1) := hS1_91
        refine g_aload X at_94 rfl (q := 96) rfl rfl ?_
        refine g_callV X O_b6.1 [] [] (tw53 hw) (tw54 hw) (tw56 hw) (tw55 hw) (tw3 hw) (tw57 hw) (by decide) (rm9 l Z a0 hw [] b6 q5 i1_91 n1_91 o1_91 s1_91 t1_91 b1_91 _ n0 X.size O_b6) pd5 rfl rfl rfl at_96 (q := 99) rfl (W := 0) rfl (by decide) (by decide) (c2 := 5) (s2 := 19) rfl rfl (by decide) (by decide) (fun v T h' X hQ => ?_)
        obtain ⟨rfl, rfl⟩ := hQ
        show Goes p e below s _ n0 _ (T.setTop (mkF m 99 #[.val (.long q1), .second, .val (.long q2), .second, .val (.long q3), .second, .val (.int p4), .val (.long q5), .second, .val (.long x5), .second, .val (.long x12), .second, .val (.long x20), .second, .val (.long (1 : Int64)), .second, .val (.long (2 : Int64)), .second, .val (.long (0 : Int64)), .second, .val (.ref b6), .unset, .unset, .unset, .unset, .unset, .unset, .unset, .unset, .unset, .unset] [(.long (if b1_91 = (0 : Int64) then t1_91 else (9223372036854775807 : Int64)))]))
        refine g_letJ (fun r96 hr96 => ?_)
        have s_r96 := own_totI hr96 hT
        refine g_lstore X at_99 rfl (q := 101) (L' := #[.val (.long q1), .second, .val (.long q2), .second, .val (.long q3), .second, .val (.int p4), .val (.long q5), .second, .val (.long x5), .second, .val (.long x12), .second, .val (.long x20), .second, .val (.long (1 : Int64)), .second, .val (.long (2 : Int64)), .second, .val (.long (0 : Int64)), .second, .val (.ref b6), .val (.long r96), .second, .unset, .unset, .unset, .unset, .unset, .unset, .unset, .unset]) rfl ?_
        refine g_lload X at_101 rfl (q := 103) rfl ?_
        refine g_lstore X at_103 rfl (q := 105) (L' := #[.val (.long q1), .second, .val (.long q2), .second, .val (.long q3), .second, .val (.int p4), .val (.long q5), .second, .val (.long x5), .second, .val (.long x12), .second, .val (.long x20), .second, .val (.long (1 : Int64)), .second, .val (.long (2 : Int64)), .second, .val (.long (0 : Int64)), .second, .val (.ref b6), .val (.long r96), .second, .val (.long x5), .second, .unset, .unset, .unset, .unset, .unset, .unset]) rfl ?_
        refine g_lconst X at_105 rfl (q := 106) (v := 0) rfl ?_
        refine g_lstore X at_106 rfl (q := 108) (L' := #[.val (.long q1), .second, .val (.long q2), .second, .val (.long q3), .second, .val (.int p4), .val (.long q5), .second, .val (.long x5), .second, .val (.long x12), .second, .val (.long x20), .second, .val (.long (1 : Int64)), .second, .val (.long (2 : Int64)), .second, .val (.long (0 : Int64)), .second, .val (.ref b6), .val (.long r96), .second, .val (.long x5), .second, .val (.long (0 : Int64)), .second, .unset, .unset, .unset, .unset]) rfl ?_
        refine g_lconst X at_108 rfl (q := 109) (v := 0) rfl ?_
        refine g_lstore X at_109 rfl (q := 111) (L' := #[.val (.long q1), .second, .val (.long q2), .second, .val (.long q3), .second, .val (.int p4), .val (.long q5), .second, .val (.long x5), .second, .val (.long x12), .second, .val (.long x20), .second, .val (.long (1 : Int64)), .second, .val (.long (2 : Int64)), .second, .val (.long (0 : Int64)), .second, .val (.ref b6), .val (.long r96), .second, .val (.long x5), .second, .val (.long (0 : Int64)), .second, .val (.long (0 : Int64)), .second, .unset, .unset]) rfl ?_
        refine g_lload X at_111 rfl (q := 113) rfl ?_
        refine g_lconst X at_113 rfl (q := 114) (v := 0) rfl ?_
        refine g_lcmpB X at_114 (q1 := 115) rfl at_115 (Or.inr (Or.inr rfl)) (q := 118) rfl (by decide) (t := 130) rfl (fun (c49 : (1 : Int64) = (0 : Int64)) => ?_) (fun (c49 : ¬ ((1 : Int64) = (0 : Int64))) => ?_)
        · skip
          exact absurd c49 (by decide)
        · skip
          refine g_lload X at_130 rfl (q := 132) rfl ?_
          refine g_lstore X at_132 rfl (q := 134) (L' := #[.val (.long q1), .second, .val (.long q2), .second, .val (.long q3), .second, .val (.int p4), .val (.long q5), .second, .val (.long x5), .second, .val (.long x12), .second, .val (.long x20), .second, .val (.long (1 : Int64)), .second, .val (.long (2 : Int64)), .second, .val (.long (0 : Int64)), .second, .val (.ref b6), .val (.long r96), .second, .val (.long x5), .second, .val (.long x12), .second, .val (.long (0 : Int64)), .second, .unset, .unset]) rfl ?_
          refine g_lload X at_134 rfl (q := 136) rfl ?_
          refine g_lload X at_136 rfl (q := 138) rfl ?_
          refine g_lcmpB X at_138 (q1 := 139) rfl at_139 (Or.inr (Or.inr rfl)) (q := 142) rfl (by decide) (t := 173) rfl (fun (c50 : (2 : Int64) = (1 : Int64)) => ?_) (fun (c50 : ¬ ((2 : Int64) = (1 : Int64))) => ?_)
          · skip
            exact absurd c50 (by decide)
          · skip
            refine g_lload X at_173 rfl (q := 175) rfl ?_
            refine g_lconst X at_175 rfl (q := 176) (v := 0) rfl ?_
            refine g_lcmpB X at_176 (q1 := 177) rfl at_177 (Or.inr (Or.inr rfl)) (q := 180) rfl (by decide) (t := 187) rfl (fun (c51 : (1 : Int64) = (0 : Int64)) => ?_) (fun (c51 : ¬ ((1 : Int64) = (0 : Int64))) => ?_)
            · skip
              exact absurd c51 (by decide)
            · skip
              refine g_lload X at_187 rfl (q := 189) rfl ?_
              refine g_lstore X at_189 rfl (q := 191) (L' := #[.val (.long q1), .second, .val (.long q2), .second, .val (.long q3), .second, .val (.int p4), .val (.long q5), .second, .val (.long x5), .second, .val (.long x12), .second, .val (.long x20), .second, .val (.long (1 : Int64)), .second, .val (.long (2 : Int64)), .second, .val (.long (0 : Int64)), .second, .val (.ref b6), .val (.long r96), .second, .val (.long x5), .second, .val (.long x12), .second, .val (.long x20), .second, .unset, .unset]) rfl ?_
              refine g_lconst X at_191 rfl (q := 192) (v := 0) rfl ?_
              refine g_lload X at_192 rfl (q := 194) rfl ?_
              refine g_lload X at_194 rfl (q := 196) rfl ?_
              refine g_callS X [(.long (0 : Int64)), (.long x5), (.long (0 : Int64))] [] (tw62 hw) (tw63 hw) (tw60 hw) (tw64 hw) (by decide) (rm11_0_0 l Z a0 hw [] x5 _ n0 X.size) pd6 rfl rfl rfl at_196 (q := 199) rfl (W := 0) rfl (by decide) (by decide) (c2 := 5) (s2 := 19) rfl rfl (by decide) (by decide) (fun v T h' X hQ => ?_)
              obtain ⟨rfl, rfl⟩ := hQ
              show Goes p e below s _ n0 _ (T.setTop (mkF m 199 #[.val (.long q1), .second, .val (.long q2), .second, .val (.long q3), .second, .val (.int p4), .val (.long q5), .second, .val (.long x5), .second, .val (.long x12), .second, .val (.long x20), .second, .val (.long (1 : Int64)), .second, .val (.long (2 : Int64)), .second, .val (.long (0 : Int64)), .second, .val (.ref b6), .val (.long r96), .second, .val (.long x5), .second, .val (.long x12), .second, .val (.long x20), .second, .unset, .unset] [(.long x5)]))
              refine g_lconst X at_199 rfl (q := 200) (v := 1) rfl ?_
              refine g_lload X at_200 rfl (q := 202) rfl ?_
              refine g_lload X at_202 rfl (q := 204) rfl ?_
              refine g_callS X [(.long (1 : Int64)), (.long x12), (.long (0 : Int64))] [(.long x5)] (tw62 hw) (tw63 hw) (tw60 hw) (tw64 hw) (by decide) (rm11_1_0 l Z a0 hw [] x12 _ n0 X.size) pd6 rfl rfl rfl at_204 (q := 207) rfl (W := 2) rfl (by decide) (by decide) (c2 := 5) (s2 := 19) rfl rfl (by decide) (by decide) (fun v T h' X hQ => ?_)
              obtain ⟨rfl, rfl⟩ := hQ
              show Goes p e below s _ n0 _ (T.setTop (mkF m 207 #[.val (.long q1), .second, .val (.long q2), .second, .val (.long q3), .second, .val (.int p4), .val (.long q5), .second, .val (.long x5), .second, .val (.long x12), .second, .val (.long x20), .second, .val (.long (1 : Int64)), .second, .val (.long (2 : Int64)), .second, .val (.long (0 : Int64)), .second, .val (.ref b6), .val (.long r96), .second, .val (.long x5), .second, .val (.long x12), .second, .val (.long x20), .second, .unset, .unset] [(.long x12), (.long x5)]))
              refine g_callS X [(.long x5), (.long x12)] [] (tw58 hw) (tw59 hw) (tw60 hw) (tw61 hw) (by decide) (rm10 l Z a0 hw [] x5 x12 _ n0 X.size) pd4 rfl rfl rfl at_207 (q := 210) rfl (W := 0) rfl (by decide) (by decide) (c2 := 5) (s2 := 19) rfl rfl (by decide) (by decide) (fun v T h' X hQ => ?_)
              obtain ⟨rfl, rfl⟩ := hQ
              show Goes p e below s _ n0 _ (T.setTop (mkF m 210 #[.val (.long q1), .second, .val (.long q2), .second, .val (.long q3), .second, .val (.int p4), .val (.long q5), .second, .val (.long x5), .second, .val (.long x12), .second, .val (.long x20), .second, .val (.long (1 : Int64)), .second, .val (.long (2 : Int64)), .second, .val (.long (0 : Int64)), .second, .val (.ref b6), .val (.long r96), .second, .val (.long x5), .second, .val (.long x12), .second, .val (.long x20), .second, .unset, .unset] [(.long (if ((9223372036854775807 : Int64) - x12) < x5 then (9223372036854775807 : Int64) else (x5 + x12)))]))
              refine g_letJ (fun r207 hr207 => ?_)
              have s_r207 := own_satI hr207 s_x5.1 s_x12.1
              refine g_ldc2 X (tw65 hw) at_210 (q := 213) rfl ?_
              refine g_lload X at_213 rfl (q := 215) rfl ?_
              refine g_lload X at_215 rfl (q := 217) rfl ?_
              refine g_callS X [(.long (2 : Int64)), (.long x20), (.long (0 : Int64))] [(.long r207)] (tw62 hw) (tw63 hw) (tw60 hw) (tw64 hw) (by decide) (rm11_2_0 l Z a0 hw [] x20 _ n0 X.size) pd6 rfl rfl rfl at_217 (q := 220) rfl (W := 2) rfl (by decide) (by decide) (c2 := 5) (s2 := 19) rfl rfl (by decide) (by decide) (fun v T h' X hQ => ?_)
              obtain ⟨rfl, rfl⟩ := hQ
              show Goes p e below s _ n0 _ (T.setTop (mkF m 220 #[.val (.long q1), .second, .val (.long q2), .second, .val (.long q3), .second, .val (.int p4), .val (.long q5), .second, .val (.long x5), .second, .val (.long x12), .second, .val (.long x20), .second, .val (.long (1 : Int64)), .second, .val (.long (2 : Int64)), .second, .val (.long (0 : Int64)), .second, .val (.ref b6), .val (.long r96), .second, .val (.long x5), .second, .val (.long x12), .second, .val (.long x20), .second, .unset, .unset] [(.long x20), (.long r207)]))
              refine g_callS X [(.long r207), (.long x20)] [] (tw58 hw) (tw59 hw) (tw60 hw) (tw61 hw) (by decide) (rm10 l Z a0 hw [] r207 x20 _ n0 X.size) pd4 rfl rfl rfl at_220 (q := 223) rfl (W := 0) rfl (by decide) (by decide) (c2 := 5) (s2 := 19) rfl rfl (by decide) (by decide) (fun v T h' X hQ => ?_)
              obtain ⟨rfl, rfl⟩ := hQ
              show Goes p e below s _ n0 _ (T.setTop (mkF m 223 #[.val (.long q1), .second, .val (.long q2), .second, .val (.long q3), .second, .val (.int p4), .val (.long q5), .second, .val (.long x5), .second, .val (.long x12), .second, .val (.long x20), .second, .val (.long (1 : Int64)), .second, .val (.long (2 : Int64)), .second, .val (.long (0 : Int64)), .second, .val (.ref b6), .val (.long r96), .second, .val (.long x5), .second, .val (.long x12), .second, .val (.long x20), .second, .unset, .unset] [(.long (if ((9223372036854775807 : Int64) - x20) < r207 then (9223372036854775807 : Int64) else (r207 + x20)))]))
              refine g_letJ (fun r220 hr220 => ?_)
              have s_r220 := own_satI hr220 s_r207.1 s_x20.1
              refine g_lstore X at_223 rfl (q := 225) (L' := #[.val (.long q1), .second, .val (.long q2), .second, .val (.long q3), .second, .val (.int p4), .val (.long q5), .second, .val (.long x5), .second, .val (.long x12), .second, .val (.long x20), .second, .val (.long (1 : Int64)), .second, .val (.long (2 : Int64)), .second, .val (.long (0 : Int64)), .second, .val (.ref b6), .val (.long r96), .second, .val (.long x5), .second, .val (.long x12), .second, .val (.long x20), .second, .val (.long r220), .second]) rfl ?_
              refine g_lload X at_225 rfl (q := 227) rfl ?_
              refine g_lload X at_227 rfl (q := 229) rfl ?_
              refine g_jT1 X (J := 238) (P := fun (s0_238 : Int32) => s0_238 = (bI (r96 = r220))) (L := fun s0_238 => #[.val (.long q1), .second, .val (.long q2), .second, .val (.long q3), .second, .val (.int p4), .val (.long q5), .second, .val (.long x5), .second, .val (.long x12), .second, .val (.long x20), .second, .val (.long (1 : Int64)), .second, .val (.long (2 : Int64)), .second, .val (.long (0 : Int64)), .second, .val (.ref b6), .val (.long r96), .second, .val (.long x5), .second, .val (.long x12), .second, .val (.long x20), .second, .val (.long r220), .second]) (S := fun s0_238 => [(.int s0_238)]) ?_ ?_
              · intro T X s0_238 hs0_238
                replace hs0_238 : s0_238 = (bI (r96 = r220)) := hs0_238
                subst hs0_238
                show Goes p e below s _ n0 _ (T.setTop (mkF m 238 #[.val (.long q1), .second, .val (.long q2), .second, .val (.long q3), .second, .val (.int p4), .val (.long q5), .second, .val (.long x5), .second, .val (.long x12), .second, .val (.long x20), .second, .val (.long (1 : Int64)), .second, .val (.long (2 : Int64)), .second, .val (.long (0 : Int64)), .second, .val (.ref b6), .val (.long r96), .second, .val (.long x5), .second, .val (.long x12), .second, .val (.long x20), .second, .val (.long r220), .second] [(.int (bI (r96 = r220)))]))
                refine g_retZ X at_238 (by decide) (by decide) (bI_01 _) (own_fin ?_)
                show r96 = r220
                apply Int64.toInt_inj.mp
                (try simp only [Int64.reduceToInt] at s_x5 s_x12 s_x20 s_r96 s_r207 s_r220)
                omega
              · intro J238_51
                refine g_lcmpB X at_229 (q1 := 230) rfl at_230 (Or.inr (Or.inr rfl)) (q := 233) rfl (by decide) (t := 237) rfl (fun (c52 : r96 = r220) => ?_) (fun (c52 : ¬ (r96 = r220)) => ?_)
                · skip
                  refine g_iconst X at_233 rfl (q := 234) (v := 1) rfl ?_
                  refine g_goto X at_234 (by decide) (q := 238) rfl ?_
                  exact J238_51 T X _ (bI_t c52)
                · skip
                  refine g_iconst X at_237 rfl (q := 238) (v := 0) rfl ?_
                  exact J238_51 T X _ (bI_f c52)
      · subst q4
        show Goes p e below s _ n0 _ (T.setTop (mkF m 89 #[.val (.long q1), .second, .val (.long q2), .second, .val (.long q3), .second, .val (.int p4), .val (.long q5), .second, .val (.long x5), .second, .val (.long x12), .second, .val (.long x20), .second, .val (.long (1 : Int64)), .second, .val (.long (2 : Int64)), .second, .val (.long (1 : Int64)), .second, .val (.ref b6), .unset, .unset, .unset, .unset, .unset, .unset, .unset, .unset, .unset, .unset] [(.ref b6)]))
        refine g_lload X at_89 rfl (q := 91) rfl ?_
        refine g_callV X O_b6.1 [(.long (1 : Int64))] [] (tw48 hw) (tw49 hw) (tw51 hw) (tw50 hw) (tw3 hw) (tw52 hw) (by decide) (rm8_3_4_1 l Z a0 hw [] b6 (1 : Int64) q5 i1_84 n1_84 t1_84 b1_84 (own_up (own_up (own_up (fun _ => 0) 0 (0 : Int64)) 1 (1 : Int64)) 2 (2 : Int64)) (own_up (own_up (own_up (fun _ => 0) 0 x5) 1 x12) 2 x20) (((0 + x5.toInt) + x12.toInt) + x20.toInt) (((0 + 1) + 1) + 1) _ n0 X.size O_b6 A_i1_84 A_n1_84 g_b6 ne_b6_i1_84 ne_b6_n1_84 ne_i1_84_b6 ne_i1_84_n1_84 ne_n1_84_b6 ne_n1_84_i1_84 (by decide) (by decide) (show (0 : Int) ≤ (x5 : Int64).toInt from s_x5.1) (show (x5 : Int64).toInt ≤ (((0 + x5.toInt) + x12.toInt) + x20.toInt) from by omega) hS1_84 (by decide)) pd0 rfl rfl rfl at_91 (q := 94) rfl (W := 0) rfl (by decide) (by decide) (c2 := 5) (s2 := 19) rfl rfl (by decide) (by decide) (fun v T h' X hQ => ?_)
        obtain ⟨t1_91, b1_91, i1_91, n1_91, o1_91, s1_91, rfl, Kc, O_b6', hS1_91⟩ := hQ
        have A_i1_56 := A_i1_56.keep Kc (ninS ne_i1_56_b6 nin0)
        have A_n1_56 := A_n1_56.keep Kc (ninS ne_n1_56_b6 nin0)
        have A_i1_84 := A_i1_84.keep Kc (ninS ne_i1_84_b6 nin0)
        have A_n1_84 := A_n1_84.keep Kc (ninS ne_n1_84_b6 nin0)
        have O_b6 := O_b6'
        show Goes p e below s _ n0 _ (T.setTop (mkF m 94 #[.val (.long q1), .second, .val (.long q2), .second, .val (.long q3), .second, .val (.int p4), .val (.long q5), .second, .val (.long x5), .second, .val (.long x12), .second, .val (.long x20), .second, .val (.long (1 : Int64)), .second, .val (.long (2 : Int64)), .second, .val (.long (1 : Int64)), .second, .val (.ref b6), .unset, .unset, .unset, .unset, .unset, .unset, .unset, .unset, .unset, .unset] []))
        have hT : OKT t1_91 b1_91 ((((0 + x5.toInt) + x12.toInt) + x20.toInt) - x5.toInt) (((0 + 1) + 1) + 1) := hS1_91
        refine g_aload X at_94 rfl (q := 96) rfl rfl ?_
        refine g_callV X O_b6.1 [] [] (tw53 hw) (tw54 hw) (tw56 hw) (tw55 hw) (tw3 hw) (tw57 hw) (by decide) (rm9 l Z a0 hw [] b6 q5 i1_91 n1_91 o1_91 s1_91 t1_91 b1_91 _ n0 X.size O_b6) pd5 rfl rfl rfl at_96 (q := 99) rfl (W := 0) rfl (by decide) (by decide) (c2 := 5) (s2 := 19) rfl rfl (by decide) (by decide) (fun v T h' X hQ => ?_)
        obtain ⟨rfl, rfl⟩ := hQ
        show Goes p e below s _ n0 _ (T.setTop (mkF m 99 #[.val (.long q1), .second, .val (.long q2), .second, .val (.long q3), .second, .val (.int p4), .val (.long q5), .second, .val (.long x5), .second, .val (.long x12), .second, .val (.long x20), .second, .val (.long (1 : Int64)), .second, .val (.long (2 : Int64)), .second, .val (.long (1 : Int64)), .second, .val (.ref b6), .unset, .unset, .unset, .unset, .unset, .unset, .unset, .unset, .unset, .unset] [(.long (if b1_91 = (0 : Int64) then t1_91 else (9223372036854775807 : Int64)))]))
        refine g_letJ (fun r96 hr96 => ?_)
        have s_r96 := own_totI hr96 hT
        refine g_lstore X at_99 rfl (q := 101) (L' := #[.val (.long q1), .second, .val (.long q2), .second, .val (.long q3), .second, .val (.int p4), .val (.long q5), .second, .val (.long x5), .second, .val (.long x12), .second, .val (.long x20), .second, .val (.long (1 : Int64)), .second, .val (.long (2 : Int64)), .second, .val (.long (1 : Int64)), .second, .val (.ref b6), .val (.long r96), .second, .unset, .unset, .unset, .unset, .unset, .unset, .unset, .unset]) rfl ?_
        refine g_lload X at_101 rfl (q := 103) rfl ?_
        refine g_lstore X at_103 rfl (q := 105) (L' := #[.val (.long q1), .second, .val (.long q2), .second, .val (.long q3), .second, .val (.int p4), .val (.long q5), .second, .val (.long x5), .second, .val (.long x12), .second, .val (.long x20), .second, .val (.long (1 : Int64)), .second, .val (.long (2 : Int64)), .second, .val (.long (1 : Int64)), .second, .val (.ref b6), .val (.long r96), .second, .val (.long x5), .second, .unset, .unset, .unset, .unset, .unset, .unset]) rfl ?_
        refine g_lconst X at_105 rfl (q := 106) (v := 0) rfl ?_
        refine g_lstore X at_106 rfl (q := 108) (L' := #[.val (.long q1), .second, .val (.long q2), .second, .val (.long q3), .second, .val (.int p4), .val (.long q5), .second, .val (.long x5), .second, .val (.long x12), .second, .val (.long x20), .second, .val (.long (1 : Int64)), .second, .val (.long (2 : Int64)), .second, .val (.long (1 : Int64)), .second, .val (.ref b6), .val (.long r96), .second, .val (.long x5), .second, .val (.long (0 : Int64)), .second, .unset, .unset, .unset, .unset]) rfl ?_
        refine g_lconst X at_108 rfl (q := 109) (v := 0) rfl ?_
        refine g_lstore X at_109 rfl (q := 111) (L' := #[.val (.long q1), .second, .val (.long q2), .second, .val (.long q3), .second, .val (.int p4), .val (.long q5), .second, .val (.long x5), .second, .val (.long x12), .second, .val (.long x20), .second, .val (.long (1 : Int64)), .second, .val (.long (2 : Int64)), .second, .val (.long (1 : Int64)), .second, .val (.ref b6), .val (.long r96), .second, .val (.long x5), .second, .val (.long (0 : Int64)), .second, .val (.long (0 : Int64)), .second, .unset, .unset]) rfl ?_
        refine g_lload X at_111 rfl (q := 113) rfl ?_
        refine g_lconst X at_113 rfl (q := 114) (v := 0) rfl ?_
        refine g_lcmpB X at_114 (q1 := 115) rfl at_115 (Or.inr (Or.inr rfl)) (q := 118) rfl (by decide) (t := 130) rfl (fun (c53 : (1 : Int64) = (0 : Int64)) => ?_) (fun (c53 : ¬ ((1 : Int64) = (0 : Int64))) => ?_)
        · skip
          exact absurd c53 (by decide)
        · skip
          refine g_lload X at_130 rfl (q := 132) rfl ?_
          refine g_lstore X at_132 rfl (q := 134) (L' := #[.val (.long q1), .second, .val (.long q2), .second, .val (.long q3), .second, .val (.int p4), .val (.long q5), .second, .val (.long x5), .second, .val (.long x12), .second, .val (.long x20), .second, .val (.long (1 : Int64)), .second, .val (.long (2 : Int64)), .second, .val (.long (1 : Int64)), .second, .val (.ref b6), .val (.long r96), .second, .val (.long x5), .second, .val (.long x12), .second, .val (.long (0 : Int64)), .second, .unset, .unset]) rfl ?_
          refine g_lload X at_134 rfl (q := 136) rfl ?_
          refine g_lload X at_136 rfl (q := 138) rfl ?_
          refine g_lcmpB X at_138 (q1 := 139) rfl at_139 (Or.inr (Or.inr rfl)) (q := 142) rfl (by decide) (t := 173) rfl (fun (c54 : (2 : Int64) = (1 : Int64)) => ?_) (fun (c54 : ¬ ((2 : Int64) = (1 : Int64))) => ?_)
          · skip
            exact absurd c54 (by decide)
          · skip
            refine g_lload X at_173 rfl (q := 175) rfl ?_
            refine g_lconst X at_175 rfl (q := 176) (v := 0) rfl ?_
            refine g_lcmpB X at_176 (q1 := 177) rfl at_177 (Or.inr (Or.inr rfl)) (q := 180) rfl (by decide) (t := 187) rfl (fun (c55 : (1 : Int64) = (0 : Int64)) => ?_) (fun (c55 : ¬ ((1 : Int64) = (0 : Int64))) => ?_)
            · skip
              exact absurd c55 (by decide)
            · skip
              refine g_lload X at_187 rfl (q := 189) rfl ?_
              refine g_lstore X at_189 rfl (q := 191) (L' := #[.val (.long q1), .second, .val (.long q2), .second, .val (.long q3), .second, .val (.int p4), .val (.long q5), .second, .val (.long x5), .second, .val (.long x12), .second, .val (.long x20), .second, .val (.long (1 : Int64)), .second, .val (.long (2 : Int64)), .second, .val (.long (1 : Int64)), .second, .val (.ref b6), .val (.long r96), .second, .val (.long x5), .second, .val (.long x12), .second, .val (.long x20), .second, .unset, .unset]) rfl ?_
              refine g_lconst X at_191 rfl (q := 192) (v := 0) rfl ?_
              refine g_lload X at_192 rfl (q := 194) rfl ?_
              refine g_lload X at_194 rfl (q := 196) rfl ?_
              refine g_callS X [(.long (0 : Int64)), (.long x5), (.long (1 : Int64))] [] (tw62 hw) (tw63 hw) (tw60 hw) (tw64 hw) (by decide) (rm11_0_1 l Z a0 hw [] x5 _ n0 X.size) pd6 rfl rfl rfl at_196 (q := 199) rfl (W := 0) rfl (by decide) (by decide) (c2 := 5) (s2 := 19) rfl rfl (by decide) (by decide) (fun v T h' X hQ => ?_)
              obtain ⟨rfl, rfl⟩ := hQ
              show Goes p e below s _ n0 _ (T.setTop (mkF m 199 #[.val (.long q1), .second, .val (.long q2), .second, .val (.long q3), .second, .val (.int p4), .val (.long q5), .second, .val (.long x5), .second, .val (.long x12), .second, .val (.long x20), .second, .val (.long (1 : Int64)), .second, .val (.long (2 : Int64)), .second, .val (.long (1 : Int64)), .second, .val (.ref b6), .val (.long r96), .second, .val (.long x5), .second, .val (.long x12), .second, .val (.long x20), .second, .unset, .unset] [(.long (0 : Int64))]))
              refine g_lconst X at_199 rfl (q := 200) (v := 1) rfl ?_
              refine g_lload X at_200 rfl (q := 202) rfl ?_
              refine g_lload X at_202 rfl (q := 204) rfl ?_
              refine g_callS X [(.long (1 : Int64)), (.long x12), (.long (1 : Int64))] [(.long (0 : Int64))] (tw62 hw) (tw63 hw) (tw60 hw) (tw64 hw) (by decide) (rm11_1_1 l Z a0 hw [] x12 _ n0 X.size) pd6 rfl rfl rfl at_204 (q := 207) rfl (W := 2) rfl (by decide) (by decide) (c2 := 5) (s2 := 19) rfl rfl (by decide) (by decide) (fun v T h' X hQ => ?_)
              obtain ⟨rfl, rfl⟩ := hQ
              show Goes p e below s _ n0 _ (T.setTop (mkF m 207 #[.val (.long q1), .second, .val (.long q2), .second, .val (.long q3), .second, .val (.int p4), .val (.long q5), .second, .val (.long x5), .second, .val (.long x12), .second, .val (.long x20), .second, .val (.long (1 : Int64)), .second, .val (.long (2 : Int64)), .second, .val (.long (1 : Int64)), .second, .val (.ref b6), .val (.long r96), .second, .val (.long x5), .second, .val (.long x12), .second, .val (.long x20), .second, .unset, .unset] [(.long x12), (.long (0 : Int64))]))
              refine g_callS X [(.long (0 : Int64)), (.long x12)] [] (tw58 hw) (tw59 hw) (tw60 hw) (tw61 hw) (by decide) (rm10 l Z a0 hw [] (0 : Int64) x12 _ n0 X.size) pd4 rfl rfl rfl at_207 (q := 210) rfl (W := 0) rfl (by decide) (by decide) (c2 := 5) (s2 := 19) rfl rfl (by decide) (by decide) (fun v T h' X hQ => ?_)
              obtain ⟨rfl, rfl⟩ := hQ
              show Goes p e below s _ n0 _ (T.setTop (mkF m 210 #[.val (.long q1), .second, .val (.long q2), .second, .val (.long q3), .second, .val (.int p4), .val (.long q5), .second, .val (.long x5), .second, .val (.long x12), .second, .val (.long x20), .second, .val (.long (1 : Int64)), .second, .val (.long (2 : Int64)), .second, .val (.long (1 : Int64)), .second, .val (.ref b6), .val (.long r96), .second, .val (.long x5), .second, .val (.long x12), .second, .val (.long x20), .second, .unset, .unset] [(.long (if ((9223372036854775807 : Int64) - x12) < (0 : Int64) then (9223372036854775807 : Int64) else ((0 : Int64) + x12)))]))
              refine g_letJ (fun r207 hr207 => ?_)
              have s_r207 := own_satI hr207 (by decide) s_x12.1
              refine g_ldc2 X (tw65 hw) at_210 (q := 213) rfl ?_
              refine g_lload X at_213 rfl (q := 215) rfl ?_
              refine g_lload X at_215 rfl (q := 217) rfl ?_
              refine g_callS X [(.long (2 : Int64)), (.long x20), (.long (1 : Int64))] [(.long r207)] (tw62 hw) (tw63 hw) (tw60 hw) (tw64 hw) (by decide) (rm11_2_1 l Z a0 hw [] x20 _ n0 X.size) pd6 rfl rfl rfl at_217 (q := 220) rfl (W := 2) rfl (by decide) (by decide) (c2 := 5) (s2 := 19) rfl rfl (by decide) (by decide) (fun v T h' X hQ => ?_)
              obtain ⟨rfl, rfl⟩ := hQ
              show Goes p e below s _ n0 _ (T.setTop (mkF m 220 #[.val (.long q1), .second, .val (.long q2), .second, .val (.long q3), .second, .val (.int p4), .val (.long q5), .second, .val (.long x5), .second, .val (.long x12), .second, .val (.long x20), .second, .val (.long (1 : Int64)), .second, .val (.long (2 : Int64)), .second, .val (.long (1 : Int64)), .second, .val (.ref b6), .val (.long r96), .second, .val (.long x5), .second, .val (.long x12), .second, .val (.long x20), .second, .unset, .unset] [(.long x20), (.long r207)]))
              refine g_callS X [(.long r207), (.long x20)] [] (tw58 hw) (tw59 hw) (tw60 hw) (tw61 hw) (by decide) (rm10 l Z a0 hw [] r207 x20 _ n0 X.size) pd4 rfl rfl rfl at_220 (q := 223) rfl (W := 0) rfl (by decide) (by decide) (c2 := 5) (s2 := 19) rfl rfl (by decide) (by decide) (fun v T h' X hQ => ?_)
              obtain ⟨rfl, rfl⟩ := hQ
              show Goes p e below s _ n0 _ (T.setTop (mkF m 223 #[.val (.long q1), .second, .val (.long q2), .second, .val (.long q3), .second, .val (.int p4), .val (.long q5), .second, .val (.long x5), .second, .val (.long x12), .second, .val (.long x20), .second, .val (.long (1 : Int64)), .second, .val (.long (2 : Int64)), .second, .val (.long (1 : Int64)), .second, .val (.ref b6), .val (.long r96), .second, .val (.long x5), .second, .val (.long x12), .second, .val (.long x20), .second, .unset, .unset] [(.long (if ((9223372036854775807 : Int64) - x20) < r207 then (9223372036854775807 : Int64) else (r207 + x20)))]))
              refine g_letJ (fun r220 hr220 => ?_)
              have s_r220 := own_satI hr220 s_r207.1 s_x20.1
              refine g_lstore X at_223 rfl (q := 225) (L' := #[.val (.long q1), .second, .val (.long q2), .second, .val (.long q3), .second, .val (.int p4), .val (.long q5), .second, .val (.long x5), .second, .val (.long x12), .second, .val (.long x20), .second, .val (.long (1 : Int64)), .second, .val (.long (2 : Int64)), .second, .val (.long (1 : Int64)), .second, .val (.ref b6), .val (.long r96), .second, .val (.long x5), .second, .val (.long x12), .second, .val (.long x20), .second, .val (.long r220), .second]) rfl ?_
              refine g_lload X at_225 rfl (q := 227) rfl ?_
              refine g_lload X at_227 rfl (q := 229) rfl ?_
              refine g_jT1 X (J := 238) (P := fun (s0_238 : Int32) => s0_238 = (bI (r96 = r220))) (L := fun s0_238 => #[.val (.long q1), .second, .val (.long q2), .second, .val (.long q3), .second, .val (.int p4), .val (.long q5), .second, .val (.long x5), .second, .val (.long x12), .second, .val (.long x20), .second, .val (.long (1 : Int64)), .second, .val (.long (2 : Int64)), .second, .val (.long (1 : Int64)), .second, .val (.ref b6), .val (.long r96), .second, .val (.long x5), .second, .val (.long x12), .second, .val (.long x20), .second, .val (.long r220), .second]) (S := fun s0_238 => [(.int s0_238)]) ?_ ?_
              · intro T X s0_238 hs0_238
                replace hs0_238 : s0_238 = (bI (r96 = r220)) := hs0_238
                subst hs0_238
                show Goes p e below s _ n0 _ (T.setTop (mkF m 238 #[.val (.long q1), .second, .val (.long q2), .second, .val (.long q3), .second, .val (.int p4), .val (.long q5), .second, .val (.long x5), .second, .val (.long x12), .second, .val (.long x20), .second, .val (.long (1 : Int64)), .second, .val (.long (2 : Int64)), .second, .val (.long (1 : Int64)), .second, .val (.ref b6), .val (.long r96), .second, .val (.long x5), .second, .val (.long x12), .second, .val (.long x20), .second, .val (.long r220), .second] [(.int (bI (r96 = r220)))]))
                refine g_retZ X at_238 (by decide) (by decide) (bI_01 _) (own_fin ?_)
                show r96 = r220
                apply Int64.toInt_inj.mp
                (try simp only [Int64.reduceToInt] at s_x5 s_x12 s_x20 s_r96 s_r207 s_r220)
                omega
              · intro J238_55
                refine g_lcmpB X at_229 (q1 := 230) rfl at_230 (Or.inr (Or.inr rfl)) (q := 233) rfl (by decide) (t := 237) rfl (fun (c56 : r96 = r220) => ?_) (fun (c56 : ¬ (r96 = r220)) => ?_)
                · skip
                  refine g_iconst X at_233 rfl (q := 234) (v := 1) rfl ?_
                  refine g_goto X at_234 (by decide) (q := 238) rfl ?_
                  exact J238_55 T X _ (bI_t c56)
                · skip
                  refine g_iconst X at_237 rfl (q := 238) (v := 0) rfl ?_
                  exact J238_55 T X _ (bI_f c56)
      · subst q4
        show Goes p e below s _ n0 _ (T.setTop (mkF m 89 #[.val (.long q1), .second, .val (.long q2), .second, .val (.long q3), .second, .val (.int p4), .val (.long q5), .second, .val (.long x5), .second, .val (.long x12), .second, .val (.long x20), .second, .val (.long (1 : Int64)), .second, .val (.long (2 : Int64)), .second, .val (.long (2 : Int64)), .second, .val (.ref b6), .unset, .unset, .unset, .unset, .unset, .unset, .unset, .unset, .unset, .unset] [(.ref b6)]))
        refine g_lload X at_89 rfl (q := 91) rfl ?_
        refine g_callV X O_b6.1 [(.long (2 : Int64))] [] (tw48 hw) (tw49 hw) (tw51 hw) (tw50 hw) (tw3 hw) (tw52 hw) (by decide) (rm8_3_4_2 l Z a0 hw [] b6 (2 : Int64) q5 i1_84 n1_84 t1_84 b1_84 (own_up (own_up (own_up (fun _ => 0) 0 (0 : Int64)) 1 (1 : Int64)) 2 (2 : Int64)) (own_up (own_up (own_up (fun _ => 0) 0 x5) 1 x12) 2 x20) (((0 + x5.toInt) + x12.toInt) + x20.toInt) (((0 + 1) + 1) + 1) _ n0 X.size O_b6 A_i1_84 A_n1_84 g_b6 ne_b6_i1_84 ne_b6_n1_84 ne_i1_84_b6 ne_i1_84_n1_84 ne_n1_84_b6 ne_n1_84_i1_84 (by decide) (by decide) (by decide) (show (0 : Int) ≤ (x5 : Int64).toInt from s_x5.1) (show (0 : Int) ≤ (x12 : Int64).toInt from s_x12.1) (show (x5 : Int64).toInt + (x12 : Int64).toInt ≤ (((0 + x5.toInt) + x12.toInt) + x20.toInt) from by omega) hS1_84 (by decide)) pd0 rfl rfl rfl at_91 (q := 94) rfl (W := 0) rfl (by decide) (by decide) (c2 := 5) (s2 := 19) rfl rfl (by decide) (by decide) (fun v T h' X hQ => ?_)
        obtain ⟨t1_91, b1_91, i1_91, n1_91, o1_91, s1_91, rfl, Kc, O_b6', hS1_91⟩ := hQ
        have A_i1_56 := A_i1_56.keep Kc (ninS ne_i1_56_b6 nin0)
        have A_n1_56 := A_n1_56.keep Kc (ninS ne_n1_56_b6 nin0)
        have A_i1_84 := A_i1_84.keep Kc (ninS ne_i1_84_b6 nin0)
        have A_n1_84 := A_n1_84.keep Kc (ninS ne_n1_84_b6 nin0)
        have O_b6 := O_b6'
        show Goes p e below s _ n0 _ (T.setTop (mkF m 94 #[.val (.long q1), .second, .val (.long q2), .second, .val (.long q3), .second, .val (.int p4), .val (.long q5), .second, .val (.long x5), .second, .val (.long x12), .second, .val (.long x20), .second, .val (.long (1 : Int64)), .second, .val (.long (2 : Int64)), .second, .val (.long (2 : Int64)), .second, .val (.ref b6), .unset, .unset, .unset, .unset, .unset, .unset, .unset, .unset, .unset, .unset] []))
        have hT : OKT t1_91 b1_91 ((((0 + x5.toInt) + x12.toInt) + x20.toInt) - x5.toInt - x12.toInt) (((0 + 1) + 1) + 1) := hS1_91
        refine g_aload X at_94 rfl (q := 96) rfl rfl ?_
        refine g_callV X O_b6.1 [] [] (tw53 hw) (tw54 hw) (tw56 hw) (tw55 hw) (tw3 hw) (tw57 hw) (by decide) (rm9 l Z a0 hw [] b6 q5 i1_91 n1_91 o1_91 s1_91 t1_91 b1_91 _ n0 X.size O_b6) pd5 rfl rfl rfl at_96 (q := 99) rfl (W := 0) rfl (by decide) (by decide) (c2 := 5) (s2 := 19) rfl rfl (by decide) (by decide) (fun v T h' X hQ => ?_)
        obtain ⟨rfl, rfl⟩ := hQ
        show Goes p e below s _ n0 _ (T.setTop (mkF m 99 #[.val (.long q1), .second, .val (.long q2), .second, .val (.long q3), .second, .val (.int p4), .val (.long q5), .second, .val (.long x5), .second, .val (.long x12), .second, .val (.long x20), .second, .val (.long (1 : Int64)), .second, .val (.long (2 : Int64)), .second, .val (.long (2 : Int64)), .second, .val (.ref b6), .unset, .unset, .unset, .unset, .unset, .unset, .unset, .unset, .unset, .unset] [(.long (if b1_91 = (0 : Int64) then t1_91 else (9223372036854775807 : Int64)))]))
        refine g_letJ (fun r96 hr96 => ?_)
        have s_r96 := own_totI hr96 hT
        refine g_lstore X at_99 rfl (q := 101) (L' := #[.val (.long q1), .second, .val (.long q2), .second, .val (.long q3), .second, .val (.int p4), .val (.long q5), .second, .val (.long x5), .second, .val (.long x12), .second, .val (.long x20), .second, .val (.long (1 : Int64)), .second, .val (.long (2 : Int64)), .second, .val (.long (2 : Int64)), .second, .val (.ref b6), .val (.long r96), .second, .unset, .unset, .unset, .unset, .unset, .unset, .unset, .unset]) rfl ?_
        refine g_lload X at_101 rfl (q := 103) rfl ?_
        refine g_lstore X at_103 rfl (q := 105) (L' := #[.val (.long q1), .second, .val (.long q2), .second, .val (.long q3), .second, .val (.int p4), .val (.long q5), .second, .val (.long x5), .second, .val (.long x12), .second, .val (.long x20), .second, .val (.long (1 : Int64)), .second, .val (.long (2 : Int64)), .second, .val (.long (2 : Int64)), .second, .val (.ref b6), .val (.long r96), .second, .val (.long x5), .second, .unset, .unset, .unset, .unset, .unset, .unset]) rfl ?_
        refine g_lconst X at_105 rfl (q := 106) (v := 0) rfl ?_
        refine g_lstore X at_106 rfl (q := 108) (L' := #[.val (.long q1), .second, .val (.long q2), .second, .val (.long q3), .second, .val (.int p4), .val (.long q5), .second, .val (.long x5), .second, .val (.long x12), .second, .val (.long x20), .second, .val (.long (1 : Int64)), .second, .val (.long (2 : Int64)), .second, .val (.long (2 : Int64)), .second, .val (.ref b6), .val (.long r96), .second, .val (.long x5), .second, .val (.long (0 : Int64)), .second, .unset, .unset, .unset, .unset]) rfl ?_
        refine g_lconst X at_108 rfl (q := 109) (v := 0) rfl ?_
        refine g_lstore X at_109 rfl (q := 111) (L' := #[.val (.long q1), .second, .val (.long q2), .second, .val (.long q3), .second, .val (.int p4), .val (.long q5), .second, .val (.long x5), .second, .val (.long x12), .second, .val (.long x20), .second, .val (.long (1 : Int64)), .second, .val (.long (2 : Int64)), .second, .val (.long (2 : Int64)), .second, .val (.ref b6), .val (.long r96), .second, .val (.long x5), .second, .val (.long (0 : Int64)), .second, .val (.long (0 : Int64)), .second, .unset, .unset]) rfl ?_
        refine g_lload X at_111 rfl (q := 113) rfl ?_
        refine g_lconst X at_113 rfl (q := 114) (v := 0) rfl ?_
        refine g_lcmpB X at_114 (q1 := 115) rfl at_115 (Or.inr (Or.inr rfl)) (q := 118) rfl (by decide) (t := 130) rfl (fun (c57 : (1 : Int64) = (0 : Int64)) => ?_) (fun (c57 : ¬ ((1 : Int64) = (0 : Int64))) => ?_)
        · skip
          exact absurd c57 (by decide)
        · skip
          refine g_lload X at_130 rfl (q := 132) rfl ?_
          refine g_lstore X at_132 rfl (q := 134) (L' := #[.val (.long q1), .second, .val (.long q2), .second, .val (.long q3), .second, .val (.int p4), .val (.long q5), .second, .val (.long x5), .second, .val (.long x12), .second, .val (.long x20), .second, .val (.long (1 : Int64)), .second, .val (.long (2 : Int64)), .second, .val (.long (2 : Int64)), .second, .val (.ref b6), .val (.long r96), .second, .val (.long x5), .second, .val (.long x12), .second, .val (.long (0 : Int64)), .second, .unset, .unset]) rfl ?_
          refine g_lload X at_134 rfl (q := 136) rfl ?_
          refine g_lload X at_136 rfl (q := 138) rfl ?_
          refine g_lcmpB X at_138 (q1 := 139) rfl at_139 (Or.inr (Or.inr rfl)) (q := 142) rfl (by decide) (t := 173) rfl (fun (c58 : (2 : Int64) = (1 : Int64)) => ?_) (fun (c58 : ¬ ((2 : Int64) = (1 : Int64))) => ?_)
          · skip
            exact absurd c58 (by decide)
          · skip
            refine g_lload X at_173 rfl (q := 175) rfl ?_
            refine g_lconst X at_175 rfl (q := 176) (v := 0) rfl ?_
            refine g_lcmpB X at_176 (q1 := 177) rfl at_177 (Or.inr (Or.inr rfl)) (q := 180) rfl (by decide) (t := 187) rfl (fun (c59 : (1 : Int64) = (0 : Int64)) => ?_) (fun (c59 : ¬ ((1 : Int64) = (0 : Int64))) => ?_)
            · skip
              exact absurd c59 (by decide)
            · skip
              refine g_lload X at_187 rfl (q := 189) rfl ?_
              refine g_lstore X at_189 rfl (q := 191) (L' := #[.val (.long q1), .second, .val (.long q2), .second, .val (.long q3), .second, .val (.int p4), .val (.long q5), .second, .val (.long x5), .second, .val (.long x12), .second, .val (.long x20), .second, .val (.long (1 : Int64)), .second, .val (.long (2 : Int64)), .second, .val (.long (2 : Int64)), .second, .val (.ref b6), .val (.long r96), .second, .val (.long x5), .second, .val (.long x12), .second, .val (.long x20), .second, .unset, .unset]) rfl ?_
              refine g_lconst X at_191 rfl (q := 192) (v := 0) rfl ?_
              refine g_lload X at_192 rfl (q := 194) rfl ?_
              refine g_lload X at_194 rfl (q := 196) rfl ?_
              refine g_callS X [(.long (0 : Int64)), (.long x5), (.long (2 : Int64))] [] (tw62 hw) (tw63 hw) (tw60 hw) (tw64 hw) (by decide) (rm11_0_2 l Z a0 hw [] x5 _ n0 X.size) pd6 rfl rfl rfl at_196 (q := 199) rfl (W := 0) rfl (by decide) (by decide) (c2 := 5) (s2 := 19) rfl rfl (by decide) (by decide) (fun v T h' X hQ => ?_)
              obtain ⟨rfl, rfl⟩ := hQ
              show Goes p e below s _ n0 _ (T.setTop (mkF m 199 #[.val (.long q1), .second, .val (.long q2), .second, .val (.long q3), .second, .val (.int p4), .val (.long q5), .second, .val (.long x5), .second, .val (.long x12), .second, .val (.long x20), .second, .val (.long (1 : Int64)), .second, .val (.long (2 : Int64)), .second, .val (.long (2 : Int64)), .second, .val (.ref b6), .val (.long r96), .second, .val (.long x5), .second, .val (.long x12), .second, .val (.long x20), .second, .unset, .unset] [(.long (0 : Int64))]))
              refine g_lconst X at_199 rfl (q := 200) (v := 1) rfl ?_
              refine g_lload X at_200 rfl (q := 202) rfl ?_
              refine g_lload X at_202 rfl (q := 204) rfl ?_
              refine g_callS X [(.long (1 : Int64)), (.long x12), (.long (2 : Int64))] [(.long (0 : Int64))] (tw62 hw) (tw63 hw) (tw60 hw) (tw64 hw) (by decide) (rm11_1_2 l Z a0 hw [] x12 _ n0 X.size) pd6 rfl rfl rfl at_204 (q := 207) rfl (W := 2) rfl (by decide) (by decide) (c2 := 5) (s2 := 19) rfl rfl (by decide) (by decide) (fun v T h' X hQ => ?_)
              obtain ⟨rfl, rfl⟩ := hQ
              show Goes p e below s _ n0 _ (T.setTop (mkF m 207 #[.val (.long q1), .second, .val (.long q2), .second, .val (.long q3), .second, .val (.int p4), .val (.long q5), .second, .val (.long x5), .second, .val (.long x12), .second, .val (.long x20), .second, .val (.long (1 : Int64)), .second, .val (.long (2 : Int64)), .second, .val (.long (2 : Int64)), .second, .val (.ref b6), .val (.long r96), .second, .val (.long x5), .second, .val (.long x12), .second, .val (.long x20), .second, .unset, .unset] [(.long (0 : Int64)), (.long (0 : Int64))]))
              refine g_callS X [(.long (0 : Int64)), (.long (0 : Int64))] [] (tw58 hw) (tw59 hw) (tw60 hw) (tw61 hw) (by decide) (rm10 l Z a0 hw [] (0 : Int64) (0 : Int64) _ n0 X.size) pd4 rfl rfl rfl at_207 (q := 210) rfl (W := 0) rfl (by decide) (by decide) (c2 := 5) (s2 := 19) rfl rfl (by decide) (by decide) (fun v T h' X hQ => ?_)
              obtain ⟨rfl, rfl⟩ := hQ
              show Goes p e below s _ n0 _ (T.setTop (mkF m 210 #[.val (.long q1), .second, .val (.long q2), .second, .val (.long q3), .second, .val (.int p4), .val (.long q5), .second, .val (.long x5), .second, .val (.long x12), .second, .val (.long x20), .second, .val (.long (1 : Int64)), .second, .val (.long (2 : Int64)), .second, .val (.long (2 : Int64)), .second, .val (.ref b6), .val (.long r96), .second, .val (.long x5), .second, .val (.long x12), .second, .val (.long x20), .second, .unset, .unset] [(.long (if ((9223372036854775807 : Int64) - (0 : Int64)) < (0 : Int64) then (9223372036854775807 : Int64) else ((0 : Int64) + (0 : Int64))))]))
              refine g_letJ (fun r207 hr207 => ?_)
              have s_r207 := own_satI hr207 (by decide) (by decide)
              refine g_ldc2 X (tw65 hw) at_210 (q := 213) rfl ?_
              refine g_lload X at_213 rfl (q := 215) rfl ?_
              refine g_lload X at_215 rfl (q := 217) rfl ?_
              refine g_callS X [(.long (2 : Int64)), (.long x20), (.long (2 : Int64))] [(.long r207)] (tw62 hw) (tw63 hw) (tw60 hw) (tw64 hw) (by decide) (rm11_2_2 l Z a0 hw [] x20 _ n0 X.size) pd6 rfl rfl rfl at_217 (q := 220) rfl (W := 2) rfl (by decide) (by decide) (c2 := 5) (s2 := 19) rfl rfl (by decide) (by decide) (fun v T h' X hQ => ?_)
              obtain ⟨rfl, rfl⟩ := hQ
              show Goes p e below s _ n0 _ (T.setTop (mkF m 220 #[.val (.long q1), .second, .val (.long q2), .second, .val (.long q3), .second, .val (.int p4), .val (.long q5), .second, .val (.long x5), .second, .val (.long x12), .second, .val (.long x20), .second, .val (.long (1 : Int64)), .second, .val (.long (2 : Int64)), .second, .val (.long (2 : Int64)), .second, .val (.ref b6), .val (.long r96), .second, .val (.long x5), .second, .val (.long x12), .second, .val (.long x20), .second, .unset, .unset] [(.long x20), (.long r207)]))
              refine g_callS X [(.long r207), (.long x20)] [] (tw58 hw) (tw59 hw) (tw60 hw) (tw61 hw) (by decide) (rm10 l Z a0 hw [] r207 x20 _ n0 X.size) pd4 rfl rfl rfl at_220 (q := 223) rfl (W := 0) rfl (by decide) (by decide) (c2 := 5) (s2 := 19) rfl rfl (by decide) (by decide) (fun v T h' X hQ => ?_)
              obtain ⟨rfl, rfl⟩ := hQ
              show Goes p e below s _ n0 _ (T.setTop (mkF m 223 #[.val (.long q1), .second, .val (.long q2), .second, .val (.long q3), .second, .val (.int p4), .val (.long q5), .second, .val (.long x5), .second, .val (.long x12), .second, .val (.long x20), .second, .val (.long (1 : Int64)), .second, .val (.long (2 : Int64)), .second, .val (.long (2 : Int64)), .second, .val (.ref b6), .val (.long r96), .second, .val (.long x5), .second, .val (.long x12), .second, .val (.long x20), .second, .unset, .unset] [(.long (if ((9223372036854775807 : Int64) - x20) < r207 then (9223372036854775807 : Int64) else (r207 + x20)))]))
              refine g_letJ (fun r220 hr220 => ?_)
              have s_r220 := own_satI hr220 s_r207.1 s_x20.1
              refine g_lstore X at_223 rfl (q := 225) (L' := #[.val (.long q1), .second, .val (.long q2), .second, .val (.long q3), .second, .val (.int p4), .val (.long q5), .second, .val (.long x5), .second, .val (.long x12), .second, .val (.long x20), .second, .val (.long (1 : Int64)), .second, .val (.long (2 : Int64)), .second, .val (.long (2 : Int64)), .second, .val (.ref b6), .val (.long r96), .second, .val (.long x5), .second, .val (.long x12), .second, .val (.long x20), .second, .val (.long r220), .second]) rfl ?_
              refine g_lload X at_225 rfl (q := 227) rfl ?_
              refine g_lload X at_227 rfl (q := 229) rfl ?_
              refine g_jT1 X (J := 238) (P := fun (s0_238 : Int32) => s0_238 = (bI (r96 = r220))) (L := fun s0_238 => #[.val (.long q1), .second, .val (.long q2), .second, .val (.long q3), .second, .val (.int p4), .val (.long q5), .second, .val (.long x5), .second, .val (.long x12), .second, .val (.long x20), .second, .val (.long (1 : Int64)), .second, .val (.long (2 : Int64)), .second, .val (.long (2 : Int64)), .second, .val (.ref b6), .val (.long r96), .second, .val (.long x5), .second, .val (.long x12), .second, .val (.long x20), .second, .val (.long r220), .second]) (S := fun s0_238 => [(.int s0_238)]) ?_ ?_
              · intro T X s0_238 hs0_238
                replace hs0_238 : s0_238 = (bI (r96 = r220)) := hs0_238
                subst hs0_238
                show Goes p e below s _ n0 _ (T.setTop (mkF m 238 #[.val (.long q1), .second, .val (.long q2), .second, .val (.long q3), .second, .val (.int p4), .val (.long q5), .second, .val (.long x5), .second, .val (.long x12), .second, .val (.long x20), .second, .val (.long (1 : Int64)), .second, .val (.long (2 : Int64)), .second, .val (.long (2 : Int64)), .second, .val (.ref b6), .val (.long r96), .second, .val (.long x5), .second, .val (.long x12), .second, .val (.long x20), .second, .val (.long r220), .second] [(.int (bI (r96 = r220)))]))
                refine g_retZ X at_238 (by decide) (by decide) (bI_01 _) (own_fin ?_)
                show r96 = r220
                apply Int64.toInt_inj.mp
                (try simp only [Int64.reduceToInt] at s_x5 s_x12 s_x20 s_r96 s_r207 s_r220)
                omega
              · intro J238_59
                refine g_lcmpB X at_229 (q1 := 230) rfl at_230 (Or.inr (Or.inr rfl)) (q := 233) rfl (by decide) (t := 237) rfl (fun (c60 : r96 = r220) => ?_) (fun (c60 : ¬ (r96 = r220)) => ?_)
                · skip
                  refine g_iconst X at_233 rfl (q := 234) (v := 1) rfl ?_
                  refine g_goto X at_234 (by decide) (q := 238) rfl ?_
                  exact J238_59 T X _ (bI_t c60)
                · skip
                  refine g_iconst X at_237 rfl (q := 238) (v := 0) rfl ?_
                  exact J238_59 T X _ (bI_f c60)
      · subst q4
        show Goes p e below s _ n0 _ (T.setTop (mkF m 89 #[.val (.long q1), .second, .val (.long q2), .second, .val (.long q3), .second, .val (.int p4), .val (.long q5), .second, .val (.long x5), .second, .val (.long x12), .second, .val (.long x20), .second, .val (.long (1 : Int64)), .second, .val (.long (2 : Int64)), .second, .val (.long (3 : Int64)), .second, .val (.ref b6), .unset, .unset, .unset, .unset, .unset, .unset, .unset, .unset, .unset, .unset] [(.ref b6)]))
        refine g_lload X at_89 rfl (q := 91) rfl ?_
        refine g_callV X O_b6.1 [(.long (3 : Int64))] [] (tw48 hw) (tw49 hw) (tw51 hw) (tw50 hw) (tw3 hw) (tw52 hw) (by decide) (rm8_3_4_3 l Z a0 hw [] b6 (3 : Int64) q5 i1_84 n1_84 t1_84 b1_84 (own_up (own_up (own_up (fun _ => 0) 0 (0 : Int64)) 1 (1 : Int64)) 2 (2 : Int64)) (own_up (own_up (own_up (fun _ => 0) 0 x5) 1 x12) 2 x20) (((0 + x5.toInt) + x12.toInt) + x20.toInt) (((0 + 1) + 1) + 1) _ n0 X.size O_b6 A_i1_84 A_n1_84 g_b6 ne_b6_i1_84 ne_b6_n1_84 ne_i1_84_b6 ne_i1_84_n1_84 ne_n1_84_b6 ne_n1_84_i1_84 (by decide) (by decide) (by decide) (show (0 : Int) ≤ (x5 : Int64).toInt from s_x5.1) (show (0 : Int) ≤ (x12 : Int64).toInt from s_x12.1) (show (0 : Int) ≤ (x20 : Int64).toInt from s_x20.1) (show (x5 : Int64).toInt + (x12 : Int64).toInt + (x20 : Int64).toInt ≤ (((0 + x5.toInt) + x12.toInt) + x20.toInt) from by omega) hS1_84 (by decide)) pd0 rfl rfl rfl at_91 (q := 94) rfl (W := 0) rfl (by decide) (by decide) (c2 := 7) (s2 := 23) rfl rfl (by decide) (by decide) (fun v T h' X hQ => ?_)
        obtain ⟨t1_91, b1_91, i1_91, n1_91, o1_91, s1_91, rfl, Kc, O_b6', hS1_91⟩ := hQ
        have A_i1_56 := A_i1_56.keep Kc (ninS ne_i1_56_b6 nin0)
        have A_n1_56 := A_n1_56.keep Kc (ninS ne_n1_56_b6 nin0)
        have A_i1_84 := A_i1_84.keep Kc (ninS ne_i1_84_b6 nin0)
        have A_n1_84 := A_n1_84.keep Kc (ninS ne_n1_84_b6 nin0)
        have O_b6 := O_b6'
        show Goes p e below s _ n0 _ (T.setTop (mkF m 94 #[.val (.long q1), .second, .val (.long q2), .second, .val (.long q3), .second, .val (.int p4), .val (.long q5), .second, .val (.long x5), .second, .val (.long x12), .second, .val (.long x20), .second, .val (.long (1 : Int64)), .second, .val (.long (2 : Int64)), .second, .val (.long (3 : Int64)), .second, .val (.ref b6), .unset, .unset, .unset, .unset, .unset, .unset, .unset, .unset, .unset, .unset] []))
        have hT : OKT t1_91 b1_91 ((((0 + x5.toInt) + x12.toInt) + x20.toInt) - x5.toInt - x12.toInt - x20.toInt) (((0 + 1) + 1) + 1) := hS1_91
        refine g_aload X at_94 rfl (q := 96) rfl rfl ?_
        refine g_callV X O_b6.1 [] [] (tw53 hw) (tw54 hw) (tw56 hw) (tw55 hw) (tw3 hw) (tw57 hw) (by decide) (rm9 l Z a0 hw [] b6 q5 i1_91 n1_91 o1_91 s1_91 t1_91 b1_91 _ n0 X.size O_b6) pd5 rfl rfl rfl at_96 (q := 99) rfl (W := 0) rfl (by decide) (by decide) (c2 := 7) (s2 := 23) rfl rfl (by decide) (by decide) (fun v T h' X hQ => ?_)
        obtain ⟨rfl, rfl⟩ := hQ
        show Goes p e below s _ n0 _ (T.setTop (mkF m 99 #[.val (.long q1), .second, .val (.long q2), .second, .val (.long q3), .second, .val (.int p4), .val (.long q5), .second, .val (.long x5), .second, .val (.long x12), .second, .val (.long x20), .second, .val (.long (1 : Int64)), .second, .val (.long (2 : Int64)), .second, .val (.long (3 : Int64)), .second, .val (.ref b6), .unset, .unset, .unset, .unset, .unset, .unset, .unset, .unset, .unset, .unset] [(.long (if b1_91 = (0 : Int64) then t1_91 else (9223372036854775807 : Int64)))]))
        refine g_letJ (fun r96 hr96 => ?_)
        have s_r96 := own_totI hr96 hT
        refine g_lstore X at_99 rfl (q := 101) (L' := #[.val (.long q1), .second, .val (.long q2), .second, .val (.long q3), .second, .val (.int p4), .val (.long q5), .second, .val (.long x5), .second, .val (.long x12), .second, .val (.long x20), .second, .val (.long (1 : Int64)), .second, .val (.long (2 : Int64)), .second, .val (.long (3 : Int64)), .second, .val (.ref b6), .val (.long r96), .second, .unset, .unset, .unset, .unset, .unset, .unset, .unset, .unset]) rfl ?_
        refine g_lload X at_101 rfl (q := 103) rfl ?_
        refine g_lstore X at_103 rfl (q := 105) (L' := #[.val (.long q1), .second, .val (.long q2), .second, .val (.long q3), .second, .val (.int p4), .val (.long q5), .second, .val (.long x5), .second, .val (.long x12), .second, .val (.long x20), .second, .val (.long (1 : Int64)), .second, .val (.long (2 : Int64)), .second, .val (.long (3 : Int64)), .second, .val (.ref b6), .val (.long r96), .second, .val (.long x5), .second, .unset, .unset, .unset, .unset, .unset, .unset]) rfl ?_
        refine g_lconst X at_105 rfl (q := 106) (v := 0) rfl ?_
        refine g_lstore X at_106 rfl (q := 108) (L' := #[.val (.long q1), .second, .val (.long q2), .second, .val (.long q3), .second, .val (.int p4), .val (.long q5), .second, .val (.long x5), .second, .val (.long x12), .second, .val (.long x20), .second, .val (.long (1 : Int64)), .second, .val (.long (2 : Int64)), .second, .val (.long (3 : Int64)), .second, .val (.ref b6), .val (.long r96), .second, .val (.long x5), .second, .val (.long (0 : Int64)), .second, .unset, .unset, .unset, .unset]) rfl ?_
        refine g_lconst X at_108 rfl (q := 109) (v := 0) rfl ?_
        refine g_lstore X at_109 rfl (q := 111) (L' := #[.val (.long q1), .second, .val (.long q2), .second, .val (.long q3), .second, .val (.int p4), .val (.long q5), .second, .val (.long x5), .second, .val (.long x12), .second, .val (.long x20), .second, .val (.long (1 : Int64)), .second, .val (.long (2 : Int64)), .second, .val (.long (3 : Int64)), .second, .val (.ref b6), .val (.long r96), .second, .val (.long x5), .second, .val (.long (0 : Int64)), .second, .val (.long (0 : Int64)), .second, .unset, .unset]) rfl ?_
        refine g_lload X at_111 rfl (q := 113) rfl ?_
        refine g_lconst X at_113 rfl (q := 114) (v := 0) rfl ?_
        refine g_lcmpB X at_114 (q1 := 115) rfl at_115 (Or.inr (Or.inr rfl)) (q := 118) rfl (by decide) (t := 130) rfl (fun (c61 : (1 : Int64) = (0 : Int64)) => ?_) (fun (c61 : ¬ ((1 : Int64) = (0 : Int64))) => ?_)
        · skip
          exact absurd c61 (by decide)
        · skip
          refine g_lload X at_130 rfl (q := 132) rfl ?_
          refine g_lstore X at_132 rfl (q := 134) (L' := #[.val (.long q1), .second, .val (.long q2), .second, .val (.long q3), .second, .val (.int p4), .val (.long q5), .second, .val (.long x5), .second, .val (.long x12), .second, .val (.long x20), .second, .val (.long (1 : Int64)), .second, .val (.long (2 : Int64)), .second, .val (.long (3 : Int64)), .second, .val (.ref b6), .val (.long r96), .second, .val (.long x5), .second, .val (.long x12), .second, .val (.long (0 : Int64)), .second, .unset, .unset]) rfl ?_
          refine g_lload X at_134 rfl (q := 136) rfl ?_
          refine g_lload X at_136 rfl (q := 138) rfl ?_
          refine g_lcmpB X at_138 (q1 := 139) rfl at_139 (Or.inr (Or.inr rfl)) (q := 142) rfl (by decide) (t := 173) rfl (fun (c62 : (2 : Int64) = (1 : Int64)) => ?_) (fun (c62 : ¬ ((2 : Int64) = (1 : Int64))) => ?_)
          · skip
            exact absurd c62 (by decide)
          · skip
            refine g_lload X at_173 rfl (q := 175) rfl ?_
            refine g_lconst X at_175 rfl (q := 176) (v := 0) rfl ?_
            refine g_lcmpB X at_176 (q1 := 177) rfl at_177 (Or.inr (Or.inr rfl)) (q := 180) rfl (by decide) (t := 187) rfl (fun (c63 : (1 : Int64) = (0 : Int64)) => ?_) (fun (c63 : ¬ ((1 : Int64) = (0 : Int64))) => ?_)
            · skip
              exact absurd c63 (by decide)
            · skip
              refine g_lload X at_187 rfl (q := 189) rfl ?_
              refine g_lstore X at_189 rfl (q := 191) (L' := #[.val (.long q1), .second, .val (.long q2), .second, .val (.long q3), .second, .val (.int p4), .val (.long q5), .second, .val (.long x5), .second, .val (.long x12), .second, .val (.long x20), .second, .val (.long (1 : Int64)), .second, .val (.long (2 : Int64)), .second, .val (.long (3 : Int64)), .second, .val (.ref b6), .val (.long r96), .second, .val (.long x5), .second, .val (.long x12), .second, .val (.long x20), .second, .unset, .unset]) rfl ?_
              refine g_lconst X at_191 rfl (q := 192) (v := 0) rfl ?_
              refine g_lload X at_192 rfl (q := 194) rfl ?_
              refine g_lload X at_194 rfl (q := 196) rfl ?_
              refine g_callS X [(.long (0 : Int64)), (.long x5), (.long (3 : Int64))] [] (tw62 hw) (tw63 hw) (tw60 hw) (tw64 hw) (by decide) (rm11_0_3 l Z a0 hw [] x5 _ n0 X.size) pd6 rfl rfl rfl at_196 (q := 199) rfl (W := 0) rfl (by decide) (by decide) (c2 := 7) (s2 := 23) rfl rfl (by decide) (by decide) (fun v T h' X hQ => ?_)
              obtain ⟨rfl, rfl⟩ := hQ
              show Goes p e below s _ n0 _ (T.setTop (mkF m 199 #[.val (.long q1), .second, .val (.long q2), .second, .val (.long q3), .second, .val (.int p4), .val (.long q5), .second, .val (.long x5), .second, .val (.long x12), .second, .val (.long x20), .second, .val (.long (1 : Int64)), .second, .val (.long (2 : Int64)), .second, .val (.long (3 : Int64)), .second, .val (.ref b6), .val (.long r96), .second, .val (.long x5), .second, .val (.long x12), .second, .val (.long x20), .second, .unset, .unset] [(.long (0 : Int64))]))
              refine g_lconst X at_199 rfl (q := 200) (v := 1) rfl ?_
              refine g_lload X at_200 rfl (q := 202) rfl ?_
              refine g_lload X at_202 rfl (q := 204) rfl ?_
              refine g_callS X [(.long (1 : Int64)), (.long x12), (.long (3 : Int64))] [(.long (0 : Int64))] (tw62 hw) (tw63 hw) (tw60 hw) (tw64 hw) (by decide) (rm11_1_3 l Z a0 hw [] x12 _ n0 X.size) pd6 rfl rfl rfl at_204 (q := 207) rfl (W := 2) rfl (by decide) (by decide) (c2 := 7) (s2 := 23) rfl rfl (by decide) (by decide) (fun v T h' X hQ => ?_)
              obtain ⟨rfl, rfl⟩ := hQ
              show Goes p e below s _ n0 _ (T.setTop (mkF m 207 #[.val (.long q1), .second, .val (.long q2), .second, .val (.long q3), .second, .val (.int p4), .val (.long q5), .second, .val (.long x5), .second, .val (.long x12), .second, .val (.long x20), .second, .val (.long (1 : Int64)), .second, .val (.long (2 : Int64)), .second, .val (.long (3 : Int64)), .second, .val (.ref b6), .val (.long r96), .second, .val (.long x5), .second, .val (.long x12), .second, .val (.long x20), .second, .unset, .unset] [(.long (0 : Int64)), (.long (0 : Int64))]))
              refine g_callS X [(.long (0 : Int64)), (.long (0 : Int64))] [] (tw58 hw) (tw59 hw) (tw60 hw) (tw61 hw) (by decide) (rm10 l Z a0 hw [] (0 : Int64) (0 : Int64) _ n0 X.size) pd4 rfl rfl rfl at_207 (q := 210) rfl (W := 0) rfl (by decide) (by decide) (c2 := 7) (s2 := 23) rfl rfl (by decide) (by decide) (fun v T h' X hQ => ?_)
              obtain ⟨rfl, rfl⟩ := hQ
              show Goes p e below s _ n0 _ (T.setTop (mkF m 210 #[.val (.long q1), .second, .val (.long q2), .second, .val (.long q3), .second, .val (.int p4), .val (.long q5), .second, .val (.long x5), .second, .val (.long x12), .second, .val (.long x20), .second, .val (.long (1 : Int64)), .second, .val (.long (2 : Int64)), .second, .val (.long (3 : Int64)), .second, .val (.ref b6), .val (.long r96), .second, .val (.long x5), .second, .val (.long x12), .second, .val (.long x20), .second, .unset, .unset] [(.long (if ((9223372036854775807 : Int64) - (0 : Int64)) < (0 : Int64) then (9223372036854775807 : Int64) else ((0 : Int64) + (0 : Int64))))]))
              refine g_letJ (fun r207 hr207 => ?_)
              have s_r207 := own_satI hr207 (by decide) (by decide)
              refine g_ldc2 X (tw65 hw) at_210 (q := 213) rfl ?_
              refine g_lload X at_213 rfl (q := 215) rfl ?_
              refine g_lload X at_215 rfl (q := 217) rfl ?_
              refine g_callS X [(.long (2 : Int64)), (.long x20), (.long (3 : Int64))] [(.long r207)] (tw62 hw) (tw63 hw) (tw60 hw) (tw64 hw) (by decide) (rm11_2_3 l Z a0 hw [] x20 _ n0 X.size) pd6 rfl rfl rfl at_217 (q := 220) rfl (W := 2) rfl (by decide) (by decide) (c2 := 7) (s2 := 23) rfl rfl (by decide) (by decide) (fun v T h' X hQ => ?_)
              obtain ⟨rfl, rfl⟩ := hQ
              show Goes p e below s _ n0 _ (T.setTop (mkF m 220 #[.val (.long q1), .second, .val (.long q2), .second, .val (.long q3), .second, .val (.int p4), .val (.long q5), .second, .val (.long x5), .second, .val (.long x12), .second, .val (.long x20), .second, .val (.long (1 : Int64)), .second, .val (.long (2 : Int64)), .second, .val (.long (3 : Int64)), .second, .val (.ref b6), .val (.long r96), .second, .val (.long x5), .second, .val (.long x12), .second, .val (.long x20), .second, .unset, .unset] [(.long (0 : Int64)), (.long r207)]))
              refine g_callS X [(.long r207), (.long (0 : Int64))] [] (tw58 hw) (tw59 hw) (tw60 hw) (tw61 hw) (by decide) (rm10 l Z a0 hw [] r207 (0 : Int64) _ n0 X.size) pd4 rfl rfl rfl at_220 (q := 223) rfl (W := 0) rfl (by decide) (by decide) (c2 := 7) (s2 := 23) rfl rfl (by decide) (by decide) (fun v T h' X hQ => ?_)
              obtain ⟨rfl, rfl⟩ := hQ
              show Goes p e below s _ n0 _ (T.setTop (mkF m 223 #[.val (.long q1), .second, .val (.long q2), .second, .val (.long q3), .second, .val (.int p4), .val (.long q5), .second, .val (.long x5), .second, .val (.long x12), .second, .val (.long x20), .second, .val (.long (1 : Int64)), .second, .val (.long (2 : Int64)), .second, .val (.long (3 : Int64)), .second, .val (.ref b6), .val (.long r96), .second, .val (.long x5), .second, .val (.long x12), .second, .val (.long x20), .second, .unset, .unset] [(.long (if ((9223372036854775807 : Int64) - (0 : Int64)) < r207 then (9223372036854775807 : Int64) else (r207 + (0 : Int64))))]))
              refine g_letJ (fun r220 hr220 => ?_)
              have s_r220 := own_satI hr220 s_r207.1 (by decide)
              refine g_lstore X at_223 rfl (q := 225) (L' := #[.val (.long q1), .second, .val (.long q2), .second, .val (.long q3), .second, .val (.int p4), .val (.long q5), .second, .val (.long x5), .second, .val (.long x12), .second, .val (.long x20), .second, .val (.long (1 : Int64)), .second, .val (.long (2 : Int64)), .second, .val (.long (3 : Int64)), .second, .val (.ref b6), .val (.long r96), .second, .val (.long x5), .second, .val (.long x12), .second, .val (.long x20), .second, .val (.long r220), .second]) rfl ?_
              refine g_lload X at_225 rfl (q := 227) rfl ?_
              refine g_lload X at_227 rfl (q := 229) rfl ?_
              refine g_jT1 X (J := 238) (P := fun (s0_238 : Int32) => s0_238 = (bI (r96 = r220))) (L := fun s0_238 => #[.val (.long q1), .second, .val (.long q2), .second, .val (.long q3), .second, .val (.int p4), .val (.long q5), .second, .val (.long x5), .second, .val (.long x12), .second, .val (.long x20), .second, .val (.long (1 : Int64)), .second, .val (.long (2 : Int64)), .second, .val (.long (3 : Int64)), .second, .val (.ref b6), .val (.long r96), .second, .val (.long x5), .second, .val (.long x12), .second, .val (.long x20), .second, .val (.long r220), .second]) (S := fun s0_238 => [(.int s0_238)]) ?_ ?_
              · intro T X s0_238 hs0_238
                replace hs0_238 : s0_238 = (bI (r96 = r220)) := hs0_238
                subst hs0_238
                show Goes p e below s _ n0 _ (T.setTop (mkF m 238 #[.val (.long q1), .second, .val (.long q2), .second, .val (.long q3), .second, .val (.int p4), .val (.long q5), .second, .val (.long x5), .second, .val (.long x12), .second, .val (.long x20), .second, .val (.long (1 : Int64)), .second, .val (.long (2 : Int64)), .second, .val (.long (3 : Int64)), .second, .val (.ref b6), .val (.long r96), .second, .val (.long x5), .second, .val (.long x12), .second, .val (.long x20), .second, .val (.long r220), .second] [(.int (bI (r96 = r220)))]))
                refine g_retZ X at_238 (by decide) (by decide) (bI_01 _) (own_fin ?_)
                show r96 = r220
                apply Int64.toInt_inj.mp
                (try simp only [Int64.reduceToInt] at s_x5 s_x12 s_x20 s_r96 s_r207 s_r220)
                omega
              · intro J238_63
                refine g_lcmpB X at_229 (q1 := 230) rfl at_230 (Or.inr (Or.inr rfl)) (q := 233) rfl (by decide) (t := 237) rfl (fun (c64 : r96 = r220) => ?_) (fun (c64 : ¬ (r96 = r220)) => ?_)
                · skip
                  refine g_iconst X at_233 rfl (q := 234) (v := 1) rfl ?_
                  refine g_goto X at_234 (by decide) (q := 238) rfl ?_
                  exact J238_63 T X _ (bI_t c64)
                · skip
                  refine g_iconst X at_237 rfl (q := 238) (v := 0) rfl ?_
                  exact J238_63 T X _ (bI_f c64)
set_option maxRecDepth 65536 in
set_option maxHeartbeats 40000000 in
theorem comes_1 {Post : Tables → Env → Array Value → State → Outcome → State → Prop} (hpost : ∀ tb e args s v u, (limb_1_1.after args s (.returned v) u = true ∧ limb_1_2.after args s (.returned v) u = true ∧ True) → FrameEnd s (.returned v) u (Jvm.fieldLocs frame_1_writes args s ++ Jvm.arrayLocs frame_1_arrays args s ++ Jvm.staticLocs frame_1_statics s) 24 128 → Post tb e args s (.returned v) u) :
    ArmFor flags0 classFile x code maxLocals ret World_1 tables_1 room_1 Calls_1 rest_1 Pre_1 Post := by
  intro l hfl _ _ p e ha hc hk s m args below hf hA hF happ hP
  obtain ⟨hcalls, hrest, hpre⟩ := hP
  obtain ⟨-, -, -, hnamed, -, -, -, hat⟩ := (Spec.applies_iff hf).mp happ
  obtain ⟨hg, hn⟩ := and_e (Cond.before_iff.mp (show (Jvm.Cond.and given_1 narrow_1).before args s = true from hpre))
  obtain ⟨u1, w1⟩ := and_e hg
  obtain ⟨u2, w2⟩ := and_e w1
  obtain ⟨u3, w3⟩ := and_e w2
  obtain ⟨u4, w4⟩ := and_e w3
  obtain ⟨u5, w5⟩ := and_e w4
  obtain ⟨z0, z1, z2, z3, z4, rfl⟩ : ∃ z0 z1 z2 z3 z4 : Value, args = #[z0, z1, z2, z3, z4] := by
    have hs : args.size = 5 := by simpa [Cond.value, given_1] using u1
    obtain ⟨L⟩ := args
    match L, hs with
    | [z0, z1, z2, z3, z4], _ => exact ⟨z0, z1, z2, z3, z4, rfl⟩
  have hw := fun d (hd : d ∈ tables_1) => atoms_spec (ws := Jvm.Cond.code x code maxLocals ret :: tables_1) hat d (List.mem_cons_of_mem _ hd)
  obtain ⟨i0, ei0⟩ := isL_v u2
  obtain rfl : z0 = (.long i0) := Option.some.inj ei0
  obtain ⟨i1, ei1⟩ := isL_v u3
  obtain rfl : z1 = (.long i1) := Option.some.inj ei1
  obtain ⟨i2, ei2⟩ := isL_v u4
  obtain rfl : z2 = (.long i2) := Option.some.inj ei2
  obtain ⟨i3, ei3⟩ := is_v u5
  obtain rfl : z3 = (.int i3) := Option.some.inj ei3
  obtain ⟨i4, ei4⟩ := isL_v w5
  obtain rfl : z4 = (.long i4) := Option.some.inj ei4
  obtain ⟨n, o, h1, h2, h3, _, L, rfl, ⟨N, rfl⟩, hq⟩ := rm0 l s _ hw tables_1 i0 i1 i2 i3 i4 s.heap s.heap.size (Nat.le_refl _) p e ha hc hk s m _ below hf ((Spec.applies_iff_loose hf).mp happ).1 ⟨rfl, State.Warmed39.refl s, rfl⟩ trivial
  refine ⟨n, _, h1, h2, h3, hpost _ _ _ _ _ _ ⟨Cond.after_iff.mpr rfl, Cond.after_iff.mpr (eq_i res_at (Term.int_eval (1)) rfl), trivial⟩ ⟨hq.1, hq.2.1, (hq.2.2.sift fun y hy => Or.inr (N y hy)).mono (by decide) (by decide)⟩⟩
theorem main_1_1 : Claimed_1_1 := comes_1 fun _ _ _ _ _ _ h hF => ⟨h.1, hF⟩
theorem main_1_2 : Claimed_1_2 := comes_1 fun _ _ _ _ _ _ h hF => ⟨h.2.1, hF⟩
end Jvm.Pilot.@@N@@
namespace Jvm.Pilot.@@N@@
open Jvm Jvm.ClassFile Sem Op Lib Jvm.Free Jvm.Stand Jvm.Pilot.@@N@@.Jvm.D
/-! MADE BY PROGRAM (witnessworld.py) out of the Statement's table words and the real class files: 11 classes; the members and pool entries that the words name. The judged class is class 1, her method 3. -/
namespace start1
open Jvm.ClassFile
def u (s : String) : CpInfo := .utf8 (stringToUtf16 s)
/-- a pool by its gaps: so many unusable entries, then the entry; so many at the end -/
def gap : Nat → List CpInfo → List CpInfo
  | 0, r => r
  | n + 1, r => .unusable :: gap n r
def poolList (es : List (Nat × CpInfo)) (last : Nat) : List CpInfo := es.foldr (fun e r => gap e.1 (e.2 :: r)) (gap last [])
def pool (es : List (Nat × CpInfo)) (last : Nat) : Array CpInfo := ⟨poolList es last⟩
def fileOf (pool : Array CpInfo) (this : Nat) (attrs : Array Attribute := #[]) (ms : Array MethodInfo := #[]) (fl : Nat := 33) (sup : Nat := 0) (ifs : Array Nat := #[]) (fds : Array FieldInfo := #[]) : ClassFile where
  minorVersion := 0
  majorVersion := 65
  constantPool := pool
  accessFlags := fl
  thisClass := this
  superClass := sup
  interfaces := ifs
  fields := fds
  methods := ms
  attributes := attrs
def plain (name : String) (sup : Option ClassId) : Class where
  name := name
  kind := .ordinary
  loader := none
  accessFlags := 33
  super := sup
  interfaces := #[]
  cf := none
  fields := #[]
  methods := #[]
  instanceTypes := #[]
  staticTypes := #[]
  resolved := #[]
  callSites := []
  init := .initialized
  statics := none
  mirror := none

def pool0 : Array CpInfo := pool [(5, u "<init>"), (0, u "()V"), (1, .class_ 10), (1, u "java/lang/Object")] 113

def k0c0 : Code := { maxStack := 0, maxLocals := 1, code := object_method_1_code, exceptionTable := #[], attributes := #[] }
def k0m0 : Method := { name := "<init>", desc := "()V", sig := { parameters := [], returnType := none }, accessFlags := 1, code := some k0c0 }
/-- java/lang/Object -/
def k0 : Class := { plain "java/lang/Object" none with
  accessFlags := 33
  interfaces := #[]
  cf := some (fileOf pool0 8 #[] #[{ accessFlags := 1, nameIndex := 5, descriptorIndex := 6, attributes := #[] }] 33 0 #[] #[])
  fields := #[]
  methods := #[k0m0]
  instanceTypes := #[]
  staticTypes := #[]
  resolved := Array.replicate 124 none
  statics := none }

def pool1 : Array CpInfo := pool [(2, .class_ 4), (1, u "java/lang/Object"), (0, u "<init>"), (0, u "()V"), (2, .long 9223372036854775807), (1, .class_ 12), (0, u "com/example/teddington/teddington/WindowCounts"), (0, .methodref 11 14), (0, .nameAndType 5 15), (0, u "(J)V"), (0, .methodref 11 17), (0, .nameAndType 18 19), (0, u "add"), (0, u "(JJ)V"), (0, .methodref 11 21), (0, .nameAndType 22 15), (0, u "dropBefore"), (0, .methodref 11 24), (0, .nameAndType 25 26), (0, u "total"), (0, u "()J"), (0, .methodref 28 29), (0, .class_ 30), (0, .nameAndType 31 32), (0, u "com/example/teddington/teddington/WindowCountsTotalPinLaw"), (0, u "sat"), (0, u "(JJ)J"), (0, .methodref 28 34), (0, .nameAndType 35 36), (0, u "keep"), (0, u "(JJJ)J"), (0, .long 2), (4, u "law"), (0, u "(JJJIJ)Z")] 2

def k1m0 : Method := { name := "<init>", desc := "()V", sig := { parameters := [], returnType := none }, accessFlags := 1, code := none }
def k1c1 : Code := { maxStack := 6, maxLocals := 4, code := method_2_code, exceptionTable := #[], attributes := #[] }
def k1m1 : Method := { name := "sat", desc := "(JJ)J", sig := { parameters := [.long, .long], returnType := some .long }, accessFlags := 10, code := some k1c1 }
def k1c2 : Code := { maxStack := 4, maxLocals := 6, code := method_3_code, exceptionTable := #[], attributes := #[] }
def k1m2 : Method := { name := "keep", desc := "(JJJ)J", sig := { parameters := [.long, .long, .long], returnType := some .long }, accessFlags := 10, code := some k1c2 }
def k1c3 : Code := { maxStack := 8, maxLocals := 32, code := code, exceptionTable := #[], attributes := #[] }
def k1m3 : Method := { name := "law", desc := "(JJJIJ)Z", sig := { parameters := [.long, .long, .long, .int, .long], returnType := some .boolean }, accessFlags := 9, code := some k1c3 }
/-- com/example/teddington/teddington/WindowCountsTotalPinLaw -/
def k1 : Class := { plain "com/example/teddington/teddington/WindowCountsTotalPinLaw" (some 0) with
  accessFlags := 49
  interfaces := #[]
  cf := some (fileOf pool1 28 #[] #[{ accessFlags := 1, nameIndex := 5, descriptorIndex := 6, attributes := #[] }, { accessFlags := 10, nameIndex := 31, descriptorIndex := 32, attributes := #[] }, { accessFlags := 10, nameIndex := 35, descriptorIndex := 36, attributes := #[] }, { accessFlags := 9, nameIndex := 42, descriptorIndex := 43, attributes := #[] }] 49 2 #[] #[])
  fields := #[]
  methods := #[k1m0, k1m1, k1m2, k1m3]
  instanceTypes := #[]
  staticTypes := #[]
  resolved := Array.replicate 46 none
  statics := none }

def pool2 : Array CpInfo := pool [(1, .methodref 2 3), (0, .class_ 4), (0, .nameAndType 5 6), (0, u "java/lang/Object"), (0, u "<init>"), (0, u "()V"), (0, .class_ 8), (0, u "com/example/teddington/teddington/WindowCounts"), (0, .fieldref 7 10), (0, .nameAndType 11 12), (0, u "indexes"), (0, u "[J"), (0, .fieldref 7 14), (0, .nameAndType 15 12), (0, u "counts"), (0, .fieldref 7 17), (0, .nameAndType 18 19), (0, u "clock"), (0, u "J"), (5, .fieldref 7 26), (0, .nameAndType 27 28), (0, u "oldest"), (0, u "I"), (0, .fieldref 7 30), (0, .nameAndType 31 28), (0, u "size"), (0, .fieldref 7 33), (0, .nameAndType 34 19), (0, u "total"), (0, .fieldref 7 36), (0, .nameAndType 37 19), (0, u "beyond"), (2, .long 9223372036854775807), (6, u "(JJ)J"), (0, .methodref 7 49), (0, .nameAndType 50 51), (0, u "at"), (0, u "(I)I"), (0, .methodref 7 53), (0, .nameAndType 54 55), (0, u "count"), (0, u "(I)J"), (0, .methodref 7 57), (0, .nameAndType 58 47), (0, u "sum"), (0, .methodref 7 60), (0, .nameAndType 61 55), (0, u "index"), (9, .methodref 7 72), (0, .nameAndType 73 74), (0, u "resize"), (0, u "(I)V"), (3, u "SMALLEST_CAPACITY"), (2, u "(J)V"), (3, u "()J"), (5, u "add"), (0, u "(JJ)V"), (0, u "dropBefore")] 19

def k2c0 : Code := { maxStack := 3, maxLocals := 3, code := prog_47_method_1_code, exceptionTable := #[], attributes := #[] }
def k2m0 : Method := { name := "<init>", desc := "(J)V", sig := { parameters := [.long], returnType := none }, accessFlags := 0, code := some k2c0 }
def k2c1 : Code := { maxStack := 4, maxLocals := 6, code := prog_47_method_3_code, exceptionTable := #[], attributes := #[] }
def k2m1 : Method := { name := "sum", desc := "(JJ)J", sig := { parameters := [.long, .long], returnType := some .long }, accessFlags := 8, code := some k2c1 }
def k2c2 : Code := { maxStack := 3, maxLocals := 2, code := prog_47_method_7_code, exceptionTable := #[], attributes := #[] }
def k2m2 : Method := { name := "index", desc := "(I)J", sig := { parameters := [.int], returnType := some .long }, accessFlags := 0, code := some k2c2 }
def k2c3 : Code := { maxStack := 3, maxLocals := 2, code := prog_47_method_8_code, exceptionTable := #[], attributes := #[] }
def k2m3 : Method := { name := "count", desc := "(I)J", sig := { parameters := [.int], returnType := some .long }, accessFlags := 0, code := some k2c3 }
def k2c4 : Code := { maxStack := 4, maxLocals := 1, code := prog_47_method_9_code, exceptionTable := #[], attributes := #[] }
def k2m4 : Method := { name := "total", desc := "()J", sig := { parameters := [], returnType := some .long }, accessFlags := 0, code := some k2c4 }
def k2c5 : Code := { maxStack := 6, maxLocals := 9, code := prog_47_method_12_code, exceptionTable := #[], attributes := #[] }
def k2m5 : Method := { name := "add", desc := "(JJ)V", sig := { parameters := [.long, .long], returnType := none }, accessFlags := 0, code := some k2c5 }
def k2c6 : Code := { maxStack := 6, maxLocals := 5, code := prog_47_method_13_code, exceptionTable := #[], attributes := #[] }
def k2m6 : Method := { name := "dropBefore", desc := "(J)V", sig := { parameters := [.long], returnType := none }, accessFlags := 0, code := some k2c6 }
def k2c7 : Code := { maxStack := 3, maxLocals := 2, code := prog_47_method_15_code, exceptionTable := #[], attributes := #[] }
def k2m7 : Method := { name := "at", desc := "(I)I", sig := { parameters := [.int], returnType := some .int }, accessFlags := 2, code := some k2c7 }
def k2c8 : Code := { maxStack := 4, maxLocals := 5, code := prog_47_method_16_code, exceptionTable := #[], attributes := #[] }
def k2m8 : Method := { name := "resize", desc := "(I)V", sig := { parameters := [.int], returnType := none }, accessFlags := 2, code := some k2c8 }
/-- com/example/teddington/teddington/WindowCounts -/
def k2 : Class := { plain "com/example/teddington/teddington/WindowCounts" (some 0) with
  accessFlags := 32
  interfaces := #[]
  cf := some (fileOf pool2 7 #[] #[{ accessFlags := 0, nameIndex := 5, descriptorIndex := 81, attributes := #[] }, { accessFlags := 8, nameIndex := 58, descriptorIndex := 47, attributes := #[] }, { accessFlags := 0, nameIndex := 61, descriptorIndex := 55, attributes := #[] }, { accessFlags := 0, nameIndex := 54, descriptorIndex := 55, attributes := #[] }, { accessFlags := 0, nameIndex := 34, descriptorIndex := 85, attributes := #[] }, { accessFlags := 0, nameIndex := 91, descriptorIndex := 92, attributes := #[] }, { accessFlags := 0, nameIndex := 93, descriptorIndex := 81, attributes := #[] }, { accessFlags := 2, nameIndex := 50, descriptorIndex := 51, attributes := #[] }, { accessFlags := 2, nameIndex := 73, descriptorIndex := 74, attributes := #[] }] 32 2 #[] #[{ accessFlags := 26, nameIndex := 78, descriptorIndex := 28, attributes := #[] }, { accessFlags := 2, nameIndex := 18, descriptorIndex := 19, attributes := #[] }, { accessFlags := 2, nameIndex := 11, descriptorIndex := 12, attributes := #[] }, { accessFlags := 2, nameIndex := 15, descriptorIndex := 12, attributes := #[] }, { accessFlags := 2, nameIndex := 27, descriptorIndex := 28, attributes := #[] }, { accessFlags := 2, nameIndex := 31, descriptorIndex := 28, attributes := #[] }, { accessFlags := 2, nameIndex := 34, descriptorIndex := 19, attributes := #[] }, { accessFlags := 2, nameIndex := 37, descriptorIndex := 19, attributes := #[] }])
  fields := #[{ name := "SMALLEST_CAPACITY", type := .int, accessFlags := 26, slot := 0, constantValue := 0 }, { name := "clock", type := .long, accessFlags := 2, slot := 0, constantValue := 0 }, { name := "indexes", type := (.array .long), accessFlags := 2, slot := 1, constantValue := 0 }, { name := "counts", type := (.array .long), accessFlags := 2, slot := 2, constantValue := 0 }, { name := "oldest", type := .int, accessFlags := 2, slot := 3, constantValue := 0 }, { name := "size", type := .int, accessFlags := 2, slot := 4, constantValue := 0 }, { name := "total", type := .long, accessFlags := 2, slot := 5, constantValue := 0 }, { name := "beyond", type := .long, accessFlags := 2, slot := 6, constantValue := 0 }]
  methods := #[k2m0, k2m1, k2m2, k2m3, k2m4, k2m5, k2m6, k2m7, k2m8]
  instanceTypes := #[.long, (.array .long), (.array .long), .int, .int, .long, .long]
  staticTypes := #[.int]
  resolved := Array.replicate 113 none
  statics := none }

def pool3 : Array CpInfo := pool [(1, u "java/lang/Cloneable"), (0, .class_ 1), (0, u "java/lang/Object"), (0, .class_ 3)] 3

/-- java/lang/Cloneable -/
def k3 : Class := { plain "java/lang/Cloneable" (some 0) with
  accessFlags := 1537
  interfaces := #[]
  cf := some (fileOf pool3 2 #[] #[] 1537 4 #[] #[])
  fields := #[]
  methods := #[]
  instanceTypes := #[]
  staticTypes := #[]
  resolved := Array.replicate 8 none
  statics := none }

def pool4 : Array CpInfo := pool [(1, u "java/io/Serializable"), (0, .class_ 1), (0, u "java/lang/Object"), (0, .class_ 3)] 3

/-- java/io/Serializable -/
def k4 : Class := { plain "java/io/Serializable" (some 0) with
  accessFlags := 1537
  interfaces := #[]
  cf := some (fileOf pool4 2 #[] #[] 1537 4 #[] #[])
  fields := #[]
  methods := #[]
  instanceTypes := #[]
  staticTypes := #[]
  resolved := Array.replicate 8 none
  statics := none }

/-- the primitive byte -/
def k5 : Class := { plain "byte" none with kind := .primitive 'B', accessFlags := 0x411 }
/-- [B -/
def k6 : Class := { plain "[B" (some 0) with kind := .array 5 .byte, interfaces := #[3, 4], accessFlags := 1041 }

/-- the primitive int -/
def k7 : Class := { plain "int" none with kind := .primitive 'I', accessFlags := 0x411 }
/-- [I -/
def k8 : Class := { plain "[I" (some 0) with kind := .array 7 .int, interfaces := #[3, 4], accessFlags := 1041 }

/-- the primitive long -/
def k9 : Class := { plain "long" none with kind := .primitive 'J', accessFlags := 0x411 }
/-- [J -/
def k10 : Class := { plain "[J" (some 0) with kind := .array 9 .long, interfaces := #[3, 4], accessFlags := 1041 }

def heap : Heap := #[]
def classes : Array Class := #[k0, k1, k2, k3, k4, k5, k6, k7, k8, k9, k10]
def interned : List (Array UInt16 × Addr) := []
def slotsUsed : Nat := 0
def theMethod : MethodId := ⟨1, 3⟩
def args0 : Array Value := #[.long 5, .long 7, .long 3, .int 2, .long 1]
def aboutOver (below : List Frame) : State where
  vm := { classes := classes, interned := interned.toArray }
  heap := heap
  slotsUsed := slotsUsed
  threads := #[{ frames := .invoking theMethod args0 :: below }]
def below0 : List Frame := [.native { method := ⟨0, 0⟩, args := #[] }]
def about1 : State := aboutOver below0
def p0 : Program := .bare "" "" ""
def e0 : Env := launch0.env 0 0 0
theorem w_frames : about1.frames = Frame.invoking theMethod args0 :: below0 := rfl
set_option maxRecDepth 65536 in
theorem w_args : argsFit about1.vm theMethod args0 = true := by decide +kernel
set_option maxRecDepth 65536 in
theorem w_heap : heapFits about1 = true := by decide +kernel
set_option maxRecDepth 65536 in
theorem w_runnable : about1.curStatus? = some .runnable := by decide +kernel
set_option maxRecDepth 65536 in
theorem w_alone : about1.alone = true := by decide +kernel
set_option maxRecDepth 65536 in
theorem w_named : about1.methodNamed? x = some theMethod := by decide +kernel
set_option maxRecDepth 65536 in
theorem w_hears : about1.hears theMethod below0 = true := by decide +kernel
set_option maxRecDepth 65536 in
theorem w_ripe : about1.ripe theMethod args0 below0 = true := by decide +kernel
theorem w_running : about1.status = .running := rfl
set_option maxRecDepth 65536 in
theorem w_room : about1.hasRoom e0.platform room_1 = true :=
  launch0.hasRoom_least _ room_1 (by decide +kernel) (by decide +kernel) (by decide +kernel) (by decide +kernel) (by decide +kernel) (by decide +kernel)
theorem allAtoms_all (ts : List Jvm.Cond) (a : Array Jvm.Value) (st : Jvm.State) : (allAtoms ts).before a st = ts.all (fun c => c.before a st) := by
  induction ts with
  | nil => rfl
  | cons c t ih =>
    show (Jvm.Cond.and c (allAtoms t)).before a st = _
    rw [Jvm.Cond.before_and, ih, List.all_cons]
def words1 : List Jvm.Cond := Jvm.Cond.code x code maxLocals ret :: tables_1
/-- a 'code' word, met by the world's own term for the bytes: nothing is compared byte by byte -/
theorem code_word {y : MethodName} {bytes : ByteArray} {mx : Nat} {rt : Option FieldType} {a : Array Value} {s : State} {m : MethodId} {meth : Method} {c : Code} (h1 : s.methodNamed? y = some m) (h2 : s.vm.method? m = some meth) (h3 : meth.code = some c) (h4 : c.code = bytes)
    (h5 : (c.maxLocals == mx && c.exceptionTable.isEmpty && decide (c.maxStack ≤ mostOperands) && decide (meth.sig.returnType = rt) && !meth.locks && decide (parseMethodDescriptor y.desc = some meth.sig)) = true) : (Jvm.Cond.code y bytes mx rt).before a s = true := by
  simp only [Bool.and_eq_true, beq_iff_eq, Bool.not_eq_true', decide_eq_true_eq] at h5
  obtain ⟨⟨⟨⟨⟨g1, g2⟩, g3⟩, g4⟩, g5⟩, g6⟩ := h5
  simp [Cond.before, Cond.holds, Cond.value, h1, h2, h3, h4, g1, g2, g3, g4, g5, g6]
def isCode : Jvm.Cond → Bool
  | .code _ _ _ _ => true
  | _ => false
theorem all_split {L : List Jvm.Cond} {P : Jvm.Cond → Bool} (h1 : L.all (fun c => isCode c || P c) = true) (h2 : ∀ c ∈ L.filter isCode, P c = true) : L.all P = true := by
  refine List.all_eq_true.mpr fun c hc => ?_
  have h := List.all_eq_true.mp h1 c hc
  rcases Bool.eq_false_or_eq_true (isCode c) with hi | hi
  · exact h2 c (List.mem_filter.mpr ⟨hc, hi⟩)
  · simpa [hi] using h
set_option maxRecDepth 65536 in
theorem w_c0 : (Jvm.Cond.code x code maxLocals ret).before args0 about1 = true := code_word (m := ⟨1, 3⟩) (meth := k1m3) (c := k1c3) (by decide +kernel) rfl rfl rfl (by decide +kernel)
set_option maxRecDepth 65536 in
theorem w_c1 : (Jvm.Cond.code ({ cls := "com/example/teddington/teddington/WindowCounts", name := "<init>", desc := "(J)V" } : Jvm.MethodName) prog_47_method_1_code (3 : Nat) (Option.none : Option Jvm.ClassFile.FieldType)).before args0 about1 = true := code_word (m := ⟨2, 0⟩) (meth := k2m0) (c := k2c0) (by decide +kernel) rfl rfl rfl (by decide +kernel)
set_option maxRecDepth 65536 in
theorem w_c2 : (Jvm.Cond.code ({ cls := "java/lang/Object", name := "<init>", desc := "()V" } : Jvm.MethodName) object_method_1_code (1 : Nat) (Option.none : Option Jvm.ClassFile.FieldType)).before args0 about1 = true := code_word (m := ⟨0, 0⟩) (meth := k0m0) (c := k0c0) (by decide +kernel) rfl rfl rfl (by decide +kernel)
set_option maxRecDepth 65536 in
theorem w_c3 : (Jvm.Cond.code ({ cls := "com/example/teddington/teddington/WindowCounts", name := "add", desc := "(JJ)V" } : Jvm.MethodName) prog_47_method_12_code (9 : Nat) (Option.none : Option Jvm.ClassFile.FieldType)).before args0 about1 = true := code_word (m := ⟨2, 5⟩) (meth := k2m5) (c := k2c5) (by decide +kernel) rfl rfl rfl (by decide +kernel)
set_option maxRecDepth 65536 in
theorem w_c4 : (Jvm.Cond.code ({ cls := "com/example/teddington/teddington/WindowCounts", name := "at", desc := "(I)I" } : Jvm.MethodName) prog_47_method_15_code (2 : Nat) (Option.some Jvm.ClassFile.FieldType.int)).before args0 about1 = true := code_word (m := ⟨2, 7⟩) (meth := k2m7) (c := k2c7) (by decide +kernel) rfl rfl rfl (by decide +kernel)
set_option maxRecDepth 65536 in
theorem w_c5 : (Jvm.Cond.code ({ cls := "com/example/teddington/teddington/WindowCounts", name := "index", desc := "(I)J" } : Jvm.MethodName) prog_47_method_7_code (2 : Nat) (Option.some Jvm.ClassFile.FieldType.long)).before args0 about1 = true := code_word (m := ⟨2, 2⟩) (meth := k2m2) (c := k2c2) (by decide +kernel) rfl rfl rfl (by decide +kernel)
set_option maxRecDepth 65536 in
theorem w_c6 : (Jvm.Cond.code ({ cls := "com/example/teddington/teddington/WindowCounts", name := "count", desc := "(I)J" } : Jvm.MethodName) prog_47_method_8_code (2 : Nat) (Option.some Jvm.ClassFile.FieldType.long)).before args0 about1 = true := code_word (m := ⟨2, 3⟩) (meth := k2m3) (c := k2c3) (by decide +kernel) rfl rfl rfl (by decide +kernel)
set_option maxRecDepth 65536 in
theorem w_c7 : (Jvm.Cond.code ({ cls := "com/example/teddington/teddington/WindowCounts", name := "sum", desc := "(JJ)J" } : Jvm.MethodName) prog_47_method_3_code (6 : Nat) (Option.some Jvm.ClassFile.FieldType.long)).before args0 about1 = true := code_word (m := ⟨2, 1⟩) (meth := k2m1) (c := k2c1) (by decide +kernel) rfl rfl rfl (by decide +kernel)
set_option maxRecDepth 65536 in
theorem w_c8 : (Jvm.Cond.code ({ cls := "com/example/teddington/teddington/WindowCounts", name := "dropBefore", desc := "(J)V" } : Jvm.MethodName) prog_47_method_13_code (5 : Nat) (Option.none : Option Jvm.ClassFile.FieldType)).before args0 about1 = true := code_word (m := ⟨2, 6⟩) (meth := k2m6) (c := k2c6) (by decide +kernel) rfl rfl rfl (by decide +kernel)
set_option maxRecDepth 65536 in
theorem w_c9 : (Jvm.Cond.code ({ cls := "com/example/teddington/teddington/WindowCounts", name := "total", desc := "()J" } : Jvm.MethodName) prog_47_method_9_code (1 : Nat) (Option.some Jvm.ClassFile.FieldType.long)).before args0 about1 = true := code_word (m := ⟨2, 4⟩) (meth := k2m4) (c := k2c4) (by decide +kernel) rfl rfl rfl (by decide +kernel)
set_option maxRecDepth 65536 in
theorem w_c10 : (Jvm.Cond.code ({ cls := "com/example/teddington/teddington/WindowCountsTotalPinLaw", name := "sat", desc := "(JJ)J" } : Jvm.MethodName) method_2_code (4 : Nat) (Option.some Jvm.ClassFile.FieldType.long)).before args0 about1 = true := code_word (m := ⟨1, 1⟩) (meth := k1m1) (c := k1c1) (by decide +kernel) rfl rfl rfl (by decide +kernel)
set_option maxRecDepth 65536 in
theorem w_c11 : (Jvm.Cond.code ({ cls := "com/example/teddington/teddington/WindowCountsTotalPinLaw", name := "keep", desc := "(JJJ)J" } : Jvm.MethodName) method_3_code (6 : Nat) (Option.some Jvm.ClassFile.FieldType.long)).before args0 about1 = true := code_word (m := ⟨1, 2⟩) (meth := k1m2) (c := k1c2) (by decide +kernel) rfl rfl rfl (by decide +kernel)
set_option maxRecDepth 65536 in
theorem w_c12 : (Jvm.Cond.code ({ cls := "com/example/teddington/teddington/WindowCounts", name := "resize", desc := "(I)V" } : Jvm.MethodName) prog_47_method_16_code (5 : Nat) (Option.none : Option Jvm.ClassFile.FieldType)).before args0 about1 = true := code_word (m := ⟨2, 8⟩) (meth := k2m8) (c := k2c8) (by decide +kernel) rfl rfl rfl (by decide +kernel)
def codes1 : List Jvm.Cond := [Jvm.Cond.code x code maxLocals ret, Jvm.Cond.code ({ cls := "com/example/teddington/teddington/WindowCounts", name := "<init>", desc := "(J)V" } : Jvm.MethodName) prog_47_method_1_code (3 : Nat) (Option.none : Option Jvm.ClassFile.FieldType), Jvm.Cond.code ({ cls := "java/lang/Object", name := "<init>", desc := "()V" } : Jvm.MethodName) object_method_1_code (1 : Nat) (Option.none : Option Jvm.ClassFile.FieldType), Jvm.Cond.code ({ cls := "com/example/teddington/teddington/WindowCounts", name := "add", desc := "(JJ)V" } : Jvm.MethodName) prog_47_method_12_code (9 : Nat) (Option.none : Option Jvm.ClassFile.FieldType), Jvm.Cond.code ({ cls := "com/example/teddington/teddington/WindowCounts", name := "at", desc := "(I)I" } : Jvm.MethodName) prog_47_method_15_code (2 : Nat) (Option.some Jvm.ClassFile.FieldType.int), Jvm.Cond.code ({ cls := "com/example/teddington/teddington/WindowCounts", name := "index", desc := "(I)J" } : Jvm.MethodName) prog_47_method_7_code (2 : Nat) (Option.some Jvm.ClassFile.FieldType.long), Jvm.Cond.code ({ cls := "com/example/teddington/teddington/WindowCounts", name := "count", desc := "(I)J" } : Jvm.MethodName) prog_47_method_8_code (2 : Nat) (Option.some Jvm.ClassFile.FieldType.long), Jvm.Cond.code ({ cls := "com/example/teddington/teddington/WindowCounts", name := "sum", desc := "(JJ)J" } : Jvm.MethodName) prog_47_method_3_code (6 : Nat) (Option.some Jvm.ClassFile.FieldType.long), Jvm.Cond.code ({ cls := "com/example/teddington/teddington/WindowCounts", name := "dropBefore", desc := "(J)V" } : Jvm.MethodName) prog_47_method_13_code (5 : Nat) (Option.none : Option Jvm.ClassFile.FieldType), Jvm.Cond.code ({ cls := "com/example/teddington/teddington/WindowCounts", name := "total", desc := "()J" } : Jvm.MethodName) prog_47_method_9_code (1 : Nat) (Option.some Jvm.ClassFile.FieldType.long), Jvm.Cond.code ({ cls := "com/example/teddington/teddington/WindowCountsTotalPinLaw", name := "sat", desc := "(JJ)J" } : Jvm.MethodName) method_2_code (4 : Nat) (Option.some Jvm.ClassFile.FieldType.long), Jvm.Cond.code ({ cls := "com/example/teddington/teddington/WindowCountsTotalPinLaw", name := "keep", desc := "(JJJ)J" } : Jvm.MethodName) method_3_code (6 : Nat) (Option.some Jvm.ClassFile.FieldType.long), Jvm.Cond.code ({ cls := "com/example/teddington/teddington/WindowCounts", name := "resize", desc := "(I)V" } : Jvm.MethodName) prog_47_method_16_code (5 : Nat) (Option.none : Option Jvm.ClassFile.FieldType)]
set_option maxRecDepth 65536 in
theorem codes_eq : words1.filter isCode = codes1 := rfl
theorem w_codes : ∀ c ∈ words1.filter isCode, c.before args0 about1 = true := by
  rw [codes_eq]
  intro c hc
  simp only [codes1, List.mem_cons, List.not_mem_nil, or_false] at hc
  rcases hc with rfl | rfl | rfl | rfl | rfl | rfl | rfl | rfl | rfl | rfl | rfl | rfl | rfl
  · exact w_c0
  · exact w_c1
  · exact w_c2
  · exact w_c3
  · exact w_c4
  · exact w_c5
  · exact w_c6
  · exact w_c7
  · exact w_c8
  · exact w_c9
  · exact w_c10
  · exact w_c11
  · exact w_c12
set_option maxRecDepth 65536 in
theorem w_t1 : (words1.take 24).all (fun c => isCode c || c.before args0 about1) = true := by decide +kernel
set_option maxRecDepth 65536 in
theorem w_t2 : ((words1.drop 24).take 24).all (fun c => isCode c || c.before args0 about1) = true := by decide +kernel
set_option maxRecDepth 65536 in
theorem w_t3 : ((words1.drop 24).drop 24).all (fun c => isCode c || c.before args0 about1) = true := by decide +kernel
theorem w_tables : (allAtoms (Jvm.Cond.code x code maxLocals ret :: tables_1)).before args0 about1 = true := by
  rw [allAtoms_all]
  show words1.all (fun c => c.before args0 about1) = true
  refine all_split ?_ w_codes
  rw [← List.take_append_drop 24 words1, List.all_append, w_t1, ← List.take_append_drop 24 (words1.drop 24), List.all_append, w_t2, w_t3]
  rfl
set_option maxRecDepth 65536 in
theorem w_case : (Jvm.Cond.and given_1 narrow_1).before args0 about1 = true := by decide +kernel
theorem w_applies : (headSpec (Jvm.Cond.code x code maxLocals ret :: tables_1) room_1).applies x e0.platform about1 = true :=
  (Spec.applies_iff w_frames).mpr ⟨w_running, w_runnable, w_alone, w_named, w_hears, w_ripe, w_room, w_tables⟩
theorem atStart : AtStart classFile x code maxLocals ret World_1 tables_1 room_1 Calls_1 rest_1 Pre_1 launch0 p0 e0 about1 theMethod args0 below0 :=
  ⟨lists_1, trivial, launch0.admits_env _ _ _, launch0.least_env, fairChoices_fair.cas, fairChoices_fair.clock, w_frames, w_args, w_heap, w_applies, trivial, trivial, w_case⟩
end start1
theorem witness_1 : WitnessClaimed_1 := ⟨start1.p0, start1.e0, start1.about1, start1.theMethod, start1.args0, start1.below0, start1.atStart⟩
end Jvm.Pilot.@@N@@
