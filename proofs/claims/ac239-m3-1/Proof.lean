import JvmDerived
import JvmDerived.Pilot.@@N@@Statement
import JvmDerived.Pilot.@@N@@Code
set_option linter.unusedVariables false
set_option linter.unusedSimpArgs false
namespace Jvm.Own
open Jvm Jvm.ClassFile Sem Op Lib Jvm.Free Jvm.Stand Jvm.LawKit Jvm.RoadKit Bundle

/-! a calculus of walks, over the library's step laws -/
def Wk (Z : State) (own nm : String) (bytes : ByteArray) (ml : Nat) (ret : Option FieldType) (R : Room) (n0 : Nat) (p : Program) (l : Launch) (e : Env) (s : State) (m : MethodId) (args : Array Value) (below : List Frame) (meth : Method) (c : Code) (T : State) (cells slots : Nat) (h : Heap) : Prop :=
  ∃ locs, Stand p l e R s m args below meth c T locs cells slots ∧ Fr n0 locs ∧ T.heap = h ∧ n0 ≤ s.heap.size ∧ p.tables.exec = Jvm.exec ∧ Z.Warmed39 s.vm ∧ c.code = bytes ∧ c.maxLocals = ml ∧ s.vm.findClass own = some m.cls ∧ meth.name = nm ∧ meth.sig.returnType = ret ∧ meth.locks = false
def Goes (p : Program) (e : Env) (below : List Frame) (s : State) (R : Room) (n0 : Nat) (Q : Option Value → Heap → Prop) (t : State) : Prop :=
  ∃ s₂ o, Steps p.tables e below t s₂ ∧ s₂.status = .running ∧ Ended s₂ below o ∧ ∃ v L, o = .returned v ∧ (Fr n0 L ∧ Q v s₂.heap) ∧ FrameEnd s o s₂ L R.cells R.slots
def Met (l : Launch) (Z : State) (y : MethodName) (bytes : ByteArray) (ml : Nat) (ret : Option FieldType) (R : Room) (ws : List Jvm.Cond) (n0 : Nat) (as : Array Value) (h0 : Heap) (Q : Option Value → Heap → Prop) : Prop :=
  MetFree l y (head1 (Jvm.Cond.code y bytes ml ret :: ws) R) (fun a U => a = as ∧ Z.Warmed39 U.vm ∧ U.heap = h0) (fun _ _ _ _ _ => True) (fun _ U o U' => ∃ v L, o = .returned v ∧ (Fr n0 L ∧ Q v U'.heap) ∧ FrameEnd U o U' L R.cells R.slots)
def bI (c : Prop) [Decidable c] : Int32 := if c then 1 else 0
theorem bI_t {c : Prop} [Decidable c] (h : c) : (1 : Int32) = bI c := (if_pos h).symm
theorem bI_f {c : Prop} [Decidable c] (h : ¬ c) : (0 : Int32) = bI c := (if_neg h).symm
theorem bI_01 (c : Prop) [Decidable c] : bI c = 0 ∨ bI c = 1 := by unfold bI; split <;> simp
theorem bI_eq0 (c : Prop) [Decidable c] : bI c = 0 ↔ ¬ c := by unfold bI; split <;> simp_all
theorem bI_eq1 (c : Prop) [Decidable c] : bI c = 1 ↔ c := by unfold bI; split <;> simp_all
theorem bI_inj (c d : Prop) [Decidable c] [Decidable d] : bI c = bI d ↔ (c ↔ d) := by unfold bI; split <;> split <;> simp_all
theorem bI_cong {c d : Prop} [Decidable c] [Decidable d] (h : c ↔ d) : bI c = bI d := (bI_inj c d).mpr h
def pcI (cd : ClassFile.Cond) (x y : Int32) : Prop := match cd with
  | .lt | .ge => x < y
  | .gt | .le => y < x
  | .eq | .ne => x = y
def pcJ (cd : ClassFile.Cond) (x y : Int64) : Prop := match cd with
  | .lt | .ge => x < y
  | .gt | .le => y < x
  | .eq | .ne => x = y

theorem own_selP {Z : State} {a0 : Array Value} {y : MethodName} {n : Nat} (wi : (Jvm.Cond.instantiable y.cls n).before a0 Z = true) (w6 : (Jvm.Cond.instanceMethod y).before a0 Z = true) (w7 : (Jvm.Cond.privateMethod y).before a0 Z = true) (hy : y.cls ≠ "java/lang/invoke/MethodHandle" ∧ y.cls ≠ "java/lang/invoke/VarHandle") : (Jvm.Cond.selects y.cls y y).before a0 Z = true := by
  obtain ⟨c, k, hc, hk, -, hf, -⟩ := Cond.instantiable_spec (show (Jvm.Cond.instantiable y.cls n).holds a0 Z none Z [] = true from wi)
  exact selects_self_of_private hc hk ((Bool.or_eq_false_iff.mp hf).1) (Cond.privateMethod_at w7) w6 hy
theorem own_bI01 (c : Prop) [Decidable c] : (c ∧ (bI c).toInt = 1) ∨ (¬ c ∧ (bI c).toInt = 0) := by unfold bI; split <;> simp_all
theorem own_mask' (m x : Int32) (k : Nat) (hk : k ≤ 31) (hm : m.toBitVec.toNat = 2 ^ k - 1) : (m &&& x).toInt = x.toInt % (2 ^ k : Nat) := by rw [Int32.and_comm]; exact c_mask x m k hk hm
theorem own_maskL' (m x : Int64) (k : Nat) (hk : k ≤ 63) (hm : m.toBitVec.toNat = 2 ^ k - 1) : (m &&& x).toInt = x.toInt % (2 ^ k : Nat) := by rw [Int64.and_comm]; exact c_maskL x m k hk hm
theorem own_mB (x m : Int32) (k : Nat) (hk : k ≤ 31) (hm : m.toBitVec.toNat = 2 ^ k - 1) (M : Nat) (hM : M + 1 = 2 ^ k) : 0 ≤ (x &&& m).toInt ∧ (x &&& m).toInt ≤ M := by
  rw [c_mask x m k hk hm, ← hM]; have a := Int.emod_nonneg x.toInt (b := ((M + 1 : Nat) : Int)) (by omega); have b := Int.emod_lt_of_pos x.toInt (b := ((M + 1 : Nat) : Int)) (by omega); omega
theorem own_mBL (x m : Int64) (k : Nat) (hk : k ≤ 63) (hm : m.toBitVec.toNat = 2 ^ k - 1) (M : Nat) (hM : M + 1 = 2 ^ k) : 0 ≤ (x &&& m).toInt ∧ (x &&& m).toInt ≤ M := by
  rw [c_maskL x m k hk hm, ← hM]; have a := Int.emod_nonneg x.toInt (b := ((M + 1 : Nat) : Int)) (by omega); have b := Int.emod_lt_of_pos x.toInt (b := ((M + 1 : Nat) : Int)) (by omega); omega
theorem own_mB' (m x : Int32) (k : Nat) (hk : k ≤ 31) (hm : m.toBitVec.toNat = 2 ^ k - 1) (M : Nat) (hM : M + 1 = 2 ^ k) : 0 ≤ (m &&& x).toInt ∧ (m &&& x).toInt ≤ M := by rw [Int32.and_comm]; exact own_mB x m k hk hm M hM
theorem own_mBL' (m x : Int64) (k : Nat) (hk : k ≤ 63) (hm : m.toBitVec.toNat = 2 ^ k - 1) (M : Nat) (hM : M + 1 = 2 ^ k) : 0 ≤ (m &&& x).toInt ∧ (m &&& x).toInt ≤ M := by rw [Int64.and_comm]; exact own_mBL x m k hk hm M hM
theorem own_iaddE (x y : Int32) (h : -2147483648 ≤ x.toInt + y.toInt ∧ x.toInt + y.toInt < 2147483648) : (x + y).toInt = x.toInt + y.toInt := by
  have a := c_iadd x y; have b := rng32 (x + y); omega
theorem own_isubE (x y : Int32) (h : -2147483648 ≤ x.toInt - y.toInt ∧ x.toInt - y.toInt < 2147483648) : (x - y).toInt = x.toInt - y.toInt := by
  have a := c_isub x y; have b := rng32 (x - y); omega
theorem own_imulE (x y : Int32) (h : -2147483648 ≤ x.toInt * y.toInt ∧ x.toInt * y.toInt < 2147483648) : (x * y).toInt = x.toInt * y.toInt := by
  have a := c_imul x y; have b := rng32 (x * y); omega
theorem own_inegE (x : Int32) (h : -2147483648 ≤ -x.toInt ∧ -x.toInt < 2147483648) : (-x).toInt = -x.toInt := by
  have a := c_ineg x; have b := rng32 (-x); omega
theorem own_laddE (x y : Int64) (h : -9223372036854775808 ≤ x.toInt + y.toInt ∧ x.toInt + y.toInt < 9223372036854775808) : (x + y).toInt = x.toInt + y.toInt := by
  have a := c_ladd x y; have b := rng64 (x + y); omega
theorem own_lsubE (x y : Int64) (h : -9223372036854775808 ≤ x.toInt - y.toInt ∧ x.toInt - y.toInt < 9223372036854775808) : (x - y).toInt = x.toInt - y.toInt := by
  have a := c_lsub x y; have b := rng64 (x - y); omega
theorem own_lmulE (x y : Int64) (h : -9223372036854775808 ≤ x.toInt * y.toInt ∧ x.toInt * y.toInt < 9223372036854775808) : (x * y).toInt = x.toInt * y.toInt := by
  have a := c_lmul x y; have b := rng64 (x * y); omega
theorem own_lnegE (x : Int64) (h : -9223372036854775808 ≤ -x.toInt ∧ -x.toInt < 9223372036854775808) : (-x).toInt = -x.toInt := by
  have a := c_lneg x; have b := rng64 (-x); omega
theorem own_l2iE (x : Int64) (h : -2147483648 ≤ x.toInt ∧ x.toInt < 2147483648) : x.toInt32.toInt = x.toInt := by
  have a := c_l2i x; have b := rng32 x.toInt32; omega
theorem own_ushB (x q : Int32) (k : Nat) (hk : q.toBitVec.toNat % 32 = k) (h0 : 0 < k) (M : Nat) (hM : M * 2 ^ k = 4294967296) : 0 ≤ ((x.toUInt32 >>> (q &&& 31).toUInt32).toInt32).toInt ∧ ((x.toUInt32 >>> (q &&& 31).toUInt32).toInt32).toInt < M := by
  rw [c_iushr x q k hk h0]
  have h2 : (0 : Int) < ((2 ^ k : Nat) : Int) := Int.natCast_pos.mpr (Nat.pow_pos (by decide))
  refine ⟨Int.ediv_nonneg (by omega) (Int.le_of_lt h2), Int.ediv_lt_of_lt_mul h2 ?_⟩
  have q : ((M : Int)) * ((2 ^ k : Nat) : Int) = 4294967296 := by rw [← Int.natCast_mul, hM]; rfl
  omega
theorem own_irem (x y : Int32) (d : Int) (hy : y.toInt = d) : (0 ≤ x.toInt → (x % y).toInt = x.toInt % d) ∧ (x.toInt < 0 → (x % y).toInt = -((-x.toInt) % d)) := c_irem x y d hy
theorem own_lrem (x y : Int64) (d : Int) (hy : y.toInt = d) : (0 ≤ x.toInt → (x % y).toInt = x.toInt % d) ∧ (x.toInt < 0 → (x % y).toInt = -((-x.toInt) % d)) := by rw [← lrem_mod]; exact c_lrem x y d hy
theorem own_iremV (x y : Int32) : (0 ≤ x.toInt → 0 < y.toInt → 0 ≤ (x % y).toInt ∧ (x % y).toInt < y.toInt ∧ (x % y).toInt ≤ x.toInt) := fun h1 h2 => ⟨((c_iremV x y).1 h1 h2).1, ((c_iremV x y).1 h1 h2).2.1, ((c_iremV x y).1 h1 h2).2.2.1⟩
theorem own_emod_le {a b : Int} (h1 : 0 ≤ a) (h2 : 0 < b) : a % b ≤ a := by
  have q := Int.emod_add_mul_ediv a b; have z : 0 ≤ b * (a / b) := Int.mul_nonneg (Int.le_of_lt h2) (Int.ediv_nonneg h1 (Int.le_of_lt h2)); omega
theorem own_lremV (x y : Int64) : (0 ≤ x.toInt → 0 < y.toInt → 0 ≤ (x % y).toInt ∧ (x % y).toInt < y.toInt ∧ (x % y).toInt ≤ x.toInt) := fun h1 h2 => by
  rw [Int64.toInt_mod, Int.tmod_eq_emod_of_nonneg h1]
  exact ⟨Int.emod_nonneg _ (by omega), Int.emod_lt_of_pos _ h2, own_emod_le h1 h2⟩
theorem own_iremP (x y : Int32) (d : Int) (hy : y.toInt = d) (h0 : 0 ≤ x.toInt) : (x % y).toInt = x.toInt % d := (own_irem x y d hy).1 h0
theorem own_iremB (x y : Int32) (d : Int) (hy : y.toInt = d) (hd : 0 < d) (h0 : 0 ≤ x.toInt) : 0 ≤ (x % y).toInt ∧ (x % y).toInt < d ∧ (x % y).toInt ≤ x.toInt := by
  rw [own_iremP x y d hy h0]; exact ⟨Int.emod_nonneg _ (by omega), Int.emod_lt_of_pos _ hd, own_emod_le h0 hd⟩
theorem own_iremM (x y : Int32) (d : Int) (hy : y.toInt = d) (hd : 0 < d) : -d < (x % y).toInt ∧ (x % y).toInt < d := by
  rcases Int.lt_or_le x.toInt 0 with h | h
  · rw [(own_irem x y d hy).2 h]; have a := Int.emod_nonneg (-x.toInt) (b := d) (by omega); have b := Int.emod_lt_of_pos (-x.toInt) hd; omega
  · have q := own_iremB x y d hy hd h; omega
theorem own_lremP (x y : Int64) (d : Int) (hy : y.toInt = d) (h0 : 0 ≤ x.toInt) : (x % y).toInt = x.toInt % d := (own_lrem x y d hy).1 h0
theorem own_lremB (x y : Int64) (d : Int) (hy : y.toInt = d) (hd : 0 < d) (h0 : 0 ≤ x.toInt) : 0 ≤ (x % y).toInt ∧ (x % y).toInt < d ∧ (x % y).toInt ≤ x.toInt := by
  rw [own_lremP x y d hy h0]; exact ⟨Int.emod_nonneg _ (by omega), Int.emod_lt_of_pos _ hd, own_emod_le h0 hd⟩
theorem own_lremM (x y : Int64) (d : Int) (hy : y.toInt = d) (hd : 0 < d) : -d < (x % y).toInt ∧ (x % y).toInt < d := by
  rcases Int.lt_or_le x.toInt 0 with h | h
  · rw [(own_lrem x y d hy).2 h]; have a := Int.emod_nonneg (-x.toInt) (b := d) (by omega); have b := Int.emod_lt_of_pos (-x.toInt) hd; omega
  · have q := own_lremB x y d hy hd h; omega
theorem own_bor (A B : Prop) [Decidable A] [Decidable B] : bI A ||| bI B = bI (A ∨ B) := by unfold bI; by_cases a : A <;> by_cases b : B <;> simp [a, b] <;> decide
theorem own_band (A B : Prop) [Decidable A] [Decidable B] : bI A &&& bI B = bI (A ∧ B) := by unfold bI; by_cases a : A <;> by_cases b : B <;> simp [a, b] <;> decide
def Apart (a b : Addr) : Prop := a ≠ b
theorem own_apS {a b : Addr} (h : Apart a b) : Apart b a := Ne.symm h
theorem own_new {h : Heap} {a b : Addr} (hb : b = h.size) (ha : a < h.size) : Apart a b := by subst hb; exact Nat.ne_of_lt ha
theorem own_sz {h0 h : Heap} {b : Addr} {ws : List Addr} (hb : b = h.size) (K : Keep h0 h ws) : h0.size ≤ b := by subst hb; exact K.1
theorem own_far {h : Heap} {a b : Addr} (ha : a < h.size) (hb : h.size ≤ b) : Apart a b := Nat.ne_of_lt (Nat.lt_of_lt_of_le ha hb)
theorem own_narZ {z : Int32} (hz : z = 0 ∨ z = 1) : narrow .boolean (.int z) = .int z := by rcases hz with rfl | rfl <;> rfl
theorem own_fitZ {z : Int32} (hz : z = 0 ∨ z = 1) : fits .boolean (.int z) = true := by rcases hz with rfl | rfl <;> rfl
theorem own_narZ' {z : Int32} (hz : z = 0 ∨ z = 1) : nar .boolean z = z := by rcases hz with rfl | rfl <;> rfl
theorem own_fin {c : Prop} [Decidable c] (h : c) : (some (Value.int (bI c))) = some (Value.int 1) := by rw [← bI_t h]
def own_up {α : Type} (f : Nat → α) (i : Nat) (x : α) : Nat → α := fun k => if k = i then x else f k
def AI (Z : State) (h : Heap) (a : Addr) (ty : FieldType) (n : Nat) (f : Nat → Int32) : Prop := n < 2 ^ 31 ∧ ∃ c : Cell, Arr Z h a c ty ∧ c.slots.size = n ∧ ∀ j, j < n → c.slots[j]? = some (.int (f j))
def AJ (Z : State) (h : Heap) (a : Addr) (n : Nat) (f : Nat → Int64) : Prop := n < 2 ^ 31 ∧ ∃ c : Cell, Arr Z h a c .long ∧ c.slots.size = n ∧ ∀ j, j < n → c.slots[j]? = some (.long (f j))
theorem AI.lt {Z : State} {h : Heap} {a : Addr} {ty : FieldType} {n : Nat} {f : Nat → Int32} (A : AI Z h a ty n f) : a < h.size := by obtain ⟨_, c, A, _⟩ := A; exact A.lt
theorem AI.ext {Z : State} {h h' : Heap} {a : Addr} {ty : FieldType} {n : Nat} {f : Nat → Int32} (A : AI Z h a ty n f) (E : Ext h h') : AI Z h' a ty n f := by obtain ⟨q, c, A, r⟩ := A; exact ⟨q, c, A.ext E, r⟩
theorem AI.keep {Z : State} {h h' : Heap} {a : Addr} {ws : List Addr} {ty : FieldType} {n : Nat} {f : Nat → Int32} (A : AI Z h a ty n f) (K : Keep h h' ws) (q : a ∉ ws) : AI Z h' a ty n f := by obtain ⟨z, c, A, r⟩ := A; exact ⟨z, c, ⟨K.2.1 a c A.1 q, A.2⟩, r⟩
theorem AI.other {Z : State} {h h' : Heap} {a b : Addr} {sl : Nat} {w : Value} {ty : FieldType} {n : Nat} {f : Nat → Int32} (A : AI Z h a ty n f) (W : Wr h h' b sl w) (q : a ≠ b) : AI Z h' a ty n f := by obtain ⟨z, c, A, r⟩ := A; exact ⟨z, c, A.other W q, r⟩
theorem AI.set {Z : State} {h h' : Heap} {a : Addr} {i : Nat} {x : Int32} {ty : FieldType} {n : Nat} {f : Nat → Int32} (A : AI Z h a ty n f) (W : Wr h h' a i (.int x)) : AI Z h' a ty n (own_up f i x) := by
  obtain ⟨z, c, A, r1, r2⟩ := A
  refine ⟨z, _, A.same W, by rw [sz_set]; exact r1, fun j hj => ?_⟩
  by_cases q : j = i
  · subst q; simp [Cell.setSlot, own_up, r1, hj]
  · simp only [Cell.setSlot, own_up, if_neg q]; rw [Array.getElem?_setIfInBounds_ne (Ne.symm q)]; exact r2 j hj
theorem AI.to {Z : State} {h : Heap} {a : Addr} {ty : FieldType} {n : Nat} {f g : Nat → Int32} (A : AI Z h a ty n f) (q : ∀ j, j < n → f j = g j) : AI Z h a ty n g := by obtain ⟨z, c, A, r1, r2⟩ := A; exact ⟨z, c, A, r1, fun j hj => by rw [← q j hj]; exact r2 j hj⟩
theorem AJ.lt {Z : State} {h : Heap} {a : Addr} {n : Nat} {f : Nat → Int64} (A : AJ Z h a n f) : a < h.size := by obtain ⟨_, c, A, _⟩ := A; exact A.lt
theorem AJ.ext {Z : State} {h h' : Heap} {a : Addr} {n : Nat} {f : Nat → Int64} (A : AJ Z h a n f) (E : Ext h h') : AJ Z h' a n f := by obtain ⟨q, c, A, r⟩ := A; exact ⟨q, c, A.ext E, r⟩
theorem AJ.keep {Z : State} {h h' : Heap} {a : Addr} {ws : List Addr} {n : Nat} {f : Nat → Int64} (A : AJ Z h a n f) (K : Keep h h' ws) (q : a ∉ ws) : AJ Z h' a n f := by obtain ⟨z, c, A, r⟩ := A; exact ⟨z, c, ⟨K.2.1 a c A.1 q, A.2⟩, r⟩
theorem AJ.other {Z : State} {h h' : Heap} {a b : Addr} {sl : Nat} {w : Value} {n : Nat} {f : Nat → Int64} (A : AJ Z h a n f) (W : Wr h h' b sl w) (q : a ≠ b) : AJ Z h' a n f := by obtain ⟨z, c, A, r⟩ := A; exact ⟨z, c, A.other W q, r⟩
theorem AJ.set {Z : State} {h h' : Heap} {a : Addr} {i : Nat} {x : Int64} {n : Nat} {f : Nat → Int64} (A : AJ Z h a n f) (W : Wr h h' a i (.long x)) : AJ Z h' a n (own_up f i x) := by
  obtain ⟨z, c, A, r1, r2⟩ := A
  refine ⟨z, _, A.same W, by rw [sz_set]; exact r1, fun j hj => ?_⟩
  by_cases q : j = i
  · subst q; simp [Cell.setSlot, own_up, r1, hj]
  · simp only [Cell.setSlot, own_up, if_neg q]; rw [Array.getElem?_setIfInBounds_ne (Ne.symm q)]; exact r2 j hj
theorem AJ.to {Z : State} {h : Heap} {a : Addr} {n : Nat} {f g : Nat → Int64} (A : AJ Z h a n f) (q : ∀ j, j < n → f j = g j) : AJ Z h a n g := by obtain ⟨z, c, A, r1, r2⟩ := A; exact ⟨z, c, A, r1, fun j hj => by rw [← q j hj]; exact r2 j hj⟩
theorem own_clN {n : Nat} (z : n < 2 ^ 31) : (Int32.ofNat n).toNatClampNeg = n ∧ ¬ Int32.ofNat n < 0 := by
  have q : (Int32.ofNat n).toInt = n := Int32.toInt_ofNat_small z
  constructor
  · simp only [Int32.toNatClampNeg, q]; omega
  · rw [Int32.lt_iff_toInt_lt, q]; simp only [Int32.reduceToInt]; omega
theorem own_rg (n : Nat) (f : Nat → Value) (d : Value) (i : Nat) (hi : i < n) : ((List.range n).map f).getD i d = f i := by simp [List.getD_eq_getElem?_getD, hi]
theorem own_arv {Z : State} {h : Heap} {a : Addr} {n : Nat} {f : Nat → Int64} (A : AJ Z h a n f) : ∃ k, Arv Z h a k .long (Int32.ofNat n) ((List.range n).map fun j => Value.long (f j)) (.long 0) := by
  obtain ⟨z, c, A, s1, e1⟩ := A
  have q := own_clN z
  refine ⟨c.cls, c, A, rfl, by rw [q.1]; exact s1, q.2, fun i hi => ?_, fun i hi => ?_⟩
  · rw [own_rg n _ _ i (by omega)]; exact e1 i (by omega)
  · rw [own_rg n _ _ i (by omega)]; rfl
theorem own_arvB {Z : State} {h : Heap} {b : Addr} {k : ClassId} {n : Nat} {vs : List Value} {f : Nat → Int64} (z : n < 2 ^ 31) (B : Arv Z h b k .long (Int32.ofNat n) vs (.long 0)) (q : ∀ j, j < n → vs.getD j (.long 0) = .long (f j)) : AJ Z h b n f := by
  obtain ⟨c, B1, -, s, -, H, -⟩ := B
  rw [(own_clN z).1] at s
  exact ⟨z, c, B1, s, fun j hj => by rw [H j (by omega), q j hj]⟩
theorem own_cpl (n n' k : Nat) (f f' : Nat → Int64) (h1 : k ≤ n) (h2 : k ≤ n') (j : Nat) (hj : j < n') : (((List.range n').map fun j => Value.long (f' j)).take 0 ++ ((List.range k).map fun i => ((List.range n).map fun j => Value.long (f j)).getD (0 + i) (.long 0)) ++ ((List.range n').map fun j => Value.long (f' j)).drop (0 + k)).getD j (.long 0) = .long (if j < k then f j else f' j) := by
  rw [List.take_zero, List.nil_append, List.getD_eq_getElem?_getD]
  by_cases q : j < k
  · rw [List.getElem?_append_left (by simpa using q), if_pos q, List.getElem?_map, List.getElem?_range q, Option.map_some, Option.getD_some, Nat.zero_add, own_rg n _ _ j (by omega)]
  · rw [List.getElem?_append_right (by simpa using q), if_neg q, List.getElem?_drop, List.length_map, List.length_range, Nat.zero_add, List.getElem?_map, show k + (j - k) = j by omega, List.getElem?_range hj, Option.map_some, Option.getD_some]
theorem own_ix {j : Int32} {n k : Nat} (hk : k = n) (q : 0 ≤ j.toInt ∧ j.toInt < n) : ¬ (j < 0 ∨ k ≤ j.toNatClampNeg) := by
  simp only [Int32.lt_iff_toInt_lt, Int32.toNatClampNeg, Int32.reduceToInt]; omega
theorem own_ixn {j : Int32} {n : Nat} (q : 0 ≤ j.toInt ∧ j.toInt < n) : j.toNatClampNeg < n := by simp only [Int32.toNatClampNeg]; omega
section Walk
variable {Z : State} {a0 : Array Value} {own nm : String} {bytes : ByteArray} {ml : Nat} {ret : Option FieldType} {R : Room} {n0 : Nat} {p : Program} {l : Launch} {e : Env} {s : State} {m : MethodId} {args : Array Value} {below : List Frame} {meth : Method} {c : Code} {T : State} {cells slots : Nat} {h : Heap} {Q : Option Value → Heap → Prop}
theorem Met.intro {y : MethodName} {as : Array Value} {h0 : Heap} {ws : List Jvm.Cond} (hp : plainFor y = true) (hn : n0 ≤ h0.size)
    (body : ∀ p e s m below meth c T, Wk Z y.cls y.name bytes ml ret R n0 p l e s m as below meth c T 0 0 h0 → Goes p e below s R n0 Q (T.setTop (entryFrame m as ml))) : Met l Z y bytes ml ret R ws n0 as h0 Q := by
  refine MetFree.of_bodySF hp hisR ?_
  intro p e s m args below meth c s₁ Bd hml0 hP hK
  obtain ⟨rfl, hZ, hh⟩ := hP
  have e0 : s₁.heap = h0 := by rw [← hh, Bd.state]; rfl
  exact body p e s m below meth c s₁ ⟨[], Stand.of_body Bd, Fr.nil n0, e0, by rw [hh]; exact hn, Bd.exec, hZ, Bd.bytes, hml0, findClass_of_methodNamed Bd.named, (name_of_methodNamed Bd.named Bd.method).1, Bd.returns, Bd.notSynchronized⟩
theorem g_of {A B : State} (hs : ∀ t, Steps p.tables e below A t → Steps p.tables e below B t) (k : Goes p e below s R n0 Q A) : Goes p e below s R n0 Q B := by
  obtain ⟨s2, o, h1, h2⟩ := k
  exact ⟨s2, o, hs _ h1, h2⟩
theorem g_cast {g g' : JFrame} (q : g = g') (k : Goes p e below s R n0 Q (T.setTop g')) : Goes p e below s R n0 Q (T.setTop g) := q ▸ k
theorem g_eqI {pc : Nat} {Ls : Array Slot} {x y : Int32} {rest : List Value} (q : x = y) (k : Goes p e below s R n0 Q (T.setTop (mkF m pc Ls (.int y :: rest)))) : Goes p e below s R n0 Q (T.setTop (mkF m pc Ls (.int x :: rest))) := q ▸ k
theorem g_eqJ {pc : Nat} {Ls : Array Slot} {x y : Int64} {rest : List Value} (q : x = y) (k : Goes p e below s R n0 Q (T.setTop (mkF m pc Ls (.long y :: rest)))) : Goes p e below s R n0 Q (T.setTop (mkF m pc Ls (.long x :: rest))) := q ▸ k
theorem g_letJ {pc : Nat} {Ls : Array Slot} {x : Int64} {rest : List Value} (k : ∀ y, y = x → Goes p e below s R n0 Q (T.setTop (mkF m pc Ls (.long y :: rest)))) : Goes p e below s R n0 Q (T.setTop (mkF m pc Ls (.long x :: rest))) := k x rfl
theorem g_letI {pc : Nat} {Ls : Array Slot} {x : Int32} {rest : List Value} (k : ∀ y, y = x → Goes p e below s R n0 Q (T.setTop (mkF m pc Ls (.int y :: rest)))) : Goes p e below s R n0 Q (T.setTop (mkF m pc Ls (.int x :: rest))) := k x rfl
theorem Wk.size (X : Wk Z own nm bytes ml ret R n0 p l e s m args below meth c T cells slots h) : n0 ≤ h.size := by
  obtain ⟨locs, X, N, eh, hn, hx, hZ, hby, hml, hown, hnm, hret, hlk⟩ := X
  have q : s.heap.size ≤ T.heap.size := X.same.2.1
  rw [eh] at q
  exact Nat.le_trans hn q
theorem Wk.mono (X : Wk Z own nm bytes ml ret R n0 p l e s m args below meth c T cells slots h) {cells' slots' : Nat} (hc : cells ≤ cells') (hs : slots ≤ slots') : Wk Z own nm bytes ml ret R n0 p l e s m args below meth c T cells' slots' h := by
  obtain ⟨locs, X, N, eh, hn, hx, hZ, hby, hml, hown, hnm, hret, hlk⟩ := X
  exact ⟨locs, X.mono hc hs, N, eh, hn, hx, hZ, hby, hml, hown, hnm, hret, hlk⟩
theorem g_out (X : Wk Z own nm bytes ml ret R n0 p l e s m args below meth c T cells slots h) {g : JFrame} {v : Option Value} (hv : ret = none → v = none) (hc : cells ≤ R.cells) (hs : slots ≤ R.slots)
    (st : ∀ locs, Stand p l e R s m args below meth c T locs cells slots → p.tables.exec = Jvm.exec → meth.sig.returnType = ret → c.code = bytes → ∀ fs, (∀ (f : JFrame) (acts : List Action), f.method = m → f.locked = none → f.entered = [] → (doReturn e (T.setTop f) acts v).1 = T.setFrames fs) → Steps p.tables e below (T.setTop g) (T.setFrames fs))
    (hQ : Q v h) : Goes p e below s R n0 Q (T.setTop g) := by
  obtain ⟨locs, X, N, eh, hn, hx, hZ, hby, hml, hown, hnm, hret, hlk⟩ := X
  obtain ⟨fs, hr, hrun, hended, hW, hsame⟩ := X.leave (v := v) (fun q => hv (hret ▸ q)) hlk
  exact ⟨_, _, st _ X hx hret hby fs hr, hrun, hended, _, _, rfl, ⟨N, by rw [show (T.setFrames fs).heap = T.heap from rfl, eh]; exact hQ⟩, ⟨_, rfl⟩, hW, hsame.mono hc hs⟩
theorem g_retI (X : Wk Z own nm bytes ml (some .int) R n0 p l e s m args below meth c T cells slots h) {pc : Nat} {Ls : Array Slot} {z : Int32} {rest : List Value} (hd : decode bytes pc = .ok (.ireturn, 1)) (hc : cells ≤ R.cells) (hs : slots ≤ R.slots) (hQ : Q (some (.int z)) h) : Goes p e below s R n0 Q (T.setTop (mkF m pc Ls (.int z :: rest))) :=
  g_out X nofun hc hs (fun _ Y hx hr hb fs hl => retOut Y hx hr rfl (Or.inl ⟨rfl, Or.inl rfl, _, rfl⟩) (hb ▸ hd) hl) hQ
theorem g_retZ (X : Wk Z own nm bytes ml (some .boolean) R n0 p l e s m args below meth c T cells slots h) {pc : Nat} {Ls : Array Slot} {z : Int32} {rest : List Value} (hd : decode bytes pc = .ok (.ireturn, 1)) (hc : cells ≤ R.cells) (hs : slots ≤ R.slots) (hz : z = 0 ∨ z = 1) (hQ : Q (some (.int z)) h) : Goes p e below s R n0 Q (T.setTop (mkF m pc Ls (.int z :: rest))) :=
  g_out X nofun hc hs (fun _ Y hx hr hb fs hl => retOut Y hx hr (by rcases hz with rfl | rfl <;> rfl) (Or.inl ⟨rfl, Or.inr (Or.inl rfl), _, rfl⟩) (hb ▸ hd) hl) hQ
theorem g_retJ (X : Wk Z own nm bytes ml (some .long) R n0 p l e s m args below meth c T cells slots h) {pc : Nat} {Ls : Array Slot} {z : Int64} {rest : List Value} (hd : decode bytes pc = .ok (.lreturn, 1)) (hc : cells ≤ R.cells) (hs : slots ≤ R.slots) (hQ : Q (some (.long z)) h) : Goes p e below s R n0 Q (T.setTop (mkF m pc Ls (.long z :: rest))) :=
  g_out X nofun hc hs (fun _ Y hx hr hb fs hl => retOut Y hx hr rfl (Or.inr (Or.inl ⟨rfl, rfl, _, rfl⟩)) (hb ▸ hd) hl) hQ
theorem g_retA {t : FieldType} (X : Wk Z own nm bytes ml (some t) R n0 p l e s m args below meth c T cells slots h) (ht : t.isReference = true) {pc : Nat} {Ls : Array Slot} {w : Value} (hw : w.isRef = true) {rest : List Value} (hd : decode bytes pc = .ok (.areturn, 1)) (hc : cells ≤ R.cells) (hs : slots ≤ R.slots) (hQ : Q (some w) h) : Goes p e below s R n0 Q (T.setTop (mkF m pc Ls (w :: rest))) :=
  g_out X nofun hc hs (fun _ Y hx hr hb fs hl => retOut Y hx hr (by cases t <;> simp_all [narrow, FieldType.isReference]) (Or.inr (Or.inr (Or.inr (Or.inr ⟨rfl, ht, hw⟩)))) (hb ▸ hd) hl) hQ
theorem g_ret0 (X : Wk Z own nm bytes ml none R n0 p l e s m args below meth c T cells slots h) {pc : Nat} {Ls : Array Slot} (hd : decode bytes pc = .ok (.return_, 1)) (hc : cells ≤ R.cells) (hs : slots ≤ R.slots) (hQ : Q none h) : Goes p e below s R n0 Q (T.setTop (mkF m pc Ls [])) :=
  g_out X (fun _ => rfl) hc hs (fun _ Y hx hr hb fs hl => Y.returnOut hx hr (hb ▸ hd) hl) hQ
theorem g_lcmp (X : Wk Z own nm bytes ml ret R n0 p l e s m args below meth c T cells slots h) {pc q : Nat} {Ls : Array Slot} {rest : List Value} {x y : Int64} (hd : decode bytes pc = .ok (.lcmp, 1)) (hq : pc + 1 = q) (k : Goes p e below s R n0 Q (T.setTop (mkF m q Ls (.int (lcmpW x y) :: rest)))) : Goes p e below s R n0 Q (T.setTop (mkF m pc Ls (.long y :: .long x :: rest))) := by
  obtain ⟨locs, X, N, eh, hn, hx, hZ, hby, hml, hown, hnm, hret, hlk⟩ := X
  subst hby hq
  exact g_of (fun t r => XS.lcmp X.here hx rfl hd rfl r) k
theorem g_iadd (X : Wk Z own nm bytes ml ret R n0 p l e s m args below meth c T cells slots h) {pc q : Nat} {Ls : Array Slot} {rest : List Value} {x y : Int32} (hd : decode bytes pc = .ok (.iadd, 1)) (hq : pc + 1 = q) (k : Goes p e below s R n0 Q (T.setTop (mkF m q Ls (.int (x + y) :: rest)))) : Goes p e below s R n0 Q (T.setTop (mkF m pc Ls (.int y :: .int x :: rest))) := by
  obtain ⟨locs, X, N, eh, hn, hx, hZ, hby, hml, hown, hnm, hret, hlk⟩ := X
  subst hby hq
  exact g_of (fun t r => XS.iadd X.here hx rfl hd rfl r) k
theorem g_isub (X : Wk Z own nm bytes ml ret R n0 p l e s m args below meth c T cells slots h) {pc q : Nat} {Ls : Array Slot} {rest : List Value} {x y : Int32} (hd : decode bytes pc = .ok (.isub, 1)) (hq : pc + 1 = q) (k : Goes p e below s R n0 Q (T.setTop (mkF m q Ls (.int (x - y) :: rest)))) : Goes p e below s R n0 Q (T.setTop (mkF m pc Ls (.int y :: .int x :: rest))) := by
  obtain ⟨locs, X, N, eh, hn, hx, hZ, hby, hml, hown, hnm, hret, hlk⟩ := X
  subst hby hq
  exact g_of (fun t r => XS.isub X.here hx rfl hd rfl r) k
theorem g_imul (X : Wk Z own nm bytes ml ret R n0 p l e s m args below meth c T cells slots h) {pc q : Nat} {Ls : Array Slot} {rest : List Value} {x y : Int32} (hd : decode bytes pc = .ok (.imul, 1)) (hq : pc + 1 = q) (k : Goes p e below s R n0 Q (T.setTop (mkF m q Ls (.int (x * y) :: rest)))) : Goes p e below s R n0 Q (T.setTop (mkF m pc Ls (.int y :: .int x :: rest))) := by
  obtain ⟨locs, X, N, eh, hn, hx, hZ, hby, hml, hown, hnm, hret, hlk⟩ := X
  subst hby hq
  exact g_of (fun t r => XS.imul X.here hx rfl hd rfl r) k
theorem g_iand (X : Wk Z own nm bytes ml ret R n0 p l e s m args below meth c T cells slots h) {pc q : Nat} {Ls : Array Slot} {rest : List Value} {x y : Int32} (hd : decode bytes pc = .ok (.iand, 1)) (hq : pc + 1 = q) (k : Goes p e below s R n0 Q (T.setTop (mkF m q Ls (.int (x &&& y) :: rest)))) : Goes p e below s R n0 Q (T.setTop (mkF m pc Ls (.int y :: .int x :: rest))) := by
  obtain ⟨locs, X, N, eh, hn, hx, hZ, hby, hml, hown, hnm, hret, hlk⟩ := X
  subst hby hq
  exact g_of (fun t r => XS.iand X.here hx rfl hd rfl r) k
theorem g_ior (X : Wk Z own nm bytes ml ret R n0 p l e s m args below meth c T cells slots h) {pc q : Nat} {Ls : Array Slot} {rest : List Value} {x y : Int32} (hd : decode bytes pc = .ok (.ior, 1)) (hq : pc + 1 = q) (k : Goes p e below s R n0 Q (T.setTop (mkF m q Ls (.int (x ||| y) :: rest)))) : Goes p e below s R n0 Q (T.setTop (mkF m pc Ls (.int y :: .int x :: rest))) := by
  obtain ⟨locs, X, N, eh, hn, hx, hZ, hby, hml, hown, hnm, hret, hlk⟩ := X
  subst hby hq
  exact g_of (fun t r => XS.ior X.here hx rfl hd rfl r) k
theorem g_ixor (X : Wk Z own nm bytes ml ret R n0 p l e s m args below meth c T cells slots h) {pc q : Nat} {Ls : Array Slot} {rest : List Value} {x y : Int32} (hd : decode bytes pc = .ok (.ixor, 1)) (hq : pc + 1 = q) (k : Goes p e below s R n0 Q (T.setTop (mkF m q Ls (.int (x ^^^ y) :: rest)))) : Goes p e below s R n0 Q (T.setTop (mkF m pc Ls (.int y :: .int x :: rest))) := by
  obtain ⟨locs, X, N, eh, hn, hx, hZ, hby, hml, hown, hnm, hret, hlk⟩ := X
  subst hby hq
  exact g_of (fun t r => XS.ixor X.here hx rfl hd rfl r) k
theorem g_ladd (X : Wk Z own nm bytes ml ret R n0 p l e s m args below meth c T cells slots h) {pc q : Nat} {Ls : Array Slot} {rest : List Value} {x y : Int64} (hd : decode bytes pc = .ok (.ladd, 1)) (hq : pc + 1 = q) (k : Goes p e below s R n0 Q (T.setTop (mkF m q Ls (.long (x + y) :: rest)))) : Goes p e below s R n0 Q (T.setTop (mkF m pc Ls (.long y :: .long x :: rest))) := by
  obtain ⟨locs, X, N, eh, hn, hx, hZ, hby, hml, hown, hnm, hret, hlk⟩ := X
  subst hby hq
  exact g_of (fun t r => XS.ladd X.here hx rfl hd rfl r) k
theorem g_lsub (X : Wk Z own nm bytes ml ret R n0 p l e s m args below meth c T cells slots h) {pc q : Nat} {Ls : Array Slot} {rest : List Value} {x y : Int64} (hd : decode bytes pc = .ok (.lsub, 1)) (hq : pc + 1 = q) (k : Goes p e below s R n0 Q (T.setTop (mkF m q Ls (.long (x - y) :: rest)))) : Goes p e below s R n0 Q (T.setTop (mkF m pc Ls (.long y :: .long x :: rest))) := by
  obtain ⟨locs, X, N, eh, hn, hx, hZ, hby, hml, hown, hnm, hret, hlk⟩ := X
  subst hby hq
  exact g_of (fun t r => XS.lsub X.here hx rfl hd rfl r) k
theorem g_lmul (X : Wk Z own nm bytes ml ret R n0 p l e s m args below meth c T cells slots h) {pc q : Nat} {Ls : Array Slot} {rest : List Value} {x y : Int64} (hd : decode bytes pc = .ok (.lmul, 1)) (hq : pc + 1 = q) (k : Goes p e below s R n0 Q (T.setTop (mkF m q Ls (.long (x * y) :: rest)))) : Goes p e below s R n0 Q (T.setTop (mkF m pc Ls (.long y :: .long x :: rest))) := by
  obtain ⟨locs, X, N, eh, hn, hx, hZ, hby, hml, hown, hnm, hret, hlk⟩ := X
  subst hby hq
  exact g_of (fun t r => XS.lmul X.here hx rfl hd rfl r) k
theorem g_land (X : Wk Z own nm bytes ml ret R n0 p l e s m args below meth c T cells slots h) {pc q : Nat} {Ls : Array Slot} {rest : List Value} {x y : Int64} (hd : decode bytes pc = .ok (.land, 1)) (hq : pc + 1 = q) (k : Goes p e below s R n0 Q (T.setTop (mkF m q Ls (.long (x &&& y) :: rest)))) : Goes p e below s R n0 Q (T.setTop (mkF m pc Ls (.long y :: .long x :: rest))) := by
  obtain ⟨locs, X, N, eh, hn, hx, hZ, hby, hml, hown, hnm, hret, hlk⟩ := X
  subst hby hq
  exact g_of (fun t r => XS.land X.here hx rfl hd rfl r) k
theorem g_lor (X : Wk Z own nm bytes ml ret R n0 p l e s m args below meth c T cells slots h) {pc q : Nat} {Ls : Array Slot} {rest : List Value} {x y : Int64} (hd : decode bytes pc = .ok (.lor, 1)) (hq : pc + 1 = q) (k : Goes p e below s R n0 Q (T.setTop (mkF m q Ls (.long (x ||| y) :: rest)))) : Goes p e below s R n0 Q (T.setTop (mkF m pc Ls (.long y :: .long x :: rest))) := by
  obtain ⟨locs, X, N, eh, hn, hx, hZ, hby, hml, hown, hnm, hret, hlk⟩ := X
  subst hby hq
  exact g_of (fun t r => XS.lor X.here hx rfl hd rfl r) k
theorem g_lxor (X : Wk Z own nm bytes ml ret R n0 p l e s m args below meth c T cells slots h) {pc q : Nat} {Ls : Array Slot} {rest : List Value} {x y : Int64} (hd : decode bytes pc = .ok (.lxor, 1)) (hq : pc + 1 = q) (k : Goes p e below s R n0 Q (T.setTop (mkF m q Ls (.long (x ^^^ y) :: rest)))) : Goes p e below s R n0 Q (T.setTop (mkF m pc Ls (.long y :: .long x :: rest))) := by
  obtain ⟨locs, X, N, eh, hn, hx, hZ, hby, hml, hown, hnm, hret, hlk⟩ := X
  subst hby hq
  exact g_of (fun t r => XS.lxor X.here hx rfl hd rfl r) k
theorem g_idiv (X : Wk Z own nm bytes ml ret R n0 p l e s m args below meth c T cells slots h) {pc q : Nat} {Ls : Array Slot} {rest : List Value} {x y : Int32} (hd : decode bytes pc = .ok (.idiv, 1)) (hq : pc + 1 = q) (hy : y ≠ 0) (k : Goes p e below s R n0 Q (T.setTop (mkF m q Ls (.int (x / y) :: rest)))) : Goes p e below s R n0 Q (T.setTop (mkF m pc Ls (.int y :: .int x :: rest))) := by
  obtain ⟨locs, X, N, eh, hn, hx, hZ, hby, hml, hown, hnm, hret, hlk⟩ := X
  subst hby hq
  exact g_of (fun t r => XS.idiv X.here hx rfl hd rfl hy r) k
theorem g_irem (X : Wk Z own nm bytes ml ret R n0 p l e s m args below meth c T cells slots h) {pc q : Nat} {Ls : Array Slot} {rest : List Value} {x y : Int32} (hd : decode bytes pc = .ok (.irem, 1)) (hq : pc + 1 = q) (hy : y ≠ 0) (k : Goes p e below s R n0 Q (T.setTop (mkF m q Ls (.int (x % y) :: rest)))) : Goes p e below s R n0 Q (T.setTop (mkF m pc Ls (.int y :: .int x :: rest))) := by
  obtain ⟨locs, X, N, eh, hn, hx, hZ, hby, hml, hown, hnm, hret, hlk⟩ := X
  subst hby hq
  exact g_of (fun t r => XS.irem X.here hx rfl hd rfl hy (by rw [irem_eq_mod x y]; exact r)) k
theorem g_ldiv (X : Wk Z own nm bytes ml ret R n0 p l e s m args below meth c T cells slots h) {pc q : Nat} {Ls : Array Slot} {rest : List Value} {x y : Int64} (hd : decode bytes pc = .ok (.ldiv, 1)) (hq : pc + 1 = q) (hy : y ≠ 0) (k : Goes p e below s R n0 Q (T.setTop (mkF m q Ls (.long (x / y) :: rest)))) : Goes p e below s R n0 Q (T.setTop (mkF m pc Ls (.long y :: .long x :: rest))) := by
  obtain ⟨locs, X, N, eh, hn, hx, hZ, hby, hml, hown, hnm, hret, hlk⟩ := X
  subst hby hq
  exact g_of (fun t r => XS.ldiv X.here hx rfl hd rfl hy r) k
theorem g_lrem (X : Wk Z own nm bytes ml ret R n0 p l e s m args below meth c T cells slots h) {pc q : Nat} {Ls : Array Slot} {rest : List Value} {x y : Int64} (hd : decode bytes pc = .ok (.lrem, 1)) (hq : pc + 1 = q) (hy : y ≠ 0) (k : Goes p e below s R n0 Q (T.setTop (mkF m q Ls (.long (x % y) :: rest)))) : Goes p e below s R n0 Q (T.setTop (mkF m pc Ls (.long y :: .long x :: rest))) := by
  obtain ⟨locs, X, N, eh, hn, hx, hZ, hby, hml, hown, hnm, hret, hlk⟩ := X
  subst hby hq
  exact g_of (fun t r => XS.lrem X.here hx rfl hd rfl hy (by rw [lrem_mod x y]; exact r)) k
theorem g_ineg (X : Wk Z own nm bytes ml ret R n0 p l e s m args below meth c T cells slots h) {pc q : Nat} {Ls : Array Slot} {rest : List Value} {x : Int32} (hd : decode bytes pc = .ok (.ineg, 1)) (hq : pc + 1 = q) (k : Goes p e below s R n0 Q (T.setTop (mkF m q Ls (.int (-x) :: rest)))) : Goes p e below s R n0 Q (T.setTop (mkF m pc Ls (.int x :: rest))) := by
  obtain ⟨locs, X, N, eh, hn, hx, hZ, hby, hml, hown, hnm, hret, hlk⟩ := X
  subst hby hq
  exact g_of (fun t r => XS.ineg X.here hx rfl hd rfl r) k
theorem g_lneg (X : Wk Z own nm bytes ml ret R n0 p l e s m args below meth c T cells slots h) {pc q : Nat} {Ls : Array Slot} {rest : List Value} {x : Int64} (hd : decode bytes pc = .ok (.lneg, 1)) (hq : pc + 1 = q) (k : Goes p e below s R n0 Q (T.setTop (mkF m q Ls (.long (-x) :: rest)))) : Goes p e below s R n0 Q (T.setTop (mkF m pc Ls (.long x :: rest))) := by
  obtain ⟨locs, X, N, eh, hn, hx, hZ, hby, hml, hown, hnm, hret, hlk⟩ := X
  subst hby hq
  exact g_of (fun t r => XS.lneg X.here hx rfl hd rfl r) k
theorem g_i2l (X : Wk Z own nm bytes ml ret R n0 p l e s m args below meth c T cells slots h) {pc q : Nat} {Ls : Array Slot} {rest : List Value} {x : Int32} (hd : decode bytes pc = .ok (.i2l, 1)) (hq : pc + 1 = q) (k : Goes p e below s R n0 Q (T.setTop (mkF m q Ls (.long x.toInt64 :: rest)))) : Goes p e below s R n0 Q (T.setTop (mkF m pc Ls (.int x :: rest))) := by
  obtain ⟨locs, X, N, eh, hn, hx, hZ, hby, hml, hown, hnm, hret, hlk⟩ := X
  subst hby hq
  exact g_of (fun t r => XS.i2l X.here hx rfl hd rfl r) k
theorem g_l2i (X : Wk Z own nm bytes ml ret R n0 p l e s m args below meth c T cells slots h) {pc q : Nat} {Ls : Array Slot} {rest : List Value} {x : Int64} (hd : decode bytes pc = .ok (.l2i, 1)) (hq : pc + 1 = q) (k : Goes p e below s R n0 Q (T.setTop (mkF m q Ls (.int x.toInt32 :: rest)))) : Goes p e below s R n0 Q (T.setTop (mkF m pc Ls (.long x :: rest))) := by
  obtain ⟨locs, X, N, eh, hn, hx, hZ, hby, hml, hown, hnm, hret, hlk⟩ := X
  subst hby hq
  exact g_of (fun t r => XS.l2i X.here hx rfl hd rfl r) k
theorem g_i2b (X : Wk Z own nm bytes ml ret R n0 p l e s m args below meth c T cells slots h) {pc q : Nat} {Ls : Array Slot} {rest : List Value} {x : Int32} (hd : decode bytes pc = .ok (.i2b, 1)) (hq : pc + 1 = q) (k : Goes p e below s R n0 Q (T.setTop (mkF m q Ls (.int x.toInt8.toInt32 :: rest)))) : Goes p e below s R n0 Q (T.setTop (mkF m pc Ls (.int x :: rest))) := by
  obtain ⟨locs, X, N, eh, hn, hx, hZ, hby, hml, hown, hnm, hret, hlk⟩ := X
  subst hby hq
  exact g_of (fun t r => XS.i2b X.here hx rfl hd rfl r) k
theorem g_i2s (X : Wk Z own nm bytes ml ret R n0 p l e s m args below meth c T cells slots h) {pc q : Nat} {Ls : Array Slot} {rest : List Value} {x : Int32} (hd : decode bytes pc = .ok (.i2s, 1)) (hq : pc + 1 = q) (k : Goes p e below s R n0 Q (T.setTop (mkF m q Ls (.int x.toInt16.toInt32 :: rest)))) : Goes p e below s R n0 Q (T.setTop (mkF m pc Ls (.int x :: rest))) := by
  obtain ⟨locs, X, N, eh, hn, hx, hZ, hby, hml, hown, hnm, hret, hlk⟩ := X
  subst hby hq
  exact g_of (fun t r => XS.i2s X.here hx rfl hd rfl r) k
theorem g_ishl (X : Wk Z own nm bytes ml ret R n0 p l e s m args below meth c T cells slots h) {pc q : Nat} {Ls : Array Slot} {rest : List Value} {x y : Int32} (hd : decode bytes pc = .ok (.ishl, 1)) (hq : pc + 1 = q) (k : Goes p e below s R n0 Q (T.setTop (mkF m q Ls (.int (x <<< (y &&& 31)) :: rest)))) : Goes p e below s R n0 Q (T.setTop (mkF m pc Ls (.int y :: .int x :: rest))) := by
  obtain ⟨locs, X, N, eh, hn, hx, hZ, hby, hml, hown, hnm, hret, hlk⟩ := X
  subst hby hq
  exact g_of (fun t r => XS.ishl X.here hx rfl hd rfl r) k
theorem g_ishr (X : Wk Z own nm bytes ml ret R n0 p l e s m args below meth c T cells slots h) {pc q : Nat} {Ls : Array Slot} {rest : List Value} {x y : Int32} (hd : decode bytes pc = .ok (.ishr, 1)) (hq : pc + 1 = q) (k : Goes p e below s R n0 Q (T.setTop (mkF m q Ls (.int (x >>> (y &&& 31)) :: rest)))) : Goes p e below s R n0 Q (T.setTop (mkF m pc Ls (.int y :: .int x :: rest))) := by
  obtain ⟨locs, X, N, eh, hn, hx, hZ, hby, hml, hown, hnm, hret, hlk⟩ := X
  subst hby hq
  exact g_of (fun t r => XS.ishr X.here hx rfl hd rfl r) k
theorem g_iushr (X : Wk Z own nm bytes ml ret R n0 p l e s m args below meth c T cells slots h) {pc q : Nat} {Ls : Array Slot} {rest : List Value} {x y : Int32} (hd : decode bytes pc = .ok (.iushr, 1)) (hq : pc + 1 = q) (k : Goes p e below s R n0 Q (T.setTop (mkF m q Ls (.int ((x.toUInt32 >>> (y &&& 31).toUInt32).toInt32) :: rest)))) : Goes p e below s R n0 Q (T.setTop (mkF m pc Ls (.int y :: .int x :: rest))) := by
  obtain ⟨locs, X, N, eh, hn, hx, hZ, hby, hml, hown, hnm, hret, hlk⟩ := X
  subst hby hq
  exact g_of (fun t r => XS.iushr X.here hx rfl hd rfl r) k
theorem g_lshl (X : Wk Z own nm bytes ml ret R n0 p l e s m args below meth c T cells slots h) {pc q : Nat} {Ls : Array Slot} {rest : List Value} {x : Int64} {y : Int32} (hd : decode bytes pc = .ok (.lshl, 1)) (hq : pc + 1 = q) (k : Goes p e below s R n0 Q (T.setTop (mkF m q Ls (.long (x <<< (y &&& 0x3f).toInt64) :: rest)))) : Goes p e below s R n0 Q (T.setTop (mkF m pc Ls (.int y :: .long x :: rest))) := by
  obtain ⟨locs, X, N, eh, hn, hx, hZ, hby, hml, hown, hnm, hret, hlk⟩ := X
  subst hby hq
  exact g_of (fun t r => XS.lshl X.here hx rfl hd rfl r) k
theorem g_lshr (X : Wk Z own nm bytes ml ret R n0 p l e s m args below meth c T cells slots h) {pc q : Nat} {Ls : Array Slot} {rest : List Value} {x : Int64} {y : Int32} (hd : decode bytes pc = .ok (.lshr, 1)) (hq : pc + 1 = q) (k : Goes p e below s R n0 Q (T.setTop (mkF m q Ls (.long (x >>> (y &&& 0x3f).toInt64) :: rest)))) : Goes p e below s R n0 Q (T.setTop (mkF m pc Ls (.int y :: .long x :: rest))) := by
  obtain ⟨locs, X, N, eh, hn, hx, hZ, hby, hml, hown, hnm, hret, hlk⟩ := X
  subst hby hq
  exact g_of (fun t r => XS.lshr X.here hx rfl hd rfl r) k
theorem g_lushr (X : Wk Z own nm bytes ml ret R n0 p l e s m args below meth c T cells slots h) {pc q : Nat} {Ls : Array Slot} {rest : List Value} {x : Int64} {y : Int32} (hd : decode bytes pc = .ok (.lushr, 1)) (hq : pc + 1 = q) (k : Goes p e below s R n0 Q (T.setTop (mkF m q Ls (.long ((x.toUInt64 >>> (y &&& 0x3f).toInt64.toUInt64).toInt64) :: rest)))) : Goes p e below s R n0 Q (T.setTop (mkF m pc Ls (.int y :: .long x :: rest))) := by
  obtain ⟨locs, X, N, eh, hn, hx, hZ, hby, hml, hown, hnm, hret, hlk⟩ := X
  subst hby hq
  exact g_of (fun t r => XS.lushr X.here hx rfl hd rfl r) k
theorem g_iload (X : Wk Z own nm bytes ml ret R n0 p l e s m args below meth c T cells slots h) {pc q : Nat} {Ls : Array Slot} {st : List Value} {i : Nat} {v : Int32} (hd : decode bytes pc = .ok (.iload i, 2)) (hq : pc + 2 = q) (hl : Ls[i]? = some (.val (.int v))) (k : Goes p e below s R n0 Q (T.setTop (mkF m q Ls (.int v :: st)))) : Goes p e below s R n0 Q (T.setTop (mkF m pc Ls st)) := by
  obtain ⟨locs, X, N, eh, hn, hx, hZ, hby, hml, hown, hnm, hret, hlk⟩ := X
  subst hby hq
  exact g_of (fun t r => XS.iload X.here hx rfl hd hl r) k
theorem g_iloadN (X : Wk Z own nm bytes ml ret R n0 p l e s m args below meth c T cells slots h) {pc q : Nat} {Ls : Array Slot} {st : List Value} {i : Fin 4} {v : Int32} (hd : decode bytes pc = .ok (.iload_n i, 1)) (hq : pc + 1 = q) (hl : Ls[i.val]? = some (.val (.int v))) (k : Goes p e below s R n0 Q (T.setTop (mkF m q Ls (.int v :: st)))) : Goes p e below s R n0 Q (T.setTop (mkF m pc Ls st)) := by
  obtain ⟨locs, X, N, eh, hn, hx, hZ, hby, hml, hown, hnm, hret, hlk⟩ := X
  subst hby hq
  exact g_of (fun t r => XS.iloadN X.here hx rfl hd hl r) k
theorem g_lload (X : Wk Z own nm bytes ml ret R n0 p l e s m args below meth c T cells slots h) {pc q : Nat} {Ls : Array Slot} {st : List Value} {i : Nat} {v : Int64} (hd : decode bytes pc = .ok (.lload i, 2)) (hq : pc + 2 = q) (hl : Ls[i]? = some (.val (.long v))) (k : Goes p e below s R n0 Q (T.setTop (mkF m q Ls (.long v :: st)))) : Goes p e below s R n0 Q (T.setTop (mkF m pc Ls st)) := by
  obtain ⟨locs, X, N, eh, hn, hx, hZ, hby, hml, hown, hnm, hret, hlk⟩ := X
  subst hby hq
  exact g_of (fun t r => XS.lload X.here hx rfl hd hl r) k
theorem g_lloadN (X : Wk Z own nm bytes ml ret R n0 p l e s m args below meth c T cells slots h) {pc q : Nat} {Ls : Array Slot} {st : List Value} {i : Fin 4} {v : Int64} (hd : decode bytes pc = .ok (.lload_n i, 1)) (hq : pc + 1 = q) (hl : Ls[i.val]? = some (.val (.long v))) (k : Goes p e below s R n0 Q (T.setTop (mkF m q Ls (.long v :: st)))) : Goes p e below s R n0 Q (T.setTop (mkF m pc Ls st)) := by
  obtain ⟨locs, X, N, eh, hn, hx, hZ, hby, hml, hown, hnm, hret, hlk⟩ := X
  subst hby hq
  exact g_of (fun t r => XS.lloadN X.here hx rfl hd hl r) k
theorem g_aload (X : Wk Z own nm bytes ml ret R n0 p l e s m args below meth c T cells slots h) {pc q : Nat} {Ls : Array Slot} {st : List Value} {i : Nat} {v : Value} (hd : decode bytes pc = .ok (.aload i, 2)) (hq : pc + 2 = q) (hl : Ls[i]? = some (.val v)) (hv : v.isRef = true) (k : Goes p e below s R n0 Q (T.setTop (mkF m q Ls (v :: st)))) : Goes p e below s R n0 Q (T.setTop (mkF m pc Ls st)) := by
  obtain ⟨locs, X, N, eh, hn, hx, hZ, hby, hml, hown, hnm, hret, hlk⟩ := X
  subst hby hq
  exact g_of (fun t r => XS.aload X.here hx rfl hd hl hv r) k
theorem g_aloadN (X : Wk Z own nm bytes ml ret R n0 p l e s m args below meth c T cells slots h) {pc q : Nat} {Ls : Array Slot} {st : List Value} {i : Fin 4} {v : Value} (hd : decode bytes pc = .ok (.aload_n i, 1)) (hq : pc + 1 = q) (hl : Ls[i.val]? = some (.val v)) (hv : v.isRef = true) (k : Goes p e below s R n0 Q (T.setTop (mkF m q Ls (v :: st)))) : Goes p e below s R n0 Q (T.setTop (mkF m pc Ls st)) := by
  obtain ⟨locs, X, N, eh, hn, hx, hZ, hby, hml, hown, hnm, hret, hlk⟩ := X
  subst hby hq
  exact g_of (fun t r => XS.aloadN X.here hx rfl hd hl hv r) k
theorem g_istore (X : Wk Z own nm bytes ml ret R n0 p l e s m args below meth c T cells slots h) {pc q : Nat} {Ls : Array Slot} {rest : List Value} {i : Nat} {v : Int32} {L' : Array Slot} (hd : decode bytes pc = .ok (.istore i, 2)) (hq : pc + 2 = q) (hl : storeLocals Ls i (.int v) = some L') (k : Goes p e below s R n0 Q (T.setTop (mkF m q L' rest))) : Goes p e below s R n0 Q (T.setTop (mkF m pc Ls (.int v :: rest))) := by
  obtain ⟨locs, X, N, eh, hn, hx, hZ, hby, hml, hown, hnm, hret, hlk⟩ := X
  subst hby hq
  exact g_of (fun t r => XS.istore X.here hx rfl hd rfl hl r) k
theorem g_istoreN (X : Wk Z own nm bytes ml ret R n0 p l e s m args below meth c T cells slots h) {pc q : Nat} {Ls : Array Slot} {rest : List Value} {i : Fin 4} {v : Int32} {L' : Array Slot} (hd : decode bytes pc = .ok (.istore_n i, 1)) (hq : pc + 1 = q) (hl : storeLocals Ls i.val (.int v) = some L') (k : Goes p e below s R n0 Q (T.setTop (mkF m q L' rest))) : Goes p e below s R n0 Q (T.setTop (mkF m pc Ls (.int v :: rest))) := by
  obtain ⟨locs, X, N, eh, hn, hx, hZ, hby, hml, hown, hnm, hret, hlk⟩ := X
  subst hby hq
  exact g_of (fun t r => XS.istoreN X.here hx rfl hd rfl hl r) k
theorem g_lstore (X : Wk Z own nm bytes ml ret R n0 p l e s m args below meth c T cells slots h) {pc q : Nat} {Ls : Array Slot} {rest : List Value} {i : Nat} {v : Int64} {L' : Array Slot} (hd : decode bytes pc = .ok (.lstore i, 2)) (hq : pc + 2 = q) (hl : storeLocals Ls i (.long v) = some L') (k : Goes p e below s R n0 Q (T.setTop (mkF m q L' rest))) : Goes p e below s R n0 Q (T.setTop (mkF m pc Ls (.long v :: rest))) := by
  obtain ⟨locs, X, N, eh, hn, hx, hZ, hby, hml, hown, hnm, hret, hlk⟩ := X
  subst hby hq
  exact g_of (fun t r => XS.lstore X.here hx rfl hd rfl hl r) k
theorem g_lstoreN (X : Wk Z own nm bytes ml ret R n0 p l e s m args below meth c T cells slots h) {pc q : Nat} {Ls : Array Slot} {rest : List Value} {i : Fin 4} {v : Int64} {L' : Array Slot} (hd : decode bytes pc = .ok (.lstore_n i, 1)) (hq : pc + 1 = q) (hl : storeLocals Ls i.val (.long v) = some L') (k : Goes p e below s R n0 Q (T.setTop (mkF m q L' rest))) : Goes p e below s R n0 Q (T.setTop (mkF m pc Ls (.long v :: rest))) := by
  obtain ⟨locs, X, N, eh, hn, hx, hZ, hby, hml, hown, hnm, hret, hlk⟩ := X
  subst hby hq
  exact g_of (fun t r => XS.lstoreN X.here hx rfl hd rfl hl r) k
theorem g_astore (X : Wk Z own nm bytes ml ret R n0 p l e s m args below meth c T cells slots h) {pc q : Nat} {Ls : Array Slot} {rest : List Value} {i : Nat} {v : Value} {L' : Array Slot} (hd : decode bytes pc = .ok (.astore i, 2)) (hq : pc + 2 = q) (hv : v.isRef = true) (hl : storeLocals Ls i v = some L') (k : Goes p e below s R n0 Q (T.setTop (mkF m q L' rest))) : Goes p e below s R n0 Q (T.setTop (mkF m pc Ls (v :: rest))) := by
  obtain ⟨locs, X, N, eh, hn, hx, hZ, hby, hml, hown, hnm, hret, hlk⟩ := X
  subst hby hq
  exact g_of (fun t r => XS.astore X.here hx rfl hd rfl hv hl r) k
theorem g_astoreN (X : Wk Z own nm bytes ml ret R n0 p l e s m args below meth c T cells slots h) {pc q : Nat} {Ls : Array Slot} {rest : List Value} {i : Fin 4} {v : Value} {L' : Array Slot} (hd : decode bytes pc = .ok (.astore_n i, 1)) (hq : pc + 1 = q) (hv : v.isRef = true) (hl : storeLocals Ls i.val v = some L') (k : Goes p e below s R n0 Q (T.setTop (mkF m q L' rest))) : Goes p e below s R n0 Q (T.setTop (mkF m pc Ls (v :: rest))) := by
  obtain ⟨locs, X, N, eh, hn, hx, hZ, hby, hml, hown, hnm, hret, hlk⟩ := X
  subst hby hq
  exact g_of (fun t r => XS.astoreN X.here hx rfl hd rfl hv hl r) k
theorem g_iconst (X : Wk Z own nm bytes ml ret R n0 p l e s m args below meth c T cells slots h) {pc q : Nat} {Ls : Array Slot} {st : List Value} {i : Int} {v : Int32} (hd : decode bytes pc = .ok (.iconst i, 1)) (hq : pc + 1 = q) (hv : Int32.ofInt i = v) (k : Goes p e below s R n0 Q (T.setTop (mkF m q Ls (.int v :: st)))) : Goes p e below s R n0 Q (T.setTop (mkF m pc Ls st)) := by
  obtain ⟨locs, X, N, eh, hn, hx, hZ, hby, hml, hown, hnm, hret, hlk⟩ := X
  subst hby hq
  exact g_of (fun t r => XS.iconst X.here hx rfl hd (by rw [hv]; exact r)) k
theorem g_bipush (X : Wk Z own nm bytes ml ret R n0 p l e s m args below meth c T cells slots h) {pc q : Nat} {Ls : Array Slot} {st : List Value} {i : Int} {v : Int32} (hd : decode bytes pc = .ok (.bipush i, 2)) (hq : pc + 2 = q) (hv : (Int8.ofInt i).toInt32 = v) (k : Goes p e below s R n0 Q (T.setTop (mkF m q Ls (.int v :: st)))) : Goes p e below s R n0 Q (T.setTop (mkF m pc Ls st)) := by
  obtain ⟨locs, X, N, eh, hn, hx, hZ, hby, hml, hown, hnm, hret, hlk⟩ := X
  subst hby hq
  exact g_of (fun t r => XS.bipush X.here hx rfl hd (by rw [hv]; exact r)) k
theorem g_sipush (X : Wk Z own nm bytes ml ret R n0 p l e s m args below meth c T cells slots h) {pc q : Nat} {Ls : Array Slot} {st : List Value} {i : Int} {v : Int32} (hd : decode bytes pc = .ok (.sipush i, 3)) (hq : pc + 3 = q) (hv : (Int16.ofInt i).toInt32 = v) (k : Goes p e below s R n0 Q (T.setTop (mkF m q Ls (.int v :: st)))) : Goes p e below s R n0 Q (T.setTop (mkF m pc Ls st)) := by
  obtain ⟨locs, X, N, eh, hn, hx, hZ, hby, hml, hown, hnm, hret, hlk⟩ := X
  subst hby hq
  exact g_of (fun t r => XS.sipush X.here hx rfl hd (by rw [hv]; exact r)) k
theorem g_lconst (X : Wk Z own nm bytes ml ret R n0 p l e s m args below meth c T cells slots h) {pc q : Nat} {Ls : Array Slot} {st : List Value} {i : Fin 2} {v : Int64} (hd : decode bytes pc = .ok (.lconst i, 1)) (hq : pc + 1 = q) (hv : Int64.ofNat i = v) (k : Goes p e below s R n0 Q (T.setTop (mkF m q Ls (.long v :: st)))) : Goes p e below s R n0 Q (T.setTop (mkF m pc Ls st)) := by
  obtain ⟨locs, X, N, eh, hn, hx, hZ, hby, hml, hown, hnm, hret, hlk⟩ := X
  subst hby hq
  exact g_of (fun t r => XS.lconst X.here hx rfl hd (by rw [hv]; exact r)) k
theorem g_aconst_null (X : Wk Z own nm bytes ml ret R n0 p l e s m args below meth c T cells slots h) {pc q : Nat} {Ls : Array Slot} {st : List Value} (hd : decode bytes pc = .ok (.aconst_null, 1)) (hq : pc + 1 = q) (k : Goes p e below s R n0 Q (T.setTop (mkF m q Ls (.null :: st)))) : Goes p e below s R n0 Q (T.setTop (mkF m pc Ls st)) := by
  obtain ⟨locs, X, N, eh, hn, hx, hZ, hby, hml, hown, hnm, hret, hlk⟩ := X
  subst hby hq
  exact g_of (fun t r => XS.aconstNull X.here hx rfl hd r) k
theorem g_dup (X : Wk Z own nm bytes ml ret R n0 p l e s m args below meth c T cells slots h) {pc q : Nat} {Ls : Array Slot} {rest : List Value} {v : Value} (hd : decode bytes pc = .ok (.dup, 1)) (hq : pc + 1 = q) (hv : v.category = 1) (k : Goes p e below s R n0 Q (T.setTop (mkF m q Ls (v :: v :: rest)))) : Goes p e below s R n0 Q (T.setTop (mkF m pc Ls (v :: rest))) := by
  obtain ⟨locs, X, N, eh, hn, hx, hZ, hby, hml, hown, hnm, hret, hlk⟩ := X
  subst hby hq
  exact g_of (fun t r => XS.dup X.here hx rfl hd rfl hv r) k
theorem g_dup_x1 (X : Wk Z own nm bytes ml ret R n0 p l e s m args below meth c T cells slots h) {pc q : Nat} {Ls : Array Slot} {rest : List Value} {v w : Value} (hd : decode bytes pc = .ok (.dup_x1, 1)) (hq : pc + 1 = q) (hv : v.category = 1) (hw : w.category = 1) (k : Goes p e below s R n0 Q (T.setTop (mkF m q Ls (v :: w :: v :: rest)))) : Goes p e below s R n0 Q (T.setTop (mkF m pc Ls (v :: w :: rest))) := by
  obtain ⟨locs, X, N, eh, hn, hx, hZ, hby, hml, hown, hnm, hret, hlk⟩ := X
  subst hby hq
  exact g_of (fun t r => XS.dupX1 X.here hx rfl hd rfl hv hw r) k
theorem g_dup2 (X : Wk Z own nm bytes ml ret R n0 p l e s m args below meth c T cells slots h) {pc q : Nat} {Ls : Array Slot} {rest : List Value} {v w : Value} (hd : decode bytes pc = .ok (.dup2, 1)) (hq : pc + 1 = q) (hv : v.category = 1) (hw : w.category = 1) (k : Goes p e below s R n0 Q (T.setTop (mkF m q Ls (v :: w :: v :: w :: rest)))) : Goes p e below s R n0 Q (T.setTop (mkF m pc Ls (v :: w :: rest))) := by
  obtain ⟨locs, X, N, eh, hn, hx, hZ, hby, hml, hown, hnm, hret, hlk⟩ := X
  subst hby hq
  exact g_of (fun t r => Jvm.Free.XT.dup2 X.here hx rfl hd rfl hv hw r) k
theorem g_dup2L (X : Wk Z own nm bytes ml ret R n0 p l e s m args below meth c T cells slots h) {pc q : Nat} {Ls : Array Slot} {rest : List Value} {x : Int64} (hd : decode bytes pc = .ok (.dup2, 1)) (hq : pc + 1 = q) (k : Goes p e below s R n0 Q (T.setTop (mkF m q Ls (.long x :: .long x :: rest)))) : Goes p e below s R n0 Q (T.setTop (mkF m pc Ls (.long x :: rest))) := by
  obtain ⟨locs, X, N, eh, hn, hx, hZ, hby, hml, hown, hnm, hret, hlk⟩ := X
  subst hby hq
  exact g_of (fun t r => Jvm.Free.XT.dup2L X.here hx rfl hd rfl r) k
theorem g_pop (X : Wk Z own nm bytes ml ret R n0 p l e s m args below meth c T cells slots h) {pc q : Nat} {Ls : Array Slot} {rest : List Value} {v : Value} (hd : decode bytes pc = .ok (.pop, 1)) (hq : pc + 1 = q) (hv : v.category = 1) (k : Goes p e below s R n0 Q (T.setTop (mkF m q Ls rest))) : Goes p e below s R n0 Q (T.setTop (mkF m pc Ls (v :: rest))) := by
  obtain ⟨locs, X, N, eh, hn, hx, hZ, hby, hml, hown, hnm, hret, hlk⟩ := X
  subst hby hq
  exact g_of (fun t r => XS.pop X.here hx rfl hd rfl hv r) k
theorem g_iinc (X : Wk Z own nm bytes ml ret R n0 p l e s m args below meth c T cells slots h) {pc q : Nat} {Ls L' : Array Slot} {st : List Value} {i : Nat} {cst : Int} {x d : Int32} (hd : decode bytes pc = .ok (.iinc i cst, 3)) (hq : pc + 3 = q) (hl : Ls[i]? = some (.val (.int x))) (hc : Int32.ofInt cst = d) (hl' : storeLocals Ls i (.int (x + d)) = some L') (k : Goes p e below s R n0 Q (T.setTop (mkF m q L' st))) : Goes p e below s R n0 Q (T.setTop (mkF m pc Ls st)) := by
  obtain ⟨locs, X, N, eh, hn, hx, hZ, hby, hml, hown, hnm, hret, hlk⟩ := X
  subst hby hq hc
  exact g_of (fun t r => XS.iinc X.here hx rfl hd hl hl' r) k
theorem g_goto (X : Wk Z own nm bytes ml ret R n0 p l e s m args below meth c T cells slots h) {pc q : Nat} {Ls : Array Slot} {st : List Value} {o : Int} (hd : decode bytes pc = .ok (.goto o, 3)) (ho : 0 ≤ (pc : Int) + o) (hq : ((pc : Int) + o).toNat = q) (k : Goes p e below s R n0 Q (T.setTop (mkF m q Ls st))) : Goes p e below s R n0 Q (T.setTop (mkF m pc Ls st)) := by
  obtain ⟨locs, X, N, eh, hn, hx, hZ, hby, hml, hown, hnm, hret, hlk⟩ := X
  subst hby
  exact g_of (fun t r => XS.goto X.here hx rfl (pc0 := pc) rfl hd ho hq r) k
theorem g_bor (X : Wk Z own nm bytes ml ret R n0 p l e s m args below meth c T cells slots h) {pc q : Nat} {Ls : Array Slot} {rest : List Value} {A B : Prop} [Decidable A] [Decidable B] (hd : decode bytes pc = .ok (.ior, 1)) (hq : pc + 1 = q) (k : Goes p e below s R n0 Q (T.setTop (mkF m q Ls (.int (bI (A ∨ B)) :: rest)))) : Goes p e below s R n0 Q (T.setTop (mkF m pc Ls (.int (bI B) :: .int (bI A) :: rest))) :=
  g_ior X hd hq (by rw [show bI A ||| bI B = bI (A ∨ B) from own_bor A B]; exact k)
theorem g_band (X : Wk Z own nm bytes ml ret R n0 p l e s m args below meth c T cells slots h) {pc q : Nat} {Ls : Array Slot} {rest : List Value} {A B : Prop} [Decidable A] [Decidable B] (hd : decode bytes pc = .ok (.iand, 1)) (hq : pc + 1 = q) (k : Goes p e below s R n0 Q (T.setTop (mkF m q Ls (.int (bI (A ∧ B)) :: rest)))) : Goes p e below s R n0 Q (T.setTop (mkF m pc Ls (.int (bI B) :: .int (bI A) :: rest))) :=
  g_iand X hd hq (by rw [show bI A &&& bI B = bI (A ∧ B) from own_band A B]; exact k)
theorem hI {cd : ClassFile.Cond} {x y : Int32} (hcd : cd = .lt ∨ cd = .gt ∨ cd = .eq) : (pcI cd x y → if_icmp.holds cd x y = true) ∧ (¬ pcI cd x y → if_icmp.holds cd x y = false) := by
  rcases hcd with rfl | rfl | rfl
  · exact ⟨fun q => (tlt q).1, fun q => (flt q).1⟩
  · exact ⟨fun q => (tlt q).2.2.1, fun q => (flt q).2.2.1⟩
  · exact ⟨fun q => (teq q).1, fun q => (feq q).1⟩
theorem hN {cd : ClassFile.Cond} {x y : Int32} (hcd : cd = .ge ∨ cd = .le ∨ cd = .ne) : (pcI cd x y → if_icmp.holds cd x y = false) ∧ (¬ pcI cd x y → if_icmp.holds cd x y = true) := by
  rcases hcd with rfl | rfl | rfl
  · exact ⟨fun q => (tlt q).2.1, fun q => (flt q).2.1⟩
  · exact ⟨fun q => (tlt q).2.2.2, fun q => (flt q).2.2.2⟩
  · exact ⟨fun q => (teq q).2, fun q => (feq q).2⟩
theorem pcL {cd : ClassFile.Cond} {x y : Int64} : pcI cd (lcmpW x y) 0 ↔ pcJ cd x y := by
  cases cd
  · exact lw_eq x y
  · exact lw_eq x y
  · exact lw_lt x y
  · exact lw_lt x y
  · exact lw_gt x y
  · exact lw_gt x y
instance pcI_dec (cd : ClassFile.Cond) (x y : Int32) : Decidable (pcI cd x y) := by cases cd <;> (unfold pcI; infer_instance)
theorem g_icmpA (X : Wk Z own nm bytes ml ret R n0 p l e s m args below meth c T cells slots h) {pc q t : Nat} {Ls : Array Slot} {rest : List Value} {o : Int} {cd : ClassFile.Cond} {x y : Int32} (hd : decode bytes pc = .ok (.if_icmp cd o, 3)) (hcd : cd = .lt ∨ cd = .gt ∨ cd = .eq) (hq : pc + 3 = q) (ho : 0 ≤ (pc : Int) + o) (ht : ((pc : Int) + o).toNat = t) (kP : pcI cd x y → Goes p e below s R n0 Q (T.setTop (mkF m t Ls rest))) (kN : ¬ pcI cd x y → Goes p e below s R n0 Q (T.setTop (mkF m q Ls rest))) : Goes p e below s R n0 Q (T.setTop (mkF m pc Ls (.int y :: .int x :: rest))) := by
  obtain ⟨locs, X, N, eh, hn, hx, hZ, hby, hml, hown, hnm, hret, hlk⟩ := X
  subst hby hq
  by_cases hP : pcI cd x y
  · exact g_of (fun _ r => XS.icmpYes X.here hx rfl (pc0 := pc) rfl hd rfl ((hI hcd).1 hP) ho ht r) (kP hP)
  · exact g_of (fun _ r => XS.icmpNo X.here hx rfl hd rfl ((hI hcd).2 hP) r) (kN hP)
theorem g_ifA (X : Wk Z own nm bytes ml ret R n0 p l e s m args below meth c T cells slots h) {pc q t : Nat} {Ls : Array Slot} {rest : List Value} {o : Int} {cd : ClassFile.Cond} {x : Int32} (hd : decode bytes pc = .ok (.ifCond cd o, 3)) (hcd : cd = .lt ∨ cd = .gt ∨ cd = .eq) (hq : pc + 3 = q) (ho : 0 ≤ (pc : Int) + o) (ht : ((pc : Int) + o).toNat = t) (kP : pcI cd x 0 → Goes p e below s R n0 Q (T.setTop (mkF m t Ls rest))) (kN : ¬ pcI cd x 0 → Goes p e below s R n0 Q (T.setTop (mkF m q Ls rest))) : Goes p e below s R n0 Q (T.setTop (mkF m pc Ls (.int x :: rest))) := by
  obtain ⟨locs, X, N, eh, hn, hx, hZ, hby, hml, hown, hnm, hret, hlk⟩ := X
  subst hby hq
  by_cases hP : pcI cd x 0
  · exact g_of (fun _ r => XS.ifYes X.here hx rfl (pc0 := pc) rfl hd rfl ((if0 _ _).trans ((hI hcd).1 hP)) ho ht r) (kP hP)
  · exact g_of (fun _ r => XS.ifNo X.here hx rfl hd rfl ((if0 _ _).trans ((hI hcd).2 hP)) r) (kN hP)
theorem g_lcmpA (X : Wk Z own nm bytes ml ret R n0 p l e s m args below meth c T cells slots h) {pc q t : Nat} {Ls : Array Slot} {rest : List Value} {o : Int} {cd : ClassFile.Cond} {x y : Int64} {q1 : Nat} (hd0 : decode bytes pc = .ok (.lcmp, 1)) (hq1 : pc + 1 = q1) (hd : decode bytes q1 = .ok (.ifCond cd o, 3)) (hcd : cd = .lt ∨ cd = .gt ∨ cd = .eq) (hq : q1 + 3 = q) (ho : 0 ≤ (q1 : Int) + o) (ht : ((q1 : Int) + o).toNat = t) (kP : pcJ cd x y → Goes p e below s R n0 Q (T.setTop (mkF m t Ls rest))) (kN : ¬ pcJ cd x y → Goes p e below s R n0 Q (T.setTop (mkF m q Ls rest))) : Goes p e below s R n0 Q (T.setTop (mkF m pc Ls (.long y :: .long x :: rest))) := by
  refine g_lcmp X hd0 hq1 (g_ifA X hd hcd hq ho ht (fun z => kP (pcL.mp z)) (fun z => kN (fun w => z (pcL.mpr w))))
theorem g_icmpB (X : Wk Z own nm bytes ml ret R n0 p l e s m args below meth c T cells slots h) {pc q t : Nat} {Ls : Array Slot} {rest : List Value} {o : Int} {cd : ClassFile.Cond} {x y : Int32} (hd : decode bytes pc = .ok (.if_icmp cd o, 3)) (hcd : cd = .ge ∨ cd = .le ∨ cd = .ne) (hq : pc + 3 = q) (ho : 0 ≤ (pc : Int) + o) (ht : ((pc : Int) + o).toNat = t) (kP : pcI cd x y → Goes p e below s R n0 Q (T.setTop (mkF m q Ls rest))) (kN : ¬ pcI cd x y → Goes p e below s R n0 Q (T.setTop (mkF m t Ls rest))) : Goes p e below s R n0 Q (T.setTop (mkF m pc Ls (.int y :: .int x :: rest))) := by
  obtain ⟨locs, X, N, eh, hn, hx, hZ, hby, hml, hown, hnm, hret, hlk⟩ := X
  subst hby hq
  by_cases hP : pcI cd x y
  · exact g_of (fun _ r => XS.icmpNo X.here hx rfl hd rfl ((hN hcd).1 hP) r) (kP hP)
  · exact g_of (fun _ r => XS.icmpYes X.here hx rfl (pc0 := pc) rfl hd rfl ((hN hcd).2 hP) ho ht r) (kN hP)
theorem g_ifB (X : Wk Z own nm bytes ml ret R n0 p l e s m args below meth c T cells slots h) {pc q t : Nat} {Ls : Array Slot} {rest : List Value} {o : Int} {cd : ClassFile.Cond} {x : Int32} (hd : decode bytes pc = .ok (.ifCond cd o, 3)) (hcd : cd = .ge ∨ cd = .le ∨ cd = .ne) (hq : pc + 3 = q) (ho : 0 ≤ (pc : Int) + o) (ht : ((pc : Int) + o).toNat = t) (kP : pcI cd x 0 → Goes p e below s R n0 Q (T.setTop (mkF m q Ls rest))) (kN : ¬ pcI cd x 0 → Goes p e below s R n0 Q (T.setTop (mkF m t Ls rest))) : Goes p e below s R n0 Q (T.setTop (mkF m pc Ls (.int x :: rest))) := by
  obtain ⟨locs, X, N, eh, hn, hx, hZ, hby, hml, hown, hnm, hret, hlk⟩ := X
  subst hby hq
  by_cases hP : pcI cd x 0
  · exact g_of (fun _ r => XS.ifNo X.here hx rfl hd rfl ((if0 _ _).trans ((hN hcd).1 hP)) r) (kP hP)
  · exact g_of (fun _ r => XS.ifYes X.here hx rfl (pc0 := pc) rfl hd rfl ((if0 _ _).trans ((hN hcd).2 hP)) ho ht r) (kN hP)
theorem g_lcmpB (X : Wk Z own nm bytes ml ret R n0 p l e s m args below meth c T cells slots h) {pc q t : Nat} {Ls : Array Slot} {rest : List Value} {o : Int} {cd : ClassFile.Cond} {x y : Int64} {q1 : Nat} (hd0 : decode bytes pc = .ok (.lcmp, 1)) (hq1 : pc + 1 = q1) (hd : decode bytes q1 = .ok (.ifCond cd o, 3)) (hcd : cd = .ge ∨ cd = .le ∨ cd = .ne) (hq : q1 + 3 = q) (ho : 0 ≤ (q1 : Int) + o) (ht : ((q1 : Int) + o).toNat = t) (kP : pcJ cd x y → Goes p e below s R n0 Q (T.setTop (mkF m q Ls rest))) (kN : ¬ pcJ cd x y → Goes p e below s R n0 Q (T.setTop (mkF m t Ls rest))) : Goes p e below s R n0 Q (T.setTop (mkF m pc Ls (.long y :: .long x :: rest))) := by
  refine g_lcmp X hd0 hq1 (g_ifB X hd hcd hq ho ht (fun z => kP (pcL.mp z)) (fun z => kN (fun w => z (pcL.mpr w))))
theorem g_bne (X : Wk Z own nm bytes ml ret R n0 p l e s m args below meth c T cells slots h) {pc q t : Nat} {Ls : Array Slot} {rest : List Value} {o : Int} {c' : Prop} [Decidable c'] (hd : decode bytes pc = .ok (.ifCond .ne o, 3)) (hq : pc + 3 = q) (ho : 0 ≤ (pc : Int) + o) (ht : ((pc : Int) + o).toNat = t) (kP : c' → Goes p e below s R n0 Q (T.setTop (mkF m t Ls rest))) (kN : ¬ c' → Goes p e below s R n0 Q (T.setTop (mkF m q Ls rest))) : Goes p e below s R n0 Q (T.setTop (mkF m pc Ls (.int (bI c') :: rest))) :=
  g_ifB X hd (Or.inr (Or.inr rfl)) hq ho ht (fun z => kN ((bI_eq0 c').mp z)) (fun z => kP (Decidable.of_not_not fun w => z ((bI_eq0 c').mpr w)))
theorem g_beq (X : Wk Z own nm bytes ml ret R n0 p l e s m args below meth c T cells slots h) {pc q t : Nat} {Ls : Array Slot} {rest : List Value} {o : Int} {c' : Prop} [Decidable c'] (hd : decode bytes pc = .ok (.ifCond .eq o, 3)) (hq : pc + 3 = q) (ho : 0 ≤ (pc : Int) + o) (ht : ((pc : Int) + o).toNat = t) (kP : c' → Goes p e below s R n0 Q (T.setTop (mkF m q Ls rest))) (kN : ¬ c' → Goes p e below s R n0 Q (T.setTop (mkF m t Ls rest))) : Goes p e below s R n0 Q (T.setTop (mkF m pc Ls (.int (bI c') :: rest))) :=
  g_ifA X hd (Or.inr (Or.inr rfl)) hq ho ht (fun z => kN ((bI_eq0 c').mp z)) (fun z => kP (Decidable.of_not_not fun w => z ((bI_eq0 c').mpr w)))
theorem g_ifnullY (X : Wk Z own nm bytes ml ret R n0 p l e s m args below meth c T cells slots h) {pc q : Nat} {Ls : Array Slot} {rest : List Value} {o : Int} (hd : decode bytes pc = .ok (.ifnull o, 3)) (ho : 0 ≤ (pc : Int) + o) (hq : ((pc : Int) + o).toNat = q) (k : Goes p e below s R n0 Q (T.setTop (mkF m q Ls rest))) : Goes p e below s R n0 Q (T.setTop (mkF m pc Ls (.null :: rest))) := by
  obtain ⟨locs, X, N, eh, hn, hx, hZ, hby, hml, hown, hnm, hret, hlk⟩ := X
  subst hby
  exact g_of (fun t r => XS.ifnullYes X.here hx rfl (pc0 := pc) rfl hd rfl ho hq r) k
theorem g_ifnullN (X : Wk Z own nm bytes ml ret R n0 p l e s m args below meth c T cells slots h) {pc q : Nat} {Ls : Array Slot} {rest : List Value} {o : Int} {b : Addr} (hd : decode bytes pc = .ok (.ifnull o, 3)) (hq : pc + 3 = q) (k : Goes p e below s R n0 Q (T.setTop (mkF m q Ls rest))) : Goes p e below s R n0 Q (T.setTop (mkF m pc Ls (.ref b :: rest))) := by
  obtain ⟨locs, X, N, eh, hn, hx, hZ, hby, hml, hown, hnm, hret, hlk⟩ := X
  subst hby hq
  exact g_of (fun t r => XS.ifnullNo X.here hx rfl hd rfl r) k
theorem g_ifnonnullY (X : Wk Z own nm bytes ml ret R n0 p l e s m args below meth c T cells slots h) {pc q : Nat} {Ls : Array Slot} {rest : List Value} {o : Int} {b : Addr} (hd : decode bytes pc = .ok (.ifnonnull o, 3)) (ho : 0 ≤ (pc : Int) + o) (hq : ((pc : Int) + o).toNat = q) (k : Goes p e below s R n0 Q (T.setTop (mkF m q Ls rest))) : Goes p e below s R n0 Q (T.setTop (mkF m pc Ls (.ref b :: rest))) := by
  obtain ⟨locs, X, N, eh, hn, hx, hZ, hby, hml, hown, hnm, hret, hlk⟩ := X
  subst hby
  exact g_of (fun t r => XS.ifnonnullYes X.here hx rfl (pc0 := pc) rfl hd rfl ho hq r) k
theorem g_ifnonnullN (X : Wk Z own nm bytes ml ret R n0 p l e s m args below meth c T cells slots h) {pc q : Nat} {Ls : Array Slot} {rest : List Value} {o : Int} (hd : decode bytes pc = .ok (.ifnonnull o, 3)) (hq : pc + 3 = q) (k : Goes p e below s R n0 Q (T.setTop (mkF m q Ls rest))) : Goes p e below s R n0 Q (T.setTop (mkF m pc Ls (.null :: rest))) := by
  obtain ⟨locs, X, N, eh, hn, hx, hZ, hby, hml, hown, hnm, hret, hlk⟩ := X
  subst hby hq
  exact g_of (fun t r => XS.ifnonnullNo X.here hx rfl hd rfl r) k
theorem g_acmp (X : Wk Z own nm bytes ml ret R n0 p l e s m args below meth c T cells slots h) {pc q : Nat} {Ls : Array Slot} {rest : List Value} {o : Int} {cd : ACond} {x y : Value} {same : Bool} (hd : decode bytes pc = .ok (.if_acmp cd o, 3)) (h1 : x.isRef = true) (h2 : y.isRef = true) (hs : decide (x = y) = same) (ho : 0 ≤ (pc : Int) + o) (hq : q = if acV cd same = true then ((pc : Int) + o).toNat else pc + 3) (k : Goes p e below s R n0 Q (T.setTop (mkF m q Ls rest))) : Goes p e below s R n0 Q (T.setTop (mkF m pc Ls (y :: x :: rest))) := by
  obtain ⟨locs, X, N, eh, hn, hx, hZ, hby, hml, hown, hnm, hret, hlk⟩ := X
  subst hby
  exact g_of (fun t r => Jvm.RoadKit.acmp (g := mkF m pc Ls (y :: x :: rest)) X hx rfl h1 h2 (pc0 := pc) rfl hd rfl hs ho hq r) k

theorem g_ldc2 (X : Wk Z own nm bytes ml ret R n0 p l e s m args below meth c T cells slots h) {index : Nat} {v : Int64} (w : (Jvm.Cond.constantLong own index v).before a0 Z = true) {pc q : Nat} {Ls : Array Slot} {st : List Value} (hd : decode bytes pc = .ok (.ldc2_w index, 3)) (hq : pc + 3 = q) (k : Goes p e below s R n0 Q (T.setTop (mkF m q Ls (.long v :: st)))) : Goes p e below s R n0 Q (T.setTop (mkF m pc Ls st)) := by
  obtain ⟨locs, X, N, eh, hn, hx, hZ, hby, hml, hown, hnm, hret, hlk⟩ := X
  subst hby hq
  exact g_of (fun t r => X.ldc2Long hx hown (mvT hZ w) (g := mkF m pc Ls st) rfl hd t r) k
theorem g_ldc (X : Wk Z own nm bytes ml ret R n0 p l e s m args below meth c T cells slots h) {index : Nat} {v : Int32} (w : (Jvm.Cond.constant own index v).before a0 Z = true) {pc q : Nat} {Ls : Array Slot} {st : List Value} (hd : decode bytes pc = .ok (.ldc index, 2)) (hq : pc + 2 = q) (k : Goes p e below s R n0 Q (T.setTop (mkF m q Ls (.int v :: st)))) : Goes p e below s R n0 Q (T.setTop (mkF m pc Ls st)) := by
  obtain ⟨locs, X, N, eh, hn, hx, hZ, hby, hml, hown, hnm, hret, hlk⟩ := X
  subst hby hq
  exact g_of (fun t r => X.ldcInt hx hown (mvT hZ w) (g := mkF m pc Ls st) rfl hd t r) k
theorem g_ldcw (X : Wk Z own nm bytes ml ret R n0 p l e s m args below meth c T cells slots h) {index : Nat} {v : Int32} (w : (Jvm.Cond.constant own index v).before a0 Z = true) {pc q : Nat} {Ls : Array Slot} {st : List Value} (hd : decode bytes pc = .ok (.ldc_w index, 3)) (hq : pc + 3 = q) (k : Goes p e below s R n0 Q (T.setTop (mkF m q Ls (.int v :: st)))) : Goes p e below s R n0 Q (T.setTop (mkF m pc Ls st)) := by
  obtain ⟨locs, X, N, eh, hn, hx, hZ, hby, hml, hown, hnm, hret, hlk⟩ := X
  subst hby hq
  exact g_of (fun t r => X.ldcwInt hx hown (mvT hZ w) (g := mkF m pc Ls st) rfl hd t r) k
theorem g_getF (X : Wk Z own nm bytes ml ret R n0 p l e s m args below meth c T cells slots h) {index : Nat} {R0 O n d : String} (w : (Jvm.Cond.fieldLink own index R0 n d).before a0 Z = true) (via : Via Z R0 O n d) {a : Addr} {v : Value} (F : Fld Z h a O n d v) {pc q : Nat} {Ls : Array Slot} {rest : List Value} (hd : decode bytes pc = .ok (.getfield index, 3)) (hq : pc + 3 = q)
    (k : ∀ T', Wk Z own nm bytes ml ret R n0 p l e s m args below meth c T' cells slots h → Goes p e below s R n0 Q (T'.setTop (mkF m q Ls (v :: rest)))) : Goes p e below s R n0 Q (T.setTop (mkF m pc Ls (.ref a :: rest))) := by
  obtain ⟨locs, X, N, eh, hn, hx, hZ, hby, hml, hown, hnm, hret, hlk⟩ := X
  subst hby hq
  obtain ⟨T', X', e', st⟩ := getF X hx hZ hown (host := "") (Or.inl w) via eh F (g := mkF m pc Ls (.ref a :: rest)) rfl rfl hd
  exact g_of st (k T' ⟨locs, X', N, e', hn, hx, hZ, rfl, hml, hown, hnm, hret, hlk⟩)
theorem g_putF (X : Wk Z own nm bytes ml ret R n0 p l e s m args below meth c T cells slots h) {index kk : Nat} {R0 O n d C : String} {ty : FieldType} (w : (Jvm.Cond.fieldLink own index R0 n d).before a0 Z = true) (via : Via Z R0 O n d) {a : Addr} {v old : Value} (F : Fld Z h a O n d old) (E : Exa Z h a C) (L : (Jvm.Cond.lays C O n d).before a0 Z = true ∨ ((Jvm.Cond.laysFinal C O n d).before a0 Z = true ∧ own = O ∧ nm = "<init>")) (wi : (Jvm.Cond.instantiable C kk).before a0 Z = true) (hty : parseFieldDescriptor d = some ty) (hnr : narrow ty v = v) (hf : fits ty v = true) (ga : n0 ≤ a) {pc q : Nat} {Ls : Array Slot} {rest : List Value} (hd : decode bytes pc = .ok (.putfield index, 3)) (hq : pc + 3 = q)
    (k : ∀ T' h', Wk Z own nm bytes ml ret R n0 p l e s m args below meth c T' cells slots h' → Wr h h' a (Jvm.RoadKit.slotOf Z O n d) v → Goes p e below s R n0 Q (T'.setTop (mkF m q Ls rest))) : Goes p e below s R n0 Q (T.setTop (mkF m pc Ls (v :: .ref a :: rest))) := by
  obtain ⟨locs, X, N, eh, hn, hx, hZ, hby, hml, hown, hnm, hret, hlk⟩ := X
  subst hby hq
  obtain ⟨T', h', X', e', W', st⟩ := putF X hx hZ hown (host := "") (Or.inl w) via eh F E (L.imp id fun z => ⟨z.1, z.2.1, hnm.trans z.2.2⟩) wi hty hnr hf (g := mkF m pc Ls (v :: .ref a :: rest)) rfl rfl hd
  exact g_of st (k T' h' ⟨_, X', Fr.snoc X' N ga, e', hn, hx, hZ, rfl, hml, hown, hnm, hret, hlk⟩ W')
theorem g_new (X : Wk Z own nm bytes ml ret R n0 p l e s m args below meth c T cells slots h) {index n : Nat} {C : String} (w : (Jvm.Cond.classLink own index C).before a0 Z = true) (wi : (Jvm.Cond.instantiable C n).before a0 Z = true) (wz : (Jvm.Cond.initialized C).before a0 Z = true) {pc q c2 s2 : Nat} {Ls : Array Slot} {st : List Value} (hd : decode bytes pc = .ok (.new index, 3)) (hq : pc + 3 = q) (hc : cells + 1 = c2) (hs : slots + n = s2) (hcR : c2 ≤ R.cells) (hsR : s2 ≤ R.slots)
    (k : ∀ T' h' b, Wk Z own nm bytes ml ret R n0 p l e s m args below meth c T' c2 s2 h' → b = h.size → n0 ≤ b → Ext h h' → Exa Z h' b C → (∀ {O nm d : String} {ty : FieldType}, Laid Z a0 C O nm d → parseFieldDescriptor d = some ty → Fld Z h' b O nm d (defaultValue ty)) → Goes p e below s R n0 Q (T'.setTop (mkF m q Ls (.ref b :: st)))) : Goes p e below s R n0 Q (T.setTop (mkF m pc Ls st)) := by
  obtain ⟨locs, X, N, eh, hn, hx, hZ, hby, hml, hown, hnm, hret, hlk⟩ := X
  subst hby hq hc hs
  obtain ⟨T', h', X', e', E', A', D', -, stp⟩ := newO X hx hZ hown w wi wz eh (g := mkF m pc Ls st) rfl hd hcR hsR
  exact g_of stp (k T' h' _ ⟨locs, X', N, e', hn, hx, hZ, rfl, hml, hown, hnm, hret, hlk⟩ rfl (Wk.size ⟨locs, X, N, eh, hn, hx, hZ, rfl, hml, hown, hnm, hret, hlk⟩) E' A' D')
theorem g_initO (X : Wk Z own nm bytes ml ret R n0 p l e s m args below meth c T cells slots h) {index : Nat} (w1 : (Jvm.Cond.methodLink own index Lib.objectInit).before a0 Z = true) (w2 : (Jvm.Cond.instanceMethod Lib.objectInit).before a0 Z = true) (w3 : (Jvm.Cond.code Lib.objectInit ⟨#[0xb1]⟩ 1 none).before a0 Z = true) {a : Addr} {pc q W : Nat} {Ls : Array Slot} {rest : List Value} (hd : decode bytes pc = .ok (.invokespecial index, 3)) (hq : pc + 3 = q) (hLs : Ls.size = ml) (hf : 1 ≤ R.frames) (hW : (rest.map fun v => v.category).sum = W) (hl : W + 12 ≤ R.locals)
    (k : ∀ T', Wk Z own nm bytes ml ret R n0 p l e s m args below meth c T' cells slots h → Goes p e below s R n0 Q (T'.setTop (mkF m q Ls rest))) : Goes p e below s R n0 Q (T.setTop (mkF m pc Ls (.ref a :: rest))) := by
  obtain ⟨locs, X, N, eh, hn, hx, hZ, hby, hml, hown, hnm, hret, hlk⟩ := X
  subst hby hq
  obtain ⟨T', X', e', st⟩ := initO X hx hZ hown w1 w2 w3 eh (g := mkF m pc Ls (.ref a :: rest)) rfl (hLs.trans hml.symm) rfl hd hf (W := W) (by show 2 * 0 + _ ≤ _; omega) hl
  exact g_of st (k T' ⟨locs, X', N, e', hn, hx, hZ, rfl, hml, hown, hnm, hret, hlk⟩)
theorem own_back {index W : Nat} {y : MethodName} {yb : ByteArray} {yml : Nat} {yret : Option FieldType} {Ry : Room} {as' : Array Value} {len : Nat} {Qy : Option Value → Heap → Prop} (hZ : Z.Warmed39 s.vm) (w3 : (Jvm.Cond.initialized y.cls).before a0 Z = true) (w4 : (Jvm.Cond.code y yb yml yret).before a0 Z = true) (hM : Met l Z y yb yml yret Ry [] n0 as' h Qy) (hf : Ry.frames + 1 ≤ R.frames) (hlc : W + (yml + 11) + Ry.locals ≤ R.locals) :
    Back l R p e below s args y len W (fun A a => a = as' ∧ A.U.heap = h ∧ A.cells + Ry.cells ≤ R.cells ∧ A.slots + Ry.slots ≤ R.slots)
      (fun A _ v B => ∃ L, (Fr n0 L ∧ Qy v B.U.heap) ∧ B.locs = A.locs ++ L ∧ B.cells = A.cells + Ry.cells ∧ B.slots = A.slots + Ry.slots) :=
  backOf (Q := fun v h L => Fr n0 L ∧ Qy v h) hM hZ w4 w3 hf hlc
theorem g_callS (X : Wk Z own nm bytes ml ret R n0 p l e s m args below meth c T cells slots h) {index : Nat} {y : MethodName} {yb : ByteArray} {yml : Nat} {yret : Option FieldType} {Ry : Room} {Qy : Option Value → Heap → Prop} {ps : List FieldType} {r : Option FieldType} (as rest : List Value) (w1 : (Jvm.Cond.methodLink own index y).before a0 Z = true) (w2 : (Jvm.Cond.static y).before a0 Z = true) (w3 : (Jvm.Cond.initialized y.cls).before a0 Z = true) (w4 : (Jvm.Cond.code y yb yml yret).before a0 Z = true) (hy : y.cls ≠ "java/lang/invoke/MethodHandle" ∧ y.cls ≠ "java/lang/invoke/VarHandle") (hM : Met l Z y yb yml yret Ry [] n0 as.toArray h Qy) (hp : parseMethodDescriptor y.desc = some ⟨ps, r⟩) (hl : as.length = ps.length)
    {pc q c2 s2 W : Nat} {Ls : Array Slot} {st : List Value} (hst : st = as.reverse ++ rest) (hLs : Ls.size = ml) (hd : decode bytes pc = .ok (.invokestatic index, 3)) (hq : pc + 3 = q) (hW : (rest.map fun v => v.category).sum = W) (hf : Ry.frames + 1 ≤ R.frames) (hlc : W + (yml + 11) + Ry.locals ≤ R.locals) (hc : cells + Ry.cells = c2) (hs : slots + Ry.slots = s2) (hcR : c2 ≤ R.cells) (hsR : s2 ≤ R.slots)
    (k : ∀ v T' h', Wk Z own nm bytes ml ret R n0 p l e s m args below meth c T' c2 s2 h' → Qy v h' → Goes p e below s R n0 Q (T'.setTop (mkF m q Ls (v.toList ++ rest)))) : Goes p e below s R n0 Q (T.setTop (mkF m pc Ls st)) := by
  obtain ⟨locs, X, N, eh, hn, hx, hZ, hby, hml, hown, hnm, hret, hlk⟩ := X
  subst hby hq hc hs hst
  obtain ⟨v, _, ⟨T', L', k', n'⟩, -, X', ⟨Lc, ⟨hF, hQy⟩, l', y', z'⟩, stp⟩ := Jvm.LawKit.callS X hx (y := y) hown (mvT hZ w1) (mvT hZ w2) (mvT hZ w3) (mvT hZ w4) hy (own_back (index := index) (W := W) hZ w3 w4 hM hf hlc) (g := mkF m pc Ls (as.reverse ++ rest)) rfl (hLs.trans hml.symm) (argsL := as) (rest := rest) (lenOf hp hl) rfl (by show 2 * 0 + _ ≤ _; omega) hd (fun _ _ => ⟨rfl, eh, hcR, hsR⟩)
  dsimp only [Pt.U, Pt.locs, Pt.cells, Pt.slots] at X' l' y' z' stp hQy
  subst l' y' z'
  exact g_of stp (k v T' _ ⟨_, X', Fr.app N hF, rfl, hn, hx, hZ, rfl, hml, hown, hnm, hret, hlk⟩ hQy)
theorem g_callI (X : Wk Z own nm bytes ml ret R n0 p l e s m args below meth c T cells slots h) {index : Nat} {y : MethodName} {yb : ByteArray} {yml : Nat} {Ry : Room} {Qy : Option Value → Heap → Prop} {ps : List FieldType} {r : Option FieldType} {a : Addr} (as rest : List Value) (hy1 : y.name = "<init>") (w1 : (Jvm.Cond.methodLink own index y).before a0 Z = true) (w2 : (Jvm.Cond.instanceMethod y).before a0 Z = true) (w3 : (Jvm.Cond.initialized y.cls).before a0 Z = true) (w4 : (Jvm.Cond.code y yb yml none).before a0 Z = true) (hy : y.cls ≠ "java/lang/invoke/MethodHandle" ∧ y.cls ≠ "java/lang/invoke/VarHandle") (hM : Met l Z y yb yml none Ry [] n0 (.ref a :: as).toArray h Qy) (hp : parseMethodDescriptor y.desc = some ⟨ps, r⟩) (hl : as.length = ps.length)
    {pc q c2 s2 W : Nat} {Ls : Array Slot} {st : List Value} (hst : st = as.reverse ++ .ref a :: rest) (hLs : Ls.size = ml) (hd : decode bytes pc = .ok (.invokespecial index, 3)) (hq : pc + 3 = q) (hW : (rest.map fun v => v.category).sum = W) (hf : Ry.frames + 1 ≤ R.frames) (hlc : W + (yml + 11) + Ry.locals ≤ R.locals) (hc : cells + Ry.cells = c2) (hs : slots + Ry.slots = s2) (hcR : c2 ≤ R.cells) (hsR : s2 ≤ R.slots)
    (k : ∀ v T' h', Wk Z own nm bytes ml ret R n0 p l e s m args below meth c T' c2 s2 h' → Qy v h' → Goes p e below s R n0 Q (T'.setTop (mkF m q Ls (v.toList ++ rest)))) : Goes p e below s R n0 Q (T.setTop (mkF m pc Ls st)) := by
  obtain ⟨locs, X, N, eh, hn, hx, hZ, hby, hml, hown, hnm, hret, hlk⟩ := X
  subst hby hq hc hs hst
  obtain ⟨v, _, ⟨T', L', k', n'⟩, -, X', ⟨Lc, ⟨hF, hQy⟩, l', y', z'⟩, stp⟩ := X.specialBack hx (y := y) hy1 hown (mvT hZ w1) (mvT hZ w2) (mvT hZ w4) hy (own_back (index := index) (W := W) hZ w3 w4 hM hf hlc) (g := mkF m pc Ls (as.reverse ++ .ref a :: rest)) rfl (hLs.trans hml.symm) (Steps.refl _) (a := a) (argsL := as) (rest := rest) (lenOf hp hl) rfl (by show 2 * 0 + _ ≤ _; omega) hd (fun _ _ => ⟨rfl, eh, hcR, hsR⟩)
  dsimp only [Pt.U, Pt.locs, Pt.cells, Pt.slots] at X' l' y' z' stp hQy
  subst l' y' z'
  exact g_of (fun _ r => stp.trans r) (k v T' _ ⟨_, X', Fr.app N hF, rfl, hn, hx, hZ, rfl, hml, hown, hnm, hret, hlk⟩ hQy)
theorem g_callV (X : Wk Z own nm bytes ml ret R n0 p l e s m args below meth c T cells slots h) {index : Nat} {y : MethodName} {yb : ByteArray} {yml : Nat} {yret : Option FieldType} {Ry : Room} {Qy : Option Value → Heap → Prop} {ps : List FieldType} {r : Option FieldType} {a : Addr} {C : String} (E : Exa Z h a C) (as rest : List Value) (w1 : (Jvm.Cond.methodLink own index y).before a0 Z = true) (w2 : (Jvm.Cond.declares y).before a0 Z = true) (w5 : (Jvm.Cond.selects C y y).before a0 Z = true) (w6 : (Jvm.Cond.instanceMethod y).before a0 Z = true) (w3 : (Jvm.Cond.initialized y.cls).before a0 Z = true) (w4 : (Jvm.Cond.code y yb yml yret).before a0 Z = true) (hy : y.cls ≠ "java/lang/invoke/MethodHandle" ∧ y.cls ≠ "java/lang/invoke/VarHandle") (hM : Met l Z y yb yml yret Ry [] n0 (.ref a :: as).toArray h Qy) (hp : parseMethodDescriptor y.desc = some ⟨ps, r⟩) (hl : as.length = ps.length)
    {pc q c2 s2 W : Nat} {Ls : Array Slot} {st : List Value} (hst : st = as.reverse ++ .ref a :: rest) (hLs : Ls.size = ml) (hd : decode bytes pc = .ok (.invokevirtual index, 3)) (hq : pc + 3 = q) (hW : (rest.map fun v => v.category).sum = W) (hf : Ry.frames + 1 ≤ R.frames) (hlc : W + (yml + 11) + Ry.locals ≤ R.locals) (hc : cells + Ry.cells = c2) (hs : slots + Ry.slots = s2) (hcR : c2 ≤ R.cells) (hsR : s2 ≤ R.slots)
    (k : ∀ v T' h', Wk Z own nm bytes ml ret R n0 p l e s m args below meth c T' c2 s2 h' → Qy v h' → Goes p e below s R n0 Q (T'.setTop (mkF m q Ls (v.toList ++ rest)))) : Goes p e below s R n0 Q (T.setTop (mkF m pc Ls st)) := by
  obtain ⟨locs, X, N, eh, hn, hx, hZ, hby, hml, hown, hnm, hret, hlk⟩ := X
  subst hby hq hc hs hst
  obtain ⟨cq, kq, qa, qb, qc⟩ := isOf hZ eh E
  obtain ⟨v, _, ⟨T', L', k', n'⟩, -, X', ⟨Lc, ⟨hF, hQy⟩, l', y', z'⟩, stp⟩ := X.virtualBack hx (y := y) (z := y) hown (mvT hZ w1) (mvT hZ w2) (notFace_of_selects (args := #[]) (mvT hZ w5)) (mvT hZ w5) (mvT hZ w6) hy (own_back (index := index) (W := W) hZ w3 w4 hM hf hlc) qa qc (g := mkF m pc Ls (as.reverse ++ .ref a :: rest)) rfl (hLs.trans hml.symm) (Steps.refl _) (argsL := as) (rest := rest) (lenOf hp hl) rfl (by show 2 * 0 + _ ≤ _; omega) hd (fun _ _ => ⟨rfl, eh, hcR, hsR⟩)
  dsimp only [Pt.U, Pt.locs, Pt.cells, Pt.slots] at X' l' y' z' stp hQy
  subst l' y' z'
  exact g_of (fun _ r => stp.trans r) (k v T' _ ⟨_, X', Fr.app N hF, rfl, hn, hx, hZ, rfl, hml, hown, hnm, hret, hlk⟩ hQy)
theorem g_callP (X : Wk Z own nm bytes ml ret R n0 p l e s m args below meth c T cells slots h) {index : Nat} {y : MethodName} {yb : ByteArray} {yml : Nat} {yret : Option FieldType} {Ry : Room} {Qy : Option Value → Heap → Prop} {ps : List FieldType} {r : Option FieldType} {a : Addr} {C : String} (E : Exa Z h a C) (as rest : List Value) (w1 : (Jvm.Cond.methodLink own index y).before a0 Z = true) (w5 : (Jvm.Cond.selects y.cls y y).before a0 Z = true) (w6 : (Jvm.Cond.instanceMethod y).before a0 Z = true) (w7 : (Jvm.Cond.privateMethod y).before a0 Z = true) (w3 : (Jvm.Cond.initialized y.cls).before a0 Z = true) (w4 : (Jvm.Cond.code y yb yml yret).before a0 Z = true) (hy : y.cls ≠ "java/lang/invoke/MethodHandle" ∧ y.cls ≠ "java/lang/invoke/VarHandle") (hM : Met l Z y yb yml yret Ry [] n0 (.ref a :: as).toArray h Qy) (hp : parseMethodDescriptor y.desc = some ⟨ps, r⟩) (hl : as.length = ps.length)
    {pc q c2 s2 W : Nat} {Ls : Array Slot} {st : List Value} (hst : st = as.reverse ++ .ref a :: rest) (hLs : Ls.size = ml) (hd : decode bytes pc = .ok (.invokevirtual index, 3)) (hq : pc + 3 = q) (hW : (rest.map fun v => v.category).sum = W) (hf : Ry.frames + 1 ≤ R.frames) (hlc : W + (yml + 11) + Ry.locals ≤ R.locals) (hc : cells + Ry.cells = c2) (hs : slots + Ry.slots = s2) (hcR : c2 ≤ R.cells) (hsR : s2 ≤ R.slots)
    (k : ∀ v T' h', Wk Z own nm bytes ml ret R n0 p l e s m args below meth c T' c2 s2 h' → Qy v h' → Goes p e below s R n0 Q (T'.setTop (mkF m q Ls (v.toList ++ rest)))) : Goes p e below s R n0 Q (T.setTop (mkF m pc Ls st)) := by
  obtain ⟨locs, X, N, eh, hn, hx, hZ, hby, hml, hown, hnm, hret, hlk⟩ := X
  subst hby hq hc hs hst
  obtain ⟨cq, q1, q2⟩ := E.cell
  obtain ⟨v, _, ⟨T', L', k', n'⟩, -, X', ⟨Lc, ⟨hF, hQy⟩, l', y', z'⟩, stp⟩ := X.privateBack hx (y := y) hown (mvT hZ w1) (mvT hZ w6) (mvT hZ w5) (Cond.privateMethod_at (mvP hZ w7 (args := #[]))) (mvT hZ w4) hy (own_back (index := index) (W := W) hZ w3 w4 hM hf hlc) (g := mkF m pc Ls (as.reverse ++ .ref a :: rest)) rfl (hLs.trans hml.symm) (Steps.refl _) (a := a) (by rw [eh]; exact q1) q2 (argsL := as) (rest := rest) (lenOf hp hl) rfl (by show 2 * 0 + _ ≤ _; omega) hd (fun _ _ => ⟨rfl, eh, hcR, hsR⟩)
  dsimp only [Pt.U, Pt.locs, Pt.cells, Pt.slots] at X' l' y' z' stp hQy
  subst l' y' z'
  exact g_of (fun _ r => stp.trans r) (k v T' _ ⟨_, X', Fr.app N hF, rfl, hn, hx, hZ, rfl, hml, hown, hnm, hret, hlk⟩ hQy)

theorem g_alenI (X : Wk Z own nm bytes ml ret R n0 p l e s m args below meth c T cells slots h) {a : Addr} {ty : FieldType} {n : Nat} {f : Nat → Int32} (A : AI Z h a ty n f) {pc q : Nat} {Ls : Array Slot} {rest : List Value} (hd : decode bytes pc = .ok (.arraylength, 1)) (hq : pc + 1 = q) (k : Goes p e below s R n0 Q (T.setTop (mkF m q Ls (.int n.toInt32 :: rest)))) : Goes p e below s R n0 Q (T.setTop (mkF m pc Ls (.ref a :: rest))) := by
  obtain ⟨locs, X, N, eh, hn, hx, hZ, hby, hml, hown, hnm, hret, hlk⟩ := X
  obtain ⟨z, cl, A, r1, r2⟩ := A
  subst hby hq r1
  exact g_of (fun t r => X.arraylength hx (by rw [eh]; exact A.1) (State.isArrayOf_alike hZ.alike A.2.1) (g := mkF m pc Ls (.ref a :: rest)) rfl rfl hd t r) k
theorem g_alenJ (X : Wk Z own nm bytes ml ret R n0 p l e s m args below meth c T cells slots h) {a : Addr} {n : Nat} {f : Nat → Int64} (A : AJ Z h a n f) {pc q : Nat} {Ls : Array Slot} {rest : List Value} (hd : decode bytes pc = .ok (.arraylength, 1)) (hq : pc + 1 = q) (k : Goes p e below s R n0 Q (T.setTop (mkF m q Ls (.int n.toInt32 :: rest)))) : Goes p e below s R n0 Q (T.setTop (mkF m pc Ls (.ref a :: rest))) := by
  obtain ⟨locs, X, N, eh, hn, hx, hZ, hby, hml, hown, hnm, hret, hlk⟩ := X
  obtain ⟨z, cl, A, r1, r2⟩ := A
  subst hby hq r1
  exact g_of (fun t r => X.arraylength hx (by rw [eh]; exact A.1) (State.isArrayOf_alike hZ.alike A.2.1) (g := mkF m pc Ls (.ref a :: rest)) rfl rfl hd t r) k
theorem g_iaload (X : Wk Z own nm bytes ml ret R n0 p l e s m args below meth c T cells slots h) {a : Addr} {n : Nat} {f : Nat → Int32} (A : AI Z h a .int n f) {j : Int32} (hj : 0 ≤ j.toInt ∧ j.toInt < n) {pc q : Nat} {Ls : Array Slot} {rest : List Value} (hd : decode bytes pc = .ok (.iaload, 1)) (hq : pc + 1 = q) (k : Goes p e below s R n0 Q (T.setTop (mkF m q Ls (.int (f j.toNatClampNeg) :: rest)))) : Goes p e below s R n0 Q (T.setTop (mkF m pc Ls (.int j :: .ref a :: rest))) := by
  obtain ⟨locs, X, N, eh, hn, hx, hZ, hby, hml, hown, hnm, hret, hlk⟩ := X
  obtain ⟨z, cl, A, r1, r2⟩ := A
  subst hby hq
  exact g_of (fun t r => X.iaload hx (j := j) (by rw [eh]; exact A.1) (State.isArrayOf_alike hZ.alike A.2.1) A.2.2 (own_ix r1 hj) (r2 _ (own_ixn hj)) (g := mkF m pc Ls (.int j :: .ref a :: rest)) rfl rfl hd t r) k
theorem g_laload (X : Wk Z own nm bytes ml ret R n0 p l e s m args below meth c T cells slots h) {a : Addr} {n : Nat} {f : Nat → Int64} (A : AJ Z h a n f) {j : Int32} (hj : 0 ≤ j.toInt ∧ j.toInt < n) {pc q : Nat} {Ls : Array Slot} {rest : List Value} (hd : decode bytes pc = .ok (.laload, 1)) (hq : pc + 1 = q) (k : Goes p e below s R n0 Q (T.setTop (mkF m q Ls (.long (f j.toNatClampNeg) :: rest)))) : Goes p e below s R n0 Q (T.setTop (mkF m pc Ls (.int j :: .ref a :: rest))) := by
  obtain ⟨locs, X, N, eh, hn, hx, hZ, hby, hml, hown, hnm, hret, hlk⟩ := X
  obtain ⟨z, cl, A, r1, r2⟩ := A
  subst hby hq
  exact g_of (fun t r => X.laload hx (j := j) (by rw [eh]; exact A.1) (State.isArrayOf_alike hZ.alike A.2.1) A.2.2 (own_ix r1 hj) (r2 _ (own_ixn hj)) (g := mkF m pc Ls (.int j :: .ref a :: rest)) rfl rfl hd t r) k
theorem g_baload (X : Wk Z own nm bytes ml ret R n0 p l e s m args below meth c T cells slots h) {a : Addr} {n : Nat} {f : Nat → Int32} (A : AI Z h a .byte n f) {j : Int32} (hj : 0 ≤ j.toInt ∧ j.toInt < n) {pc q : Nat} {Ls : Array Slot} {rest : List Value} (hd : decode bytes pc = .ok (.baload, 1)) (hq : pc + 1 = q) (k : Goes p e below s R n0 Q (T.setTop (mkF m q Ls (.int (f j.toNatClampNeg) :: rest)))) : Goes p e below s R n0 Q (T.setTop (mkF m pc Ls (.int j :: .ref a :: rest))) := by
  obtain ⟨locs, X, N, eh, hn, hx, hZ, hby, hml, hown, hnm, hret, hlk⟩ := X
  obtain ⟨z, cl, A, r1, r2⟩ := A
  subst hby hq
  exact g_of (fun t r => X.baloadBytes hx (j := j) (by rw [eh]; exact A.1) (State.isArrayOf_alike hZ.alike A.2.1) A.2.2 (own_ix r1 hj) (r2 _ (own_ixn hj)) (g := mkF m pc Ls (.int j :: .ref a :: rest)) rfl rfl hd t r) k
theorem g_zaload (X : Wk Z own nm bytes ml ret R n0 p l e s m args below meth c T cells slots h) {a : Addr} {n : Nat} {f : Nat → Int32} (A : AI Z h a .boolean n f) {j : Int32} (hj : 0 ≤ j.toInt ∧ j.toInt < n) {pc q : Nat} {Ls : Array Slot} {rest : List Value} (hd : decode bytes pc = .ok (.baload, 1)) (hq : pc + 1 = q) (k : Goes p e below s R n0 Q (T.setTop (mkF m q Ls (.int (f j.toNatClampNeg) :: rest)))) : Goes p e below s R n0 Q (T.setTop (mkF m pc Ls (.int j :: .ref a :: rest))) := by
  obtain ⟨locs, X, N, eh, hn, hx, hZ, hby, hml, hown, hnm, hret, hlk⟩ := X
  obtain ⟨z, cl, A, r1, r2⟩ := A
  subst hby hq
  exact g_of (fun t r => X.baloadBooleans hx (j := j) (by rw [eh]; exact A.1) (State.isArrayOf_alike hZ.alike A.2.1) A.2.2 (own_ix r1 hj) (r2 _ (own_ixn hj)) (g := mkF m pc Ls (.int j :: .ref a :: rest)) rfl rfl hd t r) k
theorem g_iastore (X : Wk Z own nm bytes ml ret R n0 p l e s m args below meth c T cells slots h) {a : Addr} {n : Nat} {f : Nat → Int32} (A : AI Z h a .int n f) {j : Int32} {x : Int32} (hj : 0 ≤ j.toInt ∧ j.toInt < n) (ga : n0 ≤ a) {pc q : Nat} {Ls : Array Slot} {rest : List Value} (hd : decode bytes pc = .ok (.iastore, 1)) (hq : pc + 1 = q) (k : ∀ T' h', Wk Z own nm bytes ml ret R n0 p l e s m args below meth c T' cells slots h' → Wr h h' a j.toNatClampNeg (.int x) → Goes p e below s R n0 Q (T'.setTop (mkF m q Ls rest))) : Goes p e below s R n0 Q (T.setTop (mkF m pc Ls (.int x :: .int j :: .ref a :: rest))) := by
  obtain ⟨locs, X, N, eh, hn, hx, hZ, hby, hml, hown, hnm, hret, hlk⟩ := X
  obtain ⟨z, cl, A, r1, r2⟩ := A
  subst hby hq
  obtain ⟨T', h', X', e', W', st⟩ := stI X hx hZ eh A (j := j) (own_ix r1 hj) (g := mkF m pc Ls (.int x :: .int j :: .ref a :: rest)) rfl rfl hd
  exact g_of st (k T' h' ⟨_, X', Fr.snoc X' N ga, e', hn, hx, hZ, rfl, hml, hown, hnm, hret, hlk⟩ W')
theorem g_lastore (X : Wk Z own nm bytes ml ret R n0 p l e s m args below meth c T cells slots h) {a : Addr} {n : Nat} {f : Nat → Int64} (A : AJ Z h a n f) {j : Int32} {x : Int64} (hj : 0 ≤ j.toInt ∧ j.toInt < n) (ga : n0 ≤ a) {pc q : Nat} {Ls : Array Slot} {rest : List Value} (hd : decode bytes pc = .ok (.lastore, 1)) (hq : pc + 1 = q) (k : ∀ T' h', Wk Z own nm bytes ml ret R n0 p l e s m args below meth c T' cells slots h' → Wr h h' a j.toNatClampNeg (.long x) → Goes p e below s R n0 Q (T'.setTop (mkF m q Ls rest))) : Goes p e below s R n0 Q (T.setTop (mkF m pc Ls (.long x :: .int j :: .ref a :: rest))) := by
  obtain ⟨locs, X, N, eh, hn, hx, hZ, hby, hml, hown, hnm, hret, hlk⟩ := X
  obtain ⟨z, cl, A, r1, r2⟩ := A
  subst hby hq
  obtain ⟨T', h', X', e', W', st⟩ := stJ X hx hZ eh A (j := j) (own_ix r1 hj) (g := mkF m pc Ls (.long x :: .int j :: .ref a :: rest)) rfl rfl hd
  exact g_of st (k T' h' ⟨_, X', Fr.snoc X' N ga, e', hn, hx, hZ, rfl, hml, hown, hnm, hret, hlk⟩ W')
theorem g_bastore (X : Wk Z own nm bytes ml ret R n0 p l e s m args below meth c T cells slots h) {a : Addr} {n : Nat} {f : Nat → Int32} (A : AI Z h a .byte n f) {j : Int32} {x : Int32} (hj : 0 ≤ j.toInt ∧ j.toInt < n) (ga : n0 ≤ a) {pc q : Nat} {Ls : Array Slot} {rest : List Value} (hd : decode bytes pc = .ok (.bastore, 1)) (hq : pc + 1 = q) (k : ∀ T' h', Wk Z own nm bytes ml ret R n0 p l e s m args below meth c T' cells slots h' → Wr h h' a j.toNatClampNeg (.int (nar .byte x)) → Goes p e below s R n0 Q (T'.setTop (mkF m q Ls rest))) : Goes p e below s R n0 Q (T.setTop (mkF m pc Ls (.int x :: .int j :: .ref a :: rest))) := by
  obtain ⟨locs, X, N, eh, hn, hx, hZ, hby, hml, hown, hnm, hret, hlk⟩ := X
  obtain ⟨z, cl, A, r1, r2⟩ := A
  subst hby hq
  obtain ⟨T', h', X', e', W', st⟩ := stB X hx hZ eh A (j := j) (own_ix r1 hj) (g := mkF m pc Ls (.int x :: .int j :: .ref a :: rest)) rfl rfl hd
  exact g_of st (k T' h' ⟨_, X', Fr.snoc X' N ga, e', hn, hx, hZ, rfl, hml, hown, hnm, hret, hlk⟩ W')
theorem g_zastore (X : Wk Z own nm bytes ml ret R n0 p l e s m args below meth c T cells slots h) {a : Addr} {n : Nat} {f : Nat → Int32} (A : AI Z h a .boolean n f) {j : Int32} {x : Int32} (hj : 0 ≤ j.toInt ∧ j.toInt < n) (ga : n0 ≤ a) {pc q : Nat} {Ls : Array Slot} {rest : List Value} (hd : decode bytes pc = .ok (.bastore, 1)) (hq : pc + 1 = q) (hz : x = 0 ∨ x = 1) (k : ∀ T' h', Wk Z own nm bytes ml ret R n0 p l e s m args below meth c T' cells slots h' → Wr h h' a j.toNatClampNeg (.int x) → Goes p e below s R n0 Q (T'.setTop (mkF m q Ls rest))) : Goes p e below s R n0 Q (T.setTop (mkF m pc Ls (.int x :: .int j :: .ref a :: rest))) := by
  obtain ⟨locs, X, N, eh, hn, hx, hZ, hby, hml, hown, hnm, hret, hlk⟩ := X
  obtain ⟨z, cl, A, r1, r2⟩ := A
  subst hby hq
  obtain ⟨T', h', X', e', W', st⟩ := stZ X hx hZ eh A (j := j) (own_ix r1 hj) (g := mkF m pc Ls (.int x :: .int j :: .ref a :: rest)) rfl rfl hd
  rw [own_narZ' hz] at W'
  exact g_of st (k T' h' ⟨_, X', Fr.snoc X' N ga, e', hn, hx, hZ, rfl, hml, hown, hnm, hret, hlk⟩ W')
theorem g_newarrI (X : Wk Z own nm bytes ml ret R n0 p l e s m args below meth c T cells slots h) {aty : ArrayType} (ht : defaultValue (newarray.typeOf aty) = .int 0) (w : (Jvm.Cond.arrayClass (newarray.typeOf aty)).before a0 Z = true) {n : Int32} {pc q c2 s2 cap : Nat} {Ls : Array Slot} {rest : List Value} (hd : decode bytes pc = .ok (.newarray aty, 2)) (hq : pc + 2 = q) (h0n : ¬ n < 0) (hcap : n.toNatClampNeg ≤ cap) (hbig : cap * 8 ≤ 536870912) (hc : cells + 1 = c2) (hs : slots + cap = s2) (hcR : c2 ≤ R.cells) (hsR : s2 ≤ R.slots)
    (k : ∀ T' h' b, Wk Z own nm bytes ml ret R n0 p l e s m args below meth c T' c2 s2 h' → b = h.size → n0 ≤ b → Ext h h' → AI Z h' b (newarray.typeOf aty) n.toNatClampNeg (fun _ => 0) → Goes p e below s R n0 Q (T'.setTop (mkF m q Ls (.ref b :: rest)))) : Goes p e below s R n0 Q (T.setTop (mkF m pc Ls (.int n :: rest))) := by
  obtain ⟨locs, X, N, eh, hn, hx, hZ, hby, hml, hown, hnm, hret, hlk⟩ := X
  subst hby hq hc hs
  obtain ⟨T', h', cA, X', e', E', A', stp⟩ := newP X hx hZ (aty := aty) w eh (g := mkF m pc Ls (.int n :: rest)) rfl hd rfl h0n hcap hbig hcR hsR
  refine g_of stp (k T' h' _ ⟨locs, X', N, e', hn, hx, hZ, rfl, hml, hown, hnm, hret, hlk⟩ rfl (Wk.size ⟨locs, X, N, eh, hn, hx, hZ, rfl, hml, hown, hnm, hret, hlk⟩) E' ⟨(back32 h0n).2, _, A', sz_new _ _ _, fun j hj => ?_⟩)
  simp only [newA, Array.getElem?_replicate, hj, if_true]
  rw [ht]
theorem g_newarrJ (X : Wk Z own nm bytes ml ret R n0 p l e s m args below meth c T cells slots h)  (w : (Jvm.Cond.arrayClass .long).before a0 Z = true) {n : Int32} {pc q c2 s2 cap : Nat} {Ls : Array Slot} {rest : List Value} (hd : decode bytes pc = .ok (.newarray .long, 2)) (hq : pc + 2 = q) (h0n : ¬ n < 0) (hcap : n.toNatClampNeg ≤ cap) (hbig : cap * 8 ≤ 536870912) (hc : cells + 1 = c2) (hs : slots + cap = s2) (hcR : c2 ≤ R.cells) (hsR : s2 ≤ R.slots)
    (k : ∀ T' h' b, Wk Z own nm bytes ml ret R n0 p l e s m args below meth c T' c2 s2 h' → b = h.size → n0 ≤ b → Ext h h' → AJ Z h' b n.toNatClampNeg (fun _ => 0) → Goes p e below s R n0 Q (T'.setTop (mkF m q Ls (.ref b :: rest)))) : Goes p e below s R n0 Q (T.setTop (mkF m pc Ls (.int n :: rest))) := by
  obtain ⟨locs, X, N, eh, hn, hx, hZ, hby, hml, hown, hnm, hret, hlk⟩ := X
  subst hby hq hc hs
  obtain ⟨T', h', cA, X', e', E', A', stp⟩ := newP X hx hZ (aty := .long) w eh (g := mkF m pc Ls (.int n :: rest)) rfl hd rfl h0n hcap hbig hcR hsR
  refine g_of stp (k T' h' _ ⟨locs, X', N, e', hn, hx, hZ, rfl, hml, hown, hnm, hret, hlk⟩ rfl (Wk.size ⟨locs, X, N, eh, hn, hx, hZ, rfl, hml, hown, hnm, hret, hlk⟩) E' ⟨(back32 h0n).2, _, A', sz_new _ _ _, fun j hj => ?_⟩)
  simp only [newA, Array.getElem?_replicate, hj, if_true]
  rfl
theorem g_acopyJ (X : Wk Z own nm bytes ml ret R n0 p l e s m args below meth c T cells slots h) {index : Nat} (w1 : (Jvm.Cond.methodLink own index Jvm.Stand.acN).before a0 Z = true) (w2 : (Jvm.Cond.native Jvm.Stand.acN).before a0 Z = true) (w3 : (Jvm.Cond.static Jvm.Stand.acN).before a0 Z = true) (w4 : (Jvm.Cond.initialized "java/lang/System").before a0 Z = true) {a b : Addr} {n n' : Nat} {f f' : Nat → Int64} (A : AJ Z h a n f) (B : AJ Z h b n' f') {nn : Int32} (h3 : ¬ nn < 0) (h4 : nn.toNatClampNeg ≤ n) (h5 : nn.toNatClampNeg ≤ n') (ga : n0 ≤ b) {pc q W : Nat} {Ls : Array Slot} {rest : List Value} (hLs : Ls.size = ml) (hd : decode bytes pc = .ok (.invokestatic index, 3)) (hq : pc + 3 = q) (hW : (rest.map fun v => v.category).sum = W) (hf : 1 ≤ R.frames) (hlo : W + 18 ≤ R.locals)
    (k : ∀ T' h', Wk Z own nm bytes ml ret R n0 p l e s m args below meth c T' cells slots h' → Keep h h' [b] → AJ Z h' b n' (fun j => if j < nn.toNatClampNeg then f j else f' j) → Goes p e below s R n0 Q (T'.setTop (mkF m q Ls rest))) : Goes p e below s R n0 Q (T.setTop (mkF m pc Ls (.int nn :: .int 0 :: .ref b :: .int 0 :: .ref a :: rest))) := by
  obtain ⟨locs, X, N, eh, hn, hx, hZ, hby, hml, hown, hnm, hret, hlk⟩ := X
  subst hby hq
  have zA := A.1
  have zB := B.1
  obtain ⟨kA, A'⟩ := own_arv A
  obtain ⟨kB, B'⟩ := own_arv B
  have qA := (own_clN zA).1
  have qB := (own_clN zB).1
  obtain ⟨T', h', L, X', e', N', K', C', st⟩ := cpA X hx hZ hown w1 w2 w3 w4 eh (sp := 0) (dp := 0) (nn := nn) A' B' (Or.inl ⟨rfl, rfl⟩) (by decide) (by decide) h3 (by rw [qA]; show 0 + _ ≤ _; omega) (by rw [qB]; show 0 + _ ≤ _; omega) rfl (by rw [List.length_map, List.length_range]; show 0 + _ ≤ _; omega) N ga (g := mkF m pc Ls (.int nn :: .int 0 :: .ref b :: .int 0 :: .ref a :: rest)) rfl (hLs.trans hml.symm) (rest := rest) rfl hd hf (W := W) (by show 2 * 0 + _ ≤ _; omega) (by show W + (7 + 11) ≤ _; omega)
  exact g_of st (k T' h' ⟨L, X', N', e', hn, hx, hZ, rfl, hml, hown, hnm, hret, hlk⟩ K' (own_arvB zB C' (fun j hj => own_cpl n n' nn.toNatClampNeg f f' h4 h5 j hj)))
theorem g_jT0 (X : Wk Z own nm bytes ml ret R n0 p l e s m args below meth c T cells slots h) {J : Nat} {g : JFrame} (L : Array Slot) (S : List Value) (rest : ∀ T', Wk Z own nm bytes ml ret R n0 p l e s m args below meth c T' cells slots h → Goes p e below s R n0 Q (T'.setTop (mkF m J (L) (S)))) (here : (∀ T', Wk Z own nm bytes ml ret R n0 p l e s m args below meth c T' cells slots h → Goes p e below s R n0 Q (T'.setTop (mkF m J (L) (S)))) → Goes p e below s R n0 Q (T.setTop g)) : Goes p e below s R n0 Q (T.setTop g) := here rest
theorem g_jT1 {α : Type} (X : Wk Z own nm bytes ml ret R n0 p l e s m args below meth c T cells slots h) {J : Nat} {g : JFrame} (P : α → Prop) (L : α → Array Slot) (S : α → List Value) (rest : ∀ T', Wk Z own nm bytes ml ret R n0 p l e s m args below meth c T' cells slots h → ∀ a, P a → Goes p e below s R n0 Q (T'.setTop (mkF m J (L a) (S a)))) (here : (∀ T', Wk Z own nm bytes ml ret R n0 p l e s m args below meth c T' cells slots h → ∀ a, P a → Goes p e below s R n0 Q (T'.setTop (mkF m J (L a) (S a)))) → Goes p e below s R n0 Q (T.setTop g)) : Goes p e below s R n0 Q (T.setTop g) := here rest
theorem g_jT2 {α β : Type} (X : Wk Z own nm bytes ml ret R n0 p l e s m args below meth c T cells slots h) {J : Nat} {g : JFrame} (P : α → β → Prop) (L : α → β → Array Slot) (S : α → β → List Value) (rest : ∀ T', Wk Z own nm bytes ml ret R n0 p l e s m args below meth c T' cells slots h → ∀ a b, P a b → Goes p e below s R n0 Q (T'.setTop (mkF m J (L a b) (S a b)))) (here : (∀ T', Wk Z own nm bytes ml ret R n0 p l e s m args below meth c T' cells slots h → ∀ a b, P a b → Goes p e below s R n0 Q (T'.setTop (mkF m J (L a b) (S a b)))) → Goes p e below s R n0 Q (T.setTop g)) : Goes p e below s R n0 Q (T.setTop g) := here rest
theorem g_jT3 {α β γ : Type} (X : Wk Z own nm bytes ml ret R n0 p l e s m args below meth c T cells slots h) {J : Nat} {g : JFrame} (P : α → β → γ → Prop) (L : α → β → γ → Array Slot) (S : α → β → γ → List Value) (rest : ∀ T', Wk Z own nm bytes ml ret R n0 p l e s m args below meth c T' cells slots h → ∀ a b c', P a b c' → Goes p e below s R n0 Q (T'.setTop (mkF m J (L a b c') (S a b c')))) (here : (∀ T', Wk Z own nm bytes ml ret R n0 p l e s m args below meth c T' cells slots h → ∀ a b c', P a b c' → Goes p e below s R n0 Q (T'.setTop (mkF m J (L a b c') (S a b c')))) → Goes p e below s R n0 Q (T.setTop g)) : Goes p e below s R n0 Q (T.setTop g) := here rest
theorem g_jT4 {α β γ δ : Type} (X : Wk Z own nm bytes ml ret R n0 p l e s m args below meth c T cells slots h) {J : Nat} {g : JFrame} (P : α → β → γ → δ → Prop) (L : α → β → γ → δ → Array Slot) (S : α → β → γ → δ → List Value) (rest : ∀ T', Wk Z own nm bytes ml ret R n0 p l e s m args below meth c T' cells slots h → ∀ a b c' d, P a b c' d → Goes p e below s R n0 Q (T'.setTop (mkF m J (L a b c' d) (S a b c' d)))) (here : (∀ T', Wk Z own nm bytes ml ret R n0 p l e s m args below meth c T' cells slots h → ∀ a b c' d, P a b c' d → Goes p e below s R n0 Q (T'.setTop (mkF m J (L a b c' d) (S a b c' d)))) → Goes p e below s R n0 Q (T.setTop g)) : Goes p e below s R n0 Q (T.setTop g) := here rest
theorem g_loop1 {α : Type} (X : Wk Z own nm bytes ml ret R n0 p l e s m args below meth c T cells slots h) {H : Nat} (ms : α → Nat) (I : α → Heap → Prop) (L : α → Array Slot) (S : α → List Value) (a : α) (i0 : I a h) (turn : ∀ a T' h', Wk Z own nm bytes ml ret R n0 p l e s m args below meth c T' cells slots h' → I a h' → (∀ a' T'' h'', Wk Z own nm bytes ml ret R n0 p l e s m args below meth c T'' cells slots h'' → I a' h'' → ms a' < ms a → Goes p e below s R n0 Q (T''.setTop (mkF m H (L a') (S a')))) → Goes p e below s R n0 Q (T'.setTop (mkF m H (L a) (S a)))) : Goes p e below s R n0 Q (T.setTop (mkF m H (L a) (S a))) := by
  induction hk : ms a using Nat.strongRecOn generalizing a T h with
  | _ k ih => exact turn a T h X i0 (fun a' T2 h2 X2 i2 lt => ih _ (hk ▸ lt) X2 a' i2 rfl)
theorem g_loop2 {α β : Type} (X : Wk Z own nm bytes ml ret R n0 p l e s m args below meth c T cells slots h) {H : Nat} (ms : α → β → Nat) (I : α → β → Heap → Prop) (L : α → β → Array Slot) (S : α → β → List Value) (a : α) (b : β) (i0 : I a b h) (turn : ∀ a b T' h', Wk Z own nm bytes ml ret R n0 p l e s m args below meth c T' cells slots h' → I a b h' → (∀ a' b' T'' h'', Wk Z own nm bytes ml ret R n0 p l e s m args below meth c T'' cells slots h'' → I a' b' h'' → ms a' b' < ms a b → Goes p e below s R n0 Q (T''.setTop (mkF m H (L a' b') (S a' b')))) → Goes p e below s R n0 Q (T'.setTop (mkF m H (L a b) (S a b)))) : Goes p e below s R n0 Q (T.setTop (mkF m H (L a b) (S a b))) := by
  induction hk : ms a b using Nat.strongRecOn generalizing a b T h with
  | _ k ih => exact turn a b T h X i0 (fun a' b' T2 h2 X2 i2 lt => ih _ (hk ▸ lt) X2 a' b' i2 rfl)
theorem g_loop3 {α β γ : Type} (X : Wk Z own nm bytes ml ret R n0 p l e s m args below meth c T cells slots h) {H : Nat} (ms : α → β → γ → Nat) (I : α → β → γ → Heap → Prop) (L : α → β → γ → Array Slot) (S : α → β → γ → List Value) (a : α) (b : β) (u : γ) (i0 : I a b u h) (turn : ∀ a b u T' h', Wk Z own nm bytes ml ret R n0 p l e s m args below meth c T' cells slots h' → I a b u h' → (∀ a' b' u' T'' h'', Wk Z own nm bytes ml ret R n0 p l e s m args below meth c T'' cells slots h'' → I a' b' u' h'' → ms a' b' u' < ms a b u → Goes p e below s R n0 Q (T''.setTop (mkF m H (L a' b' u') (S a' b' u')))) → Goes p e below s R n0 Q (T'.setTop (mkF m H (L a b u) (S a b u)))) : Goes p e below s R n0 Q (T.setTop (mkF m H (L a b u) (S a b u))) := by
  induction hk : ms a b u using Nat.strongRecOn generalizing a b u T h with
  | _ k ih => exact turn a b u T h X i0 (fun a' b' u' T2 h2 X2 i2 lt => ih _ (hk ▸ lt) X2 a' b' u' i2 rfl)
theorem g_loop4 {α β γ δ : Type} (X : Wk Z own nm bytes ml ret R n0 p l e s m args below meth c T cells slots h) {H : Nat} (ms : α → β → γ → δ → Nat) (I : α → β → γ → δ → Heap → Prop) (L : α → β → γ → δ → Array Slot) (S : α → β → γ → δ → List Value) (a : α) (b : β) (u : γ) (w : δ) (i0 : I a b u w h) (turn : ∀ a b u w T' h', Wk Z own nm bytes ml ret R n0 p l e s m args below meth c T' cells slots h' → I a b u w h' → (∀ a' b' u' w' T'' h'', Wk Z own nm bytes ml ret R n0 p l e s m args below meth c T'' cells slots h'' → I a' b' u' w' h'' → ms a' b' u' w' < ms a b u w → Goes p e below s R n0 Q (T''.setTop (mkF m H (L a' b' u' w') (S a' b' u' w')))) → Goes p e below s R n0 Q (T'.setTop (mkF m H (L a b u w) (S a b u w)))) : Goes p e below s R n0 Q (T.setTop (mkF m H (L a b u w) (S a b u w))) := by
  induction hk : ms a b u w using Nat.strongRecOn generalizing a b u w T h with
  | _ k ih => exact turn a b u w T h X i0 (fun a' b' u' w' T2 h2 X2 i2 lt => ih _ (hk ▸ lt) X2 a' b' u' w' i2 rfl)
theorem g_loop5 {α β γ δ ε : Type} (X : Wk Z own nm bytes ml ret R n0 p l e s m args below meth c T cells slots h) {H : Nat} (ms : α → β → γ → δ → ε → Nat) (I : α → β → γ → δ → ε → Heap → Prop) (L : α → β → γ → δ → ε → Array Slot) (S : α → β → γ → δ → ε → List Value) (a : α) (b : β) (u : γ) (w : δ) (z : ε) (i0 : I a b u w z h) (turn : ∀ a b u w z T' h', Wk Z own nm bytes ml ret R n0 p l e s m args below meth c T' cells slots h' → I a b u w z h' → (∀ a' b' u' w' z' T'' h'', Wk Z own nm bytes ml ret R n0 p l e s m args below meth c T'' cells slots h'' → I a' b' u' w' z' h'' → ms a' b' u' w' z' < ms a b u w z → Goes p e below s R n0 Q (T''.setTop (mkF m H (L a' b' u' w' z') (S a' b' u' w' z')))) → Goes p e below s R n0 Q (T'.setTop (mkF m H (L a b u w z) (S a b u w z)))) : Goes p e below s R n0 Q (T.setTop (mkF m H (L a b u w z) (S a b u w z))) := by
  induction hk : ms a b u w z using Nat.strongRecOn generalizing a b u w z T h with
  | _ k ih => exact turn a b u w z T h X i0 (fun a' b' u' w' z' T2 h2 X2 i2 lt => ih _ (hk ▸ lt) X2 a' b' u' w' z' i2 rfl)
end Walk
end Jvm.Own
namespace Jvm.Pilot.@@N@@
open Jvm Jvm.ClassFile Sem Op Lib Jvm.Free Jvm.Stand Jvm.LawKit Jvm.RoadKit Bundle Jvm.Own Jvm.Pilot.@@N@@.Jvm.D

theorem tw0 {Z : State} {a0 : Array Value} (hw : ∀ d ∈ tables_1, d.before a0 Z = true) : ((Jvm.Cond.constant "com/example/bulkstep/bulkstep/engine/IndexSetAddPinLaw" (7 : Nat) (2147483647 : Int32))).before a0 Z = true := hw _ (List.mem_of_getElem? (i := 0) rfl)
theorem tw1 {Z : State} {a0 : Array Value} (hw : ∀ d ∈ tables_1, d.before a0 Z = true) : ((Jvm.Cond.classLink "com/example/bulkstep/bulkstep/engine/IndexSetAddPinLaw" (8 : Nat) "com/example/bulkstep/bulkstep/engine/IndexSet")).before a0 Z = true := hw _ (List.mem_of_getElem? (i := 1) rfl)
theorem tw2 {Z : State} {a0 : Array Value} (hw : ∀ d ∈ tables_1, d.before a0 Z = true) : ((Jvm.Cond.instantiable "com/example/bulkstep/bulkstep/engine/IndexSet" (2 : Nat))).before a0 Z = true := hw _ (List.mem_of_getElem? (i := 2) rfl)
theorem tw3 {Z : State} {a0 : Array Value} (hw : ∀ d ∈ tables_1, d.before a0 Z = true) : ((Jvm.Cond.initialized "com/example/bulkstep/bulkstep/engine/IndexSet")).before a0 Z = true := hw _ (List.mem_of_getElem? (i := 3) rfl)
theorem tw4 {Z : State} {a0 : Array Value} (hw : ∀ d ∈ tables_1, d.before a0 Z = true) : ((Jvm.Cond.methodLink "com/example/bulkstep/bulkstep/engine/IndexSetAddPinLaw" (10 : Nat) ({ cls := "com/example/bulkstep/bulkstep/engine/IndexSet", name := "<init>", desc := "(I)V" } : Jvm.MethodName))).before a0 Z = true := hw _ (List.mem_of_getElem? (i := 4) rfl)
theorem tw5 {Z : State} {a0 : Array Value} (hw : ∀ d ∈ tables_1, d.before a0 Z = true) : ((Jvm.Cond.instanceMethod ({ cls := "com/example/bulkstep/bulkstep/engine/IndexSet", name := "<init>", desc := "(I)V" } : Jvm.MethodName))).before a0 Z = true := hw _ (List.mem_of_getElem? (i := 5) rfl)
theorem tw6 {Z : State} {a0 : Array Value} (hw : ∀ d ∈ tables_1, d.before a0 Z = true) : ((Jvm.Cond.code ({ cls := "com/example/bulkstep/bulkstep/engine/IndexSet", name := "<init>", desc := "(I)V" } : Jvm.MethodName) prog_26_method_1_code (2 : Nat) (Option.none : Option Jvm.ClassFile.FieldType))).before a0 Z = true := hw _ (List.mem_of_getElem? (i := 6) rfl)
theorem tw7 {Z : State} {a0 : Array Value} (hw : ∀ d ∈ tables_1, d.before a0 Z = true) : ((Jvm.Cond.methodLink "com/example/bulkstep/bulkstep/engine/IndexSet" (1 : Nat) ({ cls := "java/lang/Object", name := "<init>", desc := "()V" } : Jvm.MethodName))).before a0 Z = true := hw _ (List.mem_of_getElem? (i := 7) rfl)
theorem tw8 {Z : State} {a0 : Array Value} (hw : ∀ d ∈ tables_1, d.before a0 Z = true) : ((Jvm.Cond.instanceMethod ({ cls := "java/lang/Object", name := "<init>", desc := "()V" } : Jvm.MethodName))).before a0 Z = true := hw _ (List.mem_of_getElem? (i := 8) rfl)
theorem tw9 {Z : State} {a0 : Array Value} (hw : ∀ d ∈ tables_1, d.before a0 Z = true) : ((Jvm.Cond.code ({ cls := "java/lang/Object", name := "<init>", desc := "()V" } : Jvm.MethodName) object_method_1_code (1 : Nat) (Option.none : Option Jvm.ClassFile.FieldType))).before a0 Z = true := hw _ (List.mem_of_getElem? (i := 9) rfl)
theorem tw10 {Z : State} {a0 : Array Value} (hw : ∀ d ∈ tables_1, d.before a0 Z = true) : ((Jvm.Cond.arrayClass Jvm.ClassFile.FieldType.long)).before a0 Z = true := hw _ (List.mem_of_getElem? (i := 10) rfl)
theorem tw11 {Z : State} {a0 : Array Value} (hw : ∀ d ∈ tables_1, d.before a0 Z = true) : ((Jvm.Cond.fieldLink "com/example/bulkstep/bulkstep/engine/IndexSet" (7 : Nat) "com/example/bulkstep/bulkstep/engine/IndexSet" "words" "[J")).before a0 Z = true := hw _ (List.mem_of_getElem? (i := 11) rfl)
theorem tw12 {Z : State} {a0 : Array Value} (hw : ∀ d ∈ tables_1, d.before a0 Z = true) : ((Jvm.Cond.laysFinal "com/example/bulkstep/bulkstep/engine/IndexSet" "com/example/bulkstep/bulkstep/engine/IndexSet" "words" "[J")).before a0 Z = true := hw _ (List.mem_of_getElem? (i := 12) rfl)
theorem tw13 {Z : State} {a0 : Array Value} (hw : ∀ d ∈ tables_1, d.before a0 Z = true) : ((Jvm.Cond.fieldLink "com/example/bulkstep/bulkstep/engine/IndexSet" (13 : Nat) "com/example/bulkstep/bulkstep/engine/IndexSet" "held" "[J")).before a0 Z = true := hw _ (List.mem_of_getElem? (i := 13) rfl)
theorem tw14 {Z : State} {a0 : Array Value} (hw : ∀ d ∈ tables_1, d.before a0 Z = true) : ((Jvm.Cond.laysFinal "com/example/bulkstep/bulkstep/engine/IndexSet" "com/example/bulkstep/bulkstep/engine/IndexSet" "held" "[J")).before a0 Z = true := hw _ (List.mem_of_getElem? (i := 14) rfl)
theorem tw15 {Z : State} {a0 : Array Value} (hw : ∀ d ∈ tables_1, d.before a0 Z = true) : ((Jvm.Cond.methodLink "com/example/bulkstep/bulkstep/engine/IndexSetAddPinLaw" (16 : Nat) ({ cls := "com/example/bulkstep/bulkstep/engine/IndexSet", name := "contains", desc := "(I)Z" } : Jvm.MethodName))).before a0 Z = true := hw _ (List.mem_of_getElem? (i := 15) rfl)
theorem tw16 {Z : State} {a0 : Array Value} (hw : ∀ d ∈ tables_1, d.before a0 Z = true) : ((Jvm.Cond.declares ({ cls := "com/example/bulkstep/bulkstep/engine/IndexSet", name := "contains", desc := "(I)Z" } : Jvm.MethodName))).before a0 Z = true := hw _ (List.mem_of_getElem? (i := 16) rfl)
theorem tw17 {Z : State} {a0 : Array Value} (hw : ∀ d ∈ tables_1, d.before a0 Z = true) : ((Jvm.Cond.instanceMethod ({ cls := "com/example/bulkstep/bulkstep/engine/IndexSet", name := "contains", desc := "(I)Z" } : Jvm.MethodName))).before a0 Z = true := hw _ (List.mem_of_getElem? (i := 17) rfl)
theorem tw18 {Z : State} {a0 : Array Value} (hw : ∀ d ∈ tables_1, d.before a0 Z = true) : ((Jvm.Cond.selects "com/example/bulkstep/bulkstep/engine/IndexSet" ({ cls := "com/example/bulkstep/bulkstep/engine/IndexSet", name := "contains", desc := "(I)Z" } : Jvm.MethodName) ({ cls := "com/example/bulkstep/bulkstep/engine/IndexSet", name := "contains", desc := "(I)Z" } : Jvm.MethodName))).before a0 Z = true := hw _ (List.mem_of_getElem? (i := 18) rfl)
theorem tw19 {Z : State} {a0 : Array Value} (hw : ∀ d ∈ tables_1, d.before a0 Z = true) : ((Jvm.Cond.code ({ cls := "com/example/bulkstep/bulkstep/engine/IndexSet", name := "contains", desc := "(I)Z" } : Jvm.MethodName) prog_26_method_2_code (2 : Nat) (Option.some Jvm.ClassFile.FieldType.boolean))).before a0 Z = true := hw _ (List.mem_of_getElem? (i := 19) rfl)
theorem tw20 {Z : State} {a0 : Array Value} (hw : ∀ d ∈ tables_1, d.before a0 Z = true) : ((Jvm.Cond.methodLink "com/example/bulkstep/bulkstep/engine/IndexSetAddPinLaw" (20 : Nat) ({ cls := "com/example/bulkstep/bulkstep/engine/IndexSetAddPinLaw", name := "cand", desc := "(IZII)I" } : Jvm.MethodName))).before a0 Z = true := hw _ (List.mem_of_getElem? (i := 20) rfl)
theorem tw21 {Z : State} {a0 : Array Value} (hw : ∀ d ∈ tables_1, d.before a0 Z = true) : ((Jvm.Cond.static ({ cls := "com/example/bulkstep/bulkstep/engine/IndexSetAddPinLaw", name := "cand", desc := "(IZII)I" } : Jvm.MethodName))).before a0 Z = true := hw _ (List.mem_of_getElem? (i := 21) rfl)
theorem tw22 {Z : State} {a0 : Array Value} (hw : ∀ d ∈ tables_1, d.before a0 Z = true) : ((Jvm.Cond.initialized "com/example/bulkstep/bulkstep/engine/IndexSetAddPinLaw")).before a0 Z = true := hw _ (List.mem_of_getElem? (i := 22) rfl)
theorem tw23 {Z : State} {a0 : Array Value} (hw : ∀ d ∈ tables_1, d.before a0 Z = true) : ((Jvm.Cond.code ({ cls := "com/example/bulkstep/bulkstep/engine/IndexSetAddPinLaw", name := "cand", desc := "(IZII)I" } : Jvm.MethodName) method_2_code (4 : Nat) (Option.some Jvm.ClassFile.FieldType.int))).before a0 Z = true := hw _ (List.mem_of_getElem? (i := 23) rfl)
theorem tw24 {Z : State} {a0 : Array Value} (hw : ∀ d ∈ tables_1, d.before a0 Z = true) : ((Jvm.Cond.methodLink "com/example/bulkstep/bulkstep/engine/IndexSetAddPinLaw" (26 : Nat) ({ cls := "com/example/bulkstep/bulkstep/engine/IndexSet", name := "next", desc := "(I)I" } : Jvm.MethodName))).before a0 Z = true := hw _ (List.mem_of_getElem? (i := 24) rfl)
theorem tw25 {Z : State} {a0 : Array Value} (hw : ∀ d ∈ tables_1, d.before a0 Z = true) : ((Jvm.Cond.declares ({ cls := "com/example/bulkstep/bulkstep/engine/IndexSet", name := "next", desc := "(I)I" } : Jvm.MethodName))).before a0 Z = true := hw _ (List.mem_of_getElem? (i := 25) rfl)
theorem tw26 {Z : State} {a0 : Array Value} (hw : ∀ d ∈ tables_1, d.before a0 Z = true) : ((Jvm.Cond.instanceMethod ({ cls := "com/example/bulkstep/bulkstep/engine/IndexSet", name := "next", desc := "(I)I" } : Jvm.MethodName))).before a0 Z = true := hw _ (List.mem_of_getElem? (i := 26) rfl)
theorem tw27 {Z : State} {a0 : Array Value} (hw : ∀ d ∈ tables_1, d.before a0 Z = true) : ((Jvm.Cond.selects "com/example/bulkstep/bulkstep/engine/IndexSet" ({ cls := "com/example/bulkstep/bulkstep/engine/IndexSet", name := "next", desc := "(I)I" } : Jvm.MethodName) ({ cls := "com/example/bulkstep/bulkstep/engine/IndexSet", name := "next", desc := "(I)I" } : Jvm.MethodName))).before a0 Z = true := hw _ (List.mem_of_getElem? (i := 27) rfl)
theorem tw28 {Z : State} {a0 : Array Value} (hw : ∀ d ∈ tables_1, d.before a0 Z = true) : ((Jvm.Cond.code ({ cls := "com/example/bulkstep/bulkstep/engine/IndexSet", name := "next", desc := "(I)I" } : Jvm.MethodName) prog_26_method_7_code (5 : Nat) (Option.some Jvm.ClassFile.FieldType.int))).before a0 Z = true := hw _ (List.mem_of_getElem? (i := 28) rfl)
theorem tw29 {Z : State} {a0 : Array Value} (hw : ∀ d ∈ tables_1, d.before a0 Z = true) : ((Jvm.Cond.constantLong "com/example/bulkstep/bulkstep/engine/IndexSet" (16 : Nat) (-1 : Int64))).before a0 Z = true := hw _ (List.mem_of_getElem? (i := 29) rfl)
theorem tw30 {Z : State} {a0 : Array Value} (hw : ∀ d ∈ tables_1, d.before a0 Z = true) : ((Jvm.Cond.methodLink "com/example/bulkstep/bulkstep/engine/IndexSet" (24 : Nat) ({ cls := "com/example/bulkstep/bulkstep/engine/IndexSet", name := "nextWord", desc := "(I)I" } : Jvm.MethodName))).before a0 Z = true := hw _ (List.mem_of_getElem? (i := 30) rfl)
theorem tw31 {Z : State} {a0 : Array Value} (hw : ∀ d ∈ tables_1, d.before a0 Z = true) : ((Jvm.Cond.instanceMethod ({ cls := "com/example/bulkstep/bulkstep/engine/IndexSet", name := "nextWord", desc := "(I)I" } : Jvm.MethodName))).before a0 Z = true := hw _ (List.mem_of_getElem? (i := 31) rfl)
theorem tw32 {Z : State} {a0 : Array Value} (hw : ∀ d ∈ tables_1, d.before a0 Z = true) : ((Jvm.Cond.privateMethod ({ cls := "com/example/bulkstep/bulkstep/engine/IndexSet", name := "nextWord", desc := "(I)I" } : Jvm.MethodName))).before a0 Z = true := hw _ (List.mem_of_getElem? (i := 32) rfl)
theorem tw33 {Z : State} {a0 : Array Value} (hw : ∀ d ∈ tables_1, d.before a0 Z = true) : ((Jvm.Cond.code ({ cls := "com/example/bulkstep/bulkstep/engine/IndexSet", name := "nextWord", desc := "(I)I" } : Jvm.MethodName) prog_26_method_9_code (5 : Nat) (Option.some Jvm.ClassFile.FieldType.int))).before a0 Z = true := hw _ (List.mem_of_getElem? (i := 33) rfl)
theorem tw34 {Z : State} {a0 : Array Value} (hw : ∀ d ∈ tables_1, d.before a0 Z = true) : ((Jvm.Cond.methodLink "com/example/bulkstep/bulkstep/engine/IndexSetAddPinLaw" (30 : Nat) ({ cls := "com/example/bulkstep/bulkstep/engine/IndexSet", name := "isEmpty", desc := "()Z" } : Jvm.MethodName))).before a0 Z = true := hw _ (List.mem_of_getElem? (i := 34) rfl)
theorem tw35 {Z : State} {a0 : Array Value} (hw : ∀ d ∈ tables_1, d.before a0 Z = true) : ((Jvm.Cond.declares ({ cls := "com/example/bulkstep/bulkstep/engine/IndexSet", name := "isEmpty", desc := "()Z" } : Jvm.MethodName))).before a0 Z = true := hw _ (List.mem_of_getElem? (i := 35) rfl)
theorem tw36 {Z : State} {a0 : Array Value} (hw : ∀ d ∈ tables_1, d.before a0 Z = true) : ((Jvm.Cond.instanceMethod ({ cls := "com/example/bulkstep/bulkstep/engine/IndexSet", name := "isEmpty", desc := "()Z" } : Jvm.MethodName))).before a0 Z = true := hw _ (List.mem_of_getElem? (i := 36) rfl)
theorem tw37 {Z : State} {a0 : Array Value} (hw : ∀ d ∈ tables_1, d.before a0 Z = true) : ((Jvm.Cond.selects "com/example/bulkstep/bulkstep/engine/IndexSet" ({ cls := "com/example/bulkstep/bulkstep/engine/IndexSet", name := "isEmpty", desc := "()Z" } : Jvm.MethodName) ({ cls := "com/example/bulkstep/bulkstep/engine/IndexSet", name := "isEmpty", desc := "()Z" } : Jvm.MethodName))).before a0 Z = true := hw _ (List.mem_of_getElem? (i := 37) rfl)
theorem tw38 {Z : State} {a0 : Array Value} (hw : ∀ d ∈ tables_1, d.before a0 Z = true) : ((Jvm.Cond.code ({ cls := "com/example/bulkstep/bulkstep/engine/IndexSet", name := "isEmpty", desc := "()Z" } : Jvm.MethodName) prog_26_method_6_code (1 : Nat) (Option.some Jvm.ClassFile.FieldType.boolean))).before a0 Z = true := hw _ (List.mem_of_getElem? (i := 38) rfl)
theorem tw39 {Z : State} {a0 : Array Value} (hw : ∀ d ∈ tables_1, d.before a0 Z = true) : ((Jvm.Cond.methodLink "com/example/bulkstep/bulkstep/engine/IndexSetAddPinLaw" (34 : Nat) ({ cls := "com/example/bulkstep/bulkstep/engine/IndexSet", name := "clear", desc := "()V" } : Jvm.MethodName))).before a0 Z = true := hw _ (List.mem_of_getElem? (i := 39) rfl)
theorem tw40 {Z : State} {a0 : Array Value} (hw : ∀ d ∈ tables_1, d.before a0 Z = true) : ((Jvm.Cond.declares ({ cls := "com/example/bulkstep/bulkstep/engine/IndexSet", name := "clear", desc := "()V" } : Jvm.MethodName))).before a0 Z = true := hw _ (List.mem_of_getElem? (i := 40) rfl)
theorem tw41 {Z : State} {a0 : Array Value} (hw : ∀ d ∈ tables_1, d.before a0 Z = true) : ((Jvm.Cond.instanceMethod ({ cls := "com/example/bulkstep/bulkstep/engine/IndexSet", name := "clear", desc := "()V" } : Jvm.MethodName))).before a0 Z = true := hw _ (List.mem_of_getElem? (i := 41) rfl)
theorem tw42 {Z : State} {a0 : Array Value} (hw : ∀ d ∈ tables_1, d.before a0 Z = true) : ((Jvm.Cond.selects "com/example/bulkstep/bulkstep/engine/IndexSet" ({ cls := "com/example/bulkstep/bulkstep/engine/IndexSet", name := "clear", desc := "()V" } : Jvm.MethodName) ({ cls := "com/example/bulkstep/bulkstep/engine/IndexSet", name := "clear", desc := "()V" } : Jvm.MethodName))).before a0 Z = true := hw _ (List.mem_of_getElem? (i := 42) rfl)
theorem tw43 {Z : State} {a0 : Array Value} (hw : ∀ d ∈ tables_1, d.before a0 Z = true) : ((Jvm.Cond.code ({ cls := "com/example/bulkstep/bulkstep/engine/IndexSet", name := "clear", desc := "()V" } : Jvm.MethodName) prog_26_method_8_code (4 : Nat) (Option.none : Option Jvm.ClassFile.FieldType))).before a0 Z = true := hw _ (List.mem_of_getElem? (i := 43) rfl)
theorem tw44 {Z : State} {a0 : Array Value} (hw : ∀ d ∈ tables_1, d.before a0 Z = true) : ((Jvm.Cond.methodLink "com/example/bulkstep/bulkstep/engine/IndexSetAddPinLaw" (13 : Nat) ({ cls := "com/example/bulkstep/bulkstep/engine/IndexSet", name := "add", desc := "(I)V" } : Jvm.MethodName))).before a0 Z = true := hw _ (List.mem_of_getElem? (i := 44) rfl)
theorem tw45 {Z : State} {a0 : Array Value} (hw : ∀ d ∈ tables_1, d.before a0 Z = true) : ((Jvm.Cond.declares ({ cls := "com/example/bulkstep/bulkstep/engine/IndexSet", name := "add", desc := "(I)V" } : Jvm.MethodName))).before a0 Z = true := hw _ (List.mem_of_getElem? (i := 45) rfl)
theorem tw46 {Z : State} {a0 : Array Value} (hw : ∀ d ∈ tables_1, d.before a0 Z = true) : ((Jvm.Cond.instanceMethod ({ cls := "com/example/bulkstep/bulkstep/engine/IndexSet", name := "add", desc := "(I)V" } : Jvm.MethodName))).before a0 Z = true := hw _ (List.mem_of_getElem? (i := 46) rfl)
theorem tw47 {Z : State} {a0 : Array Value} (hw : ∀ d ∈ tables_1, d.before a0 Z = true) : ((Jvm.Cond.selects "com/example/bulkstep/bulkstep/engine/IndexSet" ({ cls := "com/example/bulkstep/bulkstep/engine/IndexSet", name := "add", desc := "(I)V" } : Jvm.MethodName) ({ cls := "com/example/bulkstep/bulkstep/engine/IndexSet", name := "add", desc := "(I)V" } : Jvm.MethodName))).before a0 Z = true := hw _ (List.mem_of_getElem? (i := 47) rfl)
theorem tw48 {Z : State} {a0 : Array Value} (hw : ∀ d ∈ tables_1, d.before a0 Z = true) : ((Jvm.Cond.code ({ cls := "com/example/bulkstep/bulkstep/engine/IndexSet", name := "add", desc := "(I)V" } : Jvm.MethodName) prog_26_method_3_code (5 : Nat) (Option.none : Option Jvm.ClassFile.FieldType))).before a0 Z = true := hw _ (List.mem_of_getElem? (i := 48) rfl)
theorem tw49 {Z : State} {a0 : Array Value} (hw : ∀ d ∈ tables_1, d.before a0 Z = true) : ((Jvm.Cond.methodLink "com/example/bulkstep/bulkstep/engine/IndexSet" (18 : Nat) ({ cls := "java/lang/Long", name := "numberOfTrailingZeros", desc := "(J)I" } : Jvm.MethodName))).before a0 Z = true := hw _ (List.mem_of_getElem? (i := 49) rfl)
theorem tw50 {Z : State} {a0 : Array Value} (hw : ∀ d ∈ tables_1, d.before a0 Z = true) : ((Jvm.Cond.static ({ cls := "java/lang/Long", name := "numberOfTrailingZeros", desc := "(J)I" } : Jvm.MethodName))).before a0 Z = true := hw _ (List.mem_of_getElem? (i := 50) rfl)
theorem tw51 {Z : State} {a0 : Array Value} (hw : ∀ d ∈ tables_1, d.before a0 Z = true) : ((Jvm.Cond.initialized "java/lang/Long")).before a0 Z = true := hw _ (List.mem_of_getElem? (i := 51) rfl)
theorem tw52 {Z : State} {a0 : Array Value} (hw : ∀ d ∈ tables_1, d.before a0 Z = true) : ((Jvm.Cond.code ({ cls := "java/lang/Long", name := "numberOfTrailingZeros", desc := "(J)I" } : Jvm.MethodName) jdk_35_method_49_code (3 : Nat) (Option.some Jvm.ClassFile.FieldType.int))).before a0 Z = true := hw _ (List.mem_of_getElem? (i := 52) rfl)
theorem tw53 {Z : State} {a0 : Array Value} (hw : ∀ d ∈ tables_1, d.before a0 Z = true) : ((Jvm.Cond.methodLink "java/lang/Long" (311 : Nat) ({ cls := "java/lang/Integer", name := "numberOfTrailingZeros", desc := "(I)I" } : Jvm.MethodName))).before a0 Z = true := hw _ (List.mem_of_getElem? (i := 53) rfl)
theorem tw54 {Z : State} {a0 : Array Value} (hw : ∀ d ∈ tables_1, d.before a0 Z = true) : ((Jvm.Cond.static ({ cls := "java/lang/Integer", name := "numberOfTrailingZeros", desc := "(I)I" } : Jvm.MethodName))).before a0 Z = true := hw _ (List.mem_of_getElem? (i := 54) rfl)
theorem tw55 {Z : State} {a0 : Array Value} (hw : ∀ d ∈ tables_1, d.before a0 Z = true) : ((Jvm.Cond.initialized "java/lang/Integer")).before a0 Z = true := hw _ (List.mem_of_getElem? (i := 55) rfl)
theorem tw56 {Z : State} {a0 : Array Value} (hw : ∀ d ∈ tables_1, d.before a0 Z = true) : ((Jvm.Cond.code ({ cls := "java/lang/Integer", name := "numberOfTrailingZeros", desc := "(I)I" } : Jvm.MethodName) jdk_33_method_48_code (2 : Nat) (Option.some Jvm.ClassFile.FieldType.int))).before a0 Z = true := hw _ (List.mem_of_getElem? (i := 56) rfl)
theorem tw57 {Z : State} {a0 : Array Value} (hw : ∀ d ∈ tables_1, d.before a0 Z = true) : ((Jvm.Cond.constant "java/lang/Integer" (264 : Nat) (65536 : Int32))).before a0 Z = true := hw _ (List.mem_of_getElem? (i := 57) rfl)
theorem pd0 : parseMethodDescriptor "(I)I" = some ⟨[.int], some .int⟩ := by decide +kernel
theorem pd1 : parseMethodDescriptor "(J)I" = some ⟨[.long], some .int⟩ := by decide +kernel
theorem pd2 : parseMethodDescriptor "(I)V" = some ⟨[.int], none⟩ := by decide +kernel
theorem pd3 : parseMethodDescriptor "(I)Z" = some ⟨[.int], some .boolean⟩ := by decide +kernel
theorem pd4 : parseMethodDescriptor "(IZII)I" = some ⟨[.int, .boolean, .int, .int], some .int⟩ := by decide +kernel
theorem pd5 : parseMethodDescriptor "()Z" = some ⟨[], some .boolean⟩ := by decide +kernel
theorem pd6 : parseMethodDescriptor "()V" = some ⟨[], none⟩ := by decide +kernel
theorem d1_0 : decode prog_26_method_1_code 0 = .ok (.aload_n 0, 1) := by decide +kernel
theorem d1_1 : decode prog_26_method_1_code 1 = .ok (.invokespecial 1, 3) := by decide +kernel
theorem d1_4 : decode prog_26_method_1_code 4 = .ok (.aload_n 0, 1) := by decide +kernel
theorem d1_5 : decode prog_26_method_1_code 5 = .ok (.iload_n 1, 1) := by decide +kernel
theorem d1_6 : decode prog_26_method_1_code 6 = .ok (.bipush 63, 2) := by decide +kernel
theorem d1_8 : decode prog_26_method_1_code 8 = .ok (.iadd, 1) := by decide +kernel
theorem d1_9 : decode prog_26_method_1_code 9 = .ok (.bipush 6, 2) := by decide +kernel
theorem d1_11 : decode prog_26_method_1_code 11 = .ok (.iushr, 1) := by decide +kernel
theorem d1_12 : decode prog_26_method_1_code 12 = .ok (.newarray .long, 2) := by decide +kernel
theorem d1_14 : decode prog_26_method_1_code 14 = .ok (.putfield 7, 3) := by decide +kernel
theorem d1_17 : decode prog_26_method_1_code 17 = .ok (.aload_n 0, 1) := by decide +kernel
theorem d1_18 : decode prog_26_method_1_code 18 = .ok (.aload_n 0, 1) := by decide +kernel
theorem d1_19 : decode prog_26_method_1_code 19 = .ok (.getfield 7, 3) := by decide +kernel
theorem d1_22 : decode prog_26_method_1_code 22 = .ok (.arraylength, 1) := by decide +kernel
theorem d1_23 : decode prog_26_method_1_code 23 = .ok (.bipush 63, 2) := by decide +kernel
theorem d1_25 : decode prog_26_method_1_code 25 = .ok (.iadd, 1) := by decide +kernel
theorem d1_26 : decode prog_26_method_1_code 26 = .ok (.bipush 6, 2) := by decide +kernel
theorem d1_28 : decode prog_26_method_1_code 28 = .ok (.iushr, 1) := by decide +kernel
theorem d1_29 : decode prog_26_method_1_code 29 = .ok (.newarray .long, 2) := by decide +kernel
theorem d1_31 : decode prog_26_method_1_code 31 = .ok (.putfield 13, 3) := by decide +kernel
theorem d1_34 : decode prog_26_method_1_code 34 = .ok (.return_, 1) := by decide +kernel
theorem d3_0 : decode prog_26_method_2_code 0 = .ok (.aload_n 0, 1) := by decide +kernel
theorem d3_1 : decode prog_26_method_2_code 1 = .ok (.getfield 7, 3) := by decide +kernel
theorem d3_4 : decode prog_26_method_2_code 4 = .ok (.iload_n 1, 1) := by decide +kernel
theorem d3_5 : decode prog_26_method_2_code 5 = .ok (.bipush 6, 2) := by decide +kernel
theorem d3_7 : decode prog_26_method_2_code 7 = .ok (.iushr, 1) := by decide +kernel
theorem d3_8 : decode prog_26_method_2_code 8 = .ok (.laload, 1) := by decide +kernel
theorem d3_9 : decode prog_26_method_2_code 9 = .ok (.lconst 1, 1) := by decide +kernel
theorem d3_10 : decode prog_26_method_2_code 10 = .ok (.iload_n 1, 1) := by decide +kernel
theorem d3_11 : decode prog_26_method_2_code 11 = .ok (.lshl, 1) := by decide +kernel
theorem d3_12 : decode prog_26_method_2_code 12 = .ok (.land, 1) := by decide +kernel
theorem d3_13 : decode prog_26_method_2_code 13 = .ok (.lconst 0, 1) := by decide +kernel
theorem d3_14 : decode prog_26_method_2_code 14 = .ok (.lcmp, 1) := by decide +kernel
theorem d3_15 : decode prog_26_method_2_code 15 = .ok (.ifCond .eq 7, 3) := by decide +kernel
theorem d3_18 : decode prog_26_method_2_code 18 = .ok (.iconst 1, 1) := by decide +kernel
theorem d3_19 : decode prog_26_method_2_code 19 = .ok (.goto 4, 3) := by decide +kernel
theorem d3_22 : decode prog_26_method_2_code 22 = .ok (.iconst 0, 1) := by decide +kernel
theorem d3_23 : decode prog_26_method_2_code 23 = .ok (.ireturn, 1) := by decide +kernel
theorem d4_0 : decode method_2_code 0 = .ok (.iload_n 1, 1) := by decide +kernel
theorem d4_1 : decode method_2_code 1 = .ok (.ifCond .eq 19, 3) := by decide +kernel
theorem d4_4 : decode method_2_code 4 = .ok (.iload_n 0, 1) := by decide +kernel
theorem d4_5 : decode method_2_code 5 = .ok (.iload_n 2, 1) := by decide +kernel
theorem d4_6 : decode method_2_code 6 = .ok (.if_icmp .lt 14, 3) := by decide +kernel
theorem d4_9 : decode method_2_code 9 = .ok (.iload_n 3, 1) := by decide +kernel
theorem d4_10 : decode method_2_code 10 = .ok (.ifCond .lt 8, 3) := by decide +kernel
theorem d4_13 : decode method_2_code 13 = .ok (.iload_n 0, 1) := by decide +kernel
theorem d4_14 : decode method_2_code 14 = .ok (.iload_n 3, 1) := by decide +kernel
theorem d4_15 : decode method_2_code 15 = .ok (.if_icmp .ge 5, 3) := by decide +kernel
theorem d4_18 : decode method_2_code 18 = .ok (.iload_n 0, 1) := by decide +kernel
theorem d4_19 : decode method_2_code 19 = .ok (.ireturn, 1) := by decide +kernel
theorem d4_20 : decode method_2_code 20 = .ok (.iload_n 3, 1) := by decide +kernel
theorem d4_21 : decode method_2_code 21 = .ok (.ireturn, 1) := by decide +kernel
theorem d5_0 : decode prog_26_method_7_code 0 = .ok (.iload_n 1, 1) := by decide +kernel
theorem d5_1 : decode prog_26_method_7_code 1 = .ok (.bipush 6, 2) := by decide +kernel
theorem d5_3 : decode prog_26_method_7_code 3 = .ok (.iushr, 1) := by decide +kernel
theorem d5_4 : decode prog_26_method_7_code 4 = .ok (.istore_n 2, 1) := by decide +kernel
theorem d5_5 : decode prog_26_method_7_code 5 = .ok (.iload_n 2, 1) := by decide +kernel
theorem d5_6 : decode prog_26_method_7_code 6 = .ok (.aload_n 0, 1) := by decide +kernel
theorem d5_7 : decode prog_26_method_7_code 7 = .ok (.getfield 7, 3) := by decide +kernel
theorem d5_10 : decode prog_26_method_7_code 10 = .ok (.arraylength, 1) := by decide +kernel
theorem d5_11 : decode prog_26_method_7_code 11 = .ok (.if_icmp .lt 5, 3) := by decide +kernel
theorem d5_14 : decode prog_26_method_7_code 14 = .ok (.iconst (-1), 1) := by decide +kernel
theorem d5_15 : decode prog_26_method_7_code 15 = .ok (.ireturn, 1) := by decide +kernel
theorem d5_16 : decode prog_26_method_7_code 16 = .ok (.aload_n 0, 1) := by decide +kernel
theorem d5_17 : decode prog_26_method_7_code 17 = .ok (.getfield 7, 3) := by decide +kernel
theorem d5_20 : decode prog_26_method_7_code 20 = .ok (.iload_n 2, 1) := by decide +kernel
theorem d5_21 : decode prog_26_method_7_code 21 = .ok (.laload, 1) := by decide +kernel
theorem d5_22 : decode prog_26_method_7_code 22 = .ok (.ldc2_w 16, 3) := by decide +kernel
theorem d5_25 : decode prog_26_method_7_code 25 = .ok (.iload_n 1, 1) := by decide +kernel
theorem d5_26 : decode prog_26_method_7_code 26 = .ok (.lshl, 1) := by decide +kernel
theorem d5_27 : decode prog_26_method_7_code 27 = .ok (.land, 1) := by decide +kernel
theorem d5_28 : decode prog_26_method_7_code 28 = .ok (.lstore_n 3, 1) := by decide +kernel
theorem d5_29 : decode prog_26_method_7_code 29 = .ok (.lload_n 3, 1) := by decide +kernel
theorem d5_30 : decode prog_26_method_7_code 30 = .ok (.lconst 0, 1) := by decide +kernel
theorem d5_31 : decode prog_26_method_7_code 31 = .ok (.lcmp, 1) := by decide +kernel
theorem d5_32 : decode prog_26_method_7_code 32 = .ok (.ifCond .ne 24, 3) := by decide +kernel
theorem d5_35 : decode prog_26_method_7_code 35 = .ok (.aload_n 0, 1) := by decide +kernel
theorem d5_36 : decode prog_26_method_7_code 36 = .ok (.iload_n 2, 1) := by decide +kernel
theorem d5_37 : decode prog_26_method_7_code 37 = .ok (.iconst 1, 1) := by decide +kernel
theorem d5_38 : decode prog_26_method_7_code 38 = .ok (.iadd, 1) := by decide +kernel
theorem d5_39 : decode prog_26_method_7_code 39 = .ok (.invokevirtual 24, 3) := by decide +kernel
theorem d5_42 : decode prog_26_method_7_code 42 = .ok (.istore_n 2, 1) := by decide +kernel
theorem d5_43 : decode prog_26_method_7_code 43 = .ok (.iload_n 2, 1) := by decide +kernel
theorem d5_44 : decode prog_26_method_7_code 44 = .ok (.ifCond .ge 5, 3) := by decide +kernel
theorem d5_47 : decode prog_26_method_7_code 47 = .ok (.iconst (-1), 1) := by decide +kernel
theorem d5_48 : decode prog_26_method_7_code 48 = .ok (.ireturn, 1) := by decide +kernel
theorem d5_49 : decode prog_26_method_7_code 49 = .ok (.aload_n 0, 1) := by decide +kernel
theorem d5_50 : decode prog_26_method_7_code 50 = .ok (.getfield 7, 3) := by decide +kernel
theorem d5_53 : decode prog_26_method_7_code 53 = .ok (.iload_n 2, 1) := by decide +kernel
theorem d5_54 : decode prog_26_method_7_code 54 = .ok (.laload, 1) := by decide +kernel
theorem d5_55 : decode prog_26_method_7_code 55 = .ok (.lstore_n 3, 1) := by decide +kernel
theorem d5_56 : decode prog_26_method_7_code 56 = .ok (.iload_n 2, 1) := by decide +kernel
theorem d5_57 : decode prog_26_method_7_code 57 = .ok (.bipush 6, 2) := by decide +kernel
theorem d5_59 : decode prog_26_method_7_code 59 = .ok (.ishl, 1) := by decide +kernel
theorem d5_60 : decode prog_26_method_7_code 60 = .ok (.lload_n 3, 1) := by decide +kernel
theorem d5_61 : decode prog_26_method_7_code 61 = .ok (.invokestatic 18, 3) := by decide +kernel
theorem d5_64 : decode prog_26_method_7_code 64 = .ok (.ior, 1) := by decide +kernel
theorem d5_65 : decode prog_26_method_7_code 65 = .ok (.ireturn, 1) := by decide +kernel
theorem d6_0 : decode prog_26_method_9_code 0 = .ok (.iload_n 1, 1) := by decide +kernel
theorem d6_1 : decode prog_26_method_9_code 1 = .ok (.bipush 6, 2) := by decide +kernel
theorem d6_3 : decode prog_26_method_9_code 3 = .ok (.iushr, 1) := by decide +kernel
theorem d6_4 : decode prog_26_method_9_code 4 = .ok (.istore_n 2, 1) := by decide +kernel
theorem d6_5 : decode prog_26_method_9_code 5 = .ok (.iload_n 2, 1) := by decide +kernel
theorem d6_6 : decode prog_26_method_9_code 6 = .ok (.aload_n 0, 1) := by decide +kernel
theorem d6_7 : decode prog_26_method_9_code 7 = .ok (.getfield 13, 3) := by decide +kernel
theorem d6_10 : decode prog_26_method_9_code 10 = .ok (.arraylength, 1) := by decide +kernel
theorem d6_11 : decode prog_26_method_9_code 11 = .ok (.if_icmp .lt 5, 3) := by decide +kernel
theorem d6_14 : decode prog_26_method_9_code 14 = .ok (.iconst (-1), 1) := by decide +kernel
theorem d6_15 : decode prog_26_method_9_code 15 = .ok (.ireturn, 1) := by decide +kernel
theorem d6_16 : decode prog_26_method_9_code 16 = .ok (.aload_n 0, 1) := by decide +kernel
theorem d6_17 : decode prog_26_method_9_code 17 = .ok (.getfield 13, 3) := by decide +kernel
theorem d6_20 : decode prog_26_method_9_code 20 = .ok (.iload_n 2, 1) := by decide +kernel
theorem d6_21 : decode prog_26_method_9_code 21 = .ok (.laload, 1) := by decide +kernel
theorem d6_22 : decode prog_26_method_9_code 22 = .ok (.ldc2_w 16, 3) := by decide +kernel
theorem d6_25 : decode prog_26_method_9_code 25 = .ok (.iload_n 1, 1) := by decide +kernel
theorem d6_26 : decode prog_26_method_9_code 26 = .ok (.lshl, 1) := by decide +kernel
theorem d6_27 : decode prog_26_method_9_code 27 = .ok (.land, 1) := by decide +kernel
theorem d6_28 : decode prog_26_method_9_code 28 = .ok (.lstore_n 3, 1) := by decide +kernel
theorem d6_29 : decode prog_26_method_9_code 29 = .ok (.lload_n 3, 1) := by decide +kernel
theorem d6_30 : decode prog_26_method_9_code 30 = .ok (.lconst 0, 1) := by decide +kernel
theorem d6_31 : decode prog_26_method_9_code 31 = .ok (.lcmp, 1) := by decide +kernel
theorem d6_32 : decode prog_26_method_9_code 32 = .ok (.ifCond .ne 27, 3) := by decide +kernel
theorem d6_35 : decode prog_26_method_9_code 35 = .ok (.iinc 2 1, 3) := by decide +kernel
theorem d6_38 : decode prog_26_method_9_code 38 = .ok (.iload_n 2, 1) := by decide +kernel
theorem d6_39 : decode prog_26_method_9_code 39 = .ok (.aload_n 0, 1) := by decide +kernel
theorem d6_40 : decode prog_26_method_9_code 40 = .ok (.getfield 13, 3) := by decide +kernel
theorem d6_43 : decode prog_26_method_9_code 43 = .ok (.arraylength, 1) := by decide +kernel
theorem d6_44 : decode prog_26_method_9_code 44 = .ok (.if_icmp .ne 5, 3) := by decide +kernel
theorem d6_47 : decode prog_26_method_9_code 47 = .ok (.iconst (-1), 1) := by decide +kernel
theorem d6_48 : decode prog_26_method_9_code 48 = .ok (.ireturn, 1) := by decide +kernel
theorem d6_49 : decode prog_26_method_9_code 49 = .ok (.aload_n 0, 1) := by decide +kernel
theorem d6_50 : decode prog_26_method_9_code 50 = .ok (.getfield 13, 3) := by decide +kernel
theorem d6_53 : decode prog_26_method_9_code 53 = .ok (.iload_n 2, 1) := by decide +kernel
theorem d6_54 : decode prog_26_method_9_code 54 = .ok (.laload, 1) := by decide +kernel
theorem d6_55 : decode prog_26_method_9_code 55 = .ok (.lstore_n 3, 1) := by decide +kernel
theorem d6_56 : decode prog_26_method_9_code 56 = .ok (.goto (-27), 3) := by decide +kernel
theorem d6_59 : decode prog_26_method_9_code 59 = .ok (.iload_n 2, 1) := by decide +kernel
theorem d6_60 : decode prog_26_method_9_code 60 = .ok (.bipush 6, 2) := by decide +kernel
theorem d6_62 : decode prog_26_method_9_code 62 = .ok (.ishl, 1) := by decide +kernel
theorem d6_63 : decode prog_26_method_9_code 63 = .ok (.lload_n 3, 1) := by decide +kernel
theorem d6_64 : decode prog_26_method_9_code 64 = .ok (.invokestatic 18, 3) := by decide +kernel
theorem d6_67 : decode prog_26_method_9_code 67 = .ok (.ior, 1) := by decide +kernel
theorem d6_68 : decode prog_26_method_9_code 68 = .ok (.ireturn, 1) := by decide +kernel
theorem d7_0 : decode prog_26_method_6_code 0 = .ok (.aload_n 0, 1) := by decide +kernel
theorem d7_1 : decode prog_26_method_6_code 1 = .ok (.iconst 0, 1) := by decide +kernel
theorem d7_2 : decode prog_26_method_6_code 2 = .ok (.invokevirtual 24, 3) := by decide +kernel
theorem d7_5 : decode prog_26_method_6_code 5 = .ok (.ifCond .ge 7, 3) := by decide +kernel
theorem d7_8 : decode prog_26_method_6_code 8 = .ok (.iconst 1, 1) := by decide +kernel
theorem d7_9 : decode prog_26_method_6_code 9 = .ok (.goto 4, 3) := by decide +kernel
theorem d7_12 : decode prog_26_method_6_code 12 = .ok (.iconst 0, 1) := by decide +kernel
theorem d7_13 : decode prog_26_method_6_code 13 = .ok (.ireturn, 1) := by decide +kernel
theorem d8_0 : decode prog_26_method_8_code 0 = .ok (.iconst 0, 1) := by decide +kernel
theorem d8_1 : decode prog_26_method_8_code 1 = .ok (.istore_n 1, 1) := by decide +kernel
theorem d8_2 : decode prog_26_method_8_code 2 = .ok (.iload_n 1, 1) := by decide +kernel
theorem d8_3 : decode prog_26_method_8_code 3 = .ok (.aload_n 0, 1) := by decide +kernel
theorem d8_4 : decode prog_26_method_8_code 4 = .ok (.getfield 13, 3) := by decide +kernel
theorem d8_7 : decode prog_26_method_8_code 7 = .ok (.arraylength, 1) := by decide +kernel
theorem d8_8 : decode prog_26_method_8_code 8 = .ok (.if_icmp .ge 53, 3) := by decide +kernel
theorem d8_11 : decode prog_26_method_8_code 11 = .ok (.aload_n 0, 1) := by decide +kernel
theorem d8_12 : decode prog_26_method_8_code 12 = .ok (.getfield 13, 3) := by decide +kernel
theorem d8_15 : decode prog_26_method_8_code 15 = .ok (.iload_n 1, 1) := by decide +kernel
theorem d8_16 : decode prog_26_method_8_code 16 = .ok (.laload, 1) := by decide +kernel
theorem d8_17 : decode prog_26_method_8_code 17 = .ok (.lstore_n 2, 1) := by decide +kernel
theorem d8_18 : decode prog_26_method_8_code 18 = .ok (.lload_n 2, 1) := by decide +kernel
theorem d8_19 : decode prog_26_method_8_code 19 = .ok (.lconst 0, 1) := by decide +kernel
theorem d8_20 : decode prog_26_method_8_code 20 = .ok (.lcmp, 1) := by decide +kernel
theorem d8_21 : decode prog_26_method_8_code 21 = .ok (.ifCond .eq 27, 3) := by decide +kernel
theorem d8_24 : decode prog_26_method_8_code 24 = .ok (.aload_n 0, 1) := by decide +kernel
theorem d8_25 : decode prog_26_method_8_code 25 = .ok (.getfield 7, 3) := by decide +kernel
theorem d8_28 : decode prog_26_method_8_code 28 = .ok (.iload_n 1, 1) := by decide +kernel
theorem d8_29 : decode prog_26_method_8_code 29 = .ok (.bipush 6, 2) := by decide +kernel
theorem d8_31 : decode prog_26_method_8_code 31 = .ok (.ishl, 1) := by decide +kernel
theorem d8_32 : decode prog_26_method_8_code 32 = .ok (.lload_n 2, 1) := by decide +kernel
theorem d8_33 : decode prog_26_method_8_code 33 = .ok (.invokestatic 18, 3) := by decide +kernel
theorem d8_36 : decode prog_26_method_8_code 36 = .ok (.ior, 1) := by decide +kernel
theorem d8_37 : decode prog_26_method_8_code 37 = .ok (.lconst 0, 1) := by decide +kernel
theorem d8_38 : decode prog_26_method_8_code 38 = .ok (.lastore, 1) := by decide +kernel
theorem d8_39 : decode prog_26_method_8_code 39 = .ok (.lload_n 2, 1) := by decide +kernel
theorem d8_40 : decode prog_26_method_8_code 40 = .ok (.lload_n 2, 1) := by decide +kernel
theorem d8_41 : decode prog_26_method_8_code 41 = .ok (.lconst 1, 1) := by decide +kernel
theorem d8_42 : decode prog_26_method_8_code 42 = .ok (.lsub, 1) := by decide +kernel
theorem d8_43 : decode prog_26_method_8_code 43 = .ok (.land, 1) := by decide +kernel
theorem d8_44 : decode prog_26_method_8_code 44 = .ok (.lstore_n 2, 1) := by decide +kernel
theorem d8_45 : decode prog_26_method_8_code 45 = .ok (.goto (-27), 3) := by decide +kernel
theorem d8_48 : decode prog_26_method_8_code 48 = .ok (.aload_n 0, 1) := by decide +kernel
theorem d8_49 : decode prog_26_method_8_code 49 = .ok (.getfield 13, 3) := by decide +kernel
theorem d8_52 : decode prog_26_method_8_code 52 = .ok (.iload_n 1, 1) := by decide +kernel
theorem d8_53 : decode prog_26_method_8_code 53 = .ok (.lconst 0, 1) := by decide +kernel
theorem d8_54 : decode prog_26_method_8_code 54 = .ok (.lastore, 1) := by decide +kernel
theorem d8_55 : decode prog_26_method_8_code 55 = .ok (.iinc 1 1, 3) := by decide +kernel
theorem d8_58 : decode prog_26_method_8_code 58 = .ok (.goto (-56), 3) := by decide +kernel
theorem d8_61 : decode prog_26_method_8_code 61 = .ok (.return_, 1) := by decide +kernel
theorem d9_0 : decode prog_26_method_3_code 0 = .ok (.iload_n 1, 1) := by decide +kernel
theorem d9_1 : decode prog_26_method_3_code 1 = .ok (.bipush 6, 2) := by decide +kernel
theorem d9_3 : decode prog_26_method_3_code 3 = .ok (.iushr, 1) := by decide +kernel
theorem d9_4 : decode prog_26_method_3_code 4 = .ok (.istore_n 2, 1) := by decide +kernel
theorem d9_5 : decode prog_26_method_3_code 5 = .ok (.aload_n 0, 1) := by decide +kernel
theorem d9_6 : decode prog_26_method_3_code 6 = .ok (.getfield 7, 3) := by decide +kernel
theorem d9_9 : decode prog_26_method_3_code 9 = .ok (.iload_n 2, 1) := by decide +kernel
theorem d9_10 : decode prog_26_method_3_code 10 = .ok (.laload, 1) := by decide +kernel
theorem d9_11 : decode prog_26_method_3_code 11 = .ok (.lstore_n 3, 1) := by decide +kernel
theorem d9_12 : decode prog_26_method_3_code 12 = .ok (.lload_n 3, 1) := by decide +kernel
theorem d9_13 : decode prog_26_method_3_code 13 = .ok (.lconst 0, 1) := by decide +kernel
theorem d9_14 : decode prog_26_method_3_code 14 = .ok (.lcmp, 1) := by decide +kernel
theorem d9_15 : decode prog_26_method_3_code 15 = .ok (.ifCond .ne 18, 3) := by decide +kernel
theorem d9_18 : decode prog_26_method_3_code 18 = .ok (.aload_n 0, 1) := by decide +kernel
theorem d9_19 : decode prog_26_method_3_code 19 = .ok (.getfield 13, 3) := by decide +kernel
theorem d9_22 : decode prog_26_method_3_code 22 = .ok (.iload_n 2, 1) := by decide +kernel
theorem d9_23 : decode prog_26_method_3_code 23 = .ok (.bipush 6, 2) := by decide +kernel
theorem d9_25 : decode prog_26_method_3_code 25 = .ok (.iushr, 1) := by decide +kernel
theorem d9_26 : decode prog_26_method_3_code 26 = .ok (.dup2, 1) := by decide +kernel
theorem d9_27 : decode prog_26_method_3_code 27 = .ok (.laload, 1) := by decide +kernel
theorem d9_28 : decode prog_26_method_3_code 28 = .ok (.lconst 1, 1) := by decide +kernel
theorem d9_29 : decode prog_26_method_3_code 29 = .ok (.iload_n 2, 1) := by decide +kernel
theorem d9_30 : decode prog_26_method_3_code 30 = .ok (.lshl, 1) := by decide +kernel
theorem d9_31 : decode prog_26_method_3_code 31 = .ok (.lor, 1) := by decide +kernel
theorem d9_32 : decode prog_26_method_3_code 32 = .ok (.lastore, 1) := by decide +kernel
theorem d9_33 : decode prog_26_method_3_code 33 = .ok (.aload_n 0, 1) := by decide +kernel
theorem d9_34 : decode prog_26_method_3_code 34 = .ok (.getfield 7, 3) := by decide +kernel
theorem d9_37 : decode prog_26_method_3_code 37 = .ok (.iload_n 2, 1) := by decide +kernel
theorem d9_38 : decode prog_26_method_3_code 38 = .ok (.lload_n 3, 1) := by decide +kernel
theorem d9_39 : decode prog_26_method_3_code 39 = .ok (.lconst 1, 1) := by decide +kernel
theorem d9_40 : decode prog_26_method_3_code 40 = .ok (.iload_n 1, 1) := by decide +kernel
theorem d9_41 : decode prog_26_method_3_code 41 = .ok (.lshl, 1) := by decide +kernel
theorem d9_42 : decode prog_26_method_3_code 42 = .ok (.lor, 1) := by decide +kernel
theorem d9_43 : decode prog_26_method_3_code 43 = .ok (.lastore, 1) := by decide +kernel
theorem d9_44 : decode prog_26_method_3_code 44 = .ok (.return_, 1) := by decide +kernel
theorem d10_0 : decode jdk_35_method_49_code 0 = .ok (.lload_n 0, 1) := by decide +kernel
theorem d10_1 : decode jdk_35_method_49_code 1 = .ok (.l2i, 1) := by decide +kernel
theorem d10_2 : decode jdk_35_method_49_code 2 = .ok (.istore_n 2, 1) := by decide +kernel
theorem d10_3 : decode jdk_35_method_49_code 3 = .ok (.iload_n 2, 1) := by decide +kernel
theorem d10_4 : decode jdk_35_method_49_code 4 = .ok (.ifCond .ne 17, 3) := by decide +kernel
theorem d10_7 : decode jdk_35_method_49_code 7 = .ok (.bipush 32, 2) := by decide +kernel
theorem d10_9 : decode jdk_35_method_49_code 9 = .ok (.lload_n 0, 1) := by decide +kernel
theorem d10_10 : decode jdk_35_method_49_code 10 = .ok (.bipush 32, 2) := by decide +kernel
theorem d10_12 : decode jdk_35_method_49_code 12 = .ok (.lushr, 1) := by decide +kernel
theorem d10_13 : decode jdk_35_method_49_code 13 = .ok (.l2i, 1) := by decide +kernel
theorem d10_14 : decode jdk_35_method_49_code 14 = .ok (.invokestatic 311, 3) := by decide +kernel
theorem d10_17 : decode jdk_35_method_49_code 17 = .ok (.iadd, 1) := by decide +kernel
theorem d10_18 : decode jdk_35_method_49_code 18 = .ok (.goto 7, 3) := by decide +kernel
theorem d10_21 : decode jdk_35_method_49_code 21 = .ok (.iload_n 2, 1) := by decide +kernel
theorem d10_22 : decode jdk_35_method_49_code 22 = .ok (.invokestatic 311, 3) := by decide +kernel
theorem d10_25 : decode jdk_35_method_49_code 25 = .ok (.ireturn, 1) := by decide +kernel
theorem d11_0 : decode jdk_33_method_48_code 0 = .ok (.iload_n 0, 1) := by decide +kernel
theorem d11_1 : decode jdk_33_method_48_code 1 = .ok (.iconst (-1), 1) := by decide +kernel
theorem d11_2 : decode jdk_33_method_48_code 2 = .ok (.ixor, 1) := by decide +kernel
theorem d11_3 : decode jdk_33_method_48_code 3 = .ok (.iload_n 0, 1) := by decide +kernel
theorem d11_4 : decode jdk_33_method_48_code 4 = .ok (.iconst 1, 1) := by decide +kernel
theorem d11_5 : decode jdk_33_method_48_code 5 = .ok (.isub, 1) := by decide +kernel
theorem d11_6 : decode jdk_33_method_48_code 6 = .ok (.iand, 1) := by decide +kernel
theorem d11_7 : decode jdk_33_method_48_code 7 = .ok (.istore_n 0, 1) := by decide +kernel
theorem d11_8 : decode jdk_33_method_48_code 8 = .ok (.iload_n 0, 1) := by decide +kernel
theorem d11_9 : decode jdk_33_method_48_code 9 = .ok (.ifCond .gt 8, 3) := by decide +kernel
theorem d11_12 : decode jdk_33_method_48_code 12 = .ok (.iload_n 0, 1) := by decide +kernel
theorem d11_13 : decode jdk_33_method_48_code 13 = .ok (.bipush 32, 2) := by decide +kernel
theorem d11_15 : decode jdk_33_method_48_code 15 = .ok (.iand, 1) := by decide +kernel
theorem d11_16 : decode jdk_33_method_48_code 16 = .ok (.ireturn, 1) := by decide +kernel
theorem d11_17 : decode jdk_33_method_48_code 17 = .ok (.iconst 1, 1) := by decide +kernel
theorem d11_18 : decode jdk_33_method_48_code 18 = .ok (.istore_n 1, 1) := by decide +kernel
theorem d11_19 : decode jdk_33_method_48_code 19 = .ok (.iload_n 0, 1) := by decide +kernel
theorem d11_20 : decode jdk_33_method_48_code 20 = .ok (.ldc_w 264, 3) := by decide +kernel
theorem d11_23 : decode jdk_33_method_48_code 23 = .ok (.if_icmp .le 11, 3) := by decide +kernel
theorem d11_26 : decode jdk_33_method_48_code 26 = .ok (.iinc 1 16, 3) := by decide +kernel
theorem d11_29 : decode jdk_33_method_48_code 29 = .ok (.iload_n 0, 1) := by decide +kernel
theorem d11_30 : decode jdk_33_method_48_code 30 = .ok (.bipush 16, 2) := by decide +kernel
theorem d11_32 : decode jdk_33_method_48_code 32 = .ok (.iushr, 1) := by decide +kernel
theorem d11_33 : decode jdk_33_method_48_code 33 = .ok (.istore_n 0, 1) := by decide +kernel
theorem d11_34 : decode jdk_33_method_48_code 34 = .ok (.iload_n 0, 1) := by decide +kernel
theorem d11_35 : decode jdk_33_method_48_code 35 = .ok (.sipush 256, 3) := by decide +kernel
theorem d11_38 : decode jdk_33_method_48_code 38 = .ok (.if_icmp .le 11, 3) := by decide +kernel
theorem d11_41 : decode jdk_33_method_48_code 41 = .ok (.iinc 1 8, 3) := by decide +kernel
theorem d11_44 : decode jdk_33_method_48_code 44 = .ok (.iload_n 0, 1) := by decide +kernel
theorem d11_45 : decode jdk_33_method_48_code 45 = .ok (.bipush 8, 2) := by decide +kernel
theorem d11_47 : decode jdk_33_method_48_code 47 = .ok (.iushr, 1) := by decide +kernel
theorem d11_48 : decode jdk_33_method_48_code 48 = .ok (.istore_n 0, 1) := by decide +kernel
theorem d11_49 : decode jdk_33_method_48_code 49 = .ok (.iload_n 0, 1) := by decide +kernel
theorem d11_50 : decode jdk_33_method_48_code 50 = .ok (.bipush 16, 2) := by decide +kernel
theorem d11_52 : decode jdk_33_method_48_code 52 = .ok (.if_icmp .le 10, 3) := by decide +kernel
theorem d11_55 : decode jdk_33_method_48_code 55 = .ok (.iinc 1 4, 3) := by decide +kernel
theorem d11_58 : decode jdk_33_method_48_code 58 = .ok (.iload_n 0, 1) := by decide +kernel
theorem d11_59 : decode jdk_33_method_48_code 59 = .ok (.iconst 4, 1) := by decide +kernel
theorem d11_60 : decode jdk_33_method_48_code 60 = .ok (.iushr, 1) := by decide +kernel
theorem d11_61 : decode jdk_33_method_48_code 61 = .ok (.istore_n 0, 1) := by decide +kernel
theorem d11_62 : decode jdk_33_method_48_code 62 = .ok (.iload_n 0, 1) := by decide +kernel
theorem d11_63 : decode jdk_33_method_48_code 63 = .ok (.iconst 4, 1) := by decide +kernel
theorem d11_64 : decode jdk_33_method_48_code 64 = .ok (.if_icmp .le 10, 3) := by decide +kernel
theorem d11_67 : decode jdk_33_method_48_code 67 = .ok (.iinc 1 2, 3) := by decide +kernel
theorem d11_70 : decode jdk_33_method_48_code 70 = .ok (.iload_n 0, 1) := by decide +kernel
theorem d11_71 : decode jdk_33_method_48_code 71 = .ok (.iconst 2, 1) := by decide +kernel
theorem d11_72 : decode jdk_33_method_48_code 72 = .ok (.iushr, 1) := by decide +kernel
theorem d11_73 : decode jdk_33_method_48_code 73 = .ok (.istore_n 0, 1) := by decide +kernel
theorem d11_74 : decode jdk_33_method_48_code 74 = .ok (.iload_n 1, 1) := by decide +kernel
theorem d11_75 : decode jdk_33_method_48_code 75 = .ok (.iload_n 0, 1) := by decide +kernel
theorem d11_76 : decode jdk_33_method_48_code 76 = .ok (.iconst 1, 1) := by decide +kernel
theorem d11_77 : decode jdk_33_method_48_code 77 = .ok (.iushr, 1) := by decide +kernel
theorem d11_78 : decode jdk_33_method_48_code 78 = .ok (.iadd, 1) := by decide +kernel
theorem d11_79 : decode jdk_33_method_48_code 79 = .ok (.ireturn, 1) := by decide +kernel
def O_IndexSet (Z : State) (h : Heap) (a : Addr) (v0 v1 : Value) : Prop := Exa Z h a "com/example/bulkstep/bulkstep/engine/IndexSet" ∧ Fld Z h a "com/example/bulkstep/bulkstep/engine/IndexSet" "words" "[J" v0 ∧ Fld Z h a "com/example/bulkstep/bulkstep/engine/IndexSet" "held" "[J" v1
theorem O_IndexSet.ext {Z : State} {h h' : Heap} {a : Addr} {v0 v1 : Value} (O : O_IndexSet Z h a v0 v1) (E : Ext h h') : O_IndexSet Z h' a v0 v1 := ⟨O.1.ext E, O.2.1.ext E, O.2.2.ext E⟩
theorem O_IndexSet.keep {Z : State} {h h' : Heap} {a : Addr} {ws : List Addr} {v0 v1 : Value} (O : O_IndexSet Z h a v0 v1) (K : Keep h h' ws) (q : a ∉ ws) : O_IndexSet Z h' a v0 v1 := ⟨O.1.keep K, O.2.1.keep K q, O.2.2.keep K q⟩
theorem O_IndexSet.other {Z : State} {h h' : Heap} {a b : Addr} {sl : Nat} {w : Value} {v0 v1 : Value} (O : O_IndexSet Z h a v0 v1) (W : Wr h h' b sl w) (q : a ≠ b) : O_IndexSet Z h' a v0 v1 := ⟨O.1.wr W, O.2.1.other W (Or.inl q), O.2.2.other W (Or.inl q)⟩
theorem O_IndexSet.set0 {Z : State} {a0 : Array Value} {h h' : Heap} {a : Addr} {v0 v1 : Value} {w : Value} (hw : ∀ d ∈ tables_1, d.before a0 Z = true) (W : Wr h h' a (Jvm.RoadKit.slotOf Z "com/example/bulkstep/bulkstep/engine/IndexSet" "words" "[J") w) (O : O_IndexSet Z h a v0 v1) : O_IndexSet Z h' a w v1 := ⟨O.1.wr W, O.2.1.same W, O.2.2.other W (Or.inr (slot_ne (a0 := a0) (C := "com/example/bulkstep/bulkstep/engine/IndexSet") (Or.inr (tw14 hw)) (Or.inr (tw12 hw)) (by decide) (t := (.array .long)) (t' := (.array .long)) (by decide) (by decide)))⟩
theorem O_IndexSet.set1 {Z : State} {a0 : Array Value} {h h' : Heap} {a : Addr} {v0 v1 : Value} {w : Value} (hw : ∀ d ∈ tables_1, d.before a0 Z = true) (W : Wr h h' a (Jvm.RoadKit.slotOf Z "com/example/bulkstep/bulkstep/engine/IndexSet" "held" "[J") w) (O : O_IndexSet Z h a v0 v1) : O_IndexSet Z h' a v0 w := ⟨O.1.wr W, O.2.1.other W (Or.inr (slot_ne (a0 := a0) (C := "com/example/bulkstep/bulkstep/engine/IndexSet") (Or.inr (tw12 hw)) (Or.inr (tw14 hw)) (by decide) (t := (.array .long)) (t' := (.array .long)) (by decide) (by decide))), O.2.2.same W⟩
theorem own_of {n : Nat} (h : n < 2147483648) : (Int32.ofNat n).toInt = n := Int32.toInt_ofNat_small h
theorem own_cl {n : Nat} (h : n < 2147483648) : (Int32.ofNat n).toNatClampNeg = n := by
  have q := own_of h
  simp only [Int32.toNatClampNeg, q]; omega
theorem own_k1 {i : Int32} {k : Nat} (hi : i = Int32.ofNat k) (hk : k < 2147483647) : i + 1 = Int32.ofNat (k + 1) := by
  subst hi
  apply Int32.toInt_inj.mp
  have a := own_of (n := k) (by omega)
  have b := own_of (n := k + 1) (by omega)
  have d := own_iaddE (Int32.ofNat k) 1 (by rw [a]; simp only [Int32.reduceToInt]; omega)
  rw [d, a, b]; simp only [Int32.reduceToInt]; omega
theorem own_ltN {i : Int32} {k N : Nat} (hi : i = Int32.ofNat k) (hk : k ≤ N) (hN : N < 2147483648) : i < Nat.toInt32 N ↔ k < N := by
  subst hi
  rw [Int32.lt_iff_toInt_lt, show Nat.toInt32 N = Int32.ofNat N from rfl, own_of (by omega), own_of hN]; omega
theorem own_eqN {i : Int32} {k N : Nat} (hi : i = Int32.ofNat k) (hk : k ≤ N) (hN : N < 2147483648) (c : ¬ i < Nat.toInt32 N) : k = N := by
  have z := (not_congr (own_ltN hi hk hN)).mp c; omega
theorem own_ki {i : Int32} {k N : Nat} (hi : i = Int32.ofNat k) (hk : k < N) (hN : N < 2147483648) : 0 ≤ i.toInt ∧ i.toInt < (N : Int) := by
  subst hi; rw [own_of (by omega)]; omega
theorem own_kc {i : Int32} {k : Nat} (hi : i = Int32.ofNat k) (hk : k < 2147483648) : i.toNatClampNeg = k := by subst hi; exact own_cl hk
theorem own_len {Z : State} {h : Heap} {a : Addr} {ty : FieldType} {n n' : Nat} {f : Nat → Int32} (A : AI Z h a ty n f) (q : n = n') : AI Z h a ty n' f := q ▸ A
theorem own_lenJ {Z : State} {h : Heap} {a : Addr} {n n' : Nat} {f : Nat → Int64} (A : AJ Z h a n f) (q : n = n') : AJ Z h a n' f := q ▸ A
theorem own_toFin {x : Int32} (n : Nat) (hn : n ≤ 100) (h : 0 ≤ x.toInt ∧ x.toInt < (n : Int)) : ∃ k : Fin n, x = Int32.ofNat k.val := by
  refine ⟨⟨x.toNatClampNeg, own_ixn h⟩, ?_⟩
  apply Int32.toInt_inj.mp
  rw [Int32.toInt_ofNat_small (by have := own_ixn h; show x.toNatClampNeg < 2 ^ 31; omega)]
  simp only [Int32.toNatClampNeg]; omega
def tb (x : Int64) (i : Nat) : Bool := x.toBitVec.toNat.testBit i
theorem tb_or (x y : Int64) (i : Nat) : tb (x ||| y) i = (tb x i || tb y i) := by unfold tb; rw [Int64.toBitVec_or, BitVec.toNat_or, Nat.testBit_or]
theorem tb_and (x y : Int64) (i : Nat) : tb (x &&& y) i = (tb x i && tb y i) := by unfold tb; rw [Int64.toBitVec_and, BitVec.toNat_and, Nat.testBit_and]
theorem tb_zero (i : Nat) : tb 0 i = false := Nat.zero_testBit i
theorem tb_eq0 (x : Int64) : x = 0 ↔ ∀ i, i < 64 → tb x i = false := by
  constructor
  · intro q i _; rw [q]; exact tb_zero i
  · intro q
    apply Int64.toBitVec_inj.mp
    apply BitVec.eq_of_toNat_eq
    apply Nat.eq_of_testBit_eq
    intro i
    rcases Nat.lt_or_ge i 64 with h | h
    · exact (q i h).trans (tb_zero i).symm
    · rw [Nat.testBit_lt_two_pow (Nat.lt_of_lt_of_le x.toBitVec.isLt (Nat.pow_le_pow_right (by decide) h))]; exact (tb_zero i).symm
theorem tb_ne0 {x : Int64} {i : Nat} (hi : i < 64) (h : tb x i = true) : ¬ (x = 0) := fun z => by
  have := (tb_eq0 x).mp z i hi; rw [h] at this; cases this
theorem own_one64 : ∀ k : Fin 64, ((1 : Int64) <<< Int64.ofNat k.val).toBitVec.toNat = 2 ^ k.val := by decide +kernel
theorem own_m164 : ∀ k : Fin 64, ((-1 : Int64) <<< Int64.ofNat k.val).toBitVec.toNat = 2 ^ 64 - 2 ^ k.val := by decide +kernel
theorem own_lo64 : ∀ k : Fin 64, (((1 : Int64) <<< Int64.ofNat k.val) - (1 : Int64)).toBitVec.toNat = 2 ^ k.val - 1 := by decide +kernel
theorem own_hb64 : ∀ k i : Fin 64, (2 ^ 64 - 2 ^ k.val).testBit i.val = decide (k.val ≤ i.val) := by decide +kernel
theorem own_allb : ∀ i : Fin 64, tb (-1) i.val = true := by decide +kernel
theorem own_sa {p : Int32} {x : Nat} (hp : p = Int32.ofNat x) (hx : x < 2147483648) : (p &&& 0x3f).toInt64 = Int64.ofNat (x % 64) := by
  have m := Nat.mod_lt x (show 0 < 64 by decide)
  apply Int64.toInt_inj.mp
  rw [Int32.toInt_toInt64, c_mask p 0x3f 6 (by decide) (by decide), hp, own_of hx, Int64.toInt_ofNat_of_lt (by omega)]
  show (x : Int) % (2 ^ 6 : Nat) = _
  omega
theorem tb_sh1 {p : Int32} {x i : Nat} (hp : p = Int32.ofNat x) (hx : x < 2147483648) (hi : i < 64) : tb ((1 : Int64) <<< (p &&& 0x3f).toInt64) i = decide (x % 64 = i) := by
  rw [own_sa hp hx]
  unfold tb
  rw [own_one64 ⟨x % 64, Nat.mod_lt x (by decide)⟩, Nat.testBit_two_pow]
theorem tb_shm {p : Int32} {x i : Nat} (hp : p = Int32.ofNat x) (hx : x < 2147483648) (hi : i < 64) : tb ((-1 : Int64) <<< (p &&& 0x3f).toInt64) i = decide (x % 64 ≤ i) := by
  rw [own_sa hp hx]
  unfold tb
  rw [own_m164 ⟨x % 64, Nat.mod_lt x (by decide)⟩]
  exact own_hb64 ⟨x % 64, Nat.mod_lt x (by decide)⟩ ⟨i, hi⟩
theorem tb_low {p : Int32} {x i : Nat} (hp : p = Int32.ofNat x) (hx : x < 2147483648) (hi : i < 64) : tb (((1 : Int64) <<< (p &&& 0x3f).toInt64) - (1 : Int64)) i = decide (i < x % 64) := by
  rw [own_sa hp hx]
  unfold tb
  rw [own_lo64 ⟨x % 64, Nat.mod_lt x (by decide)⟩, Nat.testBit_two_pow_sub_one]
theorem own_u6 {p : Int32} {x : Nat} (hp : p = Int32.ofNat x) (hx : x < 2147483648) : ((p.toUInt32 >>> ((6 : Int32) &&& 31).toUInt32).toInt32) = Int32.ofNat (x / 64) := by
  apply Int32.toInt_inj.mp
  rw [c_iushr p 6 6 (by decide) (by decide), hp, own_of hx, own_of (by omega)]
  show ((x : Int) % 4294967296) / (2 ^ 6 : Nat) = _
  omega
theorem own_tn32 (x : Int32) (h : 0 ≤ x.toInt) : x.toBitVec.toNat = x.toInt.toNat := by
  have e : x.toInt = x.toBitVec.toInt := rfl
  rw [BitVec.toInt_eq_toNat_cond] at e
  have l := x.toBitVec.isLt
  split at e <;> omega
theorem own_or6 {i t : Int32} {a b : Nat} (hi : i = Int32.ofNat a) (ht : t = Int32.ofNat b) (ha : a < 1000) (hb : b < 64) : ((i <<< ((6 : Int32) &&& 31)) ||| t) = Int32.ofNat (64 * a + b) := by
  have s := c_ishl i 6 6 (by decide)
  rw [hi, own_of (by omega)] at s
  rw [hi]
  obtain ⟨x, hx⟩ : ∃ z, z = Int32.ofNat a <<< ((6 : Int32) &&& 31) := ⟨_, rfl⟩
  rw [← hx] at s ⊢
  have rx := rng32 x
  have ex : x.toInt = 64 * (a : Int) := by
    have s' : (x.toInt - (a : Int) * 64) % 4294967296 = 0 := s
    omega
  have et : t.toInt = (b : Int) := by rw [ht]; exact own_of (by omega)
  apply Int32.toBitVec_inj.mp
  apply BitVec.eq_of_toNat_eq
  have eo := own_of (n := 64 * a + b) (by omega)
  rw [Int32.toBitVec_or, BitVec.toNat_or, own_tn32 x (by omega), own_tn32 t (by omega), own_tn32 (Int32.ofNat (64 * a + b)) (by omega), ex, et, eo, show (64 * (a : Int)).toNat = a <<< 6 by rw [Nat.shiftLeft_eq]; omega, show ((b : Int)).toNat = b by omega, ← Nat.shiftLeft_add_eq_or_of_lt (by omega), Nat.shiftLeft_eq]
  omega
def LV (x : Int64) : Int32 := Jvm.Free.JP.Long_numberOfTrailingZeros_J.val x
theorem own_low {x : Int64} (h : ¬ (x = 0)) : ∃ t, t < 64 ∧ tb x t = true ∧ (∀ j, j < t → tb x j = false) ∧ LV x = Int32.ofNat t ∧ Jvm.Free.JM.Low x.toBitVec.toNat t := by
  have z : x.toBitVec.toNat ≠ 0 := fun q => h (Int64.toBitVec_inj.mp (BitVec.eq_of_toNat_eq q))
  obtain ⟨t, ht⟩ := Jvm.Free.JM.low_ex _ z
  exact ⟨t, ht.lt x.toBitVec.isLt, ht.at, fun j hj => ht.below hj, Jvm.Free.JM.ntz64 ht, ht⟩
theorem own_pow2 {t j : Nat} : (2 ^ t).testBit j = decide (t = j) := Nat.testBit_two_pow
theorem own_lowp {n t : Nat} (h : Jvm.Free.JM.Low n t) (j : Nat) : (n &&& (n - 1)).testBit j = (n.testBit j && decide (j ≠ t)) := by
  obtain ⟨q, hq⟩ : ∃ q, n / 2 ^ t = 2 * q + 1 := ⟨n / 2 ^ t / 2, by have := h.2; omega⟩
  have hp := Nat.two_pow_pos t
  have e1 : n = 2 ^ t * (2 * q + 1) + 0 := by have := Nat.div_add_mod n (2 ^ t); rw [h.1, hq] at this; exact this.symm
  have e2 : n - 1 = 2 ^ t * (2 * q) + (2 ^ t - 1) := by rw [e1, Nat.mul_add]; omega
  rw [Nat.testBit_and]
  by_cases a : j < t
  · rw [h.below a]; rfl
  · have b1 : n.testBit j = (2 * q + 1).testBit (j - t) := by
      conv => lhs; rw [e1]
      rw [Nat.testBit_two_pow_mul_add _ hp, if_neg a]
    have b2 : (n - 1).testBit j = (2 * q).testBit (j - t) := by rw [e2, Nat.testBit_two_pow_mul_add _ (by omega), if_neg a]
    rw [b1, b2]
    cases hd : j - t with
    | zero =>
      have : j = t := by omega
      simp [this]
    | succ d =>
      have : j ≠ t := by omega
      rw [Nat.testBit_succ, Nat.testBit_succ, show (2 * q + 1) / 2 = q from by omega, show 2 * q / 2 = q from by omega]
      simp [this]
theorem own_pred {x : Int64} (h : ¬ (x = 0)) : (x - (1 : Int64)).toBitVec.toNat = x.toBitVec.toNat - 1 := by
  have l := x.toBitVec.isLt
  have z : x.toBitVec.toNat ≠ 0 := fun q => h (Int64.toBitVec_inj.mp (BitVec.eq_of_toNat_eq q))
  rw [Int64.toBitVec_sub, BitVec.toNat_sub]
  show (2 ^ 64 - 1 + x.toBitVec.toNat) % 2 ^ 64 = _
  omega
theorem own_strip {x : Int64} {t : Nat} (h : ¬ (x = 0)) (L : Jvm.Free.JM.Low x.toBitVec.toNat t) : (∀ j, tb (x &&& (x - (1 : Int64))) j = (tb x j && decide (j ≠ t))) ∧ (x &&& (x - (1 : Int64))).toBitVec.toNat < x.toBitVec.toNat := by
  have z : x.toBitVec.toNat ≠ 0 := fun q => h (Int64.toBitVec_inj.mp (BitVec.eq_of_toNat_eq q))
  have e : (x &&& (x - (1 : Int64))).toBitVec.toNat = x.toBitVec.toNat &&& (x.toBitVec.toNat - 1) := by rw [Int64.toBitVec_and, BitVec.toNat_and, own_pred h]
  refine ⟨fun j => ?_, ?_⟩
  · unfold tb; rw [e]; exact own_lowp L j
  · rw [e]; have := Nat.and_le_right (n := x.toBitVec.toNat) (m := x.toBitVec.toNat - 1); omega
def DM (NW NH : Nat) : Prop := 1 ≤ NW ∧ NW ≤ 256 ∧ NH ≤ 4 ∧ NW ≤ 64 * NH
def IS (NW NH : Nat) (W Hd : Nat → Int64) : Prop := ∀ w, w < 64 * NH → tb (Hd (w / 64)) (w % 64) = decide (w < NW ∧ ¬ (W w = 0))
def mem (W : Nat → Int64) (i : Nat) : Prop := tb (W (i / 64)) (i % 64) = true
theorem own_is0 (NW NH : Nat) : IS NW NH (fun _ => 0) (fun _ => 0) := by
  intro w _; rw [tb_zero]; simp
theorem own_mem0 (i : Nat) : ¬ mem (fun _ => 0) i := by unfold mem; rw [tb_zero]; simp
theorem own_dm {x y : Nat} (h : x < y) : ¬ (x = y) := by omega
theorem own_dec {p q : Prop} [Decidable p] [Decidable q] (h : p ↔ q) : decide p = decide q := decide_eq_decide.mpr h
/-- one more bit of a word: what it does to the set -/
theorem own_memU {W : Nat → Int64} {v : Int64} {k : Nat} {A : Nat → Prop} (hv : ∀ b, b < 64 → (tb v b = true ↔ tb (W k) b = true ∨ A (64 * k + b))) (hA : ∀ j, A j → j / 64 = k) (j : Nat) : mem (own_up W k v) j ↔ (mem W j ∨ A j) := by
  unfold mem own_up
  have m := Nat.mod_lt j (show 0 < 64 by decide)
  by_cases q : j / 64 = k
  · rw [if_pos q, hv _ m, q, show 64 * k + j % 64 = j by omega]
  · rw [if_neg q]
    exact ⟨Or.inl, fun z => z.elim id fun y => absurd (hA j y) q⟩
theorem own_isU {NW NH : Nat} {W Hd : Nat → Int64} {v u : Int64} {k : Nat} (h : IS NW NH W Hd) (hk : k < NW) (hv : ¬ (v = 0)) (hu : ∀ b, b < 64 → tb u b = (tb (Hd (k / 64)) b || decide (k % 64 = b))) : IS NW NH (own_up W k v) (own_up Hd (k / 64) u) := by
  intro w hw
  have m := Nat.mod_lt w (show 0 < 64 by decide)
  by_cases q : w / 64 = k / 64
  · have e : own_up Hd (k / 64) u (w / 64) = u := if_pos q
    have z := h w hw
    rw [e, hu _ m, ← q, z]
    by_cases r : w = k
    · subst r
      have e2 : own_up W w v w = v := if_pos rfl
      simp [e2, hk, hv]
    · have e2 : own_up W k v w = W w := if_neg r
      have e3 : ¬ (k % 64 = w % 64) := by omega
      rw [e2]; simp [e3]
  · have e : own_up Hd (k / 64) u (w / 64) = Hd (w / 64) := if_neg q
    have e2 : own_up W k v w = W w := if_neg (fun z => q (by rw [z]))
    rw [e, e2]; exact h w hw
theorem own_isW {NW NH : Nat} {W Hd : Nat → Int64} {v : Int64} {k : Nat} (h : IS NW NH W Hd) (hk : ¬ (W k = 0)) (hv : ¬ (v = 0)) : IS NW NH (own_up W k v) Hd := by
  intro w hw
  rw [h w hw]
  by_cases r : w = k
  · subst r
    have e2 : own_up W w v w = v := if_pos rfl
    simp [e2, hk, hv]
  · have e2 : own_up W k v w = W w := if_neg r
    rw [e2]
theorem own_orne {x : Int64} {p : Int32} {n : Nat} (hp : p = Int32.ofNat n) (hn : n < 2147483648) : ¬ ((x ||| ((1 : Int64) <<< (p &&& 0x3f).toInt64)) = 0) := by
  have m := Nat.mod_lt n (show 0 < 64 by decide)
  refine tb_ne0 m ?_
  rw [tb_or, tb_sh1 hp hn m]; simp
theorem own_u1 {x : Int64} {p : Int32} {n : Nat} (hp : p = Int32.ofNat n) (hn : n < 2147483648) : ∀ b, b < 64 → tb (x ||| ((1 : Int64) <<< (p &&& 0x3f).toInt64)) b = (tb x b || decide (n % 64 = b)) := by
  intro b hb; rw [tb_or, tb_sh1 hp hn hb]
/-- the least word from f on that holds something -/
def NXW (NW : Nat) (W : Nat → Int64) (f : Nat) (r : Int32) : Prop :=
  (r = (-1 : Int32) ∧ ∀ w, f ≤ w → w < NW → W w = 0) ∨ (∃ w, r = Int32.ofNat w ∧ f ≤ w ∧ w < NW ∧ ¬ (W w = 0) ∧ ∀ v, f ≤ v → v < w → W v = 0)
def NX (NW : Nat) (W : Nat → Int64) (f : Nat) (r : Int32) : Prop :=
  (r = (-1 : Int32) ∧ ∀ i, f ≤ i → i < 64 * NW → ¬ mem W i) ∨ (∃ i, r = Int32.ofNat i ∧ f ≤ i ∧ i < 64 * NW ∧ mem W i ∧ ∀ j, f ≤ j → j < i → ¬ mem W j)
theorem own_nwz {NW NH f k : Nat} {W Hd : Nat → Int64} {bs : Int64} (hIS : IS NW NH W Hd) (hk : k < NH) (hb : ∀ b, b < 64 → tb bs b = (tb (Hd k) b && decide (f ≤ 64 * k + b))) (hz : ∀ w, f ≤ w → w < 64 * k → w < NW → W w = 0) (q : bs = 0) : ∀ w, f ≤ w → w < 64 * (k + 1) → w < NW → W w = 0 := by
  intro w h1 h2 h3
  rcases Nat.lt_or_ge w (64 * k) with c | c
  · exact hz w h1 c h3
  · have m := Nat.mod_lt w (show 0 < 64 by decide)
    have e : w / 64 = k := by omega
    have a := hb (w % 64) m
    rw [(tb_eq0 bs).mp q _ m] at a
    have i := hIS w (by omega)
    rw [e] at i
    rw [i, show 64 * k + w % 64 = w by omega] at a
    have a' : (decide (w < NW ∧ ¬ (W w = 0)) && decide (f ≤ w)) = false := a.symm
    refine Classical.byContradiction fun z => ?_
    simp [h1, h3, z] at a'
theorem own_nwf {NW NH f k t : Nat} {W Hd : Nat → Int64} {bs : Int64} (hIS : IS NW NH W Hd) (hk : k < NH) (hb : ∀ b, b < 64 → tb bs b = (tb (Hd k) b && decide (f ≤ 64 * k + b))) (hz : ∀ w, f ≤ w → w < 64 * k → w < NW → W w = 0) (ht : t < 64) (h1 : tb bs t = true) (h2 : ∀ j, j < t → tb bs j = false) : f ≤ 64 * k + t ∧ 64 * k + t < NW ∧ ¬ (W (64 * k + t) = 0) ∧ ∀ v, f ≤ v → v < 64 * k + t → W v = 0 := by
  have e : (64 * k + t) / 64 = k := by omega
  have e2 : (64 * k + t) % 64 = t := by omega
  have a := hb t ht
  have i := hIS (64 * k + t) (by omega)
  rw [e, e2] at i
  rw [h1, i] at a
  have a' := a.symm
  rw [Bool.and_eq_true, decide_eq_true_iff, decide_eq_true_iff] at a'
  refine ⟨a'.2, a'.1.1, a'.1.2, fun v v1 v2 => ?_⟩
  rcases Nat.lt_or_ge v (64 * k) with c | c
  · exact hz v v1 c (by omega)
  · have ev : v / 64 = k := by omega
    have m : v % 64 < t := by omega
    have b := hb (v % 64) (by omega)
    rw [h2 _ m] at b
    have iv := hIS v (by omega)
    rw [ev] at iv
    rw [iv, show 64 * k + v % 64 = v by omega] at b
    have b' : (decide (v < NW ∧ ¬ (W v = 0)) && decide (f ≤ v)) = false := b.symm
    refine Classical.byContradiction fun z => ?_
    have vn : v < NW := by omega
    simp [v1, vn, z] at b'
theorem own_nwi {f : Nat} {Hd : Nat → Int64} {p : Int32} (hp : p = Int32.ofNat f) (hf : f < 2147483648) : ∀ b, b < 64 → tb ((Hd (f / 64)) &&& ((-1 : Int64) <<< (p &&& 0x3f).toInt64)) b = (tb (Hd (f / 64)) b && decide (f ≤ 64 * (f / 64) + b)) := by
  intro b hb
  rw [tb_and, tb_shm hp hf hb, own_dec (show f % 64 ≤ b ↔ f ≤ 64 * (f / 64) + b by omega)]
theorem own_nws {f k : Nat} {Hd : Nat → Int64} (h : f ≤ 64 * k) : ∀ b, b < 64 → tb (Hd k) b = (tb (Hd k) b && decide (f ≤ 64 * k + b)) := by
  intro b _
  have : f ≤ 64 * k + b := by omega
  simp [this]
/-- next, over nextWord -/
theorem own_nx1 {NW f t : Nat} {W : Nat → Int64} {bs : Int64} (hf : f / 64 < NW) (hb : ∀ b, b < 64 → tb bs b = (tb (W (f / 64)) b && decide (f ≤ 64 * (f / 64) + b))) (ht : t < 64) (h1 : tb bs t = true) (h2 : ∀ j, j < t → tb bs j = false) : f ≤ 64 * (f / 64) + t ∧ 64 * (f / 64) + t < 64 * NW ∧ mem W (64 * (f / 64) + t) ∧ ∀ j, f ≤ j → j < 64 * (f / 64) + t → ¬ mem W j := by
  have e : (64 * (f / 64) + t) / 64 = f / 64 := by omega
  have e2 : (64 * (f / 64) + t) % 64 = t := by omega
  have a := (hb t ht).symm
  rw [h1, Bool.and_eq_true, decide_eq_true_iff] at a
  refine ⟨a.2, by omega, by unfold mem; rw [e, e2]; exact a.1, fun j j1 j2 q => ?_⟩
  unfold mem at q
  have ej : j / 64 = f / 64 := by omega
  have mj : j % 64 < t := by omega
  rw [ej] at q
  have b := hb (j % 64) (by omega)
  rw [h2 _ mj, q] at b
  have : f ≤ 64 * (f / 64) + j % 64 := by omega
  simp [this] at b
theorem own_nx0 {NW f : Nat} {W : Nat → Int64} {bs : Int64} (hb : ∀ b, b < 64 → tb bs b = (tb (W (f / 64)) b && decide (f ≤ 64 * (f / 64) + b))) (q : bs = 0) : ∀ j, f ≤ j → j < 64 * (f / 64 + 1) → ¬ mem W j := by
  intro j j1 j2 z
  unfold mem at z
  have ej : j / 64 = f / 64 := by omega
  rw [ej] at z
  have b := hb (j % 64) (Nat.mod_lt _ (by decide))
  rw [(tb_eq0 bs).mp q _ (Nat.mod_lt _ (by decide)), z] at b
  have : f ≤ 64 * (f / 64) + j % 64 := by omega
  simp [this] at b
theorem own_nxn {NW f : Nat} {W : Nat → Int64} (h0 : ∀ j, f ≤ j → j < 64 * (f / 64 + 1) → ¬ mem W j) (h : ∀ w, f / 64 + 1 ≤ w → w < NW → W w = 0) : ∀ i, f ≤ i → i < 64 * NW → ¬ mem W i := by
  intro i i1 i2 z
  rcases Nat.lt_or_ge i (64 * (f / 64 + 1)) with c | c
  · exact h0 i i1 c z
  · unfold mem at z
    rw [h (i / 64) (by omega) (by omega), tb_zero] at z; cases z
theorem own_nx2 {NW f w t : Nat} {W : Nat → Int64} (h0 : ∀ j, f ≤ j → j < 64 * (f / 64 + 1) → ¬ mem W j) (hw : f / 64 + 1 ≤ w) (hwN : w < NW) (h : ∀ v, f / 64 + 1 ≤ v → v < w → W v = 0) (ht : t < 64) (h1 : tb (W w) t = true) (h2 : ∀ j, j < t → tb (W w) j = false) : f ≤ 64 * w + t ∧ 64 * w + t < 64 * NW ∧ mem W (64 * w + t) ∧ ∀ j, f ≤ j → j < 64 * w + t → ¬ mem W j := by
  have e : (64 * w + t) / 64 = w := by omega
  have e2 : (64 * w + t) % 64 = t := by omega
  refine ⟨by omega, by omega, by unfold mem; rw [e, e2]; exact h1, fun j j1 j2 z => ?_⟩
  rcases Nat.lt_or_ge j (64 * (f / 64 + 1)) with c | c
  · exact h0 j j1 c z
  · unfold mem at z
    by_cases q : j / 64 = w
    · rw [q, h2 _ (by omega)] at z; cases z
    · rw [h (j / 64) (by omega) (by omega), tb_zero] at z; cases z
theorem own_abM {W Wv : Nat → Int64} {k : Nat} (h : ∀ j, mem Wv j ↔ (mem W j ∨ j < 64 * k)) : ∀ j, mem (own_up Wv k (-1 : Int64)) j ↔ (mem W j ∨ j < 64 * (k + 1)) := by
  intro j
  rw [own_memU (A := fun j => j / 64 = k) (fun b hb => ⟨fun _ => Or.inr (by show (64 * k + b) / 64 = k; omega), fun _ => own_allb ⟨b, hb⟩⟩) (fun j q => q) j, h j]
  constructor
  · rintro ((z | z) | z)
    · exact Or.inl z
    · exact Or.inr (by omega)
    · exact Or.inr (by omega)
  · rintro (z | z)
    · exact Or.inl (Or.inl z)
    · by_cases q : j < 64 * k
      · exact Or.inl (Or.inr q)
      · exact Or.inr (by omega)
theorem own_abE {W Wv : Nat → Int64} {x : Nat} {p : Int32} (hp : p = Int32.ofNat x) (hx : x < 2147483648) (h : ∀ j, mem Wv j ↔ (mem W j ∨ j < 64 * (x / 64))) : ∀ j, mem (own_up Wv (x / 64) ((Wv (x / 64)) ||| (((1 : Int64) <<< (p &&& 0x3f).toInt64) - (1 : Int64)))) j ↔ (mem W j ∨ j < x) := by
  intro j
  rw [own_memU (A := fun j => j / 64 = x / 64 ∧ j < x) (fun b hb => by rw [tb_or, tb_low hp hx hb, Bool.or_eq_true, decide_eq_true_iff]; exact or_congr Iff.rfl ⟨fun z => ⟨by omega, by omega⟩, fun z => by have := z.2; omega⟩) (fun j q => q.1) j, h j]
  constructor
  · rintro ((z | z) | z)
    · exact Or.inl z
    · exact Or.inr (by omega)
    · exact Or.inr z.2
  · rintro (z | z)
    · exact Or.inl (Or.inl z)
    · by_cases q : j < 64 * (x / 64)
      · exact Or.inl (Or.inr q)
      · exact Or.inr ⟨by omega, z⟩
theorem own_lowne {x : Nat} {p : Int32} {w : Int64} (hp : p = Int32.ofNat x) (hx : x < 2147483648) (h : x % 64 ≠ 0) : ¬ ((w ||| (((1 : Int64) <<< (p &&& 0x3f).toInt64) - (1 : Int64))) = 0) := by
  refine tb_ne0 (i := 0) (by decide) ?_
  rw [tb_or, tb_low hp hx (by decide), Bool.or_eq_true, decide_eq_true_iff]
  exact Or.inr (by omega)
theorem own_a63 {x : Nat} {p : Int32} (hp : p = Int32.ofNat x) (hx : x < 2147483648) : (p &&& (63 : Int32)) = (0 : Int32) ↔ x % 64 = 0 := by
  rw [← Int32.toInt_inj, c_mask p 63 6 (by decide) (by decide), hp, own_of hx]
  show (x : Int) % (2 ^ 6 : Nat) = 0 ↔ _
  omega
theorem own_adM {W : Nat → Int64} {x : Nat} {p : Int32} (hp : p = Int32.ofNat x) (hx : x < 2147483648) : ∀ j, mem (own_up W (x / 64) ((W (x / 64)) ||| ((1 : Int64) <<< (p &&& 0x3f).toInt64))) j ↔ (mem W j ∨ j = x) := by
  intro j
  exact own_memU (A := fun j => j = x) (fun b hb => by rw [own_u1 hp hx b hb, Bool.or_eq_true, decide_eq_true_iff]; exact or_congr Iff.rfl ⟨fun z => by omega, fun z => by omega⟩) (fun j q => by rw [q]) j
theorem own_ctn {w : Int64} {x : Nat} {p : Int32} (hp : p = Int32.ofNat x) (hx : x < 2147483648) : (¬ ((w &&& ((1 : Int64) <<< (p &&& 0x3f).toInt64)) = (0 : Int64))) ↔ tb w (x % 64) = true := by
  have m := Nat.mod_lt x (show 0 < 64 by decide)
  constructor
  · intro h
    refine Classical.byContradiction fun q => h ((tb_eq0 _).mpr fun i hi => ?_)
    rw [tb_and, tb_sh1 hp hx hi]
    by_cases e : x % 64 = i
    · subst e; simp [q]
    · simp [e]
  · intro h
    refine tb_ne0 m ?_
    rw [tb_and, tb_sh1 hp hx m, h]; simp
def CL (NW : Nat) (W Hd : Nat → Int64) (k : Nat) (pr : Int64) (Wv Hv : Nat → Int64) : Prop :=
  (∀ j, j < k → Hv j = 0) ∧ (∀ j, k ≤ j → Hv j = Hd j) ∧ (∀ w, w < 64 * k → w < NW → Wv w = 0) ∧ (∀ w, 64 * (k + 1) ≤ w → Wv w = W w) ∧ (∀ b, b < 64 → (tb pr b = true → tb (Hd k) b = true) ∧ (tb pr b = false → 64 * k + b < NW → Wv (64 * k + b) = 0))
theorem own_cl0 {NW NH k : Nat} {W Hd Wv Hv : Nat → Int64} (h : IS NW NH W Hd) (hk : k < NH) (h1 : ∀ j, j < k → Hv j = 0) (h2 : ∀ j, k ≤ j → Hv j = Hd j) (h3 : ∀ w, w < 64 * k → w < NW → Wv w = 0) (h4 : ∀ w, 64 * k ≤ w → Wv w = W w) : CL NW W Hd k (Hd k) Wv Hv := by
  refine ⟨h1, h2, h3, fun w hw => h4 w (by omega), fun b hb => ⟨id, fun q r => ?_⟩⟩
  have i := h (64 * k + b) (by omega)
  rw [show (64 * k + b) / 64 = k by omega, show (64 * k + b) % 64 = b by omega, q] at i
  rw [h4 _ (by omega)]
  refine Classical.byContradiction fun z => ?_
  simp [r, z] at i
theorem own_clt {NW NH k t : Nat} {W Hd Wv Hv : Nat → Int64} {pr : Int64} (h : IS NW NH W Hd) (hk : k < NH) (c : CL NW W Hd k pr Wv Hv) (ht : t < 64) (h1 : tb pr t = true) : 64 * k + t < NW := by
  have a := (c.2.2.2.2 t ht).1 h1
  have i := h (64 * k + t) (by omega)
  rw [show (64 * k + t) / 64 = k by omega, show (64 * k + t) % 64 = t by omega, a] at i
  exact (decide_eq_true_iff.mp i.symm).1
theorem own_clS {NW k t : Nat} {W Hd Wv Hv : Nat → Int64} {pr pr2 : Int64} (c : CL NW W Hd k pr Wv Hv) (ht : t < 64) (hp : ∀ j, tb pr2 j = (tb pr j && decide (j ≠ t))) : CL NW W Hd k pr2 (own_up Wv (64 * k + t) (0 : Int64)) Hv := by
  obtain ⟨c1, c2, c3, c4, c5⟩ := c
  refine ⟨c1, c2, fun w h1 h2 => ?_, fun w h1 => ?_, fun b hb => ⟨fun q => ?_, fun q r => ?_⟩⟩
  · exact (if_neg (by omega)).trans (c3 w h1 h2)
  · exact (if_neg (by omega)).trans (c4 w h1)
  · rw [hp b, Bool.and_eq_true] at q; exact (c5 b hb).1 q.1
  · by_cases e : b = t
    · subst e; exact if_pos rfl
    · refine (if_neg (by omega)).trans ((c5 b hb).2 ?_ r)
      rw [hp b] at q; simpa [e] using q
theorem own_clNx {NW NH k : Nat} {W Hd Wv Hv : Nat → Int64} (h : IS NW NH W Hd) (hk : k + 1 < NH) (c : CL NW W Hd k 0 Wv Hv) : CL NW W Hd (k + 1) (Hv (k + 1)) Wv (own_up Hv k (0 : Int64)) := by
  obtain ⟨c1, c2, c3, c4, c5⟩ := c
  rw [c2 (k + 1) (by omega)]
  refine own_cl0 h hk (fun j hj => ?_) (fun j hj => ?_) (fun w h1 h2 => ?_) (fun w h1 => c4 w h1)
  · by_cases e : j = k
    · exact if_pos e
    · exact (if_neg e).trans (c1 j (by omega))
  · exact (if_neg (by omega)).trans (c2 j (by omega))
  · rcases Nat.lt_or_ge w (64 * k) with q | q
    · exact c3 w q h2
    · have := (c5 (w - 64 * k) (by omega)).2 (tb_zero _) (by omega)
      rw [show 64 * k + (w - 64 * k) = w by omega] at this; exact this
theorem own_clE {NW NH k : Nat} {W Hd Wv Hv : Nat → Int64} (hD : DM NW NH) (hk : k + 1 = NH) (c : CL NW W Hd k 0 Wv Hv) : (∀ w, w < NW → Wv w = 0) ∧ IS NW NH Wv (own_up Hv k (0 : Int64)) := by
  obtain ⟨c1, c2, c3, c4, c5⟩ := c
  have a : ∀ w, w < NW → Wv w = 0 := fun w hw => by
    rcases Nat.lt_or_ge w (64 * k) with q | q
    · exact c3 w q hw
    · have d := hD.2.2.2
      have := (c5 (w - 64 * k) (by omega)).2 (tb_zero _) (by omega)
      rw [show 64 * k + (w - 64 * k) = w by omega] at this; exact this
  refine ⟨a, fun w hw => ?_⟩
  have e : own_up Hv k (0 : Int64) (w / 64) = 0 := by
    by_cases z : w / 64 = k
    · exact if_pos z
    · exact (if_neg z).trans (c1 _ (by omega))
  rw [e, tb_zero]
  by_cases z : w < NW
  · simp [a w z]
  · simp [z]
theorem own_emp {NW : Nat} {W : Nat → Int64} (h : ∀ w, w < NW → W w = 0) {i : Nat} (hi : i < 64 * NW) : ¬ mem W i := by
  unfold mem; rw [h (i / 64) (by omega), tb_zero]; simp
theorem own_emp2 {NW : Nat} {W : Nat → Int64} (h : ∀ i, i < 64 * NW → ¬ mem W i) : ∀ w, w < NW → W w = 0 := by
  intro w hw
  refine (tb_eq0 _).mpr fun b hb => ?_
  have z := h (64 * w + b) (by omega)
  unfold mem at z
  rw [show (64 * w + b) / 64 = w by omega, show (64 * w + b) % 64 = b by omega] at z
  simpa using z
theorem own_pn {x : Int32} (h : 0 ≤ x.toInt) : x = Int32.ofNat x.toInt.toNat := by
  have r := rng32 x
  apply Int32.toInt_inj.mp
  rw [own_of (by omega)]; omega
theorem own_remS {x q d : Int32} (h : x = ((q &&& (2147483647 : Int32)) % d)) (hd : 0 < d.toInt) : 0 ≤ x.toInt ∧ x.toInt < d.toInt := by
  have a := own_mB q 2147483647 31 (by decide) (by decide) 2147483647 (by decide)
  have b := own_iremV (q &&& 2147483647) d a.1 hd
  rw [← h] at b; exact ⟨b.1, b.2.1⟩
theorem own_add1 {x : Int32} (h : 1 ≤ x.toInt ∧ x.toInt ≤ 16384) : (x + (1 : Int32)).toInt = x.toInt + 1 := by
  have a := own_iaddE x 1 (by simp only [Int32.reduceToInt]; omega)
  simp only [Int32.reduceToInt] at a; exact a
theorem own_size {x q : Int32} (h : x = ((1 : Int32) + (q &&& (16383 : Int32)))) : 1 ≤ x.toInt ∧ x.toInt ≤ 16384 := by
  have a := own_mB q 16383 14 (by decide) (by decide) 16383 (by decide)
  have b := own_iaddE 1 (q &&& 16383) (by simp only [Int32.reduceToInt]; omega)
  simp only [Int32.reduceToInt] at b
  rw [h, b]; omega
theorem own_nxU {NW f i : Nat} {W : Nat → Int64} {r : Int32} (hX : NX NW W f r) (h1 : f ≤ i) (h2 : i < 64 * NW) (h3 : mem W i) (h4 : ∀ j, f ≤ j → j < i → ¬ mem W j) : r = Int32.ofNat i := by
  rcases hX with ⟨_, hall⟩ | ⟨k, hr, k1, k2, k3, k4⟩
  · exact absurd h3 (hall i h1 h2)
  · rcases Nat.lt_trichotomy k i with q | q | q
    · exact absurd k3 (h4 k k1 q)
    · rw [hr, q]
    · exact absurd h3 (k4 i h1 q)
theorem own_nxV {NW f : Nat} {W : Nat → Int64} {r : Int32} (hX : NX NW W f r) (h : ∀ i, f ≤ i → i < 64 * NW → ¬ mem W i) : r = (-1 : Int32) := by
  rcases hX with ⟨hr, _⟩ | ⟨k, hr, k1, k2, k3, k4⟩
  · exact hr
  · exact absurd k3 (h k k1 k2)
def CB (S : Nat → Prop) (f : Nat) (b : Int32) : Prop := (b = (-1 : Int32) ∧ ∀ j, S j → ¬ f ≤ j) ∨ (∃ i, i < 2147483648 ∧ b = Int32.ofNat i ∧ S i ∧ f ≤ i ∧ ∀ j, S j → f ≤ j → i ≤ j)
theorem own_cb0 (f : Nat) : CB (fun _ => False) f (-1 : Int32) := Or.inl ⟨rfl, fun _ h => h.elim⟩
theorem own_cbT {S : Nat → Prop} {b r x fr : Int32} {xn f : Nat} (hx : x = Int32.ofNat xn) (hxn : xn < 2147483648) (hf : fr = Int32.ofNat f) (hfn : f < 2147483648) (h : CB S f b) (hr : r = (if True then (if x < fr then b else (if b < (0 : Int32) then x else (if x < b then x else b))) else b)) : CB (fun j => S j ∨ j = xn) f r := by
  rw [if_pos trivial] at hr
  have lt : x < fr ↔ xn < f := by rw [hx, hf, Int32.lt_iff_toInt_lt, own_of hxn, own_of hfn]; omega
  by_cases q : xn < f
  · rw [if_pos (lt.mpr q)] at hr
    subst hr
    rcases h with ⟨h1, h2⟩ | ⟨i, h0, h1, h2, h3, h4⟩
    · exact Or.inl ⟨h1, fun j z => z.elim (h2 j) (fun e => by omega)⟩
    · exact Or.inr ⟨i, h0, h1, Or.inl h2, h3, fun j z w => z.elim (fun e => h4 j e w) (fun e => by omega)⟩
  · rw [if_neg (fun z => q (lt.mp z))] at hr
    rcases h with ⟨h1, h2⟩ | ⟨i, h0, h1, h2, h3, h4⟩
    · rw [if_pos (by rw [h1]; decide)] at hr
      exact Or.inr ⟨xn, hxn, hr.trans hx, Or.inr rfl, by omega, fun j z w => z.elim (fun e => absurd w (h2 j e)) (fun e => by omega)⟩
    · have nb : ¬ (b < (0 : Int32)) := by rw [h1, Int32.lt_iff_toInt_lt, own_of h0]; simp only [Int32.reduceToInt]; omega
      rw [if_neg nb] at hr
      have l2 : x < b ↔ xn < i := by rw [hx, h1, Int32.lt_iff_toInt_lt, own_of hxn, own_of h0]; omega
      by_cases w : xn < i
      · rw [if_pos (l2.mpr w)] at hr
        exact Or.inr ⟨xn, hxn, hr.trans hx, Or.inr rfl, by omega, fun j z v => z.elim (fun e => by have := h4 j e v; omega) (fun e => by omega)⟩
      · rw [if_neg (fun z => w (l2.mp z))] at hr
        exact Or.inr ⟨i, h0, hr.trans h1, Or.inl h2, h3, fun j z v => z.elim (fun e => h4 j e v) (fun e => by omega)⟩
theorem own_cbF {S : Nat → Prop} {b r A : Int32} {f : Nat} (h : CB S f b) (hr : r = (if False then A else b)) : CB S f r := by
  rw [if_neg (fun z => z)] at hr; subst hr; exact h
theorem own_cbN {S : Nat → Prop} {NW f : Nat} {W : Nat → Int64} {r b : Int32} (hX : NX NW W f r) (hM : ∀ j, mem W j ↔ S j) (hS : ∀ j, S j → j < 64 * NW) (h : CB S f b) : r = b := by
  rcases h with ⟨h1, h2⟩ | ⟨i, h0, h1, h2, h3, h4⟩
  · rw [h1]; exact own_nxV hX (fun i k1 _ k3 => h2 i ((hM i).mp k3) k1)
  · rw [h1]; exact own_nxU hX h3 (hS i h2) ((hM i).mpr h2) (fun j k1 k2 k3 => by have := h4 j ((hM j).mp k3) k1; omega)
theorem own_isT {NW : Nat} {W : Nat → Int64} {r : Int32} (hE : (r = (1 : Int32) ∧ ∀ w, w < NW → W w = 0) ∨ (r = (0 : Int32) ∧ ∃ w, w < NW ∧ ¬ (W w = 0))) (h : ∀ w, w < NW → W w = 0) : r = (1 : Int32) := by
  rcases hE with ⟨a, _⟩ | ⟨_, w, b1, b2⟩
  · exact a
  · exact absurd (h w b1) b2
theorem own_isF {NW i : Nat} {W : Nat → Int64} {r : Int32} (hE : (r = (1 : Int32) ∧ ∀ w, w < NW → W w = 0) ∨ (r = (0 : Int32) ∧ ∃ w, w < NW ∧ ¬ (W w = 0))) (hi : i < 64 * NW) (h : mem W i) : r = (0 : Int32) := by
  rcases hE with ⟨_, a⟩ | ⟨b, _⟩
  · exact absurd h (own_emp a hi)
  · exact b

theorem own_nT {N : Nat} (h : N < 2147483648) : (Nat.toInt32 N).toInt = (N : Int) := own_of h
theorem own_ltO {i : Int32} {k N : Nat} (hi : i = Int32.ofNat k) (hk : k < 2147483648) (hN : N < 2147483648) : i < (Nat.toInt32 N) ↔ k < N := by
  subst hi; rw [Int32.lt_iff_toInt_lt, own_nT hN, own_of hk]; omega
theorem own_eqO {i : Int32} {k N : Nat} (hi : i = Int32.ofNat k) (hk : k < 2147483648) (hN : N < 2147483648) : i = (Nat.toInt32 N) ↔ k = N := by
  subst hi; rw [← Int32.toInt_inj, own_nT hN, own_of hk]; omega
theorem own_len6 {n : Nat} {p : Int32} (h0 : 1 ≤ p.toInt) (h1 : p.toInt ≤ 64 * 256) : (((p + (63 : Int32)).toUInt32 >>> ((6 : Int32) &&& 31).toUInt32).toInt32) = Int32.ofNat ((p.toInt.toNat + 63) / 64) := by
  have a := own_iaddE p 63 (by simp only [Int32.reduceToInt]; omega)
  simp only [Int32.reduceToInt] at a
  refine own_u6 (x := p.toInt.toNat + 63) ?_ (by omega)
  apply Int32.toInt_inj.mp
  rw [a, own_of (by omega)]; omega
theorem own_isE {NW : Nat} {Wo : Nat → Int64} {r : Int32} (hN : NW ≤ 256) (h : NXW NW Wo 0 r) : ((bI (r < (0 : Int32))) = (1 : Int32) ∧ ∀ w, w < NW → Wo w = 0) ∨ ((bI (r < (0 : Int32))) = (0 : Int32) ∧ ∃ w, w < NW ∧ ¬ (Wo w = 0)) := by
  rcases h with ⟨hr, hall⟩ | ⟨w, hr, h1, h2, h3, h4⟩
  · exact Or.inl ⟨(bI_eq1 _).mpr (by rw [hr]; decide), fun w hw => hall w (Nat.zero_le _) hw⟩
  · exact Or.inr ⟨(bI_eq0 _).mpr (by rw [hr]; exact (Jvm.Own.own_clN (by omega)).2), w, h2, h3⟩
theorem own_clN2 {NW NH k : Nat} {Wo Hd Wv Hv : Nat → Int64} {pr : Int64} (h : IS NW NH Wo Hd) (hk : k + 1 < NH) (c : CL NW Wo Hd k pr Wv Hv) (hp : pr = (0 : Int64)) : CL NW Wo Hd (k + 1) (Hv (k + 1)) Wv (own_up Hv k (0 : Int64)) := by
  subst hp; exact own_clNx h hk c

theorem own_nz0 {x : Int32} (h : 0 < x.toInt) : x ≠ 0 := fun z => by rw [z] at h; simp only [Int32.reduceToInt] at h; omega
theorem own_up0 (j : Nat) (A : Prop) : (mem (fun _ => 0) j ∨ A) ↔ A := ⟨fun z => z.elim (fun y => absurd y (own_mem0 j)) id, Or.inr⟩
theorem own_remT {x q d : Int32} (h : x = (q % d)) (hq : 0 ≤ q.toInt) (hd : 0 < d.toInt) : 0 ≤ x.toInt ∧ x.toInt < d.toInt := by
  have b := own_iremV q d hq hd
  rw [← h] at b; exact ⟨b.1, b.2.1⟩
theorem own_orn {x y : Int32} (hx : 0 ≤ x.toInt) : 0 ≤ ((x &&& (-64 : Int32)) ||| (y &&& (63 : Int32))).toInt := by
  have m := own_mB y 63 6 (by decide) (by decide) 63 (by decide)
  have e : ∀ z : Int32, 0 ≤ z.toInt ↔ z.toBitVec.getLsbD 31 = false := fun z => by
    have e2 : z.toInt = z.toBitVec.toInt := rfl
    rw [e2, BitVec.toInt_eq_msb_cond, BitVec.msb_eq_getLsbD_last]
    have l := z.toBitVec.isLt
    cases hq : z.toBitVec.getLsbD (32 - 1)
    · simp [hq]
    · simp [hq]; omega
  have a := (e x).mp hx
  have b := (e (y &&& 63)).mp m.1
  refine (e _).mpr ?_
  rw [Int32.toBitVec_or, BitVec.getLsbD_or, b, Int32.toBitVec_and, BitVec.getLsbD_and, a]; rfl

theorem own_ntzI (p1 : Int32) : (if (0 : Int32) < ((p1 ^^^ (-1 : Int32)) &&& (p1 - (1 : Int32))) then (if (65536 : Int32) < ((p1 ^^^ (-1 : Int32)) &&& (p1 - (1 : Int32))) then (if (256 : Int32) < ((((p1 ^^^ (-1 : Int32)) &&& (p1 - (1 : Int32))).toUInt32 >>> ((16 : Int32) &&& 31).toUInt32).toInt32) then (if (16 : Int32) < ((((((p1 ^^^ (-1 : Int32)) &&& (p1 - (1 : Int32))).toUInt32 >>> ((16 : Int32) &&& 31).toUInt32).toInt32).toUInt32 >>> ((8 : Int32) &&& 31).toUInt32).toInt32) then (if (4 : Int32) < ((((((((p1 ^^^ (-1 : Int32)) &&& (p1 - (1 : Int32))).toUInt32 >>> ((16 : Int32) &&& 31).toUInt32).toInt32).toUInt32 >>> ((8 : Int32) &&& 31).toUInt32).toInt32).toUInt32 >>> ((4 : Int32) &&& 31).toUInt32).toInt32) then ((31 : Int32) + ((((((((((((p1 ^^^ (-1 : Int32)) &&& (p1 - (1 : Int32))).toUInt32 >>> ((16 : Int32) &&& 31).toUInt32).toInt32).toUInt32 >>> ((8 : Int32) &&& 31).toUInt32).toInt32).toUInt32 >>> ((4 : Int32) &&& 31).toUInt32).toInt32).toUInt32 >>> ((2 : Int32) &&& 31).toUInt32).toInt32).toUInt32 >>> ((1 : Int32) &&& 31).toUInt32).toInt32)) else ((29 : Int32) + ((((((((((p1 ^^^ (-1 : Int32)) &&& (p1 - (1 : Int32))).toUInt32 >>> ((16 : Int32) &&& 31).toUInt32).toInt32).toUInt32 >>> ((8 : Int32) &&& 31).toUInt32).toInt32).toUInt32 >>> ((4 : Int32) &&& 31).toUInt32).toInt32).toUInt32 >>> ((1 : Int32) &&& 31).toUInt32).toInt32))) else (if (4 : Int32) < ((((((p1 ^^^ (-1 : Int32)) &&& (p1 - (1 : Int32))).toUInt32 >>> ((16 : Int32) &&& 31).toUInt32).toInt32).toUInt32 >>> ((8 : Int32) &&& 31).toUInt32).toInt32) then ((27 : Int32) + ((((((((((p1 ^^^ (-1 : Int32)) &&& (p1 - (1 : Int32))).toUInt32 >>> ((16 : Int32) &&& 31).toUInt32).toInt32).toUInt32 >>> ((8 : Int32) &&& 31).toUInt32).toInt32).toUInt32 >>> ((2 : Int32) &&& 31).toUInt32).toInt32).toUInt32 >>> ((1 : Int32) &&& 31).toUInt32).toInt32)) else ((25 : Int32) + ((((((((p1 ^^^ (-1 : Int32)) &&& (p1 - (1 : Int32))).toUInt32 >>> ((16 : Int32) &&& 31).toUInt32).toInt32).toUInt32 >>> ((8 : Int32) &&& 31).toUInt32).toInt32).toUInt32 >>> ((1 : Int32) &&& 31).toUInt32).toInt32)))) else (if (16 : Int32) < ((((p1 ^^^ (-1 : Int32)) &&& (p1 - (1 : Int32))).toUInt32 >>> ((16 : Int32) &&& 31).toUInt32).toInt32) then (if (4 : Int32) < ((((((p1 ^^^ (-1 : Int32)) &&& (p1 - (1 : Int32))).toUInt32 >>> ((16 : Int32) &&& 31).toUInt32).toInt32).toUInt32 >>> ((4 : Int32) &&& 31).toUInt32).toInt32) then ((23 : Int32) + ((((((((((p1 ^^^ (-1 : Int32)) &&& (p1 - (1 : Int32))).toUInt32 >>> ((16 : Int32) &&& 31).toUInt32).toInt32).toUInt32 >>> ((4 : Int32) &&& 31).toUInt32).toInt32).toUInt32 >>> ((2 : Int32) &&& 31).toUInt32).toInt32).toUInt32 >>> ((1 : Int32) &&& 31).toUInt32).toInt32)) else ((21 : Int32) + ((((((((p1 ^^^ (-1 : Int32)) &&& (p1 - (1 : Int32))).toUInt32 >>> ((16 : Int32) &&& 31).toUInt32).toInt32).toUInt32 >>> ((4 : Int32) &&& 31).toUInt32).toInt32).toUInt32 >>> ((1 : Int32) &&& 31).toUInt32).toInt32))) else (if (4 : Int32) < ((((p1 ^^^ (-1 : Int32)) &&& (p1 - (1 : Int32))).toUInt32 >>> ((16 : Int32) &&& 31).toUInt32).toInt32) then ((19 : Int32) + ((((((((p1 ^^^ (-1 : Int32)) &&& (p1 - (1 : Int32))).toUInt32 >>> ((16 : Int32) &&& 31).toUInt32).toInt32).toUInt32 >>> ((2 : Int32) &&& 31).toUInt32).toInt32).toUInt32 >>> ((1 : Int32) &&& 31).toUInt32).toInt32)) else ((17 : Int32) + ((((((p1 ^^^ (-1 : Int32)) &&& (p1 - (1 : Int32))).toUInt32 >>> ((16 : Int32) &&& 31).toUInt32).toInt32).toUInt32 >>> ((1 : Int32) &&& 31).toUInt32).toInt32))))) else (if (256 : Int32) < ((p1 ^^^ (-1 : Int32)) &&& (p1 - (1 : Int32))) then (if (16 : Int32) < ((((p1 ^^^ (-1 : Int32)) &&& (p1 - (1 : Int32))).toUInt32 >>> ((8 : Int32) &&& 31).toUInt32).toInt32) then (if (4 : Int32) < ((((((p1 ^^^ (-1 : Int32)) &&& (p1 - (1 : Int32))).toUInt32 >>> ((8 : Int32) &&& 31).toUInt32).toInt32).toUInt32 >>> ((4 : Int32) &&& 31).toUInt32).toInt32) then ((15 : Int32) + ((((((((((p1 ^^^ (-1 : Int32)) &&& (p1 - (1 : Int32))).toUInt32 >>> ((8 : Int32) &&& 31).toUInt32).toInt32).toUInt32 >>> ((4 : Int32) &&& 31).toUInt32).toInt32).toUInt32 >>> ((2 : Int32) &&& 31).toUInt32).toInt32).toUInt32 >>> ((1 : Int32) &&& 31).toUInt32).toInt32)) else ((13 : Int32) + ((((((((p1 ^^^ (-1 : Int32)) &&& (p1 - (1 : Int32))).toUInt32 >>> ((8 : Int32) &&& 31).toUInt32).toInt32).toUInt32 >>> ((4 : Int32) &&& 31).toUInt32).toInt32).toUInt32 >>> ((1 : Int32) &&& 31).toUInt32).toInt32))) else (if (4 : Int32) < ((((p1 ^^^ (-1 : Int32)) &&& (p1 - (1 : Int32))).toUInt32 >>> ((8 : Int32) &&& 31).toUInt32).toInt32) then ((11 : Int32) + ((((((((p1 ^^^ (-1 : Int32)) &&& (p1 - (1 : Int32))).toUInt32 >>> ((8 : Int32) &&& 31).toUInt32).toInt32).toUInt32 >>> ((2 : Int32) &&& 31).toUInt32).toInt32).toUInt32 >>> ((1 : Int32) &&& 31).toUInt32).toInt32)) else ((9 : Int32) + ((((((p1 ^^^ (-1 : Int32)) &&& (p1 - (1 : Int32))).toUInt32 >>> ((8 : Int32) &&& 31).toUInt32).toInt32).toUInt32 >>> ((1 : Int32) &&& 31).toUInt32).toInt32)))) else (if (16 : Int32) < ((p1 ^^^ (-1 : Int32)) &&& (p1 - (1 : Int32))) then (if (4 : Int32) < ((((p1 ^^^ (-1 : Int32)) &&& (p1 - (1 : Int32))).toUInt32 >>> ((4 : Int32) &&& 31).toUInt32).toInt32) then ((7 : Int32) + ((((((((p1 ^^^ (-1 : Int32)) &&& (p1 - (1 : Int32))).toUInt32 >>> ((4 : Int32) &&& 31).toUInt32).toInt32).toUInt32 >>> ((2 : Int32) &&& 31).toUInt32).toInt32).toUInt32 >>> ((1 : Int32) &&& 31).toUInt32).toInt32)) else ((5 : Int32) + ((((((p1 ^^^ (-1 : Int32)) &&& (p1 - (1 : Int32))).toUInt32 >>> ((4 : Int32) &&& 31).toUInt32).toInt32).toUInt32 >>> ((1 : Int32) &&& 31).toUInt32).toInt32))) else (if (4 : Int32) < ((p1 ^^^ (-1 : Int32)) &&& (p1 - (1 : Int32))) then ((3 : Int32) + ((((((p1 ^^^ (-1 : Int32)) &&& (p1 - (1 : Int32))).toUInt32 >>> ((2 : Int32) &&& 31).toUInt32).toInt32).toUInt32 >>> ((1 : Int32) &&& 31).toUInt32).toInt32)) else ((1 : Int32) + ((((p1 ^^^ (-1 : Int32)) &&& (p1 - (1 : Int32))).toUInt32 >>> ((1 : Int32) &&& 31).toUInt32).toInt32)))))) else (((p1 ^^^ (-1 : Int32)) &&& (p1 - (1 : Int32))) &&& (32 : Int32))) = Jvm.Free.JP.Integer_numberOfTrailingZeros_I.val p1 := rfl
theorem own_ntzL (q1 : Int64) : (if q1.toInt32 = (0 : Int32) then ((32 : Int32) + (Jvm.Free.JP.Integer_numberOfTrailingZeros_I.val (((q1.toUInt64 >>> ((32 : Int32) &&& 0x3f).toInt64.toUInt64).toInt64).toInt32))) else (Jvm.Free.JP.Integer_numberOfTrailingZeros_I.val q1.toInt32)) = LV q1 := rfl
theorem pn11 : plainName "java/lang/Integer" = true := by first | (simp [plainName, overriddenIn]; done) | decide +kernel
theorem ef11 (m : MethodId) (x0 : Int32) : entryFrame m #[(.int x0)] 2 = mkF m 0 #[.val (.int x0), .unset] [] := by first | (simp [entryFrame, mkF, argsToLocals, Value.category]; done) | rfl
set_option maxRecDepth 65536 in
set_option maxHeartbeats 40000000 in
theorem rm11 (l : Launch) (Z : State) (a0 : Array Value) (hw : ∀ d ∈ tables_1, d.before a0 Z = true) (ws : List Jvm.Cond) (p1 : Int32) (h0 : Heap) (n0 : Nat) (Z0 : n0 ≤ h0.size) :
    Met l Z (⟨"java/lang/Integer", "numberOfTrailingZeros", "(I)I"⟩ : MethodName) jdk_33_method_48_code 2 (some .int) ({ frames := 0, cells := 0, slots := 0, locals := 0 } : Room) ws n0 #[(.int p1)] h0 (fun v h' => v = some (.int (Jvm.Free.JP.Integer_numberOfTrailingZeros_I.val p1)) ∧ h0 = h') := by
  refine Met.intro (plainFor_of_name pn11) Z0 ?_
  intro p e s m below meth c T X
  refine g_cast (ef11 m p1) ?_
  refine g_iloadN X d11_0 rfl (q := 1) rfl ?_
  refine g_iconst X d11_1 rfl (q := 2) (v := -1) rfl ?_
  refine g_ixor X d11_2 rfl (q := 3) ?_
  refine g_iloadN X d11_3 rfl (q := 4) rfl ?_
  refine g_iconst X d11_4 rfl (q := 5) (v := 1) rfl ?_
  refine g_isub X d11_5 rfl (q := 6) ?_
  refine g_iand X d11_6 rfl (q := 7) ?_
  refine g_istoreN X d11_7 rfl (q := 8) (L' := #[.val (.int ((p1 ^^^ (-1 : Int32)) &&& (p1 - (1 : Int32)))), .unset]) rfl ?_
  refine g_iloadN X d11_8 rfl (q := 9) rfl ?_
  refine g_ifA X d11_9 (Or.inr (Or.inl rfl)) (q := 12) rfl (by decide) (t := 17) rfl (fun (c1 : (0 : Int32) < ((p1 ^^^ (-1 : Int32)) &&& (p1 - (1 : Int32)))) => ?_) (fun (c1 : ¬ ((0 : Int32) < ((p1 ^^^ (-1 : Int32)) &&& (p1 - (1 : Int32))))) => ?_)
  · skip
    refine g_iconst X d11_17 rfl (q := 18) (v := 1) rfl ?_
    refine g_istoreN X d11_18 rfl (q := 19) (L' := #[.val (.int ((p1 ^^^ (-1 : Int32)) &&& (p1 - (1 : Int32)))), .val (.int (1 : Int32))]) rfl ?_
    refine g_iloadN X d11_19 rfl (q := 20) rfl ?_
    refine g_ldcw X (tw57 hw) d11_20 (q := 23) rfl ?_
    refine g_icmpB X d11_23 (Or.inr (Or.inl rfl)) (q := 26) rfl (by decide) (t := 34) rfl (fun (c2 : (65536 : Int32) < ((p1 ^^^ (-1 : Int32)) &&& (p1 - (1 : Int32)))) => ?_) (fun (c2 : ¬ ((65536 : Int32) < ((p1 ^^^ (-1 : Int32)) &&& (p1 - (1 : Int32))))) => ?_)
    · skip
      refine g_iinc X d11_26 (q := 29) rfl rfl (d := 16) rfl (L' := #[.val (.int ((p1 ^^^ (-1 : Int32)) &&& (p1 - (1 : Int32)))), .val (.int (17 : Int32))]) rfl ?_
      refine g_iloadN X d11_29 rfl (q := 30) rfl ?_
      refine g_bipush X d11_30 rfl (q := 32) (v := 16) rfl ?_
      refine g_iushr X d11_32 rfl (q := 33) ?_
      refine g_istoreN X d11_33 rfl (q := 34) (L' := #[.val (.int ((((p1 ^^^ (-1 : Int32)) &&& (p1 - (1 : Int32))).toUInt32 >>> ((16 : Int32) &&& 31).toUInt32).toInt32)), .val (.int (17 : Int32))]) rfl ?_
      refine g_iloadN X d11_34 rfl (q := 35) rfl ?_
      refine g_sipush X d11_35 rfl (q := 38) (v := 256) rfl ?_
      refine g_icmpB X d11_38 (Or.inr (Or.inl rfl)) (q := 41) rfl (by decide) (t := 49) rfl (fun (c3 : (256 : Int32) < ((((p1 ^^^ (-1 : Int32)) &&& (p1 - (1 : Int32))).toUInt32 >>> ((16 : Int32) &&& 31).toUInt32).toInt32)) => ?_) (fun (c3 : ¬ ((256 : Int32) < ((((p1 ^^^ (-1 : Int32)) &&& (p1 - (1 : Int32))).toUInt32 >>> ((16 : Int32) &&& 31).toUInt32).toInt32))) => ?_)
      · skip
        refine g_iinc X d11_41 (q := 44) rfl rfl (d := 8) rfl (L' := #[.val (.int ((((p1 ^^^ (-1 : Int32)) &&& (p1 - (1 : Int32))).toUInt32 >>> ((16 : Int32) &&& 31).toUInt32).toInt32)), .val (.int (25 : Int32))]) rfl ?_
        refine g_iloadN X d11_44 rfl (q := 45) rfl ?_
        refine g_bipush X d11_45 rfl (q := 47) (v := 8) rfl ?_
        refine g_iushr X d11_47 rfl (q := 48) ?_
        refine g_istoreN X d11_48 rfl (q := 49) (L' := #[.val (.int ((((((p1 ^^^ (-1 : Int32)) &&& (p1 - (1 : Int32))).toUInt32 >>> ((16 : Int32) &&& 31).toUInt32).toInt32).toUInt32 >>> ((8 : Int32) &&& 31).toUInt32).toInt32)), .val (.int (25 : Int32))]) rfl ?_
        refine g_iloadN X d11_49 rfl (q := 50) rfl ?_
        refine g_bipush X d11_50 rfl (q := 52) (v := 16) rfl ?_
        refine g_icmpB X d11_52 (Or.inr (Or.inl rfl)) (q := 55) rfl (by decide) (t := 62) rfl (fun (c4 : (16 : Int32) < ((((((p1 ^^^ (-1 : Int32)) &&& (p1 - (1 : Int32))).toUInt32 >>> ((16 : Int32) &&& 31).toUInt32).toInt32).toUInt32 >>> ((8 : Int32) &&& 31).toUInt32).toInt32)) => ?_) (fun (c4 : ¬ ((16 : Int32) < ((((((p1 ^^^ (-1 : Int32)) &&& (p1 - (1 : Int32))).toUInt32 >>> ((16 : Int32) &&& 31).toUInt32).toInt32).toUInt32 >>> ((8 : Int32) &&& 31).toUInt32).toInt32))) => ?_)
        · skip
          refine g_iinc X d11_55 (q := 58) rfl rfl (d := 4) rfl (L' := #[.val (.int ((((((p1 ^^^ (-1 : Int32)) &&& (p1 - (1 : Int32))).toUInt32 >>> ((16 : Int32) &&& 31).toUInt32).toInt32).toUInt32 >>> ((8 : Int32) &&& 31).toUInt32).toInt32)), .val (.int (29 : Int32))]) rfl ?_
          refine g_iloadN X d11_58 rfl (q := 59) rfl ?_
          refine g_iconst X d11_59 rfl (q := 60) (v := 4) rfl ?_
          refine g_iushr X d11_60 rfl (q := 61) ?_
          refine g_istoreN X d11_61 rfl (q := 62) (L' := #[.val (.int ((((((((p1 ^^^ (-1 : Int32)) &&& (p1 - (1 : Int32))).toUInt32 >>> ((16 : Int32) &&& 31).toUInt32).toInt32).toUInt32 >>> ((8 : Int32) &&& 31).toUInt32).toInt32).toUInt32 >>> ((4 : Int32) &&& 31).toUInt32).toInt32)), .val (.int (29 : Int32))]) rfl ?_
          refine g_iloadN X d11_62 rfl (q := 63) rfl ?_
          refine g_iconst X d11_63 rfl (q := 64) (v := 4) rfl ?_
          refine g_icmpB X d11_64 (Or.inr (Or.inl rfl)) (q := 67) rfl (by decide) (t := 74) rfl (fun (c5 : (4 : Int32) < ((((((((p1 ^^^ (-1 : Int32)) &&& (p1 - (1 : Int32))).toUInt32 >>> ((16 : Int32) &&& 31).toUInt32).toInt32).toUInt32 >>> ((8 : Int32) &&& 31).toUInt32).toInt32).toUInt32 >>> ((4 : Int32) &&& 31).toUInt32).toInt32)) => ?_) (fun (c5 : ¬ ((4 : Int32) < ((((((((p1 ^^^ (-1 : Int32)) &&& (p1 - (1 : Int32))).toUInt32 >>> ((16 : Int32) &&& 31).toUInt32).toInt32).toUInt32 >>> ((8 : Int32) &&& 31).toUInt32).toInt32).toUInt32 >>> ((4 : Int32) &&& 31).toUInt32).toInt32))) => ?_)
          · skip
            refine g_iinc X d11_67 (q := 70) rfl rfl (d := 2) rfl (L' := #[.val (.int ((((((((p1 ^^^ (-1 : Int32)) &&& (p1 - (1 : Int32))).toUInt32 >>> ((16 : Int32) &&& 31).toUInt32).toInt32).toUInt32 >>> ((8 : Int32) &&& 31).toUInt32).toInt32).toUInt32 >>> ((4 : Int32) &&& 31).toUInt32).toInt32)), .val (.int (31 : Int32))]) rfl ?_
            refine g_iloadN X d11_70 rfl (q := 71) rfl ?_
            refine g_iconst X d11_71 rfl (q := 72) (v := 2) rfl ?_
            refine g_iushr X d11_72 rfl (q := 73) ?_
            refine g_istoreN X d11_73 rfl (q := 74) (L' := #[.val (.int ((((((((((p1 ^^^ (-1 : Int32)) &&& (p1 - (1 : Int32))).toUInt32 >>> ((16 : Int32) &&& 31).toUInt32).toInt32).toUInt32 >>> ((8 : Int32) &&& 31).toUInt32).toInt32).toUInt32 >>> ((4 : Int32) &&& 31).toUInt32).toInt32).toUInt32 >>> ((2 : Int32) &&& 31).toUInt32).toInt32)), .val (.int (31 : Int32))]) rfl ?_
            refine g_iloadN X d11_74 rfl (q := 75) rfl ?_
            refine g_iloadN X d11_75 rfl (q := 76) rfl ?_
            refine g_iconst X d11_76 rfl (q := 77) (v := 1) rfl ?_
            refine g_iushr X d11_77 rfl (q := 78) ?_
            refine g_iadd X d11_78 rfl (q := 79) ?_
            exact g_retI X d11_79 (by decide) (by decide) ⟨congrArg (fun z => some (Value.int z)) (Eq.trans ((((((if_pos c5).symm).trans (if_pos c4).symm).trans (if_pos c3).symm).trans (if_pos c2).symm).trans (if_pos c1).symm) (own_ntzI p1)), rfl⟩
          · skip
            refine g_iloadN X d11_74 rfl (q := 75) rfl ?_
            refine g_iloadN X d11_75 rfl (q := 76) rfl ?_
            refine g_iconst X d11_76 rfl (q := 77) (v := 1) rfl ?_
            refine g_iushr X d11_77 rfl (q := 78) ?_
            refine g_iadd X d11_78 rfl (q := 79) ?_
            exact g_retI X d11_79 (by decide) (by decide) ⟨congrArg (fun z => some (Value.int z)) (Eq.trans ((((((if_neg c5).symm).trans (if_pos c4).symm).trans (if_pos c3).symm).trans (if_pos c2).symm).trans (if_pos c1).symm) (own_ntzI p1)), rfl⟩
        · skip
          refine g_iloadN X d11_62 rfl (q := 63) rfl ?_
          refine g_iconst X d11_63 rfl (q := 64) (v := 4) rfl ?_
          refine g_icmpB X d11_64 (Or.inr (Or.inl rfl)) (q := 67) rfl (by decide) (t := 74) rfl (fun (c6 : (4 : Int32) < ((((((p1 ^^^ (-1 : Int32)) &&& (p1 - (1 : Int32))).toUInt32 >>> ((16 : Int32) &&& 31).toUInt32).toInt32).toUInt32 >>> ((8 : Int32) &&& 31).toUInt32).toInt32)) => ?_) (fun (c6 : ¬ ((4 : Int32) < ((((((p1 ^^^ (-1 : Int32)) &&& (p1 - (1 : Int32))).toUInt32 >>> ((16 : Int32) &&& 31).toUInt32).toInt32).toUInt32 >>> ((8 : Int32) &&& 31).toUInt32).toInt32))) => ?_)
          · skip
            refine g_iinc X d11_67 (q := 70) rfl rfl (d := 2) rfl (L' := #[.val (.int ((((((p1 ^^^ (-1 : Int32)) &&& (p1 - (1 : Int32))).toUInt32 >>> ((16 : Int32) &&& 31).toUInt32).toInt32).toUInt32 >>> ((8 : Int32) &&& 31).toUInt32).toInt32)), .val (.int (27 : Int32))]) rfl ?_
            refine g_iloadN X d11_70 rfl (q := 71) rfl ?_
            refine g_iconst X d11_71 rfl (q := 72) (v := 2) rfl ?_
            refine g_iushr X d11_72 rfl (q := 73) ?_
            refine g_istoreN X d11_73 rfl (q := 74) (L' := #[.val (.int ((((((((p1 ^^^ (-1 : Int32)) &&& (p1 - (1 : Int32))).toUInt32 >>> ((16 : Int32) &&& 31).toUInt32).toInt32).toUInt32 >>> ((8 : Int32) &&& 31).toUInt32).toInt32).toUInt32 >>> ((2 : Int32) &&& 31).toUInt32).toInt32)), .val (.int (27 : Int32))]) rfl ?_
            refine g_iloadN X d11_74 rfl (q := 75) rfl ?_
            refine g_iloadN X d11_75 rfl (q := 76) rfl ?_
            refine g_iconst X d11_76 rfl (q := 77) (v := 1) rfl ?_
            refine g_iushr X d11_77 rfl (q := 78) ?_
            refine g_iadd X d11_78 rfl (q := 79) ?_
            exact g_retI X d11_79 (by decide) (by decide) ⟨congrArg (fun z => some (Value.int z)) (Eq.trans ((((((if_pos c6).symm).trans (if_neg c4).symm).trans (if_pos c3).symm).trans (if_pos c2).symm).trans (if_pos c1).symm) (own_ntzI p1)), rfl⟩
          · skip
            refine g_iloadN X d11_74 rfl (q := 75) rfl ?_
            refine g_iloadN X d11_75 rfl (q := 76) rfl ?_
            refine g_iconst X d11_76 rfl (q := 77) (v := 1) rfl ?_
            refine g_iushr X d11_77 rfl (q := 78) ?_
            refine g_iadd X d11_78 rfl (q := 79) ?_
            exact g_retI X d11_79 (by decide) (by decide) ⟨congrArg (fun z => some (Value.int z)) (Eq.trans ((((((if_neg c6).symm).trans (if_neg c4).symm).trans (if_pos c3).symm).trans (if_pos c2).symm).trans (if_pos c1).symm) (own_ntzI p1)), rfl⟩
      · skip
        refine g_iloadN X d11_49 rfl (q := 50) rfl ?_
        refine g_bipush X d11_50 rfl (q := 52) (v := 16) rfl ?_
        refine g_icmpB X d11_52 (Or.inr (Or.inl rfl)) (q := 55) rfl (by decide) (t := 62) rfl (fun (c7 : (16 : Int32) < ((((p1 ^^^ (-1 : Int32)) &&& (p1 - (1 : Int32))).toUInt32 >>> ((16 : Int32) &&& 31).toUInt32).toInt32)) => ?_) (fun (c7 : ¬ ((16 : Int32) < ((((p1 ^^^ (-1 : Int32)) &&& (p1 - (1 : Int32))).toUInt32 >>> ((16 : Int32) &&& 31).toUInt32).toInt32))) => ?_)
        · skip
          refine g_iinc X d11_55 (q := 58) rfl rfl (d := 4) rfl (L' := #[.val (.int ((((p1 ^^^ (-1 : Int32)) &&& (p1 - (1 : Int32))).toUInt32 >>> ((16 : Int32) &&& 31).toUInt32).toInt32)), .val (.int (21 : Int32))]) rfl ?_
          refine g_iloadN X d11_58 rfl (q := 59) rfl ?_
          refine g_iconst X d11_59 rfl (q := 60) (v := 4) rfl ?_
          refine g_iushr X d11_60 rfl (q := 61) ?_
          refine g_istoreN X d11_61 rfl (q := 62) (L' := #[.val (.int ((((((p1 ^^^ (-1 : Int32)) &&& (p1 - (1 : Int32))).toUInt32 >>> ((16 : Int32) &&& 31).toUInt32).toInt32).toUInt32 >>> ((4 : Int32) &&& 31).toUInt32).toInt32)), .val (.int (21 : Int32))]) rfl ?_
          refine g_iloadN X d11_62 rfl (q := 63) rfl ?_
          refine g_iconst X d11_63 rfl (q := 64) (v := 4) rfl ?_
          refine g_icmpB X d11_64 (Or.inr (Or.inl rfl)) (q := 67) rfl (by decide) (t := 74) rfl (fun (c8 : (4 : Int32) < ((((((p1 ^^^ (-1 : Int32)) &&& (p1 - (1 : Int32))).toUInt32 >>> ((16 : Int32) &&& 31).toUInt32).toInt32).toUInt32 >>> ((4 : Int32) &&& 31).toUInt32).toInt32)) => ?_) (fun (c8 : ¬ ((4 : Int32) < ((((((p1 ^^^ (-1 : Int32)) &&& (p1 - (1 : Int32))).toUInt32 >>> ((16 : Int32) &&& 31).toUInt32).toInt32).toUInt32 >>> ((4 : Int32) &&& 31).toUInt32).toInt32))) => ?_)
          · skip
            refine g_iinc X d11_67 (q := 70) rfl rfl (d := 2) rfl (L' := #[.val (.int ((((((p1 ^^^ (-1 : Int32)) &&& (p1 - (1 : Int32))).toUInt32 >>> ((16 : Int32) &&& 31).toUInt32).toInt32).toUInt32 >>> ((4 : Int32) &&& 31).toUInt32).toInt32)), .val (.int (23 : Int32))]) rfl ?_
            refine g_iloadN X d11_70 rfl (q := 71) rfl ?_
            refine g_iconst X d11_71 rfl (q := 72) (v := 2) rfl ?_
            refine g_iushr X d11_72 rfl (q := 73) ?_
            refine g_istoreN X d11_73 rfl (q := 74) (L' := #[.val (.int ((((((((p1 ^^^ (-1 : Int32)) &&& (p1 - (1 : Int32))).toUInt32 >>> ((16 : Int32) &&& 31).toUInt32).toInt32).toUInt32 >>> ((4 : Int32) &&& 31).toUInt32).toInt32).toUInt32 >>> ((2 : Int32) &&& 31).toUInt32).toInt32)), .val (.int (23 : Int32))]) rfl ?_
            refine g_iloadN X d11_74 rfl (q := 75) rfl ?_
            refine g_iloadN X d11_75 rfl (q := 76) rfl ?_
            refine g_iconst X d11_76 rfl (q := 77) (v := 1) rfl ?_
            refine g_iushr X d11_77 rfl (q := 78) ?_
            refine g_iadd X d11_78 rfl (q := 79) ?_
            exact g_retI X d11_79 (by decide) (by decide) ⟨congrArg (fun z => some (Value.int z)) (Eq.trans ((((((if_pos c8).symm).trans (if_pos c7).symm).trans (if_neg c3).symm).trans (if_pos c2).symm).trans (if_pos c1).symm) (own_ntzI p1)), rfl⟩
          · skip
            refine g_iloadN X d11_74 rfl (q := 75) rfl ?_
            refine g_iloadN X d11_75 rfl (q := 76) rfl ?_
            refine g_iconst X d11_76 rfl (q := 77) (v := 1) rfl ?_
            refine g_iushr X d11_77 rfl (q := 78) ?_
            refine g_iadd X d11_78 rfl (q := 79) ?_
            exact g_retI X d11_79 (by decide) (by decide) ⟨congrArg (fun z => some (Value.int z)) (Eq.trans ((((((if_neg c8).symm).trans (if_pos c7).symm).trans (if_neg c3).symm).trans (if_pos c2).symm).trans (if_pos c1).symm) (own_ntzI p1)), rfl⟩
        · skip
          refine g_iloadN X d11_62 rfl (q := 63) rfl ?_
          refine g_iconst X d11_63 rfl (q := 64) (v := 4) rfl ?_
          refine g_icmpB X d11_64 (Or.inr (Or.inl rfl)) (q := 67) rfl (by decide) (t := 74) rfl (fun (c9 : (4 : Int32) < ((((p1 ^^^ (-1 : Int32)) &&& (p1 - (1 : Int32))).toUInt32 >>> ((16 : Int32) &&& 31).toUInt32).toInt32)) => ?_) (fun (c9 : ¬ ((4 : Int32) < ((((p1 ^^^ (-1 : Int32)) &&& (p1 - (1 : Int32))).toUInt32 >>> ((16 : Int32) &&& 31).toUInt32).toInt32))) => ?_)
          · skip
            refine g_iinc X d11_67 (q := 70) rfl rfl (d := 2) rfl (L' := #[.val (.int ((((p1 ^^^ (-1 : Int32)) &&& (p1 - (1 : Int32))).toUInt32 >>> ((16 : Int32) &&& 31).toUInt32).toInt32)), .val (.int (19 : Int32))]) rfl ?_
            refine g_iloadN X d11_70 rfl (q := 71) rfl ?_
            refine g_iconst X d11_71 rfl (q := 72) (v := 2) rfl ?_
            refine g_iushr X d11_72 rfl (q := 73) ?_
            refine g_istoreN X d11_73 rfl (q := 74) (L' := #[.val (.int ((((((p1 ^^^ (-1 : Int32)) &&& (p1 - (1 : Int32))).toUInt32 >>> ((16 : Int32) &&& 31).toUInt32).toInt32).toUInt32 >>> ((2 : Int32) &&& 31).toUInt32).toInt32)), .val (.int (19 : Int32))]) rfl ?_
            refine g_iloadN X d11_74 rfl (q := 75) rfl ?_
            refine g_iloadN X d11_75 rfl (q := 76) rfl ?_
            refine g_iconst X d11_76 rfl (q := 77) (v := 1) rfl ?_
            refine g_iushr X d11_77 rfl (q := 78) ?_
            refine g_iadd X d11_78 rfl (q := 79) ?_
            exact g_retI X d11_79 (by decide) (by decide) ⟨congrArg (fun z => some (Value.int z)) (Eq.trans ((((((if_pos c9).symm).trans (if_neg c7).symm).trans (if_neg c3).symm).trans (if_pos c2).symm).trans (if_pos c1).symm) (own_ntzI p1)), rfl⟩
          · skip
            refine g_iloadN X d11_74 rfl (q := 75) rfl ?_
            refine g_iloadN X d11_75 rfl (q := 76) rfl ?_
            refine g_iconst X d11_76 rfl (q := 77) (v := 1) rfl ?_
            refine g_iushr X d11_77 rfl (q := 78) ?_
            refine g_iadd X d11_78 rfl (q := 79) ?_
            exact g_retI X d11_79 (by decide) (by decide) ⟨congrArg (fun z => some (Value.int z)) (Eq.trans ((((((if_neg c9).symm).trans (if_neg c7).symm).trans (if_neg c3).symm).trans (if_pos c2).symm).trans (if_pos c1).symm) (own_ntzI p1)), rfl⟩
    · skip
      refine g_iloadN X d11_34 rfl (q := 35) rfl ?_
      refine g_sipush X d11_35 rfl (q := 38) (v := 256) rfl ?_
      refine g_icmpB X d11_38 (Or.inr (Or.inl rfl)) (q := 41) rfl (by decide) (t := 49) rfl (fun (c10 : (256 : Int32) < ((p1 ^^^ (-1 : Int32)) &&& (p1 - (1 : Int32)))) => ?_) (fun (c10 : ¬ ((256 : Int32) < ((p1 ^^^ (-1 : Int32)) &&& (p1 - (1 : Int32))))) => ?_)
      · skip
        refine g_iinc X d11_41 (q := 44) rfl rfl (d := 8) rfl (L' := #[.val (.int ((p1 ^^^ (-1 : Int32)) &&& (p1 - (1 : Int32)))), .val (.int (9 : Int32))]) rfl ?_
        refine g_iloadN X d11_44 rfl (q := 45) rfl ?_
        refine g_bipush X d11_45 rfl (q := 47) (v := 8) rfl ?_
        refine g_iushr X d11_47 rfl (q := 48) ?_
        refine g_istoreN X d11_48 rfl (q := 49) (L' := #[.val (.int ((((p1 ^^^ (-1 : Int32)) &&& (p1 - (1 : Int32))).toUInt32 >>> ((8 : Int32) &&& 31).toUInt32).toInt32)), .val (.int (9 : Int32))]) rfl ?_
        refine g_iloadN X d11_49 rfl (q := 50) rfl ?_
        refine g_bipush X d11_50 rfl (q := 52) (v := 16) rfl ?_
        refine g_icmpB X d11_52 (Or.inr (Or.inl rfl)) (q := 55) rfl (by decide) (t := 62) rfl (fun (c11 : (16 : Int32) < ((((p1 ^^^ (-1 : Int32)) &&& (p1 - (1 : Int32))).toUInt32 >>> ((8 : Int32) &&& 31).toUInt32).toInt32)) => ?_) (fun (c11 : ¬ ((16 : Int32) < ((((p1 ^^^ (-1 : Int32)) &&& (p1 - (1 : Int32))).toUInt32 >>> ((8 : Int32) &&& 31).toUInt32).toInt32))) => ?_)
        · skip
          refine g_iinc X d11_55 (q := 58) rfl rfl (d := 4) rfl (L' := #[.val (.int ((((p1 ^^^ (-1 : Int32)) &&& (p1 - (1 : Int32))).toUInt32 >>> ((8 : Int32) &&& 31).toUInt32).toInt32)), .val (.int (13 : Int32))]) rfl ?_
          refine g_iloadN X d11_58 rfl (q := 59) rfl ?_
          refine g_iconst X d11_59 rfl (q := 60) (v := 4) rfl ?_
          refine g_iushr X d11_60 rfl (q := 61) ?_
          refine g_istoreN X d11_61 rfl (q := 62) (L' := #[.val (.int ((((((p1 ^^^ (-1 : Int32)) &&& (p1 - (1 : Int32))).toUInt32 >>> ((8 : Int32) &&& 31).toUInt32).toInt32).toUInt32 >>> ((4 : Int32) &&& 31).toUInt32).toInt32)), .val (.int (13 : Int32))]) rfl ?_
          refine g_iloadN X d11_62 rfl (q := 63) rfl ?_
          refine g_iconst X d11_63 rfl (q := 64) (v := 4) rfl ?_
          refine g_icmpB X d11_64 (Or.inr (Or.inl rfl)) (q := 67) rfl (by decide) (t := 74) rfl (fun (c12 : (4 : Int32) < ((((((p1 ^^^ (-1 : Int32)) &&& (p1 - (1 : Int32))).toUInt32 >>> ((8 : Int32) &&& 31).toUInt32).toInt32).toUInt32 >>> ((4 : Int32) &&& 31).toUInt32).toInt32)) => ?_) (fun (c12 : ¬ ((4 : Int32) < ((((((p1 ^^^ (-1 : Int32)) &&& (p1 - (1 : Int32))).toUInt32 >>> ((8 : Int32) &&& 31).toUInt32).toInt32).toUInt32 >>> ((4 : Int32) &&& 31).toUInt32).toInt32))) => ?_)
          · skip
            refine g_iinc X d11_67 (q := 70) rfl rfl (d := 2) rfl (L' := #[.val (.int ((((((p1 ^^^ (-1 : Int32)) &&& (p1 - (1 : Int32))).toUInt32 >>> ((8 : Int32) &&& 31).toUInt32).toInt32).toUInt32 >>> ((4 : Int32) &&& 31).toUInt32).toInt32)), .val (.int (15 : Int32))]) rfl ?_
            refine g_iloadN X d11_70 rfl (q := 71) rfl ?_
            refine g_iconst X d11_71 rfl (q := 72) (v := 2) rfl ?_
            refine g_iushr X d11_72 rfl (q := 73) ?_
            refine g_istoreN X d11_73 rfl (q := 74) (L' := #[.val (.int ((((((((p1 ^^^ (-1 : Int32)) &&& (p1 - (1 : Int32))).toUInt32 >>> ((8 : Int32) &&& 31).toUInt32).toInt32).toUInt32 >>> ((4 : Int32) &&& 31).toUInt32).toInt32).toUInt32 >>> ((2 : Int32) &&& 31).toUInt32).toInt32)), .val (.int (15 : Int32))]) rfl ?_
            refine g_iloadN X d11_74 rfl (q := 75) rfl ?_
            refine g_iloadN X d11_75 rfl (q := 76) rfl ?_
            refine g_iconst X d11_76 rfl (q := 77) (v := 1) rfl ?_
            refine g_iushr X d11_77 rfl (q := 78) ?_
            refine g_iadd X d11_78 rfl (q := 79) ?_
            exact g_retI X d11_79 (by decide) (by decide) ⟨congrArg (fun z => some (Value.int z)) (Eq.trans ((((((if_pos c12).symm).trans (if_pos c11).symm).trans (if_pos c10).symm).trans (if_neg c2).symm).trans (if_pos c1).symm) (own_ntzI p1)), rfl⟩
          · skip
            refine g_iloadN X d11_74 rfl (q := 75) rfl ?_
            refine g_iloadN X d11_75 rfl (q := 76) rfl ?_
            refine g_iconst X d11_76 rfl (q := 77) (v := 1) rfl ?_
            refine g_iushr X d11_77 rfl (q := 78) ?_
            refine g_iadd X d11_78 rfl (q := 79) ?_
            exact g_retI X d11_79 (by decide) (by decide) ⟨congrArg (fun z => some (Value.int z)) (Eq.trans ((((((if_neg c12).symm).trans (if_pos c11).symm).trans (if_pos c10).symm).trans (if_neg c2).symm).trans (if_pos c1).symm) (own_ntzI p1)), rfl⟩
        · skip
          refine g_iloadN X d11_62 rfl (q := 63) rfl ?_
          refine g_iconst X d11_63 rfl (q := 64) (v := 4) rfl ?_
          refine g_icmpB X d11_64 (Or.inr (Or.inl rfl)) (q := 67) rfl (by decide) (t := 74) rfl (fun (c13 : (4 : Int32) < ((((p1 ^^^ (-1 : Int32)) &&& (p1 - (1 : Int32))).toUInt32 >>> ((8 : Int32) &&& 31).toUInt32).toInt32)) => ?_) (fun (c13 : ¬ ((4 : Int32) < ((((p1 ^^^ (-1 : Int32)) &&& (p1 - (1 : Int32))).toUInt32 >>> ((8 : Int32) &&& 31).toUInt32).toInt32))) => ?_)
          · skip
            refine g_iinc X d11_67 (q := 70) rfl rfl (d := 2) rfl (L' := #[.val (.int ((((p1 ^^^ (-1 : Int32)) &&& (p1 - (1 : Int32))).toUInt32 >>> ((8 : Int32) &&& 31).toUInt32).toInt32)), .val (.int (11 : Int32))]) rfl ?_
            refine g_iloadN X d11_70 rfl (q := 71) rfl ?_
            refine g_iconst X d11_71 rfl (q := 72) (v := 2) rfl ?_
            refine g_iushr X d11_72 rfl (q := 73) ?_
            refine g_istoreN X d11_73 rfl (q := 74) (L' := #[.val (.int ((((((p1 ^^^ (-1 : Int32)) &&& (p1 - (1 : Int32))).toUInt32 >>> ((8 : Int32) &&& 31).toUInt32).toInt32).toUInt32 >>> ((2 : Int32) &&& 31).toUInt32).toInt32)), .val (.int (11 : Int32))]) rfl ?_
            refine g_iloadN X d11_74 rfl (q := 75) rfl ?_
            refine g_iloadN X d11_75 rfl (q := 76) rfl ?_
            refine g_iconst X d11_76 rfl (q := 77) (v := 1) rfl ?_
            refine g_iushr X d11_77 rfl (q := 78) ?_
            refine g_iadd X d11_78 rfl (q := 79) ?_
            exact g_retI X d11_79 (by decide) (by decide) ⟨congrArg (fun z => some (Value.int z)) (Eq.trans ((((((if_pos c13).symm).trans (if_neg c11).symm).trans (if_pos c10).symm).trans (if_neg c2).symm).trans (if_pos c1).symm) (own_ntzI p1)), rfl⟩
          · skip
            refine g_iloadN X d11_74 rfl (q := 75) rfl ?_
            refine g_iloadN X d11_75 rfl (q := 76) rfl ?_
            refine g_iconst X d11_76 rfl (q := 77) (v := 1) rfl ?_
            refine g_iushr X d11_77 rfl (q := 78) ?_
            refine g_iadd X d11_78 rfl (q := 79) ?_
            exact g_retI X d11_79 (by decide) (by decide) ⟨congrArg (fun z => some (Value.int z)) (Eq.trans ((((((if_neg c13).symm).trans (if_neg c11).symm).trans (if_pos c10).symm).trans (if_neg c2).symm).trans (if_pos c1).symm) (own_ntzI p1)), rfl⟩
      · skip
        refine g_iloadN X d11_49 rfl (q := 50) rfl ?_
        refine g_bipush X d11_50 rfl (q := 52) (v := 16) rfl ?_
        refine g_icmpB X d11_52 (Or.inr (Or.inl rfl)) (q := 55) rfl (by decide) (t := 62) rfl (fun (c14 : (16 : Int32) < ((p1 ^^^ (-1 : Int32)) &&& (p1 - (1 : Int32)))) => ?_) (fun (c14 : ¬ ((16 : Int32) < ((p1 ^^^ (-1 : Int32)) &&& (p1 - (1 : Int32))))) => ?_)
        · skip
          refine g_iinc X d11_55 (q := 58) rfl rfl (d := 4) rfl (L' := #[.val (.int ((p1 ^^^ (-1 : Int32)) &&& (p1 - (1 : Int32)))), .val (.int (5 : Int32))]) rfl ?_
          refine g_iloadN X d11_58 rfl (q := 59) rfl ?_
          refine g_iconst X d11_59 rfl (q := 60) (v := 4) rfl ?_
          refine g_iushr X d11_60 rfl (q := 61) ?_
          refine g_istoreN X d11_61 rfl (q := 62) (L' := #[.val (.int ((((p1 ^^^ (-1 : Int32)) &&& (p1 - (1 : Int32))).toUInt32 >>> ((4 : Int32) &&& 31).toUInt32).toInt32)), .val (.int (5 : Int32))]) rfl ?_
          refine g_iloadN X d11_62 rfl (q := 63) rfl ?_
          refine g_iconst X d11_63 rfl (q := 64) (v := 4) rfl ?_
          refine g_icmpB X d11_64 (Or.inr (Or.inl rfl)) (q := 67) rfl (by decide) (t := 74) rfl (fun (c15 : (4 : Int32) < ((((p1 ^^^ (-1 : Int32)) &&& (p1 - (1 : Int32))).toUInt32 >>> ((4 : Int32) &&& 31).toUInt32).toInt32)) => ?_) (fun (c15 : ¬ ((4 : Int32) < ((((p1 ^^^ (-1 : Int32)) &&& (p1 - (1 : Int32))).toUInt32 >>> ((4 : Int32) &&& 31).toUInt32).toInt32))) => ?_)
          · skip
            refine g_iinc X d11_67 (q := 70) rfl rfl (d := 2) rfl (L' := #[.val (.int ((((p1 ^^^ (-1 : Int32)) &&& (p1 - (1 : Int32))).toUInt32 >>> ((4 : Int32) &&& 31).toUInt32).toInt32)), .val (.int (7 : Int32))]) rfl ?_
            refine g_iloadN X d11_70 rfl (q := 71) rfl ?_
            refine g_iconst X d11_71 rfl (q := 72) (v := 2) rfl ?_
            refine g_iushr X d11_72 rfl (q := 73) ?_
            refine g_istoreN X d11_73 rfl (q := 74) (L' := #[.val (.int ((((((p1 ^^^ (-1 : Int32)) &&& (p1 - (1 : Int32))).toUInt32 >>> ((4 : Int32) &&& 31).toUInt32).toInt32).toUInt32 >>> ((2 : Int32) &&& 31).toUInt32).toInt32)), .val (.int (7 : Int32))]) rfl ?_
            refine g_iloadN X d11_74 rfl (q := 75) rfl ?_
            refine g_iloadN X d11_75 rfl (q := 76) rfl ?_
            refine g_iconst X d11_76 rfl (q := 77) (v := 1) rfl ?_
            refine g_iushr X d11_77 rfl (q := 78) ?_
            refine g_iadd X d11_78 rfl (q := 79) ?_
            exact g_retI X d11_79 (by decide) (by decide) ⟨congrArg (fun z => some (Value.int z)) (Eq.trans ((((((if_pos c15).symm).trans (if_pos c14).symm).trans (if_neg c10).symm).trans (if_neg c2).symm).trans (if_pos c1).symm) (own_ntzI p1)), rfl⟩
          · skip
            refine g_iloadN X d11_74 rfl (q := 75) rfl ?_
            refine g_iloadN X d11_75 rfl (q := 76) rfl ?_
            refine g_iconst X d11_76 rfl (q := 77) (v := 1) rfl ?_
            refine g_iushr X d11_77 rfl (q := 78) ?_
            refine g_iadd X d11_78 rfl (q := 79) ?_
            exact g_retI X d11_79 (by decide) (by decide) ⟨congrArg (fun z => some (Value.int z)) (Eq.trans ((((((if_neg c15).symm).trans (if_pos c14).symm).trans (if_neg c10).symm).trans (if_neg c2).symm).trans (if_pos c1).symm) (own_ntzI p1)), rfl⟩
        · skip
          refine g_iloadN X d11_62 rfl (q := 63) rfl ?_
          refine g_iconst X d11_63 rfl (q := 64) (v := 4) rfl ?_
          refine g_icmpB X d11_64 (Or.inr (Or.inl rfl)) (q := 67) rfl (by decide) (t := 74) rfl (fun (c16 : (4 : Int32) < ((p1 ^^^ (-1 : Int32)) &&& (p1 - (1 : Int32)))) => ?_) (fun (c16 : ¬ ((4 : Int32) < ((p1 ^^^ (-1 : Int32)) &&& (p1 - (1 : Int32))))) => ?_)
          · skip
            refine g_iinc X d11_67 (q := 70) rfl rfl (d := 2) rfl (L' := #[.val (.int ((p1 ^^^ (-1 : Int32)) &&& (p1 - (1 : Int32)))), .val (.int (3 : Int32))]) rfl ?_
            refine g_iloadN X d11_70 rfl (q := 71) rfl ?_
            refine g_iconst X d11_71 rfl (q := 72) (v := 2) rfl ?_
            refine g_iushr X d11_72 rfl (q := 73) ?_
            refine g_istoreN X d11_73 rfl (q := 74) (L' := #[.val (.int ((((p1 ^^^ (-1 : Int32)) &&& (p1 - (1 : Int32))).toUInt32 >>> ((2 : Int32) &&& 31).toUInt32).toInt32)), .val (.int (3 : Int32))]) rfl ?_
            refine g_iloadN X d11_74 rfl (q := 75) rfl ?_
            refine g_iloadN X d11_75 rfl (q := 76) rfl ?_
            refine g_iconst X d11_76 rfl (q := 77) (v := 1) rfl ?_
            refine g_iushr X d11_77 rfl (q := 78) ?_
            refine g_iadd X d11_78 rfl (q := 79) ?_
            exact g_retI X d11_79 (by decide) (by decide) ⟨congrArg (fun z => some (Value.int z)) (Eq.trans ((((((if_pos c16).symm).trans (if_neg c14).symm).trans (if_neg c10).symm).trans (if_neg c2).symm).trans (if_pos c1).symm) (own_ntzI p1)), rfl⟩
          · skip
            refine g_iloadN X d11_74 rfl (q := 75) rfl ?_
            refine g_iloadN X d11_75 rfl (q := 76) rfl ?_
            refine g_iconst X d11_76 rfl (q := 77) (v := 1) rfl ?_
            refine g_iushr X d11_77 rfl (q := 78) ?_
            refine g_iadd X d11_78 rfl (q := 79) ?_
            exact g_retI X d11_79 (by decide) (by decide) ⟨congrArg (fun z => some (Value.int z)) (Eq.trans ((((((if_neg c16).symm).trans (if_neg c14).symm).trans (if_neg c10).symm).trans (if_neg c2).symm).trans (if_pos c1).symm) (own_ntzI p1)), rfl⟩
  · skip
    refine g_iloadN X d11_12 rfl (q := 13) rfl ?_
    refine g_bipush X d11_13 rfl (q := 15) (v := 32) rfl ?_
    refine g_iand X d11_15 rfl (q := 16) ?_
    exact g_retI X d11_16 (by decide) (by decide) ⟨congrArg (fun z => some (Value.int z)) (Eq.trans ((if_neg c1).symm) (own_ntzI p1)), rfl⟩
theorem pn10 : plainName "java/lang/Long" = true := by first | (simp [plainName, overriddenIn]; done) | decide +kernel
theorem ef10 (m : MethodId) (x0 : Int64) : entryFrame m #[(.long x0)] 3 = mkF m 0 #[.val (.long x0), .second, .unset] [] := by first | (simp [entryFrame, mkF, argsToLocals, Value.category]; done) | rfl
set_option maxRecDepth 65536 in
set_option maxHeartbeats 40000000 in
theorem rm10 (l : Launch) (Z : State) (a0 : Array Value) (hw : ∀ d ∈ tables_1, d.before a0 Z = true) (ws : List Jvm.Cond) (q1 : Int64) (h0 : Heap) (n0 : Nat) (Z0 : n0 ≤ h0.size) :
    Met l Z (⟨"java/lang/Long", "numberOfTrailingZeros", "(J)I"⟩ : MethodName) jdk_35_method_49_code 3 (some .int) ({ frames := 1, cells := 0, slots := 0, locals := 14 } : Room) ws n0 #[(.long q1)] h0 (fun v h' => v = some (.int (LV q1)) ∧ h0 = h') := by
  refine Met.intro (plainFor_of_name pn10) Z0 ?_
  intro p e s m below meth c T X
  refine g_cast (ef10 m q1) ?_
  refine g_lloadN X d10_0 rfl (q := 1) rfl ?_
  refine g_l2i X d10_1 rfl (q := 2) ?_
  refine g_istoreN X d10_2 rfl (q := 3) (L' := #[.val (.long q1), .second, .val (.int q1.toInt32)]) rfl ?_
  refine g_iloadN X d10_3 rfl (q := 4) rfl ?_
  refine g_jT1 X (J := 25) (P := fun (s0_25 : Int32) => s0_25 = (if q1.toInt32 = (0 : Int32) then ((32 : Int32) + (Jvm.Free.JP.Integer_numberOfTrailingZeros_I.val (((q1.toUInt64 >>> ((32 : Int32) &&& 0x3f).toInt64.toUInt64).toInt64).toInt32))) else (Jvm.Free.JP.Integer_numberOfTrailingZeros_I.val q1.toInt32))) (L := fun s0_25 => #[.val (.long q1), .second, .val (.int q1.toInt32)]) (S := fun s0_25 => [(.int s0_25)]) ?_ ?_
  · intro T X s0_25 hs0_25
    replace hs0_25 : s0_25 = (if q1.toInt32 = (0 : Int32) then ((32 : Int32) + (Jvm.Free.JP.Integer_numberOfTrailingZeros_I.val (((q1.toUInt64 >>> ((32 : Int32) &&& 0x3f).toInt64.toUInt64).toInt64).toInt32))) else (Jvm.Free.JP.Integer_numberOfTrailingZeros_I.val q1.toInt32)) := hs0_25
    subst hs0_25
    show Goes p e below s _ n0 _ (T.setTop (mkF m 25 #[.val (.long q1), .second, .val (.int q1.toInt32)] [(.int (if q1.toInt32 = (0 : Int32) then ((32 : Int32) + (Jvm.Free.JP.Integer_numberOfTrailingZeros_I.val (((q1.toUInt64 >>> ((32 : Int32) &&& 0x3f).toInt64.toUInt64).toInt64).toInt32))) else (Jvm.Free.JP.Integer_numberOfTrailingZeros_I.val q1.toInt32)))]))
    exact g_retI X d10_25 (by decide) (by decide) ⟨congrArg (fun z => some (Value.int z)) (Eq.trans rfl (own_ntzL q1)), rfl⟩
  · intro J25_0
    refine g_ifB X d10_4 (Or.inr (Or.inr rfl)) (q := 7) rfl (by decide) (t := 21) rfl (fun (c1 : q1.toInt32 = (0 : Int32)) => ?_) (fun (c1 : ¬ (q1.toInt32 = (0 : Int32))) => ?_)
    · skip
      refine g_bipush X d10_7 rfl (q := 9) (v := 32) rfl ?_
      refine g_lloadN X d10_9 rfl (q := 10) rfl ?_
      refine g_bipush X d10_10 rfl (q := 12) (v := 32) rfl ?_
      refine g_lushr X d10_12 rfl (q := 13) ?_
      refine g_l2i X d10_13 rfl (q := 14) ?_
      refine g_callS X [(.int ((q1.toUInt64 >>> ((32 : Int32) &&& 0x3f).toInt64.toUInt64).toInt64).toInt32)] [(.int (32 : Int32))] (tw53 hw) (tw54 hw) (tw55 hw) (tw56 hw) (by decide) (rm11 l Z a0 hw [] (((q1.toUInt64 >>> ((32 : Int32) &&& 0x3f).toInt64.toUInt64).toInt64).toInt32) _ n0 X.size) pd0 rfl rfl rfl d10_14 (q := 17) rfl (W := 1) rfl (by decide) (by decide) (c2 := 0) (s2 := 0) rfl rfl (by decide) (by decide) (fun v T h' X hQ => ?_)
      obtain ⟨rfl, rfl⟩ := hQ
      show Goes p e below s _ n0 _ (T.setTop (mkF m 17 #[.val (.long q1), .second, .val (.int q1.toInt32)] [(.int (Jvm.Free.JP.Integer_numberOfTrailingZeros_I.val (((q1.toUInt64 >>> ((32 : Int32) &&& 0x3f).toInt64.toUInt64).toInt64).toInt32))), (.int (32 : Int32))]))
      refine g_iadd X d10_17 rfl (q := 18) ?_
      refine g_goto X d10_18 (by decide) (q := 25) rfl ?_
      exact J25_0 T X _ ((if_pos c1).symm)
    · skip
      refine g_iloadN X d10_21 rfl (q := 22) rfl ?_
      refine g_callS X [(.int q1.toInt32)] [] (tw53 hw) (tw54 hw) (tw55 hw) (tw56 hw) (by decide) (rm11 l Z a0 hw [] q1.toInt32 _ n0 X.size) pd0 rfl rfl rfl d10_22 (q := 25) rfl (W := 0) rfl (by decide) (by decide) (c2 := 0) (s2 := 0) rfl rfl (by decide) (by decide) (fun v T h' X hQ => ?_)
      obtain ⟨rfl, rfl⟩ := hQ
      show Goes p e below s _ n0 _ (T.setTop (mkF m 25 #[.val (.long q1), .second, .val (.int q1.toInt32)] [(.int (Jvm.Free.JP.Integer_numberOfTrailingZeros_I.val q1.toInt32))]))
      exact J25_0 T X _ ((if_neg c1).symm)
theorem pn1 : plainName "com/example/bulkstep/bulkstep/engine/IndexSet" = true := by first | (simp [plainName, overriddenIn]; done) | decide +kernel
theorem ef1 (m : MethodId) (x0 : Addr) (x1 : Int32) : entryFrame m #[(.ref x0), (.int x1)] 2 = mkF m 0 #[.val (.ref x0), .val (.int x1)] [] := by first | (simp [entryFrame, mkF, argsToLocals, Value.category]; done) | rfl
set_option maxRecDepth 65536 in
set_option maxHeartbeats 40000000 in
theorem rm1 (l : Launch) (Z : State) (a0 : Array Value) (hw : ∀ d ∈ tables_1, d.before a0 Z = true) (ws : List Jvm.Cond) (a1 : Addr) (p2 : Int32) (h0 : Heap) (n0 : Nat) (Z0 : n0 ≤ h0.size) (O_a1 : O_IndexSet Z h0 a1 .null .null) (g_a1 : n0 ≤ a1) (k1 : 1 ≤ p2.toInt ∧ p2.toInt ≤ 16384) :
    Met l Z (⟨"com/example/bulkstep/bulkstep/engine/IndexSet", "<init>", "(I)V"⟩ : MethodName) prog_26_method_1_code 2 none ({ frames := 1, cells := 2, slots := 260, locals := 12 } : Room) ws n0 #[(.ref a1), (.int p2)] h0 (fun v h' => ∃ w1 : Addr, ∃ h1 : Addr, ∃ NW : Nat, ∃ NH : Nat, v = none ∧ Keep h0 h' [a1] ∧ O_IndexSet Z h' a1 (.ref w1) (.ref h1) ∧ AJ Z h' w1 NW (fun _ => 0) ∧ AJ Z h' h1 NH (fun _ => 0) ∧ DM NW NH ∧ p2.toInt ≤ 64 * (NW : Int) ∧ h0.size ≤ w1 ∧ n0 ≤ w1 ∧ h0.size ≤ h1 ∧ n0 ≤ h1 ∧ Apart w1 h1 ∧ Apart h1 w1) := by
  refine Met.intro (plainFor_of_name pn1) Z0 ?_
  intro p e s m below meth c T X
  refine g_cast (ef1 m a1 p2) ?_
  have K : Keep h0 h0 [a1] := Keep.refl h0 _
  refine g_aloadN X d1_0 rfl (q := 1) rfl rfl ?_
  refine g_initO X (tw7 hw) (tw8 hw) (tw9 hw) d1_1 (q := 4) rfl rfl (by decide) (W := 0) rfl (by decide) (fun T X => ?_)
  refine g_aloadN X d1_4 rfl (q := 5) rfl rfl ?_
  refine g_iloadN X d1_5 rfl (q := 6) rfl ?_
  refine g_bipush X d1_6 rfl (q := 8) (v := 63) rfl ?_
  refine g_iadd X d1_8 rfl (q := 9) ?_
  refine g_bipush X d1_9 rfl (q := 11) (v := 6) rfl ?_
  refine g_iushr X d1_11 rfl (q := 12) ?_
  have hwl := own_len6 (n := 256) (p := p2) (by omega) (by omega)
  obtain ⟨NW, hNW⟩ : ∃ z : Nat, z = (p2.toInt.toNat + 63) / 64 := ⟨_, rfl⟩
  rw [← hNW] at hwl
  refine g_eqI (y := (Int32.ofNat NW)) hwl ?_
  refine g_newarrJ X (tw10 hw) d1_12 (q := 14) rfl (own_clN (by omega)).2 (cap := 256) (by rw [own_cl (by omega)]; omega) (by decide) (c2 := 1) (s2 := 256) rfl rfl (by decide) (by decide) (fun T h' b1 X gz_b1 g_b1 E A_new => ?_)
  have ne_a1_b1 := own_new gz_b1 O_a1.1.lt
  have ne_b1_a1 := own_apS ne_a1_b1
  have sz_b1 := own_sz gz_b1 K
  have K := K.ext E
  have O_a1 := O_a1.ext E
  have A_b1 : AJ Z h' b1 (Int32.ofNat NW).toNatClampNeg (fun _ => 0) := A_new
  have A_b1 : AJ Z h' b1 NW (fun _ => 0) := own_lenJ A_b1 (own_cl (by omega))
  refine g_putF X (tw11 hw) Via.refl O_a1.2.1 O_a1.1 (Or.inr ⟨(tw12 hw), rfl, rfl⟩) (tw2 hw) (ty := (.array .long)) (by decide) rfl rfl g_a1 d1_14 (q := 17) rfl (fun T h X W => ?_)
  have A_b1 := A_b1.other W ne_b1_a1
  have O_a1 := O_IndexSet.set0 hw W O_a1
  have K := K.wr W (Or.inl (List.mem_of_getElem? (i := 0) rfl))
  refine g_aloadN X d1_17 rfl (q := 18) rfl rfl ?_
  refine g_aloadN X d1_18 rfl (q := 19) rfl rfl ?_
  refine g_getF X (tw11 hw) Via.refl O_a1.2.1 d1_19 (q := 22) rfl (fun T X => ?_)
  refine g_alenJ X A_b1 d1_22 (q := 23) rfl ?_
  refine g_bipush X d1_23 rfl (q := 25) (v := 63) rfl ?_
  refine g_iadd X d1_25 rfl (q := 26) ?_
  refine g_bipush X d1_26 rfl (q := 28) (v := 6) rfl ?_
  refine g_iushr X d1_28 rfl (q := 29) ?_
  have hhl := own_len6 (n := 4) (p := Nat.toInt32 NW) (by rw [own_nT (by omega)]; omega) (by rw [own_nT (by omega)]; omega)
  rw [own_nT (by omega), Int.toNat_natCast] at hhl
  obtain ⟨NH, hNH⟩ : ∃ z : Nat, z = (NW + 63) / 64 := ⟨_, rfl⟩
  rw [← hNH] at hhl
  refine g_eqI (y := (Int32.ofNat NH)) hhl ?_
  refine g_newarrJ X (tw10 hw) d1_29 (q := 31) rfl (own_clN (by omega)).2 (cap := 4) (by rw [own_cl (by omega)]; omega) (by decide) (c2 := 2) (s2 := 260) rfl rfl (by decide) (by decide) (fun T h' b2 X gz_b2 g_b2 E A_new => ?_)
  have ne_a1_b2 := own_new gz_b2 O_a1.1.lt
  have ne_b2_a1 := own_apS ne_a1_b2
  have ne_b1_b2 := own_new gz_b2 A_b1.lt
  have ne_b2_b1 := own_apS ne_b1_b2
  have sz_b2 := own_sz gz_b2 K
  have K := K.ext E
  have O_a1 := O_a1.ext E
  have A_b1 := A_b1.ext E
  have A_b2 : AJ Z h' b2 (Int32.ofNat NH).toNatClampNeg (fun _ => 0) := A_new
  have A_b2 : AJ Z h' b2 NH (fun _ => 0) := own_lenJ A_b2 (own_cl (by omega))
  refine g_putF X (tw13 hw) Via.refl O_a1.2.2 O_a1.1 (Or.inr ⟨(tw14 hw), rfl, rfl⟩) (tw2 hw) (ty := (.array .long)) (by decide) rfl rfl g_a1 d1_31 (q := 34) rfl (fun T h X W => ?_)
  have A_b1 := A_b1.other W ne_b1_a1
  have A_b2 := A_b2.other W ne_b2_a1
  have O_a1 := O_IndexSet.set1 hw W O_a1
  have K := K.wr W (Or.inl (List.mem_of_getElem? (i := 0) rfl))
  exact g_ret0 X d1_34 (by decide) (by decide) ⟨b1, b2, NW, NH, rfl, K, O_a1, A_b1, A_b2, ⟨by omega, by omega, by omega, by omega⟩, by omega, sz_b1, g_b1, sz_b2, g_b2, ne_b1_b2, ne_b2_b1⟩
theorem pn3 : plainName "com/example/bulkstep/bulkstep/engine/IndexSet" = true := by first | (simp [plainName, overriddenIn]; done) | decide +kernel
theorem ef3 (m : MethodId) (x0 : Addr) (x1 : Int32) : entryFrame m #[(.ref x0), (.int x1)] 2 = mkF m 0 #[.val (.ref x0), .val (.int x1)] [] := by first | (simp [entryFrame, mkF, argsToLocals, Value.category]; done) | rfl
set_option maxRecDepth 65536 in
set_option maxHeartbeats 40000000 in
theorem rm3 (l : Launch) (Z : State) (a0 : Array Value) (hw : ∀ d ∈ tables_1, d.before a0 Z = true) (ws : List Jvm.Cond) (a1 : Addr) (p2 : Int32) (uw : Addr) (uh : Addr) (NW : Nat) (Wo : Nat → Int64) (x : Nat) (h0 : Heap) (n0 : Nat) (Z0 : n0 ≤ h0.size) (O_a1 : O_IndexSet Z h0 a1 (.ref uw) (.ref uh)) (A_uw : AJ Z h0 uw NW Wo) (hp : p2 = Int32.ofNat x) (hx : x < 64 * NW) (hNW : NW ≤ 256) :
    Met l Z (⟨"com/example/bulkstep/bulkstep/engine/IndexSet", "contains", "(I)Z"⟩ : MethodName) prog_26_method_2_code 2 (some .boolean) ({ frames := 0, cells := 0, slots := 0, locals := 0 } : Room) ws n0 #[(.ref a1), (.int p2)] h0 (fun v h' => v = some (.int (bI (tb (Wo (x / 64)) (x % 64) = true))) ∧ h0 = h') := by
  refine Met.intro (plainFor_of_name pn3) Z0 ?_
  intro p e s m below meth c T X
  refine g_cast (ef3 m a1 p2) ?_
  refine g_aloadN X d3_0 rfl (q := 1) rfl rfl ?_
  refine g_getF X (tw11 hw) Via.refl O_a1.2.1 d3_1 (q := 4) rfl (fun T X => ?_)
  refine g_iloadN X d3_4 rfl (q := 5) rfl ?_
  refine g_bipush X d3_5 rfl (q := 7) (v := 6) rfl ?_
  refine g_iushr X d3_7 rfl (q := 8) ?_
  refine g_eqI (y := (Int32.ofNat (x / 64))) (own_u6 hp (by omega)) ?_
  refine g_laload X A_uw (own_ki rfl (show x / 64 < NW by omega) (by omega)) d3_8 (q := 9) rfl ?_
  refine g_eqJ (y := (Wo (x / 64))) (congrArg Wo (own_cl (by omega))) ?_
  refine g_lconst X d3_9 rfl (q := 10) (v := 1) rfl ?_
  refine g_iloadN X d3_10 rfl (q := 11) rfl ?_
  refine g_lshl X d3_11 rfl (q := 12) ?_
  refine g_land X d3_12 rfl (q := 13) ?_
  refine g_lconst X d3_13 rfl (q := 14) (v := 0) rfl ?_
  refine g_jT1 X (J := 23) (P := fun (s0_23 : Int32) => s0_23 = (bI (¬ (((Wo (x / 64)) &&& ((1 : Int64) <<< (p2 &&& 0x3f).toInt64)) = (0 : Int64))))) (L := fun s0_23 => #[.val (.ref a1), .val (.int p2)]) (S := fun s0_23 => [(.int s0_23)]) ?_ ?_
  · intro T X s0_23 hs0_23
    replace hs0_23 : s0_23 = (bI (¬ (((Wo (x / 64)) &&& ((1 : Int64) <<< (p2 &&& 0x3f).toInt64)) = (0 : Int64)))) := hs0_23
    subst hs0_23
    show Goes p e below s _ n0 _ (T.setTop (mkF m 23 #[.val (.ref a1), .val (.int p2)] [(.int (bI (¬ (((Wo (x / 64)) &&& ((1 : Int64) <<< (p2 &&& 0x3f).toInt64)) = (0 : Int64)))))]))
    exact g_retZ X d3_23 (by decide) (by decide) (bI_01 _) ⟨congrArg (fun z => some (Value.int z)) (Eq.trans rfl (bI_cong (own_ctn hp (by omega)))), rfl⟩
  · intro J23_0
    refine g_lcmpA X d3_14 (q1 := 15) rfl d3_15 (Or.inr (Or.inr rfl)) (q := 18) rfl (by decide) (t := 22) rfl (fun (c1 : ((Wo (x / 64)) &&& ((1 : Int64) <<< (p2 &&& 0x3f).toInt64)) = (0 : Int64)) => ?_) (fun (c1 : ¬ (((Wo (x / 64)) &&& ((1 : Int64) <<< (p2 &&& 0x3f).toInt64)) = (0 : Int64))) => ?_)
    · skip
      refine g_iconst X d3_22 rfl (q := 23) (v := 0) rfl ?_
      exact J23_0 T X _ (bI_f (fun z => z c1))
    · skip
      refine g_iconst X d3_18 rfl (q := 19) (v := 1) rfl ?_
      refine g_goto X d3_19 (by decide) (q := 23) rfl ?_
      exact J23_0 T X _ (bI_t c1)
theorem pn9 : plainName "com/example/bulkstep/bulkstep/engine/IndexSet" = true := by first | (simp [plainName, overriddenIn]; done) | decide +kernel
theorem ef9 (m : MethodId) (x0 : Addr) (x1 : Int32) : entryFrame m #[(.ref x0), (.int x1)] 5 = mkF m 0 #[.val (.ref x0), .val (.int x1), .unset, .unset, .unset] [] := by first | (simp [entryFrame, mkF, argsToLocals, Value.category]; done) | rfl
set_option maxRecDepth 65536 in
set_option maxHeartbeats 40000000 in
theorem rm9 (l : Launch) (Z : State) (a0 : Array Value) (hw : ∀ d ∈ tables_1, d.before a0 Z = true) (ws : List Jvm.Cond) (a1 : Addr) (p2 : Int32) (uw : Addr) (uh : Addr) (NW : Nat) (NH : Nat) (Wo : Nat → Int64) (Hd : Nat → Int64) (x : Nat) (h0 : Heap) (n0 : Nat) (Z0 : n0 ≤ h0.size) (O_a1 : O_IndexSet Z h0 a1 (.ref uw) (.ref uh)) (A_uw : AJ Z h0 uw NW Wo) (A_uh : AJ Z h0 uh NH Hd) (g_uw : n0 ≤ uw) (g_uh : n0 ≤ uh) (ne_a1_uw : Apart a1 uw) (ne_a1_uh : Apart a1 uh) (ne_uw_a1 : Apart uw a1) (ne_uw_uh : Apart uw uh) (ne_uh_a1 : Apart uh a1) (ne_uh_uw : Apart uh uw) (hp : p2 = Int32.ofNat x) (hx : x < 64 * NW) (hD : DM NW NH) (hIS : IS NW NH Wo Hd) :
    Met l Z (⟨"com/example/bulkstep/bulkstep/engine/IndexSet", "add", "(I)V"⟩ : MethodName) prog_26_method_3_code 5 none ({ frames := 0, cells := 0, slots := 0, locals := 0 } : Room) ws n0 #[(.ref a1), (.int p2)] h0 (fun v h' => ∃ W1 : Nat → Int64, ∃ H1 : Nat → Int64, v = none ∧ Keep h0 h' [uw, uh] ∧ AJ Z h' uw NW W1 ∧ AJ Z h' uh NH H1 ∧ IS NW NH W1 H1 ∧ (∀ j, mem W1 j ↔ (mem Wo j ∨ j = x))) := by
  refine Met.intro (plainFor_of_name pn9) Z0 ?_
  intro p e s m below meth c T X
  refine g_cast (ef9 m a1 p2) ?_
  have K : Keep h0 h0 [uw, uh] := Keep.refl h0 _
  have hNW := hD.2.1
  have hNH := hD.2.2.1
  have hND := hD.2.2.2
  refine g_iloadN X d9_0 rfl (q := 1) rfl ?_
  refine g_bipush X d9_1 rfl (q := 3) (v := 6) rfl ?_
  refine g_iushr X d9_3 rfl (q := 4) ?_
  refine g_eqI (y := (Int32.ofNat (x / 64))) (own_u6 hp (by omega)) ?_
  refine g_istoreN X d9_4 rfl (q := 5) (L' := #[.val (.ref a1), .val (.int p2), .val (.int (Int32.ofNat (x / 64))), .unset, .unset]) rfl ?_
  refine g_aloadN X d9_5 rfl (q := 6) rfl rfl ?_
  refine g_getF X (tw11 hw) Via.refl O_a1.2.1 d9_6 (q := 9) rfl (fun T X => ?_)
  refine g_iloadN X d9_9 rfl (q := 10) rfl ?_
  refine g_laload X A_uw (own_ki rfl (show x / 64 < NW by omega) (by omega)) d9_10 (q := 11) rfl ?_
  refine g_eqJ (y := (Wo (x / 64))) (congrArg Wo (own_cl (by omega))) ?_
  refine g_lstoreN X d9_11 rfl (q := 12) (L' := #[.val (.ref a1), .val (.int p2), .val (.int (Int32.ofNat (x / 64))), .val (.long (Wo (x / 64))), .second]) rfl ?_
  refine g_lloadN X d9_12 rfl (q := 13) rfl ?_
  refine g_lconst X d9_13 rfl (q := 14) (v := 0) rfl ?_
  refine g_lcmpB X d9_14 (q1 := 15) rfl d9_15 (Or.inr (Or.inr rfl)) (q := 18) rfl (by decide) (t := 33) rfl (fun (c1 : (Wo (x / 64)) = (0 : Int64)) => ?_) (fun (c1 : ¬ ((Wo (x / 64)) = (0 : Int64))) => ?_)
  · skip
    refine g_aloadN X d9_18 rfl (q := 19) rfl rfl ?_
    refine g_getF X (tw13 hw) Via.refl O_a1.2.2 d9_19 (q := 22) rfl (fun T X => ?_)
    refine g_iloadN X d9_22 rfl (q := 23) rfl ?_
    refine g_bipush X d9_23 rfl (q := 25) (v := 6) rfl ?_
    refine g_iushr X d9_25 rfl (q := 26) ?_
    refine g_eqI (y := (Int32.ofNat (x / 64 / 64))) (own_u6 rfl (by omega)) ?_
    refine g_dup2 X d9_26 rfl (q := 27) rfl rfl ?_
    refine g_laload X A_uh (own_ki rfl (show x / 64 / 64 < NH by omega) (by omega)) d9_27 (q := 28) rfl ?_
    refine g_eqJ (y := (Hd (x / 64 / 64))) (congrArg Hd (own_cl (by omega))) ?_
    refine g_lconst X d9_28 rfl (q := 29) (v := 1) rfl ?_
    refine g_iloadN X d9_29 rfl (q := 30) rfl ?_
    refine g_lshl X d9_30 rfl (q := 31) ?_
    refine g_lor X d9_31 rfl (q := 32) ?_
    refine g_lastore X A_uh (own_ki rfl (show x / 64 / 64 < NH by omega) (by omega)) g_uh d9_32 (q := 33) rfl (fun T h X W => ?_)
    have O_a1 := O_a1.other W ne_a1_uh
    have A_uw := A_uw.other W ne_uw_uh
    have A_uh : AJ Z h uh NH (own_up Hd (Int32.ofNat (x / 64 / 64)).toNatClampNeg ((Hd (x / 64 / 64)) ||| ((1 : Int64) <<< ((Int32.ofNat (x / 64)) &&& 0x3f).toInt64))) := A_uh.set W
    have K := K.wr W (Or.inl (List.mem_of_getElem? (i := 1) rfl))
    have A_uh : AJ Z h uh NH (own_up Hd (x / 64 / 64) ((Hd (x / 64 / 64)) ||| ((1 : Int64) <<< ((Int32.ofNat (x / 64)) &&& 0x3f).toInt64))) := A_uh.to (fun j _ => by rw [own_cl (by omega)])
    refine g_aloadN X d9_33 rfl (q := 34) rfl rfl ?_
    refine g_getF X (tw11 hw) Via.refl O_a1.2.1 d9_34 (q := 37) rfl (fun T X => ?_)
    refine g_iloadN X d9_37 rfl (q := 38) rfl ?_
    refine g_lloadN X d9_38 rfl (q := 39) rfl ?_
    refine g_lconst X d9_39 rfl (q := 40) (v := 1) rfl ?_
    refine g_iloadN X d9_40 rfl (q := 41) rfl ?_
    refine g_lshl X d9_41 rfl (q := 42) ?_
    refine g_lor X d9_42 rfl (q := 43) ?_
    refine g_lastore X A_uw (own_ki rfl (show x / 64 < NW by omega) (by omega)) g_uw d9_43 (q := 44) rfl (fun T h X W => ?_)
    have O_a1 := O_a1.other W ne_a1_uw
    have A_uh := A_uh.other W ne_uh_uw
    have A_uw : AJ Z h uw NW (own_up Wo (Int32.ofNat (x / 64)).toNatClampNeg ((Wo (x / 64)) ||| ((1 : Int64) <<< (p2 &&& 0x3f).toInt64))) := A_uw.set W
    have K := K.wr W (Or.inl (List.mem_of_getElem? (i := 0) rfl))
    have A_uw : AJ Z h uw NW (own_up Wo (x / 64) ((Wo (x / 64)) ||| ((1 : Int64) <<< (p2 &&& 0x3f).toInt64))) := A_uw.to (fun j _ => by rw [own_cl (by omega)])
    exact g_ret0 X d9_44 (by decide) (by decide) ⟨own_up Wo (x / 64) ((Wo (x / 64)) ||| ((1 : Int64) <<< (p2 &&& 0x3f).toInt64)), own_up Hd (x / 64 / 64) ((Hd (x / 64 / 64)) ||| ((1 : Int64) <<< ((Int32.ofNat (x / 64)) &&& 0x3f).toInt64)), rfl, K, A_uw, A_uh, own_isU (k := x / 64) hIS (by omega) (own_orne hp (by omega)) (own_u1 rfl (by omega)), own_adM hp (by omega)⟩
  · skip
    refine g_aloadN X d9_33 rfl (q := 34) rfl rfl ?_
    refine g_getF X (tw11 hw) Via.refl O_a1.2.1 d9_34 (q := 37) rfl (fun T X => ?_)
    refine g_iloadN X d9_37 rfl (q := 38) rfl ?_
    refine g_lloadN X d9_38 rfl (q := 39) rfl ?_
    refine g_lconst X d9_39 rfl (q := 40) (v := 1) rfl ?_
    refine g_iloadN X d9_40 rfl (q := 41) rfl ?_
    refine g_lshl X d9_41 rfl (q := 42) ?_
    refine g_lor X d9_42 rfl (q := 43) ?_
    refine g_lastore X A_uw (own_ki rfl (show x / 64 < NW by omega) (by omega)) g_uw d9_43 (q := 44) rfl (fun T h X W => ?_)
    have O_a1 := O_a1.other W ne_a1_uw
    have A_uh := A_uh.other W ne_uh_uw
    have A_uw : AJ Z h uw NW (own_up Wo (Int32.ofNat (x / 64)).toNatClampNeg ((Wo (x / 64)) ||| ((1 : Int64) <<< (p2 &&& 0x3f).toInt64))) := A_uw.set W
    have K := K.wr W (Or.inl (List.mem_of_getElem? (i := 0) rfl))
    have A_uw : AJ Z h uw NW (own_up Wo (x / 64) ((Wo (x / 64)) ||| ((1 : Int64) <<< (p2 &&& 0x3f).toInt64))) := A_uw.to (fun j _ => by rw [own_cl (by omega)])
    exact g_ret0 X d9_44 (by decide) (by decide) ⟨own_up Wo (x / 64) ((Wo (x / 64)) ||| ((1 : Int64) <<< (p2 &&& 0x3f).toInt64)), Hd, rfl, K, A_uw, A_uh, own_isW hIS c1 (own_orne hp (by omega)), own_adM hp (by omega)⟩
theorem pn6 : plainName "com/example/bulkstep/bulkstep/engine/IndexSet" = true := by first | (simp [plainName, overriddenIn]; done) | decide +kernel
theorem ef6 (m : MethodId) (x0 : Addr) (x1 : Int32) : entryFrame m #[(.ref x0), (.int x1)] 5 = mkF m 0 #[.val (.ref x0), .val (.int x1), .unset, .unset, .unset] [] := by first | (simp [entryFrame, mkF, argsToLocals, Value.category]; done) | rfl
set_option maxRecDepth 65536 in
set_option maxHeartbeats 40000000 in
theorem rm6 (l : Launch) (Z : State) (a0 : Array Value) (hw : ∀ d ∈ tables_1, d.before a0 Z = true) (ws : List Jvm.Cond) (a1 : Addr) (p2 : Int32) (uw : Addr) (uh : Addr) (NW : Nat) (NH : Nat) (Wo : Nat → Int64) (Hd : Nat → Int64) (f : Nat) (h0 : Heap) (n0 : Nat) (Z0 : n0 ≤ h0.size) (O_a1 : O_IndexSet Z h0 a1 (.ref uw) (.ref uh)) (A_uw : AJ Z h0 uw NW Wo) (A_uh : AJ Z h0 uh NH Hd) (hp : p2 = Int32.ofNat f) (hf : f ≤ NW) (hD : DM NW NH) (hIS : IS NW NH Wo Hd) :
    Met l Z (⟨"com/example/bulkstep/bulkstep/engine/IndexSet", "nextWord", "(I)I"⟩ : MethodName) prog_26_method_9_code 5 (some .int) ({ frames := 2, cells := 0, slots := 0, locals := 29 } : Room) ws n0 #[(.ref a1), (.int p2)] h0 (fun v h' => ∃ r1 : Int32, v = some (.int r1) ∧ Keep h0 h' [] ∧ NXW NW Wo f r1) := by
  refine Met.intro (plainFor_of_name pn6) Z0 ?_
  intro p e s m below meth c T X
  refine g_cast (ef6 m a1 p2) ?_
  have K : Keep h0 h0 [] := Keep.refl h0 _
  have hNW := hD.2.1
  have hNH := hD.2.2.1
  have hND := hD.2.2.2
  refine g_iloadN X d6_0 rfl (q := 1) rfl ?_
  refine g_bipush X d6_1 rfl (q := 3) (v := 6) rfl ?_
  refine g_iushr X d6_3 rfl (q := 4) ?_
  refine g_eqI (y := (Int32.ofNat (f / 64))) (own_u6 hp (by omega)) ?_
  refine g_istoreN X d6_4 rfl (q := 5) (L' := #[.val (.ref a1), .val (.int p2), .val (.int (Int32.ofNat (f / 64))), .unset, .unset]) rfl ?_
  refine g_iloadN X d6_5 rfl (q := 6) rfl ?_
  refine g_aloadN X d6_6 rfl (q := 7) rfl rfl ?_
  refine g_getF X (tw13 hw) Via.refl O_a1.2.2 d6_7 (q := 10) rfl (fun T X => ?_)
  refine g_alenJ X A_uh d6_10 (q := 11) rfl ?_
  refine g_icmpA X d6_11 (Or.inl rfl) (q := 14) rfl (by decide) (t := 16) rfl (fun (c1 : (Int32.ofNat (f / 64)) < (Nat.toInt32 NH)) => ?_) (fun (c1 : ¬ ((Int32.ofNat (f / 64)) < (Nat.toInt32 NH))) => ?_)
  · skip
    have hfN : f / 64 < NH := (own_ltO rfl (by omega) (by omega)).mp c1
    refine g_aloadN X d6_16 rfl (q := 17) rfl rfl ?_
    refine g_getF X (tw13 hw) Via.refl O_a1.2.2 d6_17 (q := 20) rfl (fun T X => ?_)
    refine g_iloadN X d6_20 rfl (q := 21) rfl ?_
    refine g_laload X A_uh (own_ki rfl hfN (by omega)) d6_21 (q := 22) rfl ?_
    refine g_eqJ (y := (Hd (f / 64))) (congrArg Hd (own_cl (by omega))) ?_
    refine g_ldc2 X (tw29 hw) d6_22 (q := 25) rfl ?_
    refine g_iloadN X d6_25 rfl (q := 26) rfl ?_
    refine g_lshl X d6_26 rfl (q := 27) ?_
    refine g_land X d6_27 rfl (q := 28) ?_
    refine g_lstoreN X d6_28 rfl (q := 29) (L' := #[.val (.ref a1), .val (.int p2), .val (.int (Int32.ofNat (f / 64))), .val (.long ((Hd (f / 64)) &&& ((-1 : Int64) <<< (p2 &&& 0x3f).toInt64))), .second]) rfl ?_
    refine g_loop3 X (H := 29) (fun (i : Int32) (k : Nat) (bs : Int64) => NH - k) (fun i k bs h => O_IndexSet Z h a1 (.ref uw) (.ref uh) ∧ AJ Z h uw NW Wo ∧ AJ Z h uh NH Hd ∧ Keep h0 h [] ∧ i = Int32.ofNat k ∧ k < NH ∧ (∀ b, b < 64 → tb bs b = (tb (Hd k) b && decide (f ≤ 64 * k + b))) ∧ (∀ w, f ≤ w → w < 64 * k → w < NW → Wo w = 0) ∧ f / 64 ≤ k) (fun i k bs => #[.val (.ref a1), .val (.int p2), .val (.int i), .val (.long bs), .second]) (fun i k bs => []) (Int32.ofNat (f / 64)) (f / 64) ((Hd (f / 64)) &&& ((-1 : Int64) <<< (p2 &&& 0x3f).toInt64)) ⟨O_a1, A_uw, A_uh, K, rfl, hfN, (own_nwi hp (by omega)), (fun w h1 h2 _ => absurd h1 (by omega)), (Nat.le_refl _)⟩ (fun i k bs T h X hI ih => ?_)
    have hI2 : O_IndexSet Z h a1 (.ref uw) (.ref uh) ∧ AJ Z h uw NW Wo ∧ AJ Z h uh NH Hd ∧ Keep h0 h [] ∧ i = Int32.ofNat k ∧ k < NH ∧ (∀ b, b < 64 → tb bs b = (tb (Hd k) b && decide (f ≤ 64 * k + b))) ∧ (∀ w, f ≤ w → w < 64 * k → w < NW → Wo w = 0) ∧ f / 64 ≤ k := hI
    obtain ⟨O_a1, A_uw, A_uh, K, hi, hk, hb, hz, hfk⟩ := hI2
    show Goes p e below s _ n0 _ (T.setTop (mkF m 29 #[.val (.ref a1), .val (.int p2), .val (.int i), .val (.long bs), .second] []))
    refine g_lloadN X d6_29 rfl (q := 30) rfl ?_
    refine g_lconst X d6_30 rfl (q := 31) (v := 0) rfl ?_
    refine g_lcmpB X d6_31 (q1 := 32) rfl d6_32 (Or.inr (Or.inr rfl)) (q := 35) rfl (by decide) (t := 59) rfl (fun (c2 : bs = (0 : Int64)) => ?_) (fun (c2 : ¬ (bs = (0 : Int64))) => ?_)
    · skip
      have b_bs : (0 : Int) ≤ bs.toInt ∧ bs.toInt ≤ 0 := by have z0 := c2; (try simp only [Int64.lt_iff_toInt_lt, Int32.lt_iff_toInt_lt, Int64.le_iff_toInt_le, Int32.le_iff_toInt_le, ← Int64.toInt_inj, ← Int32.toInt_inj, apply_ite Int64.toInt, apply_ite Int32.toInt, Int64.reduceToInt, Int32.reduceToInt, ne_eq] at z0); have z1 := rng64 bs; omega
      refine g_iinc X d6_35 (q := 38) rfl rfl (d := 1) rfl (L' := #[.val (.ref a1), .val (.int p2), .val (.int (i + (1 : Int32))), .val (.long bs), .second]) rfl ?_
      refine g_iloadN X d6_38 rfl (q := 39) rfl ?_
      refine g_aloadN X d6_39 rfl (q := 40) rfl rfl ?_
      refine g_getF X (tw13 hw) Via.refl O_a1.2.2 d6_40 (q := 43) rfl (fun T X => ?_)
      refine g_alenJ X A_uh d6_43 (q := 44) rfl ?_
      refine g_icmpB X d6_44 (Or.inr (Or.inr rfl)) (q := 47) rfl (by decide) (t := 49) rfl (fun (c3 : (i + (1 : Int32)) = (Nat.toInt32 NH)) => ?_) (fun (c3 : ¬ ((i + (1 : Int32)) = (Nat.toInt32 NH))) => ?_)
      · skip
        refine g_iconst X d6_47 rfl (q := 48) (v := -1) rfl ?_
        have hke := (own_eqO (own_k1 hi (by omega)) (by omega) (by omega)).mp c3
        exact g_retI X d6_48 (by decide) (by decide) ⟨(-1 : Int32), rfl, K, Or.inl ⟨rfl, fun w h1 h2 => own_nwz hIS hk hb hz c2 w h1 (by omega) h2⟩⟩
      · skip
        have hk1 : k + 1 < NH := by have := (not_congr (own_eqO (own_k1 hi (by omega)) (by omega) (by omega))).mp c3; omega
        refine g_aloadN X d6_49 rfl (q := 50) rfl rfl ?_
        refine g_getF X (tw13 hw) Via.refl O_a1.2.2 d6_50 (q := 53) rfl (fun T X => ?_)
        refine g_iloadN X d6_53 rfl (q := 54) rfl ?_
        refine g_laload X A_uh (own_ki (own_k1 hi (by omega)) hk1 (by omega)) d6_54 (q := 55) rfl ?_
        refine g_eqJ (y := (Hd (k + 1))) (congrArg Hd (own_kc (own_k1 hi (by omega)) (by omega))) ?_
        refine g_lstoreN X d6_55 rfl (q := 56) (L' := #[.val (.ref a1), .val (.int p2), .val (.int (i + (1 : Int32))), .val (.long (Hd (k + 1))), .second]) rfl ?_
        refine g_goto X d6_56 (by decide) (q := 29) rfl ?_
        exact ih (i + (1 : Int32)) (k + 1) (Hd (k + 1)) T _ X ⟨O_a1, A_uw, A_uh, K, (own_k1 hi (by omega)), hk1, (own_nws (by omega)), (own_nwz hIS hk hb hz c2), (by omega)⟩ (by show NH - (k + 1) < NH - k; omega)
    · skip
      refine g_iloadN X d6_59 rfl (q := 60) rfl ?_
      refine g_bipush X d6_60 rfl (q := 62) (v := 6) rfl ?_
      refine g_ishl X d6_62 rfl (q := 63) ?_
      refine g_lloadN X d6_63 rfl (q := 64) rfl ?_
      refine g_callS X [(.long bs)] [(.int (i <<< ((6 : Int32) &&& 31)))] (tw49 hw) (tw50 hw) (tw51 hw) (tw52 hw) (by decide) (rm10 l Z a0 hw [] bs _ n0 X.size) pd1 rfl rfl rfl d6_64 (q := 67) rfl (W := 1) rfl (by decide) (by decide) (c2 := 0) (s2 := 0) rfl rfl (by decide) (by decide) (fun v T h' X hQ => ?_)
      obtain ⟨rfl, rfl⟩ := hQ
      show Goes p e below s _ n0 _ (T.setTop (mkF m 67 #[.val (.ref a1), .val (.int p2), .val (.int i), .val (.long bs), .second] [(.int (LV bs)), (.int (i <<< ((6 : Int32) &&& 31)))]))
      refine g_ior X d6_67 rfl (q := 68) ?_
      obtain ⟨t, ht, ht1, ht2, hLV, -⟩ := own_low c2
      refine g_eqI (y := (Int32.ofNat (64 * k + t))) (own_or6 hi hLV (by omega) ht) ?_
      have hF := own_nwf hIS hk hb hz ht ht1 ht2
      exact g_retI X d6_68 (by decide) (by decide) ⟨Int32.ofNat (64 * k + t), rfl, K, Or.inr ⟨64 * k + t, rfl, hF.1, hF.2.1, hF.2.2.1, hF.2.2.2⟩⟩
  · skip
    refine g_iconst X d6_14 rfl (q := 15) (v := -1) rfl ?_
    have hfN : ¬ (f / 64 < NH) := (not_congr (own_ltO rfl (by omega) (by omega))).mp c1
    exact g_retI X d6_15 (by decide) (by decide) ⟨(-1 : Int32), rfl, K, Or.inl ⟨rfl, fun w h1 h2 => absurd h2 (by omega)⟩⟩
theorem pn7 : plainName "com/example/bulkstep/bulkstep/engine/IndexSet" = true := by first | (simp [plainName, overriddenIn]; done) | decide +kernel
theorem ef7 (m : MethodId) (x0 : Addr) : entryFrame m #[(.ref x0)] 1 = mkF m 0 #[.val (.ref x0)] [] := by first | (simp [entryFrame, mkF, argsToLocals, Value.category]; done) | rfl
set_option maxRecDepth 65536 in
set_option maxHeartbeats 40000000 in
theorem rm7 (l : Launch) (Z : State) (a0 : Array Value) (hw : ∀ d ∈ tables_1, d.before a0 Z = true) (ws : List Jvm.Cond) (a1 : Addr) (uw : Addr) (uh : Addr) (NW : Nat) (NH : Nat) (Wo : Nat → Int64) (Hd : Nat → Int64) (h0 : Heap) (n0 : Nat) (Z0 : n0 ≤ h0.size) (O_a1 : O_IndexSet Z h0 a1 (.ref uw) (.ref uh)) (A_uw : AJ Z h0 uw NW Wo) (A_uh : AJ Z h0 uh NH Hd) (hD : DM NW NH) (hIS : IS NW NH Wo Hd) :
    Met l Z (⟨"com/example/bulkstep/bulkstep/engine/IndexSet", "isEmpty", "()Z"⟩ : MethodName) prog_26_method_6_code 1 (some .boolean) ({ frames := 3, cells := 0, slots := 0, locals := 45 } : Room) ws n0 #[(.ref a1)] h0 (fun v h' => ∃ r1 : Int32, v = some (.int r1) ∧ Keep h0 h' [] ∧ ((r1 = (1 : Int32) ∧ ∀ w, w < NW → Wo w = 0) ∨ (r1 = (0 : Int32) ∧ ∃ w, w < NW ∧ ¬ (Wo w = 0)))) := by
  refine Met.intro (plainFor_of_name pn7) Z0 ?_
  intro p e s m below meth c T X
  refine g_cast (ef7 m a1) ?_
  have K : Keep h0 h0 [] := Keep.refl h0 _
  refine g_aloadN X d7_0 rfl (q := 1) rfl rfl ?_
  refine g_iconst X d7_1 rfl (q := 2) (v := 0) rfl ?_
  refine g_callP X O_a1.1 [(.int (0 : Int32))] [] (tw30 hw) (own_selP (tw2 hw) (tw31 hw) (tw32 hw) (by decide)) (tw31 hw) (tw32 hw) (tw3 hw) (tw33 hw) (by decide) (rm6 l Z a0 hw [] a1 (0 : Int32) uw uh NW NH Wo Hd 0 _ n0 X.size O_a1 A_uw A_uh rfl (Nat.zero_le _) hD hIS) pd0 rfl rfl rfl d7_2 (q := 5) rfl (W := 0) rfl (by decide) (by decide) (c2 := 0) (s2 := 0) rfl rfl (by decide) (by decide) (fun v T h' X hQ => ?_)
  obtain ⟨r1_2, rfl, Kc, hN1_2⟩ := hQ
  have O_a1 := O_a1.keep Kc nin0
  have A_uw := A_uw.keep Kc nin0
  have A_uh := A_uh.keep Kc nin0
  have K := K.trans Kc all0
  show Goes p e below s _ n0 _ (T.setTop (mkF m 5 #[.val (.ref a1)] [(.int r1_2)]))
  refine g_jT1 X (J := 13) (P := fun (s0_13 : Int32) => s0_13 = (bI (r1_2 < (0 : Int32)))) (L := fun s0_13 => #[.val (.ref a1)]) (S := fun s0_13 => [(.int s0_13)]) ?_ ?_
  · intro T X s0_13 hs0_13
    replace hs0_13 : s0_13 = (bI (r1_2 < (0 : Int32))) := hs0_13
    subst hs0_13
    show Goes p e below s _ n0 _ (T.setTop (mkF m 13 #[.val (.ref a1)] [(.int (bI (r1_2 < (0 : Int32))))]))
    have hNW := hD.2.1
    have hQ2 := own_isE hNW hN1_2
    exact g_retZ X d7_13 (by decide) (by decide) (bI_01 _) ⟨(bI (r1_2 < (0 : Int32))), rfl, K, hQ2⟩
  · intro J13_0
    refine g_ifB X d7_5 (Or.inl rfl) (q := 8) rfl (by decide) (t := 12) rfl (fun (c1 : r1_2 < (0 : Int32)) => ?_) (fun (c1 : ¬ (r1_2 < (0 : Int32))) => ?_)
    · skip
      refine g_iconst X d7_8 rfl (q := 9) (v := 1) rfl ?_
      refine g_goto X d7_9 (by decide) (q := 13) rfl ?_
      exact J13_0 T X _ (bI_t c1)
    · skip
      refine g_iconst X d7_12 rfl (q := 13) (v := 0) rfl ?_
      exact J13_0 T X _ (bI_f c1)
theorem pn5 : plainName "com/example/bulkstep/bulkstep/engine/IndexSet" = true := by first | (simp [plainName, overriddenIn]; done) | decide +kernel
theorem ef5 (m : MethodId) (x0 : Addr) (x1 : Int32) : entryFrame m #[(.ref x0), (.int x1)] 5 = mkF m 0 #[.val (.ref x0), .val (.int x1), .unset, .unset, .unset] [] := by first | (simp [entryFrame, mkF, argsToLocals, Value.category]; done) | rfl
set_option maxRecDepth 65536 in
set_option maxHeartbeats 40000000 in
theorem rm5 (l : Launch) (Z : State) (a0 : Array Value) (hw : ∀ d ∈ tables_1, d.before a0 Z = true) (ws : List Jvm.Cond) (a1 : Addr) (p2 : Int32) (uw : Addr) (uh : Addr) (NW : Nat) (NH : Nat) (Wo : Nat → Int64) (Hd : Nat → Int64) (f : Nat) (h0 : Heap) (n0 : Nat) (Z0 : n0 ≤ h0.size) (O_a1 : O_IndexSet Z h0 a1 (.ref uw) (.ref uh)) (A_uw : AJ Z h0 uw NW Wo) (A_uh : AJ Z h0 uh NH Hd) (hp : p2 = Int32.ofNat f) (hf : f ≤ 64 * NW) (hD : DM NW NH) (hIS : IS NW NH Wo Hd) :
    Met l Z (⟨"com/example/bulkstep/bulkstep/engine/IndexSet", "next", "(I)I"⟩ : MethodName) prog_26_method_7_code 5 (some .int) ({ frames := 3, cells := 0, slots := 0, locals := 45 } : Room) ws n0 #[(.ref a1), (.int p2)] h0 (fun v h' => ∃ r1 : Int32, v = some (.int r1) ∧ Keep h0 h' [] ∧ NX NW Wo f r1) := by
  refine Met.intro (plainFor_of_name pn5) Z0 ?_
  intro p e s m below meth c T X
  refine g_cast (ef5 m a1 p2) ?_
  have K : Keep h0 h0 [] := Keep.refl h0 _
  have hNW := hD.2.1
  have hNH := hD.2.2.1
  have hND := hD.2.2.2
  refine g_iloadN X d5_0 rfl (q := 1) rfl ?_
  refine g_bipush X d5_1 rfl (q := 3) (v := 6) rfl ?_
  refine g_iushr X d5_3 rfl (q := 4) ?_
  refine g_eqI (y := (Int32.ofNat (f / 64))) (own_u6 hp (by omega)) ?_
  refine g_istoreN X d5_4 rfl (q := 5) (L' := #[.val (.ref a1), .val (.int p2), .val (.int (Int32.ofNat (f / 64))), .unset, .unset]) rfl ?_
  refine g_iloadN X d5_5 rfl (q := 6) rfl ?_
  refine g_aloadN X d5_6 rfl (q := 7) rfl rfl ?_
  refine g_getF X (tw11 hw) Via.refl O_a1.2.1 d5_7 (q := 10) rfl (fun T X => ?_)
  refine g_alenJ X A_uw d5_10 (q := 11) rfl ?_
  refine g_icmpA X d5_11 (Or.inl rfl) (q := 14) rfl (by decide) (t := 16) rfl (fun (c1 : (Int32.ofNat (f / 64)) < (Nat.toInt32 NW)) => ?_) (fun (c1 : ¬ ((Int32.ofNat (f / 64)) < (Nat.toInt32 NW))) => ?_)
  · skip
    have hfN : f / 64 < NW := (own_ltO rfl (by omega) (by omega)).mp c1
    refine g_aloadN X d5_16 rfl (q := 17) rfl rfl ?_
    refine g_getF X (tw11 hw) Via.refl O_a1.2.1 d5_17 (q := 20) rfl (fun T X => ?_)
    refine g_iloadN X d5_20 rfl (q := 21) rfl ?_
    refine g_laload X A_uw (own_ki rfl hfN (by omega)) d5_21 (q := 22) rfl ?_
    refine g_eqJ (y := (Wo (f / 64))) (congrArg Wo (own_cl (by omega))) ?_
    refine g_ldc2 X (tw29 hw) d5_22 (q := 25) rfl ?_
    refine g_iloadN X d5_25 rfl (q := 26) rfl ?_
    refine g_lshl X d5_26 rfl (q := 27) ?_
    refine g_land X d5_27 rfl (q := 28) ?_
    refine g_letJ (fun bs hbs => ?_)
    have hb : ∀ b, b < 64 → tb bs b = (tb (Wo (f / 64)) b && decide (f ≤ 64 * (f / 64) + b)) := by rw [hbs]; exact own_nwi hp (by omega)
    refine g_lstoreN X d5_28 rfl (q := 29) (L' := #[.val (.ref a1), .val (.int p2), .val (.int (Int32.ofNat (f / 64))), .val (.long bs), .second]) rfl ?_
    refine g_lloadN X d5_29 rfl (q := 30) rfl ?_
    refine g_lconst X d5_30 rfl (q := 31) (v := 0) rfl ?_
    refine g_lcmpB X d5_31 (q1 := 32) rfl d5_32 (Or.inr (Or.inr rfl)) (q := 35) rfl (by decide) (t := 56) rfl (fun (c2 : bs = (0 : Int64)) => ?_) (fun (c2 : ¬ (bs = (0 : Int64))) => ?_)
    · skip
      refine g_aloadN X d5_35 rfl (q := 36) rfl rfl ?_
      refine g_iloadN X d5_36 rfl (q := 37) rfl ?_
      refine g_iconst X d5_37 rfl (q := 38) (v := 1) rfl ?_
      refine g_iadd X d5_38 rfl (q := 39) ?_
      refine g_callP X O_a1.1 [(.int ((Int32.ofNat (f / 64)) + (1 : Int32)))] [] (tw30 hw) (own_selP (tw2 hw) (tw31 hw) (tw32 hw) (by decide)) (tw31 hw) (tw32 hw) (tw3 hw) (tw33 hw) (by decide) (rm6 l Z a0 hw [] a1 ((Int32.ofNat (f / 64)) + (1 : Int32)) uw uh NW NH Wo Hd (f / 64 + 1) _ n0 X.size O_a1 A_uw A_uh (own_k1 rfl (by omega)) (by omega) hD hIS) pd0 rfl rfl rfl d5_39 (q := 42) rfl (W := 0) rfl (by decide) (by decide) (c2 := 0) (s2 := 0) rfl rfl (by decide) (by decide) (fun v T h' X hQ => ?_)
      obtain ⟨r1_39, rfl, Kc, hN1_39⟩ := hQ
      have O_a1 := O_a1.keep Kc nin0
      have A_uw := A_uw.keep Kc nin0
      have A_uh := A_uh.keep Kc nin0
      have K := K.trans Kc all0
      show Goes p e below s _ n0 _ (T.setTop (mkF m 42 #[.val (.ref a1), .val (.int p2), .val (.int (Int32.ofNat (f / 64))), .val (.long bs), .second] [(.int r1_39)]))
      have h0 := own_nx0 (NW := NW) hb c2
      rcases hN1_39 with ⟨hr, hall⟩ | ⟨w, hr, hw1, hw2, hw3, hw4⟩
      · rw [hr]
        refine g_istoreN X d5_42 rfl (q := 43) (L' := #[.val (.ref a1), .val (.int p2), .val (.int (-1 : Int32)), .val (.long bs), .second]) rfl ?_
        refine g_iloadN X d5_43 rfl (q := 44) rfl ?_
        refine g_ifB X d5_44 (Or.inl rfl) (q := 47) rfl (by decide) (t := 49) rfl (fun (c3 : (-1 : Int32) < (0 : Int32)) => ?_) (fun (c3 : ¬ ((-1 : Int32) < (0 : Int32))) => ?_)
        · skip
          refine g_iconst X d5_47 rfl (q := 48) (v := -1) rfl ?_
          exact g_retI X d5_48 (by decide) (by decide) ⟨(-1 : Int32), rfl, K, Or.inl ⟨rfl, own_nxn h0 hall⟩⟩
        · skip
          exact absurd c3 (by decide)
      · rw [hr]
        have hw0 : ¬ ((Int32.ofNat w) < (0 : Int32)) := (own_clN (by omega)).2
        refine g_istoreN X d5_42 rfl (q := 43) (L' := #[.val (.ref a1), .val (.int p2), .val (.int (Int32.ofNat w)), .val (.long bs), .second]) rfl ?_
        refine g_iloadN X d5_43 rfl (q := 44) rfl ?_
        refine g_ifB X d5_44 (Or.inl rfl) (q := 47) rfl (by decide) (t := 49) rfl (fun (c4 : (Int32.ofNat w) < (0 : Int32)) => ?_) (fun (c4 : ¬ ((Int32.ofNat w) < (0 : Int32))) => ?_)
        · skip
          exact absurd c4 hw0
        · skip
          refine g_aloadN X d5_49 rfl (q := 50) rfl rfl ?_
          refine g_getF X (tw11 hw) Via.refl O_a1.2.1 d5_50 (q := 53) rfl (fun T X => ?_)
          refine g_iloadN X d5_53 rfl (q := 54) rfl ?_
          refine g_laload X A_uw (own_ki rfl hw2 (by omega)) d5_54 (q := 55) rfl ?_
          refine g_eqJ (y := (Wo w)) (congrArg Wo (own_cl (by omega))) ?_
          refine g_lstoreN X d5_55 rfl (q := 56) (L' := #[.val (.ref a1), .val (.int p2), .val (.int (Int32.ofNat w)), .val (.long (Wo w)), .second]) rfl ?_
          refine g_iloadN X d5_56 rfl (q := 57) rfl ?_
          refine g_bipush X d5_57 rfl (q := 59) (v := 6) rfl ?_
          refine g_ishl X d5_59 rfl (q := 60) ?_
          refine g_lloadN X d5_60 rfl (q := 61) rfl ?_
          refine g_callS X [(.long (Wo w))] [(.int ((Int32.ofNat w) <<< ((6 : Int32) &&& 31)))] (tw49 hw) (tw50 hw) (tw51 hw) (tw52 hw) (by decide) (rm10 l Z a0 hw [] (Wo w) _ n0 X.size) pd1 rfl rfl rfl d5_61 (q := 64) rfl (W := 1) rfl (by decide) (by decide) (c2 := 0) (s2 := 0) rfl rfl (by decide) (by decide) (fun v T h' X hQ => ?_)
          obtain ⟨rfl, rfl⟩ := hQ
          show Goes p e below s _ n0 _ (T.setTop (mkF m 64 #[.val (.ref a1), .val (.int p2), .val (.int (Int32.ofNat w)), .val (.long (Wo w)), .second] [(.int (LV (Wo w))), (.int ((Int32.ofNat w) <<< ((6 : Int32) &&& 31)))]))
          refine g_ior X d5_64 rfl (q := 65) ?_
          obtain ⟨t, ht, ht1, ht2, hLV, -⟩ := own_low hw3
          refine g_eqI (y := (Int32.ofNat (64 * w + t))) (own_or6 rfl hLV (by omega) ht) ?_
          have hF := own_nx2 h0 hw1 hw2 hw4 ht ht1 ht2
          exact g_retI X d5_65 (by decide) (by decide) ⟨Int32.ofNat (64 * w + t), rfl, K, Or.inr ⟨64 * w + t, rfl, hF.1, hF.2.1, hF.2.2.1, hF.2.2.2⟩⟩
    · skip
      refine g_iloadN X d5_56 rfl (q := 57) rfl ?_
      refine g_bipush X d5_57 rfl (q := 59) (v := 6) rfl ?_
      refine g_ishl X d5_59 rfl (q := 60) ?_
      refine g_lloadN X d5_60 rfl (q := 61) rfl ?_
      refine g_callS X [(.long bs)] [(.int ((Int32.ofNat (f / 64)) <<< ((6 : Int32) &&& 31)))] (tw49 hw) (tw50 hw) (tw51 hw) (tw52 hw) (by decide) (rm10 l Z a0 hw [] bs _ n0 X.size) pd1 rfl rfl rfl d5_61 (q := 64) rfl (W := 1) rfl (by decide) (by decide) (c2 := 0) (s2 := 0) rfl rfl (by decide) (by decide) (fun v T h' X hQ => ?_)
      obtain ⟨rfl, rfl⟩ := hQ
      show Goes p e below s _ n0 _ (T.setTop (mkF m 64 #[.val (.ref a1), .val (.int p2), .val (.int (Int32.ofNat (f / 64))), .val (.long bs), .second] [(.int (LV bs)), (.int ((Int32.ofNat (f / 64)) <<< ((6 : Int32) &&& 31)))]))
      refine g_ior X d5_64 rfl (q := 65) ?_
      obtain ⟨t, ht, ht1, ht2, hLV, -⟩ := own_low c2
      refine g_eqI (y := (Int32.ofNat (64 * (f / 64) + t))) (own_or6 rfl hLV (by omega) ht) ?_
      have hF := own_nx1 hfN hb ht ht1 ht2
      exact g_retI X d5_65 (by decide) (by decide) ⟨Int32.ofNat (64 * (f / 64) + t), rfl, K, Or.inr ⟨64 * (f / 64) + t, rfl, hF.1, hF.2.1, hF.2.2.1, hF.2.2.2⟩⟩
  · skip
    refine g_iconst X d5_14 rfl (q := 15) (v := -1) rfl ?_
    have hfN : ¬ (f / 64 < NW) := (not_congr (own_ltO rfl (by omega) (by omega))).mp c1
    exact g_retI X d5_15 (by decide) (by decide) ⟨(-1 : Int32), rfl, K, Or.inl ⟨rfl, fun i h1 h2 => absurd h2 (by omega)⟩⟩
theorem pn8 : plainName "com/example/bulkstep/bulkstep/engine/IndexSet" = true := by first | (simp [plainName, overriddenIn]; done) | decide +kernel
theorem ef8 (m : MethodId) (x0 : Addr) : entryFrame m #[(.ref x0)] 4 = mkF m 0 #[.val (.ref x0), .unset, .unset, .unset] [] := by first | (simp [entryFrame, mkF, argsToLocals, Value.category]; done) | rfl
set_option maxRecDepth 65536 in
set_option maxHeartbeats 40000000 in
theorem rm8 (l : Launch) (Z : State) (a0 : Array Value) (hw : ∀ d ∈ tables_1, d.before a0 Z = true) (ws : List Jvm.Cond) (a1 : Addr) (uw : Addr) (uh : Addr) (NW : Nat) (NH : Nat) (Wo : Nat → Int64) (Hd : Nat → Int64) (h0 : Heap) (n0 : Nat) (Z0 : n0 ≤ h0.size) (O_a1 : O_IndexSet Z h0 a1 (.ref uw) (.ref uh)) (A_uw : AJ Z h0 uw NW Wo) (A_uh : AJ Z h0 uh NH Hd) (g_uw : n0 ≤ uw) (g_uh : n0 ≤ uh) (ne_a1_uw : Apart a1 uw) (ne_a1_uh : Apart a1 uh) (ne_uw_a1 : Apart uw a1) (ne_uw_uh : Apart uw uh) (ne_uh_a1 : Apart uh a1) (ne_uh_uw : Apart uh uw) (hD : DM NW NH) (hIS : IS NW NH Wo Hd) :
    Met l Z (⟨"com/example/bulkstep/bulkstep/engine/IndexSet", "clear", "()V"⟩ : MethodName) prog_26_method_8_code 4 none ({ frames := 2, cells := 0, slots := 0, locals := 30 } : Room) ws n0 #[(.ref a1)] h0 (fun v h' => ∃ W1 : Nat → Int64, ∃ H1 : Nat → Int64, v = none ∧ Keep h0 h' [uw, uh] ∧ AJ Z h' uw NW W1 ∧ AJ Z h' uh NH H1 ∧ (∀ w, w < NW → W1 w = 0) ∧ IS NW NH W1 H1) := by
  refine Met.intro (plainFor_of_name pn8) Z0 ?_
  intro p e s m below meth c T X
  refine g_cast (ef8 m a1) ?_
  have K : Keep h0 h0 [uw, uh] := Keep.refl h0 _
  have hNW := hD.2.1
  have hNH := hD.2.2.1
  have hND := hD.2.2.2
  have hN1 := hD.1
  have hNH0 : (0 : Int32) < (Nat.toInt32 NH) := (own_ltO (k := 0) rfl (by omega) (by omega)).mpr (by omega)
  refine g_iconst X d8_0 rfl (q := 1) (v := 0) rfl ?_
  refine g_istoreN X d8_1 rfl (q := 2) (L' := #[.val (.ref a1), .val (.int (0 : Int32)), .unset, .unset]) rfl ?_
  refine g_iloadN X d8_2 rfl (q := 3) rfl ?_
  refine g_aloadN X d8_3 rfl (q := 4) rfl rfl ?_
  refine g_getF X (tw13 hw) Via.refl O_a1.2.2 d8_4 (q := 7) rfl (fun T X => ?_)
  refine g_alenJ X A_uh d8_7 (q := 8) rfl ?_
  refine g_icmpB X d8_8 (Or.inl rfl) (q := 11) rfl (by decide) (t := 61) rfl (fun (c1 : (0 : Int32) < (Nat.toInt32 NH)) => ?_) (fun (c1 : ¬ ((0 : Int32) < (Nat.toInt32 NH))) => ?_)
  · skip
    refine g_aloadN X d8_11 rfl (q := 12) rfl rfl ?_
    refine g_getF X (tw13 hw) Via.refl O_a1.2.2 d8_12 (q := 15) rfl (fun T X => ?_)
    refine g_iloadN X d8_15 rfl (q := 16) rfl ?_
    refine g_laload X A_uh (own_ki (i := 0) (k := 0) rfl (show 0 < NH by omega) (by omega)) d8_16 (q := 17) rfl ?_
    refine g_eqJ (y := (Hd 0)) rfl ?_
    refine g_lstoreN X d8_17 rfl (q := 18) (L' := #[.val (.ref a1), .val (.int (0 : Int32)), .val (.long (Hd 0)), .second]) rfl ?_
    refine g_loop5 X (H := 18) (fun (i : Int32) (k : Nat) (pr : Int64) (Wv : Nat → Int64) (Hv : Nat → Int64) => (NH - k) * 18446744073709551616 + pr.toBitVec.toNat) (fun i k pr Wv Hv h => O_IndexSet Z h a1 (.ref uw) (.ref uh) ∧ AJ Z h uw NW Wv ∧ AJ Z h uh NH Hv ∧ Keep h0 h [uw, uh] ∧ i = Int32.ofNat k ∧ k < NH ∧ CL NW Wo Hd k pr Wv Hv) (fun i k pr Wv Hv => #[.val (.ref a1), .val (.int i), .val (.long pr), .second]) (fun i k pr Wv Hv => []) 0 0 (Hd 0) Wo Hd ⟨O_a1, A_uw, A_uh, K, rfl, (by omega), (own_cl0 hIS (by omega) (fun j hj => absurd hj (Nat.not_lt_zero j)) (fun j _ => rfl) (fun w h1 _ => absurd h1 (by omega)) (fun w _ => rfl))⟩ (fun i k pr Wv Hv T h X hI ih => ?_)
    have hI2 : O_IndexSet Z h a1 (.ref uw) (.ref uh) ∧ AJ Z h uw NW Wv ∧ AJ Z h uh NH Hv ∧ Keep h0 h [uw, uh] ∧ i = Int32.ofNat k ∧ k < NH ∧ CL NW Wo Hd k pr Wv Hv := hI
    obtain ⟨O_a1, A_uw, A_uh, K, hi, hk, hc⟩ := hI2
    show Goes p e below s _ n0 _ (T.setTop (mkF m 18 #[.val (.ref a1), .val (.int i), .val (.long pr), .second] []))
    refine g_lloadN X d8_18 rfl (q := 19) rfl ?_
    refine g_lconst X d8_19 rfl (q := 20) (v := 0) rfl ?_
    refine g_lcmpA X d8_20 (q1 := 21) rfl d8_21 (Or.inr (Or.inr rfl)) (q := 24) rfl (by decide) (t := 48) rfl (fun (c2 : pr = (0 : Int64)) => ?_) (fun (c2 : ¬ (pr = (0 : Int64))) => ?_)
    · skip
      have b_pr : (0 : Int) ≤ pr.toInt ∧ pr.toInt ≤ 0 := by have z0 := c2; (try simp only [Int64.lt_iff_toInt_lt, Int32.lt_iff_toInt_lt, Int64.le_iff_toInt_le, Int32.le_iff_toInt_le, ← Int64.toInt_inj, ← Int32.toInt_inj, apply_ite Int64.toInt, apply_ite Int32.toInt, Int64.reduceToInt, Int32.reduceToInt, ne_eq] at z0); have z1 := rng64 pr; omega
      refine g_aloadN X d8_48 rfl (q := 49) rfl rfl ?_
      refine g_getF X (tw13 hw) Via.refl O_a1.2.2 d8_49 (q := 52) rfl (fun T X => ?_)
      refine g_iloadN X d8_52 rfl (q := 53) rfl ?_
      refine g_lconst X d8_53 rfl (q := 54) (v := 0) rfl ?_
      refine g_lastore X A_uh (own_ki hi hk (by omega)) g_uh d8_54 (q := 55) rfl (fun T h X W => ?_)
      have O_a1 := O_a1.other W ne_a1_uh
      have A_uw := A_uw.other W ne_uw_uh
      have A_uh : AJ Z h uh NH (own_up Hv i.toNatClampNeg (0 : Int64)) := A_uh.set W
      have K := K.wr W (Or.inl (List.mem_of_getElem? (i := 1) rfl))
      have A_uh : AJ Z h uh NH (own_up Hv k (0 : Int64)) := A_uh.to (fun j _ => by rw [own_kc hi (by omega)])
      refine g_iinc X d8_55 (q := 58) rfl rfl (d := 1) rfl (L' := #[.val (.ref a1), .val (.int (i + (1 : Int32))), .val (.long pr), .second]) rfl ?_
      refine g_goto X d8_58 (by decide) (q := 2) rfl ?_
      refine g_iloadN X d8_2 rfl (q := 3) rfl ?_
      refine g_aloadN X d8_3 rfl (q := 4) rfl rfl ?_
      refine g_getF X (tw13 hw) Via.refl O_a1.2.2 d8_4 (q := 7) rfl (fun T X => ?_)
      refine g_alenJ X A_uh d8_7 (q := 8) rfl ?_
      refine g_icmpB X d8_8 (Or.inl rfl) (q := 11) rfl (by decide) (t := 61) rfl (fun (c3 : (i + (1 : Int32)) < (Nat.toInt32 NH)) => ?_) (fun (c3 : ¬ ((i + (1 : Int32)) < (Nat.toInt32 NH))) => ?_)
      · skip
        have hk1 : k + 1 < NH := (own_ltO (own_k1 hi (by omega)) (by omega) (by omega)).mp c3
        refine g_aloadN X d8_11 rfl (q := 12) rfl rfl ?_
        refine g_getF X (tw13 hw) Via.refl O_a1.2.2 d8_12 (q := 15) rfl (fun T X => ?_)
        refine g_iloadN X d8_15 rfl (q := 16) rfl ?_
        refine g_laload X A_uh (own_ki (own_k1 hi (by omega)) hk1 (by omega)) d8_16 (q := 17) rfl ?_
        refine g_eqJ (y := (Hv (k + 1))) (by rw [own_kc (own_k1 hi (by omega)) (by omega)]; exact if_neg (by omega)) ?_
        refine g_lstoreN X d8_17 rfl (q := 18) (L' := #[.val (.ref a1), .val (.int (i + (1 : Int32))), .val (.long (Hv (k + 1))), .second]) rfl ?_
        exact ih (i + (1 : Int32)) (k + 1) (Hv (k + 1)) Wv (own_up Hv k (0 : Int64)) T _ X ⟨O_a1, A_uw, A_uh, K, (own_k1 hi (by omega)), hk1, (own_clN2 hIS hk1 hc c2)⟩ (by show (NH - (k + 1)) * 18446744073709551616 + (Hv (k + 1)).toBitVec.toNat < (NH - k) * 18446744073709551616 + pr.toBitVec.toNat; have := (Hv (k + 1)).toBitVec.isLt; omega)
      · skip
        have hkE : k + 1 = NH := by have := (not_congr (own_ltO (own_k1 hi (by omega)) (by omega) (by omega))).mp c3; omega
        have hF := own_clE hD hkE (c2 ▸ hc)
        exact g_ret0 X d8_61 (by decide) (by decide) ⟨Wv, own_up Hv k (0 : Int64), rfl, K, A_uw, A_uh, hF.1, hF.2⟩
    · skip
      refine g_aloadN X d8_24 rfl (q := 25) rfl rfl ?_
      refine g_getF X (tw11 hw) Via.refl O_a1.2.1 d8_25 (q := 28) rfl (fun T X => ?_)
      refine g_iloadN X d8_28 rfl (q := 29) rfl ?_
      refine g_bipush X d8_29 rfl (q := 31) (v := 6) rfl ?_
      refine g_ishl X d8_31 rfl (q := 32) ?_
      refine g_lloadN X d8_32 rfl (q := 33) rfl ?_
      refine g_callS X [(.long pr)] [(.int (i <<< ((6 : Int32) &&& 31))), (.ref uw)] (tw49 hw) (tw50 hw) (tw51 hw) (tw52 hw) (by decide) (rm10 l Z a0 hw [] pr _ n0 X.size) pd1 rfl rfl rfl d8_33 (q := 36) rfl (W := 2) rfl (by decide) (by decide) (c2 := 0) (s2 := 0) rfl rfl (by decide) (by decide) (fun v T h' X hQ => ?_)
      obtain ⟨rfl, rfl⟩ := hQ
      show Goes p e below s _ n0 _ (T.setTop (mkF m 36 #[.val (.ref a1), .val (.int i), .val (.long pr), .second] [(.int (LV pr)), (.int (i <<< ((6 : Int32) &&& 31))), (.ref uw)]))
      refine g_ior X d8_36 rfl (q := 37) ?_
      obtain ⟨t, ht, ht1, ht2, hLV, hLow⟩ := own_low c2
      have hst := own_strip c2 hLow
      have htN := own_clt hIS hk hc ht ht1
      refine g_eqI (y := (Int32.ofNat (64 * k + t))) (own_or6 hi hLV (by omega) ht) ?_
      refine g_lconst X d8_37 rfl (q := 38) (v := 0) rfl ?_
      refine g_lastore X A_uw (own_ki rfl htN (by omega)) g_uw d8_38 (q := 39) rfl (fun T h X W => ?_)
      have O_a1 := O_a1.other W ne_a1_uw
      have A_uh := A_uh.other W ne_uh_uw
      have A_uw : AJ Z h uw NW (own_up Wv (Int32.ofNat (64 * k + t)).toNatClampNeg (0 : Int64)) := A_uw.set W
      have K := K.wr W (Or.inl (List.mem_of_getElem? (i := 0) rfl))
      have A_uw : AJ Z h uw NW (own_up Wv (64 * k + t) (0 : Int64)) := A_uw.to (fun j _ => by rw [own_cl (by omega)])
      refine g_lloadN X d8_39 rfl (q := 40) rfl ?_
      refine g_lloadN X d8_40 rfl (q := 41) rfl ?_
      refine g_lconst X d8_41 rfl (q := 42) (v := 1) rfl ?_
      refine g_lsub X d8_42 rfl (q := 43) ?_
      refine g_land X d8_43 rfl (q := 44) ?_
      refine g_lstoreN X d8_44 rfl (q := 45) (L' := #[.val (.ref a1), .val (.int i), .val (.long (pr &&& (pr - (1 : Int64)))), .second]) rfl ?_
      refine g_goto X d8_45 (by decide) (q := 18) rfl ?_
      exact ih i k (pr &&& (pr - (1 : Int64))) (own_up Wv (64 * k + t) (0 : Int64)) Hv T _ X ⟨O_a1, A_uw, A_uh, K, hi, hk, (own_clS hc ht hst.1)⟩ (by show (NH - k) * 18446744073709551616 + (pr &&& (pr - (1 : Int64))).toBitVec.toNat < (NH - k) * 18446744073709551616 + pr.toBitVec.toNat; have := hst.2; omega)
  · skip
    exact absurd hNH0 c1
theorem pn4 : plainName "com/example/bulkstep/bulkstep/engine/IndexSetAddPinLaw" = true := by first | (simp [plainName, overriddenIn]; done) | decide +kernel
theorem ef4 (m : MethodId) (x0 : Int32) (x1 : Int32) (x2 : Int32) (x3 : Int32) : entryFrame m #[(.int x0), (.int x1), (.int x2), (.int x3)] 4 = mkF m 0 #[.val (.int x0), .val (.int x1), .val (.int x2), .val (.int x3)] [] := by first | (simp [entryFrame, mkF, argsToLocals, Value.category]; done) | rfl
set_option maxRecDepth 65536 in
set_option maxHeartbeats 40000000 in
theorem rm4 (l : Launch) (Z : State) (a0 : Array Value) (hw : ∀ d ∈ tables_1, d.before a0 Z = true) (ws : List Jvm.Cond) (p1 : Int32) (P2 : Prop) [Decidable P2] (p3 : Int32) (p4 : Int32) (h0 : Heap) (n0 : Nat) (Z0 : n0 ≤ h0.size) :
    Met l Z (⟨"com/example/bulkstep/bulkstep/engine/IndexSetAddPinLaw", "cand", "(IZII)I"⟩ : MethodName) method_2_code 4 (some .int) ({ frames := 0, cells := 0, slots := 0, locals := 0 } : Room) ws n0 #[(.int p1), (.int (bI P2)), (.int p3), (.int p4)] h0 (fun v h' => v = some (.int (if P2 then (if p1 < p3 then p4 else (if p4 < (0 : Int32) then p1 else (if p1 < p4 then p1 else p4))) else p4)) ∧ h0 = h') := by
  refine Met.intro (plainFor_of_name pn4) Z0 ?_
  intro p e s m below meth c T X
  refine g_cast (ef4 m p1 (bI P2) p3 p4) ?_
  refine g_iloadN X d4_0 rfl (q := 1) rfl ?_
  refine g_beq X d4_1 (q := 4) rfl (by decide) (t := 20) rfl (fun (c1 : P2) => ?_) (fun (c1 : ¬ P2) => ?_)
  · skip
    refine g_iloadN X d4_4 rfl (q := 5) rfl ?_
    refine g_iloadN X d4_5 rfl (q := 6) rfl ?_
    refine g_icmpA X d4_6 (Or.inl rfl) (q := 9) rfl (by decide) (t := 20) rfl (fun (c2 : p1 < p3) => ?_) (fun (c2 : ¬ (p1 < p3)) => ?_)
    · skip
      refine g_iloadN X d4_20 rfl (q := 21) rfl ?_
      exact g_retI X d4_21 (by decide) (by decide) ⟨congrArg (fun z => some (Value.int z)) (((if_pos c2).symm).trans (if_pos c1).symm), rfl⟩
    · skip
      refine g_iloadN X d4_9 rfl (q := 10) rfl ?_
      refine g_ifA X d4_10 (Or.inl rfl) (q := 13) rfl (by decide) (t := 18) rfl (fun (c3 : p4 < (0 : Int32)) => ?_) (fun (c3 : ¬ (p4 < (0 : Int32))) => ?_)
      · skip
        have b_p4 : (-2147483648 : Int) ≤ p4.toInt ∧ p4.toInt ≤ -1 := by have z0 := c3; (try simp only [Int64.lt_iff_toInt_lt, Int32.lt_iff_toInt_lt, Int64.le_iff_toInt_le, Int32.le_iff_toInt_le, ← Int64.toInt_inj, ← Int32.toInt_inj, apply_ite Int64.toInt, apply_ite Int32.toInt, Int64.reduceToInt, Int32.reduceToInt, ne_eq] at z0); have z1 := rng32 p4; omega
        refine g_iloadN X d4_18 rfl (q := 19) rfl ?_
        exact g_retI X d4_19 (by decide) (by decide) ⟨congrArg (fun z => some (Value.int z)) ((((if_pos c3).symm).trans (if_neg c2).symm).trans (if_pos c1).symm), rfl⟩
      · skip
        have b_p4 : (0 : Int) ≤ p4.toInt ∧ p4.toInt ≤ 2147483647 := by have z0 := c3; (try simp only [Int64.lt_iff_toInt_lt, Int32.lt_iff_toInt_lt, Int64.le_iff_toInt_le, Int32.le_iff_toInt_le, ← Int64.toInt_inj, ← Int32.toInt_inj, apply_ite Int64.toInt, apply_ite Int32.toInt, Int64.reduceToInt, Int32.reduceToInt, ne_eq] at z0); have z1 := rng32 p4; omega
        refine g_iloadN X d4_13 rfl (q := 14) rfl ?_
        refine g_iloadN X d4_14 rfl (q := 15) rfl ?_
        refine g_icmpB X d4_15 (Or.inl rfl) (q := 18) rfl (by decide) (t := 20) rfl (fun (c4 : p1 < p4) => ?_) (fun (c4 : ¬ (p1 < p4)) => ?_)
        · skip
          refine g_iloadN X d4_18 rfl (q := 19) rfl ?_
          exact g_retI X d4_19 (by decide) (by decide) ⟨congrArg (fun z => some (Value.int z)) (((((if_pos c4).symm).trans (if_neg c3).symm).trans (if_neg c2).symm).trans (if_pos c1).symm), rfl⟩
        · skip
          refine g_iloadN X d4_20 rfl (q := 21) rfl ?_
          exact g_retI X d4_21 (by decide) (by decide) ⟨congrArg (fun z => some (Value.int z)) (((((if_neg c4).symm).trans (if_neg c3).symm).trans (if_neg c2).symm).trans (if_pos c1).symm), rfl⟩
  · skip
    refine g_iloadN X d4_20 rfl (q := 21) rfl ?_
    exact g_retI X d4_21 (by decide) (by decide) ⟨congrArg (fun z => some (Value.int z)) ((if_neg c1).symm), rfl⟩
theorem pn0 : plainName "com/example/bulkstep/bulkstep/engine/IndexSetAddPinLaw" = true := by first | (simp [plainName, overriddenIn]; done) | decide +kernel
theorem ef0 (m : MethodId) (x0 : Int32) (x1 : Int32) (x2 : Int32) (x3 : Int32) (x4 : Int32) (x5 : Int32) : entryFrame m #[(.int x0), (.int x1), (.int x2), (.int x3), (.int x4), (.int x5)] maxLocals = mkF m 0 #[.val (.int x0), .val (.int x1), .val (.int x2), .val (.int x3), .val (.int x4), .val (.int x5), .unset, .unset, .unset, .unset, .unset, .unset, .unset, .unset, .unset, .unset] [] := by first | (simp [entryFrame, mkF, argsToLocals, Value.category, maxLocals]; done) | rfl
set_option maxRecDepth 65536 in
set_option maxHeartbeats 40000000 in
theorem rm0 (l : Launch) (Z : State) (a0 : Array Value) (hw : ∀ d ∈ tables_1, d.before a0 Z = true) (ws : List Jvm.Cond) (p1 : Int32) (p2 : Int32) (p3 : Int32) (p4 : Int32) (p5 : Int32) (p6 : Int32) (h0 : Heap) (n0 : Nat) (Z0 : n0 ≤ h0.size) :
    Met l Z x code maxLocals ret room_1 ws n0 #[(.int p1), (.int p2), (.int p3), (.int p4), (.int p5), (.int p6)] h0 (fun v h' => v = some (.int 1)) := by
  refine Met.intro (plainFor_of_name pn0) Z0 ?_
  intro p e s m below meth c T X
  refine g_cast (ef0 m p1 p2 p3 p4 p5 p6) ?_
  refine g_iconst X at_0 rfl (q := 1) (v := 1) rfl ?_
  refine g_iloadN X at_1 rfl (q := 2) rfl ?_
  refine g_iconst X at_2 rfl (q := 3) (v := 2) rfl ?_
  refine g_iushr X at_3 rfl (q := 4) ?_
  refine g_sipush X at_4 rfl (q := 7) (v := 16383) rfl ?_
  refine g_iand X at_7 rfl (q := 8) ?_
  refine g_iadd X at_8 rfl (q := 9) ?_
  refine g_letI (fun x9 hx9 => ?_)
  have s_x9 := own_size hx9
  have s_x9' := own_add1 s_x9
  refine g_istore X at_9 rfl (q := 11) (L' := #[.val (.int p1), .val (.int p2), .val (.int p3), .val (.int p4), .val (.int p5), .val (.int p6), .val (.int x9), .unset, .unset, .unset, .unset, .unset, .unset, .unset, .unset, .unset]) rfl ?_
  refine g_iloadN X at_11 rfl (q := 12) rfl ?_
  refine g_iconst X at_12 rfl (q := 13) (v := 3) rfl ?_
  refine g_iand X at_13 rfl (q := 14) ?_
  refine g_letI (fun x14 hx14 => ?_)
  have s_x14 := own_mB p1 3 2 (by decide) (by decide) 3 (by decide)
  rw [← hx14] at s_x14
  refine g_istore X at_14 rfl (q := 16) (L' := #[.val (.int p1), .val (.int p2), .val (.int p3), .val (.int p4), .val (.int p5), .val (.int p6), .val (.int x9), .val (.int x14), .unset, .unset, .unset, .unset, .unset, .unset, .unset, .unset]) rfl ?_
  refine g_iloadN X at_16 rfl (q := 17) rfl ?_
  refine g_ldc X (tw0 hw) at_17 (q := 19) rfl ?_
  refine g_iand X at_19 rfl (q := 20) ?_
  refine g_iload X at_20 rfl (q := 22) rfl ?_
  refine g_irem X at_22 rfl (q := 23) (own_nz0 (by omega)) ?_
  refine g_letI (fun x23 hx23 => ?_)
  have s_x23 := own_remS hx23 (by omega)
  refine g_istore X at_23 rfl (q := 25) (L' := #[.val (.int p1), .val (.int p2), .val (.int p3), .val (.int p4), .val (.int p5), .val (.int p6), .val (.int x9), .val (.int x14), .val (.int x23), .unset, .unset, .unset, .unset, .unset, .unset, .unset]) rfl ?_
  refine g_iloadN X at_25 rfl (q := 26) rfl ?_
  refine g_ldc X (tw0 hw) at_26 (q := 28) rfl ?_
  refine g_iand X at_28 rfl (q := 29) ?_
  refine g_iload X at_29 rfl (q := 31) rfl ?_
  refine g_irem X at_31 rfl (q := 32) (own_nz0 (by omega)) ?_
  refine g_letI (fun x32 hx32 => ?_)
  have s_x32 := own_remS hx32 (by omega)
  refine g_istore X at_32 rfl (q := 34) (L' := #[.val (.int p1), .val (.int p2), .val (.int p3), .val (.int p4), .val (.int p5), .val (.int p6), .val (.int x9), .val (.int x14), .val (.int x23), .val (.int x32), .unset, .unset, .unset, .unset, .unset, .unset]) rfl ?_
  refine g_iloadN X at_34 rfl (q := 35) rfl ?_
  refine g_bipush X at_35 rfl (q := 37) (v := 16) rfl ?_
  refine g_iushr X at_37 rfl (q := 38) ?_
  refine g_iconst X at_38 rfl (q := 39) (v := 1) rfl ?_
  refine g_iand X at_39 rfl (q := 40) ?_
  refine g_jT1 X (J := 58) (P := fun (l9_58 : Int32) => l9_58 = (if (((p1.toUInt32 >>> ((16 : Int32) &&& 31).toUInt32).toInt32) &&& (1 : Int32)) = (0 : Int32) then x32 else (((x23 &&& (-64 : Int32)) ||| (p3 &&& (63 : Int32))) % x9))) (L := fun l9_58 => #[.val (.int p1), .val (.int p2), .val (.int p3), .val (.int p4), .val (.int p5), .val (.int p6), .val (.int x9), .val (.int x14), .val (.int x23), .val (.int l9_58), .unset, .unset, .unset, .unset, .unset, .unset]) (S := fun l9_58 => []) ?_ ?_
  · intro T X l9_58 hl9_58
    replace hl9_58 : l9_58 = (if (((p1.toUInt32 >>> ((16 : Int32) &&& 31).toUInt32).toInt32) &&& (1 : Int32)) = (0 : Int32) then x32 else (((x23 &&& (-64 : Int32)) ||| (p3 &&& (63 : Int32))) % x9)) := hl9_58
    show Goes p e below s _ n0 _ (T.setTop (mkF m 58 #[.val (.int p1), .val (.int p2), .val (.int p3), .val (.int p4), .val (.int p5), .val (.int p6), .val (.int x9), .val (.int x14), .val (.int x23), .val (.int l9_58), .unset, .unset, .unset, .unset, .unset, .unset] []))
    have s_l9_58 : 0 ≤ l9_58.toInt ∧ l9_58.toInt < x9.toInt := by rw [hl9_58]; split; exact s_x32; exact own_remT rfl (own_orn s_x23.1) (by omega)
    refine g_iloadN X at_58 rfl (q := 59) rfl ?_
    refine g_ldc X (tw0 hw) at_59 (q := 61) rfl ?_
    refine g_iand X at_61 rfl (q := 62) ?_
    refine g_iload X at_62 rfl (q := 64) rfl ?_
    refine g_irem X at_64 rfl (q := 65) (own_nz0 (by omega)) ?_
    refine g_letI (fun x65 hx65 => ?_)
    have s_x65 := own_remS hx65 (by omega)
    refine g_istore X at_65 rfl (q := 67) (L' := #[.val (.int p1), .val (.int p2), .val (.int p3), .val (.int p4), .val (.int p5), .val (.int p6), .val (.int x9), .val (.int x14), .val (.int x23), .val (.int l9_58), .val (.int x65), .unset, .unset, .unset, .unset, .unset]) rfl ?_
    refine g_iload X at_67 rfl (q := 69) rfl ?_
    refine g_ldc X (tw0 hw) at_69 (q := 71) rfl ?_
    refine g_iand X at_71 rfl (q := 72) ?_
    refine g_iload X at_72 rfl (q := 74) rfl ?_
    refine g_irem X at_74 rfl (q := 75) (own_nz0 (by omega)) ?_
    refine g_letI (fun x75 hx75 => ?_)
    have s_x75 := own_remS hx75 (by omega)
    refine g_istore X at_75 rfl (q := 77) (L' := #[.val (.int p1), .val (.int p2), .val (.int p3), .val (.int p4), .val (.int p5), .val (.int p6), .val (.int x9), .val (.int x14), .val (.int x23), .val (.int l9_58), .val (.int x65), .val (.int x75), .unset, .unset, .unset, .unset]) rfl ?_
    refine g_iload X at_77 rfl (q := 79) rfl ?_
    refine g_ldc X (tw0 hw) at_79 (q := 81) rfl ?_
    refine g_iand X at_81 rfl (q := 82) ?_
    refine g_iload X at_82 rfl (q := 84) rfl ?_
    refine g_iconst X at_84 rfl (q := 85) (v := 1) rfl ?_
    refine g_iadd X at_85 rfl (q := 86) ?_
    refine g_irem X at_86 rfl (q := 87) (own_nz0 (by omega)) ?_
    refine g_letI (fun x87 hx87 => ?_)
    have s_x87 := own_remS hx87 (by omega)
    refine g_istore X at_87 rfl (q := 89) (L' := #[.val (.int p1), .val (.int p2), .val (.int p3), .val (.int p4), .val (.int p5), .val (.int p6), .val (.int x9), .val (.int x14), .val (.int x23), .val (.int l9_58), .val (.int x65), .val (.int x75), .val (.int x87), .unset, .unset, .unset]) rfl ?_
    refine g_new X (tw1 hw) (tw2 hw) (tw3 hw) at_89 (q := 92) rfl (c2 := 1) (s2 := 2) rfl rfl (by decide) (by decide) (fun T h' b3 X gz_b3 g_b3 E Ex D => ?_)
    have O_b3 : O_IndexSet Z h' b3 .null .null := ⟨Ex, D (Or.inr (tw12 hw)) (ty := (.array .long)) (by decide), D (Or.inr (tw14 hw)) (ty := (.array .long)) (by decide)⟩
    refine g_dup X at_92 rfl (q := 93) rfl ?_
    refine g_iload X at_93 rfl (q := 95) rfl ?_
    refine g_callI X [(.int x9)] [(.ref b3)] rfl (tw4 hw) (tw5 hw) (tw3 hw) (tw6 hw) (by decide) (rm1 l Z a0 hw [] b3 x9 _ n0 X.size O_b3 g_b3 s_x9) pd2 rfl rfl rfl at_95 (q := 98) rfl (W := 1) rfl (by decide) (by decide) (c2 := 3) (s2 := 262) rfl rfl (by decide) (by decide) (fun v T h' X hQ => ?_)
    obtain ⟨w1_95, h1_95, NW_95, NH_95, rfl, Kc, O_b3', A_w1_95', A_h1_95', hD_95, hZ_95, sq_w1_95, g_w1_95, sq_h1_95, g_h1_95, ne_w1_95_h1_95, ne_h1_95_w1_95⟩ := hQ
    have ne_b3_w1_95 := own_far O_b3.1.lt sq_w1_95
    have ne_w1_95_b3 := own_apS ne_b3_w1_95
    have ne_b3_h1_95 := own_far O_b3.1.lt sq_h1_95
    have ne_h1_95_b3 := own_apS ne_b3_h1_95
    have O_b3 := O_b3'
    have A_w1_95 := A_w1_95'
    have A_h1_95 := A_h1_95'
    show Goes p e below s _ n0 _ (T.setTop (mkF m 98 #[.val (.int p1), .val (.int p2), .val (.int p3), .val (.int p4), .val (.int p5), .val (.int p6), .val (.int x9), .val (.int x14), .val (.int x23), .val (.int l9_58), .val (.int x65), .val (.int x75), .val (.int x87), .unset, .unset, .unset] [(.ref b3)]))
    refine g_astore X at_98 rfl (q := 100) (L' := #[.val (.int p1), .val (.int p2), .val (.int p3), .val (.int p4), .val (.int p5), .val (.int p6), .val (.int x9), .val (.int x14), .val (.int x23), .val (.int l9_58), .val (.int x65), .val (.int x75), .val (.int x87), .val (.ref b3), .unset, .unset]) rfl rfl ?_
    refine g_iload X at_100 rfl (q := 102) rfl ?_
    refine g_iconst X at_102 rfl (q := 103) (v := 1) rfl ?_
    refine g_icmpA X at_103 (Or.inl rfl) (q := 106) rfl (by decide) (t := 113) rfl (fun (c1 : x14 < (1 : Int32)) => ?_) (fun (c1 : ¬ (x14 < (1 : Int32))) => ?_)
    · skip
      have b_x14 : (-2147483648 : Int) ≤ x14.toInt ∧ x14.toInt ≤ 0 := by have z0 := c1; (try simp only [Int64.lt_iff_toInt_lt, Int32.lt_iff_toInt_lt, Int64.le_iff_toInt_le, Int32.le_iff_toInt_le, ← Int64.toInt_inj, ← Int32.toInt_inj, apply_ite Int64.toInt, apply_ite Int32.toInt, Int64.reduceToInt, Int32.reduceToInt, ne_eq] at z0); have z1 := rng32 x14; omega
      refine g_iload X at_113 rfl (q := 115) rfl ?_
      refine g_iconst X at_115 rfl (q := 116) (v := 2) rfl ?_
      refine g_icmpA X at_116 (Or.inl rfl) (q := 119) rfl (by decide) (t := 126) rfl (fun (c2 : x14 < (2 : Int32)) => ?_) (fun (c2 : ¬ (x14 < (2 : Int32))) => ?_)
      · skip
        refine g_iload X at_126 rfl (q := 128) rfl ?_
        refine g_iconst X at_128 rfl (q := 129) (v := 3) rfl ?_
        refine g_icmpA X at_129 (Or.inl rfl) (q := 132) rfl (by decide) (t := 139) rfl (fun (c3 : x14 < (3 : Int32)) => ?_) (fun (c3 : ¬ (x14 < (3 : Int32))) => ?_)
        · skip
          have hFM : ∀ j, mem (fun _ => 0) j ↔ False := fun j => by simp [own_mem0]
          refine g_iload X at_139 rfl (q := 141) rfl ?_
          refine g_iconst X at_141 rfl (q := 142) (v := 1) rfl ?_
          refine g_icmpA X at_142 (Or.inl rfl) (q := 145) rfl (by decide) (t := 152) rfl (fun (c4 : x14 < (1 : Int32)) => ?_) (fun (c4 : ¬ (x14 < (1 : Int32))) => ?_)
          · skip
            refine g_iload X at_152 rfl (q := 154) rfl ?_
            refine g_iconst X at_154 rfl (q := 155) (v := 2) rfl ?_
            refine g_icmpA X at_155 (Or.inl rfl) (q := 158) rfl (by decide) (t := 165) rfl (fun (c5 : x14 < (2 : Int32)) => ?_) (fun (c5 : ¬ (x14 < (2 : Int32))) => ?_)
            · skip
              refine g_iload X at_165 rfl (q := 167) rfl ?_
              refine g_iconst X at_167 rfl (q := 168) (v := 3) rfl ?_
              refine g_icmpA X at_168 (Or.inl rfl) (q := 171) rfl (by decide) (t := 182) rfl (fun (c6 : x14 < (3 : Int32)) => ?_) (fun (c6 : ¬ (x14 < (3 : Int32))) => ?_)
              · skip
                refine g_iconst X at_182 rfl (q := 183) (v := 0) rfl ?_
                refine g_istore X at_183 rfl (q := 185) (L' := #[.val (.int p1), .val (.int p2), .val (.int p3), .val (.int p4), .val (.int p5), .val (.int p6), .val (.int x9), .val (.int x14), .val (.int x23), .val (.int l9_58), .val (.int x65), .val (.int x75), .val (.int x87), .val (.ref b3), .val (.int (0 : Int32)), .unset]) rfl ?_
                refine g_aload X at_185 rfl (q := 187) rfl rfl ?_
                refine g_iload X at_187 rfl (q := 189) rfl ?_
                refine g_callV X O_b3.1 [(.int x75)] [] (tw15 hw) (tw16 hw) (tw18 hw) (tw17 hw) (tw3 hw) (tw19 hw) (by decide) (rm3 l Z a0 hw [] b3 x75 w1_95 h1_95 NW_95 (fun _ => 0) (x75.toInt.toNat) _ n0 X.size O_b3 A_w1_95 (own_pn (by omega)) (by omega) hD_95.2.1) pd3 rfl rfl rfl at_189 (q := 192) rfl (W := 0) rfl (by decide) (by decide) (c2 := 3) (s2 := 262) rfl rfl (by decide) (by decide) (fun v T h' X hQ => ?_)
                obtain ⟨rfl, rfl⟩ := hQ
                show Goes p e below s _ n0 _ (T.setTop (mkF m 192 #[.val (.int p1), .val (.int p2), .val (.int p3), .val (.int p4), .val (.int p5), .val (.int p6), .val (.int x9), .val (.int x14), .val (.int x23), .val (.int l9_58), .val (.int x65), .val (.int x75), .val (.int x87), .val (.ref b3), .val (.int (0 : Int32)), .unset] [(.int (bI (tb ((fun _ => 0) ((x75.toInt.toNat) / 64)) ((x75.toInt.toNat) % 64) = true)))]))
                refine g_iload X at_192 rfl (q := 194) rfl ?_
                have hok1 : ¬ (tb ((fun _ => 0) ((x75.toInt.toNat) / 64)) ((x75.toInt.toNat) % 64) = true) := by
                  exact fun z => (hFM _).mp z
                refine g_icmpA X at_194 (Or.inr (Or.inr rfl)) (q := 197) rfl (by decide) (t := 199) rfl (fun c7 => ?_) (fun c7 => ?_)
                · replace c7 : ¬ (tb ((fun _ => 0) ((x75.toInt.toNat) / 64)) ((x75.toInt.toNat) % 64) = true) := (bI_eq0 _).mp c7
                  refine g_iconst X at_199 rfl (q := 200) (v := -1) rfl ?_
                  refine g_istore X at_200 rfl (q := 202) (L' := #[.val (.int p1), .val (.int p2), .val (.int p3), .val (.int p4), .val (.int p5), .val (.int p6), .val (.int x9), .val (.int x14), .val (.int x23), .val (.int l9_58), .val (.int x65), .val (.int x75), .val (.int x87), .val (.ref b3), .val (.int (0 : Int32)), .val (.int (-1 : Int32))]) rfl ?_
                  refine g_iload X at_202 rfl (q := 204) rfl ?_
                  refine g_iload X at_204 rfl (q := 206) rfl ?_
                  refine g_iconst X at_206 rfl (q := 207) (v := 1) rfl ?_
                  refine g_icmpA X at_207 (Or.inl rfl) (q := 210) rfl (by decide) (t := 214) rfl (fun (c8 : x14 < (1 : Int32)) => ?_) (fun (c8 : ¬ (x14 < (1 : Int32))) => ?_)
                  · skip
                    refine g_iconst X at_214 rfl (q := 215) (v := 0) rfl ?_
                    refine g_iload X at_215 rfl (q := 217) rfl ?_
                    refine g_iload X at_217 rfl (q := 219) rfl ?_
                    refine g_callS X [(.int x23), (.int (0 : Int32)), (.int x87), (.int (-1 : Int32))] [] (tw20 hw) (tw21 hw) (tw22 hw) (tw23 hw) (by decide) (rm4 l Z a0 hw [] x23 False x87 (-1 : Int32) _ n0 X.size) pd4 rfl rfl rfl at_219 (q := 222) rfl (W := 0) rfl (by decide) (by decide) (c2 := 3) (s2 := 262) rfl rfl (by decide) (by decide) (fun v T h' X hQ => ?_)
                    obtain ⟨rfl, rfl⟩ := hQ
                    show Goes p e below s _ n0 _ (T.setTop (mkF m 222 #[.val (.int p1), .val (.int p2), .val (.int p3), .val (.int p4), .val (.int p5), .val (.int p6), .val (.int x9), .val (.int x14), .val (.int x23), .val (.int l9_58), .val (.int x65), .val (.int x75), .val (.int x87), .val (.ref b3), .val (.int (0 : Int32)), .val (.int (-1 : Int32))] [(.int (if False then (if x23 < x87 then (-1 : Int32) else (if (-1 : Int32) < (0 : Int32) then x23 else (if x23 < (-1 : Int32) then x23 else (-1 : Int32)))) else (-1 : Int32)))]))
                    refine g_letI (fun r219 hr219 => ?_)
                    have hcb222 := own_cbF (own_cb0 (x87.toInt.toNat)) hr219
                    refine g_istore X at_222 rfl (q := 224) (L' := #[.val (.int p1), .val (.int p2), .val (.int p3), .val (.int p4), .val (.int p5), .val (.int p6), .val (.int x9), .val (.int x14), .val (.int x23), .val (.int l9_58), .val (.int x65), .val (.int x75), .val (.int x87), .val (.ref b3), .val (.int (0 : Int32)), .val (.int r219)]) rfl ?_
                    refine g_iload X at_224 rfl (q := 226) rfl ?_
                    refine g_iload X at_226 rfl (q := 228) rfl ?_
                    refine g_iconst X at_228 rfl (q := 229) (v := 2) rfl ?_
                    refine g_icmpA X at_229 (Or.inl rfl) (q := 232) rfl (by decide) (t := 236) rfl (fun (c9 : x14 < (2 : Int32)) => ?_) (fun (c9 : ¬ (x14 < (2 : Int32))) => ?_)
                    · skip
                      refine g_iconst X at_236 rfl (q := 237) (v := 0) rfl ?_
                      refine g_iload X at_237 rfl (q := 239) rfl ?_
                      refine g_iload X at_239 rfl (q := 241) rfl ?_
                      refine g_callS X [(.int l9_58), (.int (0 : Int32)), (.int x87), (.int r219)] [] (tw20 hw) (tw21 hw) (tw22 hw) (tw23 hw) (by decide) (rm4 l Z a0 hw [] l9_58 False x87 r219 _ n0 X.size) pd4 rfl rfl rfl at_241 (q := 244) rfl (W := 0) rfl (by decide) (by decide) (c2 := 3) (s2 := 262) rfl rfl (by decide) (by decide) (fun v T h' X hQ => ?_)
                      obtain ⟨rfl, rfl⟩ := hQ
                      show Goes p e below s _ n0 _ (T.setTop (mkF m 244 #[.val (.int p1), .val (.int p2), .val (.int p3), .val (.int p4), .val (.int p5), .val (.int p6), .val (.int x9), .val (.int x14), .val (.int x23), .val (.int l9_58), .val (.int x65), .val (.int x75), .val (.int x87), .val (.ref b3), .val (.int (0 : Int32)), .val (.int r219)] [(.int (if False then (if l9_58 < x87 then r219 else (if r219 < (0 : Int32) then l9_58 else (if l9_58 < r219 then l9_58 else r219))) else r219))]))
                      refine g_letI (fun r241 hr241 => ?_)
                      have hcb244 := own_cbF (hcb222) hr241
                      refine g_istore X at_244 rfl (q := 246) (L' := #[.val (.int p1), .val (.int p2), .val (.int p3), .val (.int p4), .val (.int p5), .val (.int p6), .val (.int x9), .val (.int x14), .val (.int x23), .val (.int l9_58), .val (.int x65), .val (.int x75), .val (.int x87), .val (.ref b3), .val (.int (0 : Int32)), .val (.int r241)]) rfl ?_
                      refine g_iload X at_246 rfl (q := 248) rfl ?_
                      refine g_iload X at_248 rfl (q := 250) rfl ?_
                      refine g_iconst X at_250 rfl (q := 251) (v := 3) rfl ?_
                      refine g_icmpA X at_251 (Or.inl rfl) (q := 254) rfl (by decide) (t := 258) rfl (fun (c10 : x14 < (3 : Int32)) => ?_) (fun (c10 : ¬ (x14 < (3 : Int32))) => ?_)
                      · skip
                        refine g_iconst X at_258 rfl (q := 259) (v := 0) rfl ?_
                        refine g_iload X at_259 rfl (q := 261) rfl ?_
                        refine g_iload X at_261 rfl (q := 263) rfl ?_
                        refine g_callS X [(.int x65), (.int (0 : Int32)), (.int x87), (.int r241)] [] (tw20 hw) (tw21 hw) (tw22 hw) (tw23 hw) (by decide) (rm4 l Z a0 hw [] x65 False x87 r241 _ n0 X.size) pd4 rfl rfl rfl at_263 (q := 266) rfl (W := 0) rfl (by decide) (by decide) (c2 := 3) (s2 := 262) rfl rfl (by decide) (by decide) (fun v T h' X hQ => ?_)
                        obtain ⟨rfl, rfl⟩ := hQ
                        show Goes p e below s _ n0 _ (T.setTop (mkF m 266 #[.val (.int p1), .val (.int p2), .val (.int p3), .val (.int p4), .val (.int p5), .val (.int p6), .val (.int x9), .val (.int x14), .val (.int x23), .val (.int l9_58), .val (.int x65), .val (.int x75), .val (.int x87), .val (.ref b3), .val (.int (0 : Int32)), .val (.int r241)] [(.int (if False then (if x65 < x87 then r241 else (if r241 < (0 : Int32) then x65 else (if x65 < r241 then x65 else r241))) else r241))]))
                        refine g_letI (fun r263 hr263 => ?_)
                        have hcb266 := own_cbF (hcb244) hr263
                        refine g_istore X at_266 rfl (q := 268) (L' := #[.val (.int p1), .val (.int p2), .val (.int p3), .val (.int p4), .val (.int p5), .val (.int p6), .val (.int x9), .val (.int x14), .val (.int x23), .val (.int l9_58), .val (.int x65), .val (.int x75), .val (.int x87), .val (.ref b3), .val (.int (0 : Int32)), .val (.int r263)]) rfl ?_
                        refine g_aload X at_268 rfl (q := 270) rfl rfl ?_
                        refine g_iload X at_270 rfl (q := 272) rfl ?_
                        refine g_callV X O_b3.1 [(.int x87)] [] (tw24 hw) (tw25 hw) (tw27 hw) (tw26 hw) (tw3 hw) (tw28 hw) (by decide) (rm5 l Z a0 hw [] b3 x87 w1_95 h1_95 NW_95 NH_95 (fun _ => 0) (fun _ => 0) (x87.toInt.toNat) _ n0 X.size O_b3 A_w1_95 A_h1_95 (own_pn (by omega)) (by omega) hD_95 (own_is0 _ _)) pd0 rfl rfl rfl at_272 (q := 275) rfl (W := 0) rfl (by decide) (by decide) (c2 := 3) (s2 := 262) rfl rfl (by decide) (by decide) (fun v T h' X hQ => ?_)
                        obtain ⟨r1_272, rfl, Kc, hX1_272⟩ := hQ
                        have O_b3 := O_b3.keep Kc nin0
                        have A_w1_95 := A_w1_95.keep Kc nin0
                        have A_h1_95 := A_h1_95.keep Kc nin0
                        show Goes p e below s _ n0 _ (T.setTop (mkF m 275 #[.val (.int p1), .val (.int p2), .val (.int p3), .val (.int p4), .val (.int p5), .val (.int p6), .val (.int x9), .val (.int x14), .val (.int x23), .val (.int l9_58), .val (.int x65), .val (.int x75), .val (.int x87), .val (.ref b3), .val (.int (0 : Int32)), .val (.int r263)] [(.int r1_272)]))
                        refine g_iload X at_275 rfl (q := 277) rfl ?_
                        have hok2 : r1_272 = r263 := by
                          exact own_cbN hX1_272 hFM (fun j hj => by revert hj; exact False.elim) hcb266
                        refine g_icmpA X at_277 (Or.inr (Or.inr rfl)) (q := 280) rfl (by decide) (t := 282) rfl (fun (c11 : r1_272 = r263) => ?_) (fun (c11 : ¬ (r1_272 = r263)) => ?_)
                        · skip
                          refine g_aload X at_282 rfl (q := 284) rfl rfl ?_
                          refine g_callV X O_b3.1 [] [] (tw34 hw) (tw35 hw) (tw37 hw) (tw36 hw) (tw3 hw) (tw38 hw) (by decide) (rm7 l Z a0 hw [] b3 w1_95 h1_95 NW_95 NH_95 (fun _ => 0) (fun _ => 0) _ n0 X.size O_b3 A_w1_95 A_h1_95 hD_95 (own_is0 _ _)) pd5 rfl rfl rfl at_284 (q := 287) rfl (W := 0) rfl (by decide) (by decide) (c2 := 3) (s2 := 262) rfl rfl (by decide) (by decide) (fun v T h' X hQ => ?_)
                          obtain ⟨r1_284, rfl, Kc, hE1_284⟩ := hQ
                          have O_b3 := O_b3.keep Kc nin0
                          have A_w1_95 := A_w1_95.keep Kc nin0
                          have A_h1_95 := A_h1_95.keep Kc nin0
                          show Goes p e below s _ n0 _ (T.setTop (mkF m 287 #[.val (.int p1), .val (.int p2), .val (.int p3), .val (.int p4), .val (.int p5), .val (.int p6), .val (.int x9), .val (.int x14), .val (.int x23), .val (.int l9_58), .val (.int x65), .val (.int x75), .val (.int x87), .val (.ref b3), .val (.int (0 : Int32)), .val (.int r263)] [(.int r1_284)]))
                          refine g_iload X at_287 rfl (q := 289) rfl ?_
                          refine g_jT1 X (J := 297) (P := fun (s0_297 : Int32) => s0_297 = (bI (x14 = (0 : Int32)))) (L := fun s0_297 => #[.val (.int p1), .val (.int p2), .val (.int p3), .val (.int p4), .val (.int p5), .val (.int p6), .val (.int x9), .val (.int x14), .val (.int x23), .val (.int l9_58), .val (.int x65), .val (.int x75), .val (.int x87), .val (.ref b3), .val (.int (0 : Int32)), .val (.int r263)]) (S := fun s0_297 => [(.int s0_297), (.int r1_284)]) ?_ ?_
                          · intro T X s0_297 hs0_297
                            replace hs0_297 : s0_297 = (bI (x14 = (0 : Int32))) := hs0_297
                            subst hs0_297
                            show Goes p e below s _ n0 _ (T.setTop (mkF m 297 #[.val (.int p1), .val (.int p2), .val (.int p3), .val (.int p4), .val (.int p5), .val (.int p6), .val (.int x9), .val (.int x14), .val (.int x23), .val (.int l9_58), .val (.int x65), .val (.int x75), .val (.int x87), .val (.ref b3), .val (.int (0 : Int32)), .val (.int r263)] [(.int (bI (x14 = (0 : Int32)))), (.int r1_284)]))
                            have hok3 : r1_284 = (bI (x14 = (0 : Int32))) := by
                              rw [own_isT hE1_284 (own_emp2 (fun i _ h => (hFM i).mp h))]
                              refine bI_t ?_
                              simp only [Int32.lt_iff_toInt_lt, ← Int32.toInt_inj, Int32.reduceToInt] at *
                              omega
                            refine g_icmpA X at_297 (Or.inr (Or.inr rfl)) (q := 300) rfl (by decide) (t := 302) rfl (fun (c12 : r1_284 = (bI (x14 = (0 : Int32)))) => ?_) (fun (c12 : ¬ (r1_284 = (bI (x14 = (0 : Int32))))) => ?_)
                            · skip
                              refine g_aload X at_302 rfl (q := 304) rfl rfl ?_
                              refine g_callV X O_b3.1 [] [] (tw39 hw) (tw40 hw) (tw42 hw) (tw41 hw) (tw3 hw) (tw43 hw) (by decide) (rm8 l Z a0 hw [] b3 w1_95 h1_95 NW_95 NH_95 (fun _ => 0) (fun _ => 0) _ n0 X.size O_b3 A_w1_95 A_h1_95 g_w1_95 g_h1_95 ne_b3_w1_95 ne_b3_h1_95 ne_w1_95_b3 ne_w1_95_h1_95 ne_h1_95_b3 ne_h1_95_w1_95 hD_95 (own_is0 _ _)) pd6 rfl rfl rfl at_304 (q := 307) rfl (W := 0) rfl (by decide) (by decide) (c2 := 3) (s2 := 262) rfl rfl (by decide) (by decide) (fun v T h' X hQ => ?_)
                              obtain ⟨W1_304, H1_304, rfl, Kc, A_w1_95', A_h1_95', hZ1_304, hIS1_304⟩ := hQ
                              have O_b3 := O_b3.keep Kc (ninS ne_b3_w1_95 (ninS ne_b3_h1_95 nin0))
                              have A_w1_95 := A_w1_95'
                              have A_h1_95 := A_h1_95'
                              show Goes p e below s _ n0 _ (T.setTop (mkF m 307 #[.val (.int p1), .val (.int p2), .val (.int p3), .val (.int p4), .val (.int p5), .val (.int p6), .val (.int x9), .val (.int x14), .val (.int x23), .val (.int l9_58), .val (.int x65), .val (.int x75), .val (.int x87), .val (.ref b3), .val (.int (0 : Int32)), .val (.int r263)] []))
                              refine g_aload X at_307 rfl (q := 309) rfl rfl ?_
                              refine g_callV X O_b3.1 [] [] (tw34 hw) (tw35 hw) (tw37 hw) (tw36 hw) (tw3 hw) (tw38 hw) (by decide) (rm7 l Z a0 hw [] b3 w1_95 h1_95 NW_95 NH_95 W1_304 H1_304 _ n0 X.size O_b3 A_w1_95 A_h1_95 hD_95 hIS1_304) pd5 rfl rfl rfl at_309 (q := 312) rfl (W := 0) rfl (by decide) (by decide) (c2 := 3) (s2 := 262) rfl rfl (by decide) (by decide) (fun v T h' X hQ => ?_)
                              obtain ⟨r1_309, rfl, Kc, hE1_309⟩ := hQ
                              have O_b3 := O_b3.keep Kc nin0
                              have A_w1_95 := A_w1_95.keep Kc nin0
                              have A_h1_95 := A_h1_95.keep Kc nin0
                              show Goes p e below s _ n0 _ (T.setTop (mkF m 312 #[.val (.int p1), .val (.int p2), .val (.int p3), .val (.int p4), .val (.int p5), .val (.int p6), .val (.int x9), .val (.int x14), .val (.int x23), .val (.int l9_58), .val (.int x65), .val (.int x75), .val (.int x87), .val (.ref b3), .val (.int (0 : Int32)), .val (.int r263)] [(.int r1_309)]))
                              have hok4 : ¬ (r1_309 = (0 : Int32)) := by
                                rw [own_isT hE1_309 hZ1_304]; decide
                              refine g_ifB X at_312 (Or.inr (Or.inr rfl)) (q := 315) rfl (by decide) (t := 317) rfl (fun (c13 : r1_309 = (0 : Int32)) => ?_) (fun (c13 : ¬ (r1_309 = (0 : Int32))) => ?_)
                              · skip
                                exact absurd c13 hok4
                              · skip
                                refine g_aload X at_317 rfl (q := 319) rfl rfl ?_
                                refine g_iload X at_319 rfl (q := 321) rfl ?_
                                refine g_callV X O_b3.1 [(.int x75)] [] (tw15 hw) (tw16 hw) (tw18 hw) (tw17 hw) (tw3 hw) (tw19 hw) (by decide) (rm3 l Z a0 hw [] b3 x75 w1_95 h1_95 NW_95 W1_304 (x75.toInt.toNat) _ n0 X.size O_b3 A_w1_95 (own_pn (by omega)) (by omega) hD_95.2.1) pd3 rfl rfl rfl at_321 (q := 324) rfl (W := 0) rfl (by decide) (by decide) (c2 := 3) (s2 := 262) rfl rfl (by decide) (by decide) (fun v T h' X hQ => ?_)
                                obtain ⟨rfl, rfl⟩ := hQ
                                show Goes p e below s _ n0 _ (T.setTop (mkF m 324 #[.val (.int p1), .val (.int p2), .val (.int p3), .val (.int p4), .val (.int p5), .val (.int p6), .val (.int x9), .val (.int x14), .val (.int x23), .val (.int l9_58), .val (.int x65), .val (.int x75), .val (.int x87), .val (.ref b3), .val (.int (0 : Int32)), .val (.int r263)] [(.int (bI (tb (W1_304 ((x75.toInt.toNat) / 64)) ((x75.toInt.toNat) % 64) = true)))]))
                                have hok5 : ¬ (tb (W1_304 ((x75.toInt.toNat) / 64)) ((x75.toInt.toNat) % 64) = true) := by
                                  exact own_emp hZ1_304 (i := x75.toInt.toNat) (by omega)
                                refine g_beq X at_324 (q := 327) rfl (by decide) (t := 329) rfl (fun (c14 : tb (W1_304 ((x75.toInt.toNat) / 64)) ((x75.toInt.toNat) % 64) = true) => ?_) (fun (c14 : ¬ (tb (W1_304 ((x75.toInt.toNat) / 64)) ((x75.toInt.toNat) % 64) = true)) => ?_)
                                · skip
                                  exact absurd c14 hok5
                                · skip
                                  refine g_iconst X at_329 rfl (q := 330) (v := 1) rfl ?_
                                  exact g_retZ X at_330 (by decide) (by decide) (by decide) rfl
                            · skip
                              exact absurd hok3 c12
                          · intro J297_14
                            refine g_ifB X at_289 (Or.inr (Or.inr rfl)) (q := 292) rfl (by decide) (t := 296) rfl (fun (c15 : x14 = (0 : Int32)) => ?_) (fun (c15 : ¬ (x14 = (0 : Int32))) => ?_)
                            · skip
                              have b_x14 : (0 : Int) ≤ x14.toInt ∧ x14.toInt ≤ 0 := by have z0 := c15; (try simp only [Int64.lt_iff_toInt_lt, Int32.lt_iff_toInt_lt, Int64.le_iff_toInt_le, Int32.le_iff_toInt_le, ← Int64.toInt_inj, ← Int32.toInt_inj, apply_ite Int64.toInt, apply_ite Int32.toInt, Int64.reduceToInt, Int32.reduceToInt, ne_eq] at z0); have z1 := rng32 x14; omega
                              refine g_iconst X at_292 rfl (q := 293) (v := 1) rfl ?_
                              refine g_goto X at_293 (by decide) (q := 297) rfl ?_
                              exact J297_14 T X _ (bI_t c15)
                            · skip
                              refine g_iconst X at_296 rfl (q := 297) (v := 0) rfl ?_
                              exact J297_14 T X _ (bI_f c15)
                        · skip
                          exact absurd hok2 c11
                      · skip
                        exact absurd c3 c10
                    · skip
                      exact absurd c2 c9
                  · skip
                    exact absurd c1 c8
                · replace c7 : ¬ (¬ (tb ((fun _ => 0) ((x75.toInt.toNat) / 64)) ((x75.toInt.toNat) % 64) = true)) := fun z => c7 ((bI_eq0 _).mpr z)
                  exact absurd hok1 c7
              · skip
                exact absurd c3 c6
            · skip
              exact absurd c2 c5
          · skip
            exact absurd c1 c4
        · skip
          have b_x14 : (3 : Int) ≤ x14.toInt ∧ x14.toInt ≤ 0 := by have z0 := c3; (try simp only [Int64.lt_iff_toInt_lt, Int32.lt_iff_toInt_lt, Int64.le_iff_toInt_le, Int32.le_iff_toInt_le, ← Int64.toInt_inj, ← Int32.toInt_inj, apply_ite Int64.toInt, apply_ite Int32.toInt, Int64.reduceToInt, Int32.reduceToInt, ne_eq] at z0); have z1 := rng32 x14; omega
          refine g_aload X at_132 rfl (q := 134) rfl rfl ?_
          refine g_iload X at_134 rfl (q := 136) rfl ?_
          refine g_callV X O_b3.1 [(.int x65)] [] (tw44 hw) (tw45 hw) (tw47 hw) (tw46 hw) (tw3 hw) (tw48 hw) (by decide) (rm9 l Z a0 hw [] b3 x65 w1_95 h1_95 NW_95 NH_95 (fun _ => 0) (fun _ => 0) (x65.toInt.toNat) _ n0 X.size O_b3 A_w1_95 A_h1_95 g_w1_95 g_h1_95 ne_b3_w1_95 ne_b3_h1_95 ne_w1_95_b3 ne_w1_95_h1_95 ne_h1_95_b3 ne_h1_95_w1_95 (own_pn (by omega)) (by omega) hD_95 (own_is0 _ _)) pd2 rfl rfl rfl at_136 (q := 139) rfl (W := 0) rfl (by decide) (by decide) (c2 := 3) (s2 := 262) rfl rfl (by decide) (by decide) (fun v T h' X hQ => ?_)
          obtain ⟨W1_136, H1_136, rfl, Kc, A_w1_95', A_h1_95', hIS1_136, hM1_136⟩ := hQ
          have O_b3 := O_b3.keep Kc (ninS ne_b3_w1_95 (ninS ne_b3_h1_95 nin0))
          have A_w1_95 := A_w1_95'
          have A_h1_95 := A_h1_95'
          show Goes p e below s _ n0 _ (T.setTop (mkF m 139 #[.val (.int p1), .val (.int p2), .val (.int p3), .val (.int p4), .val (.int p5), .val (.int p6), .val (.int x9), .val (.int x14), .val (.int x23), .val (.int l9_58), .val (.int x65), .val (.int x75), .val (.int x87), .val (.ref b3), .unset, .unset] []))
          have hFM : ∀ j, mem W1_136 j ↔ (False ∨ j = x65.toInt.toNat) := fun j => by rw [hM1_136 j]; simp [own_mem0]
          refine g_iload X at_139 rfl (q := 141) rfl ?_
          refine g_iconst X at_141 rfl (q := 142) (v := 1) rfl ?_
          refine g_icmpA X at_142 (Or.inl rfl) (q := 145) rfl (by decide) (t := 152) rfl (fun (c16 : x14 < (1 : Int32)) => ?_) (fun (c16 : ¬ (x14 < (1 : Int32))) => ?_)
          · skip
            refine g_iload X at_152 rfl (q := 154) rfl ?_
            refine g_iconst X at_154 rfl (q := 155) (v := 2) rfl ?_
            refine g_icmpA X at_155 (Or.inl rfl) (q := 158) rfl (by decide) (t := 165) rfl (fun (c17 : x14 < (2 : Int32)) => ?_) (fun (c17 : ¬ (x14 < (2 : Int32))) => ?_)
            · skip
              refine g_iload X at_165 rfl (q := 167) rfl ?_
              refine g_iconst X at_167 rfl (q := 168) (v := 3) rfl ?_
              refine g_icmpA X at_168 (Or.inl rfl) (q := 171) rfl (by decide) (t := 182) rfl (fun (c18 : x14 < (3 : Int32)) => ?_) (fun (c18 : ¬ (x14 < (3 : Int32))) => ?_)
              · skip
                exact absurd c18 c3
              · skip
                refine g_iload X at_171 rfl (q := 173) rfl ?_
                refine g_iload X at_173 rfl (q := 175) rfl ?_
                refine g_jT1 X (J := 183) (P := fun (s0_183 : Int32) => s0_183 = (bI (x75 = x65))) (L := fun s0_183 => #[.val (.int p1), .val (.int p2), .val (.int p3), .val (.int p4), .val (.int p5), .val (.int p6), .val (.int x9), .val (.int x14), .val (.int x23), .val (.int l9_58), .val (.int x65), .val (.int x75), .val (.int x87), .val (.ref b3), .unset, .unset]) (S := fun s0_183 => [(.int s0_183)]) ?_ ?_
                · intro T X s0_183 hs0_183
                  replace hs0_183 : s0_183 = (bI (x75 = x65)) := hs0_183
                  subst hs0_183
                  show Goes p e below s _ n0 _ (T.setTop (mkF m 183 #[.val (.int p1), .val (.int p2), .val (.int p3), .val (.int p4), .val (.int p5), .val (.int p6), .val (.int x9), .val (.int x14), .val (.int x23), .val (.int l9_58), .val (.int x65), .val (.int x75), .val (.int x87), .val (.ref b3), .unset, .unset] [(.int (bI (x75 = x65)))]))
                  refine g_istore X at_183 rfl (q := 185) (L' := #[.val (.int p1), .val (.int p2), .val (.int p3), .val (.int p4), .val (.int p5), .val (.int p6), .val (.int x9), .val (.int x14), .val (.int x23), .val (.int l9_58), .val (.int x65), .val (.int x75), .val (.int x87), .val (.ref b3), .val (.int (bI (x75 = x65))), .unset]) rfl ?_
                  refine g_aload X at_185 rfl (q := 187) rfl rfl ?_
                  refine g_iload X at_187 rfl (q := 189) rfl ?_
                  refine g_callV X O_b3.1 [(.int x75)] [] (tw15 hw) (tw16 hw) (tw18 hw) (tw17 hw) (tw3 hw) (tw19 hw) (by decide) (rm3 l Z a0 hw [] b3 x75 w1_95 h1_95 NW_95 W1_136 (x75.toInt.toNat) _ n0 X.size O_b3 A_w1_95 (own_pn (by omega)) (by omega) hD_95.2.1) pd3 rfl rfl rfl at_189 (q := 192) rfl (W := 0) rfl (by decide) (by decide) (c2 := 3) (s2 := 262) rfl rfl (by decide) (by decide) (fun v T h' X hQ => ?_)
                  obtain ⟨rfl, rfl⟩ := hQ
                  show Goes p e below s _ n0 _ (T.setTop (mkF m 192 #[.val (.int p1), .val (.int p2), .val (.int p3), .val (.int p4), .val (.int p5), .val (.int p6), .val (.int x9), .val (.int x14), .val (.int x23), .val (.int l9_58), .val (.int x65), .val (.int x75), .val (.int x87), .val (.ref b3), .val (.int (bI (x75 = x65))), .unset] [(.int (bI (tb (W1_136 ((x75.toInt.toNat) / 64)) ((x75.toInt.toNat) % 64) = true)))]))
                  refine g_iload X at_192 rfl (q := 194) rfl ?_
                  have hok1 : (tb (W1_136 ((x75.toInt.toNat) / 64)) ((x75.toInt.toNat) % 64) = true) ↔ (x75 = x65) := by
                    refine (show mem W1_136 x75.toInt.toNat ↔ _ from hFM _).trans ?_
                    simp only [← Int32.toInt_inj, false_or]; omega
                  refine g_icmpA X at_194 (Or.inr (Or.inr rfl)) (q := 197) rfl (by decide) (t := 199) rfl (fun c19 => ?_) (fun c19 => ?_)
                  · replace c19 : (tb (W1_136 ((x75.toInt.toNat) / 64)) ((x75.toInt.toNat) % 64) = true) ↔ (x75 = x65) := (bI_inj _ _).mp c19
                    refine g_iconst X at_199 rfl (q := 200) (v := -1) rfl ?_
                    refine g_istore X at_200 rfl (q := 202) (L' := #[.val (.int p1), .val (.int p2), .val (.int p3), .val (.int p4), .val (.int p5), .val (.int p6), .val (.int x9), .val (.int x14), .val (.int x23), .val (.int l9_58), .val (.int x65), .val (.int x75), .val (.int x87), .val (.ref b3), .val (.int (bI (x75 = x65))), .val (.int (-1 : Int32))]) rfl ?_
                    refine g_iload X at_202 rfl (q := 204) rfl ?_
                    refine g_iload X at_204 rfl (q := 206) rfl ?_
                    refine g_iconst X at_206 rfl (q := 207) (v := 1) rfl ?_
                    refine g_icmpA X at_207 (Or.inl rfl) (q := 210) rfl (by decide) (t := 214) rfl (fun (c20 : x14 < (1 : Int32)) => ?_) (fun (c20 : ¬ (x14 < (1 : Int32))) => ?_)
                    · skip
                      refine g_iconst X at_214 rfl (q := 215) (v := 0) rfl ?_
                      refine g_iload X at_215 rfl (q := 217) rfl ?_
                      refine g_iload X at_217 rfl (q := 219) rfl ?_
                      refine g_callS X [(.int x23), (.int (0 : Int32)), (.int x87), (.int (-1 : Int32))] [] (tw20 hw) (tw21 hw) (tw22 hw) (tw23 hw) (by decide) (rm4 l Z a0 hw [] x23 False x87 (-1 : Int32) _ n0 X.size) pd4 rfl rfl rfl at_219 (q := 222) rfl (W := 0) rfl (by decide) (by decide) (c2 := 3) (s2 := 262) rfl rfl (by decide) (by decide) (fun v T h' X hQ => ?_)
                      obtain ⟨rfl, rfl⟩ := hQ
                      show Goes p e below s _ n0 _ (T.setTop (mkF m 222 #[.val (.int p1), .val (.int p2), .val (.int p3), .val (.int p4), .val (.int p5), .val (.int p6), .val (.int x9), .val (.int x14), .val (.int x23), .val (.int l9_58), .val (.int x65), .val (.int x75), .val (.int x87), .val (.ref b3), .val (.int (bI (x75 = x65))), .val (.int (-1 : Int32))] [(.int (if False then (if x23 < x87 then (-1 : Int32) else (if (-1 : Int32) < (0 : Int32) then x23 else (if x23 < (-1 : Int32) then x23 else (-1 : Int32)))) else (-1 : Int32)))]))
                      refine g_letI (fun r219 hr219 => ?_)
                      have hcb222 := own_cbF (own_cb0 (x87.toInt.toNat)) hr219
                      refine g_istore X at_222 rfl (q := 224) (L' := #[.val (.int p1), .val (.int p2), .val (.int p3), .val (.int p4), .val (.int p5), .val (.int p6), .val (.int x9), .val (.int x14), .val (.int x23), .val (.int l9_58), .val (.int x65), .val (.int x75), .val (.int x87), .val (.ref b3), .val (.int (bI (x75 = x65))), .val (.int r219)]) rfl ?_
                      refine g_iload X at_224 rfl (q := 226) rfl ?_
                      refine g_iload X at_226 rfl (q := 228) rfl ?_
                      refine g_iconst X at_228 rfl (q := 229) (v := 2) rfl ?_
                      refine g_icmpA X at_229 (Or.inl rfl) (q := 232) rfl (by decide) (t := 236) rfl (fun (c21 : x14 < (2 : Int32)) => ?_) (fun (c21 : ¬ (x14 < (2 : Int32))) => ?_)
                      · skip
                        refine g_iconst X at_236 rfl (q := 237) (v := 0) rfl ?_
                        refine g_iload X at_237 rfl (q := 239) rfl ?_
                        refine g_iload X at_239 rfl (q := 241) rfl ?_
                        refine g_callS X [(.int l9_58), (.int (0 : Int32)), (.int x87), (.int r219)] [] (tw20 hw) (tw21 hw) (tw22 hw) (tw23 hw) (by decide) (rm4 l Z a0 hw [] l9_58 False x87 r219 _ n0 X.size) pd4 rfl rfl rfl at_241 (q := 244) rfl (W := 0) rfl (by decide) (by decide) (c2 := 3) (s2 := 262) rfl rfl (by decide) (by decide) (fun v T h' X hQ => ?_)
                        obtain ⟨rfl, rfl⟩ := hQ
                        show Goes p e below s _ n0 _ (T.setTop (mkF m 244 #[.val (.int p1), .val (.int p2), .val (.int p3), .val (.int p4), .val (.int p5), .val (.int p6), .val (.int x9), .val (.int x14), .val (.int x23), .val (.int l9_58), .val (.int x65), .val (.int x75), .val (.int x87), .val (.ref b3), .val (.int (bI (x75 = x65))), .val (.int r219)] [(.int (if False then (if l9_58 < x87 then r219 else (if r219 < (0 : Int32) then l9_58 else (if l9_58 < r219 then l9_58 else r219))) else r219))]))
                        refine g_letI (fun r241 hr241 => ?_)
                        have hcb244 := own_cbF (hcb222) hr241
                        refine g_istore X at_244 rfl (q := 246) (L' := #[.val (.int p1), .val (.int p2), .val (.int p3), .val (.int p4), .val (.int p5), .val (.int p6), .val (.int x9), .val (.int x14), .val (.int x23), .val (.int l9_58), .val (.int x65), .val (.int x75), .val (.int x87), .val (.ref b3), .val (.int (bI (x75 = x65))), .val (.int r241)]) rfl ?_
                        refine g_iload X at_246 rfl (q := 248) rfl ?_
                        refine g_iload X at_248 rfl (q := 250) rfl ?_
                        refine g_iconst X at_250 rfl (q := 251) (v := 3) rfl ?_
                        refine g_icmpA X at_251 (Or.inl rfl) (q := 254) rfl (by decide) (t := 258) rfl (fun (c22 : x14 < (3 : Int32)) => ?_) (fun (c22 : ¬ (x14 < (3 : Int32))) => ?_)
                        · skip
                          exact absurd c22 c3
                        · skip
                          refine g_iconst X at_254 rfl (q := 255) (v := 1) rfl ?_
                          refine g_goto X at_255 (by decide) (q := 259) rfl ?_
                          refine g_iload X at_259 rfl (q := 261) rfl ?_
                          refine g_iload X at_261 rfl (q := 263) rfl ?_
                          refine g_callS X [(.int x65), (.int (1 : Int32)), (.int x87), (.int r241)] [] (tw20 hw) (tw21 hw) (tw22 hw) (tw23 hw) (by decide) (rm4 l Z a0 hw [] x65 True x87 r241 _ n0 X.size) pd4 rfl rfl rfl at_263 (q := 266) rfl (W := 0) rfl (by decide) (by decide) (c2 := 3) (s2 := 262) rfl rfl (by decide) (by decide) (fun v T h' X hQ => ?_)
                          obtain ⟨rfl, rfl⟩ := hQ
                          show Goes p e below s _ n0 _ (T.setTop (mkF m 266 #[.val (.int p1), .val (.int p2), .val (.int p3), .val (.int p4), .val (.int p5), .val (.int p6), .val (.int x9), .val (.int x14), .val (.int x23), .val (.int l9_58), .val (.int x65), .val (.int x75), .val (.int x87), .val (.ref b3), .val (.int (bI (x75 = x65))), .val (.int r241)] [(.int (if True then (if x65 < x87 then r241 else (if r241 < (0 : Int32) then x65 else (if x65 < r241 then x65 else r241))) else r241))]))
                          refine g_letI (fun r263 hr263 => ?_)
                          have hcb266 := own_cbT (own_pn (x := x65) (by omega)) (by omega) (own_pn (x := x87) (by omega)) (by omega) (hcb244) hr263
                          refine g_istore X at_266 rfl (q := 268) (L' := #[.val (.int p1), .val (.int p2), .val (.int p3), .val (.int p4), .val (.int p5), .val (.int p6), .val (.int x9), .val (.int x14), .val (.int x23), .val (.int l9_58), .val (.int x65), .val (.int x75), .val (.int x87), .val (.ref b3), .val (.int (bI (x75 = x65))), .val (.int r263)]) rfl ?_
                          refine g_aload X at_268 rfl (q := 270) rfl rfl ?_
                          refine g_iload X at_270 rfl (q := 272) rfl ?_
                          refine g_callV X O_b3.1 [(.int x87)] [] (tw24 hw) (tw25 hw) (tw27 hw) (tw26 hw) (tw3 hw) (tw28 hw) (by decide) (rm5 l Z a0 hw [] b3 x87 w1_95 h1_95 NW_95 NH_95 W1_136 H1_136 (x87.toInt.toNat) _ n0 X.size O_b3 A_w1_95 A_h1_95 (own_pn (by omega)) (by omega) hD_95 hIS1_136) pd0 rfl rfl rfl at_272 (q := 275) rfl (W := 0) rfl (by decide) (by decide) (c2 := 3) (s2 := 262) rfl rfl (by decide) (by decide) (fun v T h' X hQ => ?_)
                          obtain ⟨r1_272, rfl, Kc, hX1_272⟩ := hQ
                          have O_b3 := O_b3.keep Kc nin0
                          have A_w1_95 := A_w1_95.keep Kc nin0
                          have A_h1_95 := A_h1_95.keep Kc nin0
                          show Goes p e below s _ n0 _ (T.setTop (mkF m 275 #[.val (.int p1), .val (.int p2), .val (.int p3), .val (.int p4), .val (.int p5), .val (.int p6), .val (.int x9), .val (.int x14), .val (.int x23), .val (.int l9_58), .val (.int x65), .val (.int x75), .val (.int x87), .val (.ref b3), .val (.int (bI (x75 = x65))), .val (.int r263)] [(.int r1_272)]))
                          refine g_iload X at_275 rfl (q := 277) rfl ?_
                          have hok2 : r1_272 = r263 := by
                            exact own_cbN hX1_272 hFM (fun j hj => by revert hj; simp only [false_or]; omega) hcb266
                          refine g_icmpA X at_277 (Or.inr (Or.inr rfl)) (q := 280) rfl (by decide) (t := 282) rfl (fun (c23 : r1_272 = r263) => ?_) (fun (c23 : ¬ (r1_272 = r263)) => ?_)
                          · skip
                            refine g_aload X at_282 rfl (q := 284) rfl rfl ?_
                            refine g_callV X O_b3.1 [] [] (tw34 hw) (tw35 hw) (tw37 hw) (tw36 hw) (tw3 hw) (tw38 hw) (by decide) (rm7 l Z a0 hw [] b3 w1_95 h1_95 NW_95 NH_95 W1_136 H1_136 _ n0 X.size O_b3 A_w1_95 A_h1_95 hD_95 hIS1_136) pd5 rfl rfl rfl at_284 (q := 287) rfl (W := 0) rfl (by decide) (by decide) (c2 := 3) (s2 := 262) rfl rfl (by decide) (by decide) (fun v T h' X hQ => ?_)
                            obtain ⟨r1_284, rfl, Kc, hE1_284⟩ := hQ
                            have O_b3 := O_b3.keep Kc nin0
                            have A_w1_95 := A_w1_95.keep Kc nin0
                            have A_h1_95 := A_h1_95.keep Kc nin0
                            show Goes p e below s _ n0 _ (T.setTop (mkF m 287 #[.val (.int p1), .val (.int p2), .val (.int p3), .val (.int p4), .val (.int p5), .val (.int p6), .val (.int x9), .val (.int x14), .val (.int x23), .val (.int l9_58), .val (.int x65), .val (.int x75), .val (.int x87), .val (.ref b3), .val (.int (bI (x75 = x65))), .val (.int r263)] [(.int r1_284)]))
                            refine g_iload X at_287 rfl (q := 289) rfl ?_
                            refine g_jT1 X (J := 297) (P := fun (s0_297 : Int32) => s0_297 = (bI (x14 = (0 : Int32)))) (L := fun s0_297 => #[.val (.int p1), .val (.int p2), .val (.int p3), .val (.int p4), .val (.int p5), .val (.int p6), .val (.int x9), .val (.int x14), .val (.int x23), .val (.int l9_58), .val (.int x65), .val (.int x75), .val (.int x87), .val (.ref b3), .val (.int (bI (x75 = x65))), .val (.int r263)]) (S := fun s0_297 => [(.int s0_297), (.int r1_284)]) ?_ ?_
                            · intro T X s0_297 hs0_297
                              replace hs0_297 : s0_297 = (bI (x14 = (0 : Int32))) := hs0_297
                              subst hs0_297
                              show Goes p e below s _ n0 _ (T.setTop (mkF m 297 #[.val (.int p1), .val (.int p2), .val (.int p3), .val (.int p4), .val (.int p5), .val (.int p6), .val (.int x9), .val (.int x14), .val (.int x23), .val (.int l9_58), .val (.int x65), .val (.int x75), .val (.int x87), .val (.ref b3), .val (.int (bI (x75 = x65))), .val (.int r263)] [(.int (bI (x14 = (0 : Int32)))), (.int r1_284)]))
                              have hok3 : r1_284 = (bI (x14 = (0 : Int32))) := by
                                rw [own_isF (i := x65.toInt.toNat) hE1_284 (by omega) ((hFM _).mpr (by simp))]
                                refine bI_f (fun z => ?_)
                                simp only [Int32.lt_iff_toInt_lt, ← Int32.toInt_inj, Int32.reduceToInt] at *
                                omega
                              refine g_icmpA X at_297 (Or.inr (Or.inr rfl)) (q := 300) rfl (by decide) (t := 302) rfl (fun (c24 : r1_284 = (bI (x14 = (0 : Int32)))) => ?_) (fun (c24 : ¬ (r1_284 = (bI (x14 = (0 : Int32))))) => ?_)
                              · skip
                                refine g_aload X at_302 rfl (q := 304) rfl rfl ?_
                                refine g_callV X O_b3.1 [] [] (tw39 hw) (tw40 hw) (tw42 hw) (tw41 hw) (tw3 hw) (tw43 hw) (by decide) (rm8 l Z a0 hw [] b3 w1_95 h1_95 NW_95 NH_95 W1_136 H1_136 _ n0 X.size O_b3 A_w1_95 A_h1_95 g_w1_95 g_h1_95 ne_b3_w1_95 ne_b3_h1_95 ne_w1_95_b3 ne_w1_95_h1_95 ne_h1_95_b3 ne_h1_95_w1_95 hD_95 hIS1_136) pd6 rfl rfl rfl at_304 (q := 307) rfl (W := 0) rfl (by decide) (by decide) (c2 := 3) (s2 := 262) rfl rfl (by decide) (by decide) (fun v T h' X hQ => ?_)
                                obtain ⟨W1_304, H1_304, rfl, Kc, A_w1_95', A_h1_95', hZ1_304, hIS1_304⟩ := hQ
                                have O_b3 := O_b3.keep Kc (ninS ne_b3_w1_95 (ninS ne_b3_h1_95 nin0))
                                have A_w1_95 := A_w1_95'
                                have A_h1_95 := A_h1_95'
                                show Goes p e below s _ n0 _ (T.setTop (mkF m 307 #[.val (.int p1), .val (.int p2), .val (.int p3), .val (.int p4), .val (.int p5), .val (.int p6), .val (.int x9), .val (.int x14), .val (.int x23), .val (.int l9_58), .val (.int x65), .val (.int x75), .val (.int x87), .val (.ref b3), .val (.int (bI (x75 = x65))), .val (.int r263)] []))
                                refine g_aload X at_307 rfl (q := 309) rfl rfl ?_
                                refine g_callV X O_b3.1 [] [] (tw34 hw) (tw35 hw) (tw37 hw) (tw36 hw) (tw3 hw) (tw38 hw) (by decide) (rm7 l Z a0 hw [] b3 w1_95 h1_95 NW_95 NH_95 W1_304 H1_304 _ n0 X.size O_b3 A_w1_95 A_h1_95 hD_95 hIS1_304) pd5 rfl rfl rfl at_309 (q := 312) rfl (W := 0) rfl (by decide) (by decide) (c2 := 3) (s2 := 262) rfl rfl (by decide) (by decide) (fun v T h' X hQ => ?_)
                                obtain ⟨r1_309, rfl, Kc, hE1_309⟩ := hQ
                                have O_b3 := O_b3.keep Kc nin0
                                have A_w1_95 := A_w1_95.keep Kc nin0
                                have A_h1_95 := A_h1_95.keep Kc nin0
                                show Goes p e below s _ n0 _ (T.setTop (mkF m 312 #[.val (.int p1), .val (.int p2), .val (.int p3), .val (.int p4), .val (.int p5), .val (.int p6), .val (.int x9), .val (.int x14), .val (.int x23), .val (.int l9_58), .val (.int x65), .val (.int x75), .val (.int x87), .val (.ref b3), .val (.int (bI (x75 = x65))), .val (.int r263)] [(.int r1_309)]))
                                have hok4 : ¬ (r1_309 = (0 : Int32)) := by
                                  rw [own_isT hE1_309 hZ1_304]; decide
                                refine g_ifB X at_312 (Or.inr (Or.inr rfl)) (q := 315) rfl (by decide) (t := 317) rfl (fun (c25 : r1_309 = (0 : Int32)) => ?_) (fun (c25 : ¬ (r1_309 = (0 : Int32))) => ?_)
                                · skip
                                  exact absurd c25 hok4
                                · skip
                                  refine g_aload X at_317 rfl (q := 319) rfl rfl ?_
                                  refine g_iload X at_319 rfl (q := 321) rfl ?_
                                  refine g_callV X O_b3.1 [(.int x75)] [] (tw15 hw) (tw16 hw) (tw18 hw) (tw17 hw) (tw3 hw) (tw19 hw) (by decide) (rm3 l Z a0 hw [] b3 x75 w1_95 h1_95 NW_95 W1_304 (x75.toInt.toNat) _ n0 X.size O_b3 A_w1_95 (own_pn (by omega)) (by omega) hD_95.2.1) pd3 rfl rfl rfl at_321 (q := 324) rfl (W := 0) rfl (by decide) (by decide) (c2 := 3) (s2 := 262) rfl rfl (by decide) (by decide) (fun v T h' X hQ => ?_)
                                  obtain ⟨rfl, rfl⟩ := hQ
                                  show Goes p e below s _ n0 _ (T.setTop (mkF m 324 #[.val (.int p1), .val (.int p2), .val (.int p3), .val (.int p4), .val (.int p5), .val (.int p6), .val (.int x9), .val (.int x14), .val (.int x23), .val (.int l9_58), .val (.int x65), .val (.int x75), .val (.int x87), .val (.ref b3), .val (.int (bI (x75 = x65))), .val (.int r263)] [(.int (bI (tb (W1_304 ((x75.toInt.toNat) / 64)) ((x75.toInt.toNat) % 64) = true)))]))
                                  have hok5 : ¬ (tb (W1_304 ((x75.toInt.toNat) / 64)) ((x75.toInt.toNat) % 64) = true) := by
                                    exact own_emp hZ1_304 (i := x75.toInt.toNat) (by omega)
                                  refine g_beq X at_324 (q := 327) rfl (by decide) (t := 329) rfl (fun (c26 : tb (W1_304 ((x75.toInt.toNat) / 64)) ((x75.toInt.toNat) % 64) = true) => ?_) (fun (c26 : ¬ (tb (W1_304 ((x75.toInt.toNat) / 64)) ((x75.toInt.toNat) % 64) = true)) => ?_)
                                  · skip
                                    exact absurd c26 hok5
                                  · skip
                                    refine g_iconst X at_329 rfl (q := 330) (v := 1) rfl ?_
                                    exact g_retZ X at_330 (by decide) (by decide) (by decide) rfl
                              · skip
                                exact absurd hok3 c24
                            · intro J297_26
                              refine g_ifB X at_289 (Or.inr (Or.inr rfl)) (q := 292) rfl (by decide) (t := 296) rfl (fun (c27 : x14 = (0 : Int32)) => ?_) (fun (c27 : ¬ (x14 = (0 : Int32))) => ?_)
                              · skip
                                have b_x14 : (0 : Int) ≤ x14.toInt ∧ x14.toInt ≤ 0 := by have z0 := c27; (try simp only [Int64.lt_iff_toInt_lt, Int32.lt_iff_toInt_lt, Int64.le_iff_toInt_le, Int32.le_iff_toInt_le, ← Int64.toInt_inj, ← Int32.toInt_inj, apply_ite Int64.toInt, apply_ite Int32.toInt, Int64.reduceToInt, Int32.reduceToInt, ne_eq] at z0); have z1 := rng32 x14; omega
                                refine g_iconst X at_292 rfl (q := 293) (v := 1) rfl ?_
                                refine g_goto X at_293 (by decide) (q := 297) rfl ?_
                                exact J297_26 T X _ (bI_t c27)
                              · skip
                                refine g_iconst X at_296 rfl (q := 297) (v := 0) rfl ?_
                                exact J297_26 T X _ (bI_f c27)
                          · skip
                            exact absurd hok2 c23
                      · skip
                        exact absurd c2 c21
                    · skip
                      exact absurd c1 c20
                  · replace c19 : ¬ ((tb (W1_136 ((x75.toInt.toNat) / 64)) ((x75.toInt.toNat) % 64) = true) ↔ (x75 = x65)) := fun z => c19 ((bI_inj _ _).mpr z)
                    exact absurd hok1 c19
                · intro J183_27
                  refine g_icmpB X at_175 (Or.inr (Or.inr rfl)) (q := 178) rfl (by decide) (t := 182) rfl (fun (c28 : x75 = x65) => ?_) (fun (c28 : ¬ (x75 = x65)) => ?_)
                  · skip
                    refine g_iconst X at_178 rfl (q := 179) (v := 1) rfl ?_
                    refine g_goto X at_179 (by decide) (q := 183) rfl ?_
                    exact J183_27 T X _ (bI_t c28)
                  · skip
                    refine g_iconst X at_182 rfl (q := 183) (v := 0) rfl ?_
                    exact J183_27 T X _ (bI_f c28)
            · skip
              exact absurd c2 c17
          · skip
            exact absurd c1 c16
      · skip
        have b_x14 : (2 : Int) ≤ x14.toInt ∧ x14.toInt ≤ 0 := by have z0 := c2; (try simp only [Int64.lt_iff_toInt_lt, Int32.lt_iff_toInt_lt, Int64.le_iff_toInt_le, Int32.le_iff_toInt_le, ← Int64.toInt_inj, ← Int32.toInt_inj, apply_ite Int64.toInt, apply_ite Int32.toInt, Int64.reduceToInt, Int32.reduceToInt, ne_eq] at z0); have z1 := rng32 x14; omega
        refine g_aload X at_119 rfl (q := 121) rfl rfl ?_
        refine g_iload X at_121 rfl (q := 123) rfl ?_
        refine g_callV X O_b3.1 [(.int l9_58)] [] (tw44 hw) (tw45 hw) (tw47 hw) (tw46 hw) (tw3 hw) (tw48 hw) (by decide) (rm9 l Z a0 hw [] b3 l9_58 w1_95 h1_95 NW_95 NH_95 (fun _ => 0) (fun _ => 0) (l9_58.toInt.toNat) _ n0 X.size O_b3 A_w1_95 A_h1_95 g_w1_95 g_h1_95 ne_b3_w1_95 ne_b3_h1_95 ne_w1_95_b3 ne_w1_95_h1_95 ne_h1_95_b3 ne_h1_95_w1_95 (own_pn (by omega)) (by omega) hD_95 (own_is0 _ _)) pd2 rfl rfl rfl at_123 (q := 126) rfl (W := 0) rfl (by decide) (by decide) (c2 := 3) (s2 := 262) rfl rfl (by decide) (by decide) (fun v T h' X hQ => ?_)
        obtain ⟨W1_123, H1_123, rfl, Kc, A_w1_95', A_h1_95', hIS1_123, hM1_123⟩ := hQ
        have O_b3 := O_b3.keep Kc (ninS ne_b3_w1_95 (ninS ne_b3_h1_95 nin0))
        have A_w1_95 := A_w1_95'
        have A_h1_95 := A_h1_95'
        show Goes p e below s _ n0 _ (T.setTop (mkF m 126 #[.val (.int p1), .val (.int p2), .val (.int p3), .val (.int p4), .val (.int p5), .val (.int p6), .val (.int x9), .val (.int x14), .val (.int x23), .val (.int l9_58), .val (.int x65), .val (.int x75), .val (.int x87), .val (.ref b3), .unset, .unset] []))
        refine g_iload X at_126 rfl (q := 128) rfl ?_
        refine g_iconst X at_128 rfl (q := 129) (v := 3) rfl ?_
        refine g_icmpA X at_129 (Or.inl rfl) (q := 132) rfl (by decide) (t := 139) rfl (fun (c29 : x14 < (3 : Int32)) => ?_) (fun (c29 : ¬ (x14 < (3 : Int32))) => ?_)
        · skip
          have hFM : ∀ j, mem W1_123 j ↔ (False ∨ j = l9_58.toInt.toNat) := fun j => by rw [hM1_123 j]; simp [own_mem0]
          refine g_iload X at_139 rfl (q := 141) rfl ?_
          refine g_iconst X at_141 rfl (q := 142) (v := 1) rfl ?_
          refine g_icmpA X at_142 (Or.inl rfl) (q := 145) rfl (by decide) (t := 152) rfl (fun (c30 : x14 < (1 : Int32)) => ?_) (fun (c30 : ¬ (x14 < (1 : Int32))) => ?_)
          · skip
            refine g_iload X at_152 rfl (q := 154) rfl ?_
            refine g_iconst X at_154 rfl (q := 155) (v := 2) rfl ?_
            refine g_icmpA X at_155 (Or.inl rfl) (q := 158) rfl (by decide) (t := 165) rfl (fun (c31 : x14 < (2 : Int32)) => ?_) (fun (c31 : ¬ (x14 < (2 : Int32))) => ?_)
            · skip
              exact absurd c31 c2
            · skip
              refine g_iload X at_158 rfl (q := 160) rfl ?_
              refine g_iload X at_160 rfl (q := 162) rfl ?_
              refine g_jT1 X (J := 183) (P := fun (s0_183 : Int32) => s0_183 = (bI (x75 = l9_58))) (L := fun s0_183 => #[.val (.int p1), .val (.int p2), .val (.int p3), .val (.int p4), .val (.int p5), .val (.int p6), .val (.int x9), .val (.int x14), .val (.int x23), .val (.int l9_58), .val (.int x65), .val (.int x75), .val (.int x87), .val (.ref b3), .unset, .unset]) (S := fun s0_183 => [(.int s0_183)]) ?_ ?_
              · intro T X s0_183 hs0_183
                replace hs0_183 : s0_183 = (bI (x75 = l9_58)) := hs0_183
                subst hs0_183
                show Goes p e below s _ n0 _ (T.setTop (mkF m 183 #[.val (.int p1), .val (.int p2), .val (.int p3), .val (.int p4), .val (.int p5), .val (.int p6), .val (.int x9), .val (.int x14), .val (.int x23), .val (.int l9_58), .val (.int x65), .val (.int x75), .val (.int x87), .val (.ref b3), .unset, .unset] [(.int (bI (x75 = l9_58)))]))
                refine g_istore X at_183 rfl (q := 185) (L' := #[.val (.int p1), .val (.int p2), .val (.int p3), .val (.int p4), .val (.int p5), .val (.int p6), .val (.int x9), .val (.int x14), .val (.int x23), .val (.int l9_58), .val (.int x65), .val (.int x75), .val (.int x87), .val (.ref b3), .val (.int (bI (x75 = l9_58))), .unset]) rfl ?_
                refine g_aload X at_185 rfl (q := 187) rfl rfl ?_
                refine g_iload X at_187 rfl (q := 189) rfl ?_
                refine g_callV X O_b3.1 [(.int x75)] [] (tw15 hw) (tw16 hw) (tw18 hw) (tw17 hw) (tw3 hw) (tw19 hw) (by decide) (rm3 l Z a0 hw [] b3 x75 w1_95 h1_95 NW_95 W1_123 (x75.toInt.toNat) _ n0 X.size O_b3 A_w1_95 (own_pn (by omega)) (by omega) hD_95.2.1) pd3 rfl rfl rfl at_189 (q := 192) rfl (W := 0) rfl (by decide) (by decide) (c2 := 3) (s2 := 262) rfl rfl (by decide) (by decide) (fun v T h' X hQ => ?_)
                obtain ⟨rfl, rfl⟩ := hQ
                show Goes p e below s _ n0 _ (T.setTop (mkF m 192 #[.val (.int p1), .val (.int p2), .val (.int p3), .val (.int p4), .val (.int p5), .val (.int p6), .val (.int x9), .val (.int x14), .val (.int x23), .val (.int l9_58), .val (.int x65), .val (.int x75), .val (.int x87), .val (.ref b3), .val (.int (bI (x75 = l9_58))), .unset] [(.int (bI (tb (W1_123 ((x75.toInt.toNat) / 64)) ((x75.toInt.toNat) % 64) = true)))]))
                refine g_iload X at_192 rfl (q := 194) rfl ?_
                have hok1 : (tb (W1_123 ((x75.toInt.toNat) / 64)) ((x75.toInt.toNat) % 64) = true) ↔ (x75 = l9_58) := by
                  refine (show mem W1_123 x75.toInt.toNat ↔ _ from hFM _).trans ?_
                  simp only [← Int32.toInt_inj, false_or]; omega
                refine g_icmpA X at_194 (Or.inr (Or.inr rfl)) (q := 197) rfl (by decide) (t := 199) rfl (fun c32 => ?_) (fun c32 => ?_)
                · replace c32 : (tb (W1_123 ((x75.toInt.toNat) / 64)) ((x75.toInt.toNat) % 64) = true) ↔ (x75 = l9_58) := (bI_inj _ _).mp c32
                  refine g_iconst X at_199 rfl (q := 200) (v := -1) rfl ?_
                  refine g_istore X at_200 rfl (q := 202) (L' := #[.val (.int p1), .val (.int p2), .val (.int p3), .val (.int p4), .val (.int p5), .val (.int p6), .val (.int x9), .val (.int x14), .val (.int x23), .val (.int l9_58), .val (.int x65), .val (.int x75), .val (.int x87), .val (.ref b3), .val (.int (bI (x75 = l9_58))), .val (.int (-1 : Int32))]) rfl ?_
                  refine g_iload X at_202 rfl (q := 204) rfl ?_
                  refine g_iload X at_204 rfl (q := 206) rfl ?_
                  refine g_iconst X at_206 rfl (q := 207) (v := 1) rfl ?_
                  refine g_icmpA X at_207 (Or.inl rfl) (q := 210) rfl (by decide) (t := 214) rfl (fun (c33 : x14 < (1 : Int32)) => ?_) (fun (c33 : ¬ (x14 < (1 : Int32))) => ?_)
                  · skip
                    refine g_iconst X at_214 rfl (q := 215) (v := 0) rfl ?_
                    refine g_iload X at_215 rfl (q := 217) rfl ?_
                    refine g_iload X at_217 rfl (q := 219) rfl ?_
                    refine g_callS X [(.int x23), (.int (0 : Int32)), (.int x87), (.int (-1 : Int32))] [] (tw20 hw) (tw21 hw) (tw22 hw) (tw23 hw) (by decide) (rm4 l Z a0 hw [] x23 False x87 (-1 : Int32) _ n0 X.size) pd4 rfl rfl rfl at_219 (q := 222) rfl (W := 0) rfl (by decide) (by decide) (c2 := 3) (s2 := 262) rfl rfl (by decide) (by decide) (fun v T h' X hQ => ?_)
                    obtain ⟨rfl, rfl⟩ := hQ
                    show Goes p e below s _ n0 _ (T.setTop (mkF m 222 #[.val (.int p1), .val (.int p2), .val (.int p3), .val (.int p4), .val (.int p5), .val (.int p6), .val (.int x9), .val (.int x14), .val (.int x23), .val (.int l9_58), .val (.int x65), .val (.int x75), .val (.int x87), .val (.ref b3), .val (.int (bI (x75 = l9_58))), .val (.int (-1 : Int32))] [(.int (if False then (if x23 < x87 then (-1 : Int32) else (if (-1 : Int32) < (0 : Int32) then x23 else (if x23 < (-1 : Int32) then x23 else (-1 : Int32)))) else (-1 : Int32)))]))
                    refine g_letI (fun r219 hr219 => ?_)
                    have hcb222 := own_cbF (own_cb0 (x87.toInt.toNat)) hr219
                    refine g_istore X at_222 rfl (q := 224) (L' := #[.val (.int p1), .val (.int p2), .val (.int p3), .val (.int p4), .val (.int p5), .val (.int p6), .val (.int x9), .val (.int x14), .val (.int x23), .val (.int l9_58), .val (.int x65), .val (.int x75), .val (.int x87), .val (.ref b3), .val (.int (bI (x75 = l9_58))), .val (.int r219)]) rfl ?_
                    refine g_iload X at_224 rfl (q := 226) rfl ?_
                    refine g_iload X at_226 rfl (q := 228) rfl ?_
                    refine g_iconst X at_228 rfl (q := 229) (v := 2) rfl ?_
                    refine g_icmpA X at_229 (Or.inl rfl) (q := 232) rfl (by decide) (t := 236) rfl (fun (c34 : x14 < (2 : Int32)) => ?_) (fun (c34 : ¬ (x14 < (2 : Int32))) => ?_)
                    · skip
                      exact absurd c34 c2
                    · skip
                      refine g_iconst X at_232 rfl (q := 233) (v := 1) rfl ?_
                      refine g_goto X at_233 (by decide) (q := 237) rfl ?_
                      refine g_iload X at_237 rfl (q := 239) rfl ?_
                      refine g_iload X at_239 rfl (q := 241) rfl ?_
                      refine g_callS X [(.int l9_58), (.int (1 : Int32)), (.int x87), (.int r219)] [] (tw20 hw) (tw21 hw) (tw22 hw) (tw23 hw) (by decide) (rm4 l Z a0 hw [] l9_58 True x87 r219 _ n0 X.size) pd4 rfl rfl rfl at_241 (q := 244) rfl (W := 0) rfl (by decide) (by decide) (c2 := 3) (s2 := 262) rfl rfl (by decide) (by decide) (fun v T h' X hQ => ?_)
                      obtain ⟨rfl, rfl⟩ := hQ
                      show Goes p e below s _ n0 _ (T.setTop (mkF m 244 #[.val (.int p1), .val (.int p2), .val (.int p3), .val (.int p4), .val (.int p5), .val (.int p6), .val (.int x9), .val (.int x14), .val (.int x23), .val (.int l9_58), .val (.int x65), .val (.int x75), .val (.int x87), .val (.ref b3), .val (.int (bI (x75 = l9_58))), .val (.int r219)] [(.int (if True then (if l9_58 < x87 then r219 else (if r219 < (0 : Int32) then l9_58 else (if l9_58 < r219 then l9_58 else r219))) else r219))]))
                      refine g_letI (fun r241 hr241 => ?_)
                      have hcb244 := own_cbT (own_pn (x := l9_58) (by omega)) (by omega) (own_pn (x := x87) (by omega)) (by omega) (hcb222) hr241
                      refine g_istore X at_244 rfl (q := 246) (L' := #[.val (.int p1), .val (.int p2), .val (.int p3), .val (.int p4), .val (.int p5), .val (.int p6), .val (.int x9), .val (.int x14), .val (.int x23), .val (.int l9_58), .val (.int x65), .val (.int x75), .val (.int x87), .val (.ref b3), .val (.int (bI (x75 = l9_58))), .val (.int r241)]) rfl ?_
                      refine g_iload X at_246 rfl (q := 248) rfl ?_
                      refine g_iload X at_248 rfl (q := 250) rfl ?_
                      refine g_iconst X at_250 rfl (q := 251) (v := 3) rfl ?_
                      refine g_icmpA X at_251 (Or.inl rfl) (q := 254) rfl (by decide) (t := 258) rfl (fun (c35 : x14 < (3 : Int32)) => ?_) (fun (c35 : ¬ (x14 < (3 : Int32))) => ?_)
                      · skip
                        refine g_iconst X at_258 rfl (q := 259) (v := 0) rfl ?_
                        refine g_iload X at_259 rfl (q := 261) rfl ?_
                        refine g_iload X at_261 rfl (q := 263) rfl ?_
                        refine g_callS X [(.int x65), (.int (0 : Int32)), (.int x87), (.int r241)] [] (tw20 hw) (tw21 hw) (tw22 hw) (tw23 hw) (by decide) (rm4 l Z a0 hw [] x65 False x87 r241 _ n0 X.size) pd4 rfl rfl rfl at_263 (q := 266) rfl (W := 0) rfl (by decide) (by decide) (c2 := 3) (s2 := 262) rfl rfl (by decide) (by decide) (fun v T h' X hQ => ?_)
                        obtain ⟨rfl, rfl⟩ := hQ
                        show Goes p e below s _ n0 _ (T.setTop (mkF m 266 #[.val (.int p1), .val (.int p2), .val (.int p3), .val (.int p4), .val (.int p5), .val (.int p6), .val (.int x9), .val (.int x14), .val (.int x23), .val (.int l9_58), .val (.int x65), .val (.int x75), .val (.int x87), .val (.ref b3), .val (.int (bI (x75 = l9_58))), .val (.int r241)] [(.int (if False then (if x65 < x87 then r241 else (if r241 < (0 : Int32) then x65 else (if x65 < r241 then x65 else r241))) else r241))]))
                        refine g_letI (fun r263 hr263 => ?_)
                        have hcb266 := own_cbF (hcb244) hr263
                        refine g_istore X at_266 rfl (q := 268) (L' := #[.val (.int p1), .val (.int p2), .val (.int p3), .val (.int p4), .val (.int p5), .val (.int p6), .val (.int x9), .val (.int x14), .val (.int x23), .val (.int l9_58), .val (.int x65), .val (.int x75), .val (.int x87), .val (.ref b3), .val (.int (bI (x75 = l9_58))), .val (.int r263)]) rfl ?_
                        refine g_aload X at_268 rfl (q := 270) rfl rfl ?_
                        refine g_iload X at_270 rfl (q := 272) rfl ?_
                        refine g_callV X O_b3.1 [(.int x87)] [] (tw24 hw) (tw25 hw) (tw27 hw) (tw26 hw) (tw3 hw) (tw28 hw) (by decide) (rm5 l Z a0 hw [] b3 x87 w1_95 h1_95 NW_95 NH_95 W1_123 H1_123 (x87.toInt.toNat) _ n0 X.size O_b3 A_w1_95 A_h1_95 (own_pn (by omega)) (by omega) hD_95 hIS1_123) pd0 rfl rfl rfl at_272 (q := 275) rfl (W := 0) rfl (by decide) (by decide) (c2 := 3) (s2 := 262) rfl rfl (by decide) (by decide) (fun v T h' X hQ => ?_)
                        obtain ⟨r1_272, rfl, Kc, hX1_272⟩ := hQ
                        have O_b3 := O_b3.keep Kc nin0
                        have A_w1_95 := A_w1_95.keep Kc nin0
                        have A_h1_95 := A_h1_95.keep Kc nin0
                        show Goes p e below s _ n0 _ (T.setTop (mkF m 275 #[.val (.int p1), .val (.int p2), .val (.int p3), .val (.int p4), .val (.int p5), .val (.int p6), .val (.int x9), .val (.int x14), .val (.int x23), .val (.int l9_58), .val (.int x65), .val (.int x75), .val (.int x87), .val (.ref b3), .val (.int (bI (x75 = l9_58))), .val (.int r263)] [(.int r1_272)]))
                        refine g_iload X at_275 rfl (q := 277) rfl ?_
                        have hok2 : r1_272 = r263 := by
                          exact own_cbN hX1_272 hFM (fun j hj => by revert hj; simp only [false_or]; omega) hcb266
                        refine g_icmpA X at_277 (Or.inr (Or.inr rfl)) (q := 280) rfl (by decide) (t := 282) rfl (fun (c36 : r1_272 = r263) => ?_) (fun (c36 : ¬ (r1_272 = r263)) => ?_)
                        · skip
                          refine g_aload X at_282 rfl (q := 284) rfl rfl ?_
                          refine g_callV X O_b3.1 [] [] (tw34 hw) (tw35 hw) (tw37 hw) (tw36 hw) (tw3 hw) (tw38 hw) (by decide) (rm7 l Z a0 hw [] b3 w1_95 h1_95 NW_95 NH_95 W1_123 H1_123 _ n0 X.size O_b3 A_w1_95 A_h1_95 hD_95 hIS1_123) pd5 rfl rfl rfl at_284 (q := 287) rfl (W := 0) rfl (by decide) (by decide) (c2 := 3) (s2 := 262) rfl rfl (by decide) (by decide) (fun v T h' X hQ => ?_)
                          obtain ⟨r1_284, rfl, Kc, hE1_284⟩ := hQ
                          have O_b3 := O_b3.keep Kc nin0
                          have A_w1_95 := A_w1_95.keep Kc nin0
                          have A_h1_95 := A_h1_95.keep Kc nin0
                          show Goes p e below s _ n0 _ (T.setTop (mkF m 287 #[.val (.int p1), .val (.int p2), .val (.int p3), .val (.int p4), .val (.int p5), .val (.int p6), .val (.int x9), .val (.int x14), .val (.int x23), .val (.int l9_58), .val (.int x65), .val (.int x75), .val (.int x87), .val (.ref b3), .val (.int (bI (x75 = l9_58))), .val (.int r263)] [(.int r1_284)]))
                          refine g_iload X at_287 rfl (q := 289) rfl ?_
                          refine g_jT1 X (J := 297) (P := fun (s0_297 : Int32) => s0_297 = (bI (x14 = (0 : Int32)))) (L := fun s0_297 => #[.val (.int p1), .val (.int p2), .val (.int p3), .val (.int p4), .val (.int p5), .val (.int p6), .val (.int x9), .val (.int x14), .val (.int x23), .val (.int l9_58), .val (.int x65), .val (.int x75), .val (.int x87), .val (.ref b3), .val (.int (bI (x75 = l9_58))), .val (.int r263)]) (S := fun s0_297 => [(.int s0_297), (.int r1_284)]) ?_ ?_
                          · intro T X s0_297 hs0_297
                            replace hs0_297 : s0_297 = (bI (x14 = (0 : Int32))) := hs0_297
                            subst hs0_297
                            show Goes p e below s _ n0 _ (T.setTop (mkF m 297 #[.val (.int p1), .val (.int p2), .val (.int p3), .val (.int p4), .val (.int p5), .val (.int p6), .val (.int x9), .val (.int x14), .val (.int x23), .val (.int l9_58), .val (.int x65), .val (.int x75), .val (.int x87), .val (.ref b3), .val (.int (bI (x75 = l9_58))), .val (.int r263)] [(.int (bI (x14 = (0 : Int32)))), (.int r1_284)]))
                            have hok3 : r1_284 = (bI (x14 = (0 : Int32))) := by
                              rw [own_isF (i := l9_58.toInt.toNat) hE1_284 (by omega) ((hFM _).mpr (by simp))]
                              refine bI_f (fun z => ?_)
                              simp only [Int32.lt_iff_toInt_lt, ← Int32.toInt_inj, Int32.reduceToInt] at *
                              omega
                            refine g_icmpA X at_297 (Or.inr (Or.inr rfl)) (q := 300) rfl (by decide) (t := 302) rfl (fun (c37 : r1_284 = (bI (x14 = (0 : Int32)))) => ?_) (fun (c37 : ¬ (r1_284 = (bI (x14 = (0 : Int32))))) => ?_)
                            · skip
                              refine g_aload X at_302 rfl (q := 304) rfl rfl ?_
                              refine g_callV X O_b3.1 [] [] (tw39 hw) (tw40 hw) (tw42 hw) (tw41 hw) (tw3 hw) (tw43 hw) (by decide) (rm8 l Z a0 hw [] b3 w1_95 h1_95 NW_95 NH_95 W1_123 H1_123 _ n0 X.size O_b3 A_w1_95 A_h1_95 g_w1_95 g_h1_95 ne_b3_w1_95 ne_b3_h1_95 ne_w1_95_b3 ne_w1_95_h1_95 ne_h1_95_b3 ne_h1_95_w1_95 hD_95 hIS1_123) pd6 rfl rfl rfl at_304 (q := 307) rfl (W := 0) rfl (by decide) (by decide) (c2 := 3) (s2 := 262) rfl rfl (by decide) (by decide) (fun v T h' X hQ => ?_)
                              obtain ⟨W1_304, H1_304, rfl, Kc, A_w1_95', A_h1_95', hZ1_304, hIS1_304⟩ := hQ
                              have O_b3 := O_b3.keep Kc (ninS ne_b3_w1_95 (ninS ne_b3_h1_95 nin0))
                              have A_w1_95 := A_w1_95'
                              have A_h1_95 := A_h1_95'
                              show Goes p e below s _ n0 _ (T.setTop (mkF m 307 #[.val (.int p1), .val (.int p2), .val (.int p3), .val (.int p4), .val (.int p5), .val (.int p6), .val (.int x9), .val (.int x14), .val (.int x23), .val (.int l9_58), .val (.int x65), .val (.int x75), .val (.int x87), .val (.ref b3), .val (.int (bI (x75 = l9_58))), .val (.int r263)] []))
                              refine g_aload X at_307 rfl (q := 309) rfl rfl ?_
                              refine g_callV X O_b3.1 [] [] (tw34 hw) (tw35 hw) (tw37 hw) (tw36 hw) (tw3 hw) (tw38 hw) (by decide) (rm7 l Z a0 hw [] b3 w1_95 h1_95 NW_95 NH_95 W1_304 H1_304 _ n0 X.size O_b3 A_w1_95 A_h1_95 hD_95 hIS1_304) pd5 rfl rfl rfl at_309 (q := 312) rfl (W := 0) rfl (by decide) (by decide) (c2 := 3) (s2 := 262) rfl rfl (by decide) (by decide) (fun v T h' X hQ => ?_)
                              obtain ⟨r1_309, rfl, Kc, hE1_309⟩ := hQ
                              have O_b3 := O_b3.keep Kc nin0
                              have A_w1_95 := A_w1_95.keep Kc nin0
                              have A_h1_95 := A_h1_95.keep Kc nin0
                              show Goes p e below s _ n0 _ (T.setTop (mkF m 312 #[.val (.int p1), .val (.int p2), .val (.int p3), .val (.int p4), .val (.int p5), .val (.int p6), .val (.int x9), .val (.int x14), .val (.int x23), .val (.int l9_58), .val (.int x65), .val (.int x75), .val (.int x87), .val (.ref b3), .val (.int (bI (x75 = l9_58))), .val (.int r263)] [(.int r1_309)]))
                              have hok4 : ¬ (r1_309 = (0 : Int32)) := by
                                rw [own_isT hE1_309 hZ1_304]; decide
                              refine g_ifB X at_312 (Or.inr (Or.inr rfl)) (q := 315) rfl (by decide) (t := 317) rfl (fun (c38 : r1_309 = (0 : Int32)) => ?_) (fun (c38 : ¬ (r1_309 = (0 : Int32))) => ?_)
                              · skip
                                exact absurd c38 hok4
                              · skip
                                refine g_aload X at_317 rfl (q := 319) rfl rfl ?_
                                refine g_iload X at_319 rfl (q := 321) rfl ?_
                                refine g_callV X O_b3.1 [(.int x75)] [] (tw15 hw) (tw16 hw) (tw18 hw) (tw17 hw) (tw3 hw) (tw19 hw) (by decide) (rm3 l Z a0 hw [] b3 x75 w1_95 h1_95 NW_95 W1_304 (x75.toInt.toNat) _ n0 X.size O_b3 A_w1_95 (own_pn (by omega)) (by omega) hD_95.2.1) pd3 rfl rfl rfl at_321 (q := 324) rfl (W := 0) rfl (by decide) (by decide) (c2 := 3) (s2 := 262) rfl rfl (by decide) (by decide) (fun v T h' X hQ => ?_)
                                obtain ⟨rfl, rfl⟩ := hQ
                                show Goes p e below s _ n0 _ (T.setTop (mkF m 324 #[.val (.int p1), .val (.int p2), .val (.int p3), .val (.int p4), .val (.int p5), .val (.int p6), .val (.int x9), .val (.int x14), .val (.int x23), .val (.int l9_58), .val (.int x65), .val (.int x75), .val (.int x87), .val (.ref b3), .val (.int (bI (x75 = l9_58))), .val (.int r263)] [(.int (bI (tb (W1_304 ((x75.toInt.toNat) / 64)) ((x75.toInt.toNat) % 64) = true)))]))
                                have hok5 : ¬ (tb (W1_304 ((x75.toInt.toNat) / 64)) ((x75.toInt.toNat) % 64) = true) := by
                                  exact own_emp hZ1_304 (i := x75.toInt.toNat) (by omega)
                                refine g_beq X at_324 (q := 327) rfl (by decide) (t := 329) rfl (fun (c39 : tb (W1_304 ((x75.toInt.toNat) / 64)) ((x75.toInt.toNat) % 64) = true) => ?_) (fun (c39 : ¬ (tb (W1_304 ((x75.toInt.toNat) / 64)) ((x75.toInt.toNat) % 64) = true)) => ?_)
                                · skip
                                  exact absurd c39 hok5
                                · skip
                                  refine g_iconst X at_329 rfl (q := 330) (v := 1) rfl ?_
                                  exact g_retZ X at_330 (by decide) (by decide) (by decide) rfl
                            · skip
                              exact absurd hok3 c37
                          · intro J297_39
                            refine g_ifB X at_289 (Or.inr (Or.inr rfl)) (q := 292) rfl (by decide) (t := 296) rfl (fun (c40 : x14 = (0 : Int32)) => ?_) (fun (c40 : ¬ (x14 = (0 : Int32))) => ?_)
                            · skip
                              have b_x14 : (0 : Int) ≤ x14.toInt ∧ x14.toInt ≤ 0 := by have z0 := c40; (try simp only [Int64.lt_iff_toInt_lt, Int32.lt_iff_toInt_lt, Int64.le_iff_toInt_le, Int32.le_iff_toInt_le, ← Int64.toInt_inj, ← Int32.toInt_inj, apply_ite Int64.toInt, apply_ite Int32.toInt, Int64.reduceToInt, Int32.reduceToInt, ne_eq] at z0); have z1 := rng32 x14; omega
                              refine g_iconst X at_292 rfl (q := 293) (v := 1) rfl ?_
                              refine g_goto X at_293 (by decide) (q := 297) rfl ?_
                              exact J297_39 T X _ (bI_t c40)
                            · skip
                              refine g_iconst X at_296 rfl (q := 297) (v := 0) rfl ?_
                              exact J297_39 T X _ (bI_f c40)
                        · skip
                          exact absurd hok2 c36
                      · skip
                        exact absurd c29 c35
                  · skip
                    exact absurd c1 c33
                · replace c32 : ¬ ((tb (W1_123 ((x75.toInt.toNat) / 64)) ((x75.toInt.toNat) % 64) = true) ↔ (x75 = l9_58)) := fun z => c32 ((bI_inj _ _).mpr z)
                  exact absurd hok1 c32
              · intro J183_40
                refine g_icmpA X at_162 (Or.inr (Or.inr rfl)) (q := 165) rfl (by decide) (t := 178) rfl (fun (c41 : x75 = l9_58) => ?_) (fun (c41 : ¬ (x75 = l9_58)) => ?_)
                · skip
                  refine g_iconst X at_178 rfl (q := 179) (v := 1) rfl ?_
                  refine g_goto X at_179 (by decide) (q := 183) rfl ?_
                  exact J183_40 T X _ (bI_t c41)
                · skip
                  refine g_iload X at_165 rfl (q := 167) rfl ?_
                  refine g_iconst X at_167 rfl (q := 168) (v := 3) rfl ?_
                  refine g_icmpA X at_168 (Or.inl rfl) (q := 171) rfl (by decide) (t := 182) rfl (fun (c42 : x14 < (3 : Int32)) => ?_) (fun (c42 : ¬ (x14 < (3 : Int32))) => ?_)
                  · skip
                    refine g_iconst X at_182 rfl (q := 183) (v := 0) rfl ?_
                    exact J183_40 T X _ (bI_f c41)
                  · skip
                    exact absurd c29 c42
          · skip
            exact absurd c1 c30
        · skip
          have b_x14 : (3 : Int) ≤ x14.toInt ∧ x14.toInt ≤ 0 := by have z0 := c29; (try simp only [Int64.lt_iff_toInt_lt, Int32.lt_iff_toInt_lt, Int64.le_iff_toInt_le, Int32.le_iff_toInt_le, ← Int64.toInt_inj, ← Int32.toInt_inj, apply_ite Int64.toInt, apply_ite Int32.toInt, Int64.reduceToInt, Int32.reduceToInt, ne_eq] at z0); have z1 := rng32 x14; omega
          refine g_aload X at_132 rfl (q := 134) rfl rfl ?_
          refine g_iload X at_134 rfl (q := 136) rfl ?_
          refine g_callV X O_b3.1 [(.int x65)] [] (tw44 hw) (tw45 hw) (tw47 hw) (tw46 hw) (tw3 hw) (tw48 hw) (by decide) (rm9 l Z a0 hw [] b3 x65 w1_95 h1_95 NW_95 NH_95 W1_123 H1_123 (x65.toInt.toNat) _ n0 X.size O_b3 A_w1_95 A_h1_95 g_w1_95 g_h1_95 ne_b3_w1_95 ne_b3_h1_95 ne_w1_95_b3 ne_w1_95_h1_95 ne_h1_95_b3 ne_h1_95_w1_95 (own_pn (by omega)) (by omega) hD_95 hIS1_123) pd2 rfl rfl rfl at_136 (q := 139) rfl (W := 0) rfl (by decide) (by decide) (c2 := 3) (s2 := 262) rfl rfl (by decide) (by decide) (fun v T h' X hQ => ?_)
          obtain ⟨W1_136, H1_136, rfl, Kc, A_w1_95', A_h1_95', hIS1_136, hM1_136⟩ := hQ
          have O_b3 := O_b3.keep Kc (ninS ne_b3_w1_95 (ninS ne_b3_h1_95 nin0))
          have A_w1_95 := A_w1_95'
          have A_h1_95 := A_h1_95'
          show Goes p e below s _ n0 _ (T.setTop (mkF m 139 #[.val (.int p1), .val (.int p2), .val (.int p3), .val (.int p4), .val (.int p5), .val (.int p6), .val (.int x9), .val (.int x14), .val (.int x23), .val (.int l9_58), .val (.int x65), .val (.int x75), .val (.int x87), .val (.ref b3), .unset, .unset] []))
          have hFM : ∀ j, mem W1_136 j ↔ ((False ∨ j = l9_58.toInt.toNat) ∨ j = x65.toInt.toNat) := fun j => by rw [hM1_136 j, hM1_123 j]; simp [own_mem0]
          refine g_iload X at_139 rfl (q := 141) rfl ?_
          refine g_iconst X at_141 rfl (q := 142) (v := 1) rfl ?_
          refine g_icmpA X at_142 (Or.inl rfl) (q := 145) rfl (by decide) (t := 152) rfl (fun (c43 : x14 < (1 : Int32)) => ?_) (fun (c43 : ¬ (x14 < (1 : Int32))) => ?_)
          · skip
            refine g_iload X at_152 rfl (q := 154) rfl ?_
            refine g_iconst X at_154 rfl (q := 155) (v := 2) rfl ?_
            refine g_icmpA X at_155 (Or.inl rfl) (q := 158) rfl (by decide) (t := 165) rfl (fun (c44 : x14 < (2 : Int32)) => ?_) (fun (c44 : ¬ (x14 < (2 : Int32))) => ?_)
            · skip
              exact absurd c44 c2
            · skip
              refine g_iload X at_158 rfl (q := 160) rfl ?_
              refine g_iload X at_160 rfl (q := 162) rfl ?_
              refine g_jT1 X (J := 183) (P := fun (s0_183 : Int32) => s0_183 = (bI ((x75 = l9_58) ∨ (x75 = x65)))) (L := fun s0_183 => #[.val (.int p1), .val (.int p2), .val (.int p3), .val (.int p4), .val (.int p5), .val (.int p6), .val (.int x9), .val (.int x14), .val (.int x23), .val (.int l9_58), .val (.int x65), .val (.int x75), .val (.int x87), .val (.ref b3), .unset, .unset]) (S := fun s0_183 => [(.int s0_183)]) ?_ ?_
              · intro T X s0_183 hs0_183
                replace hs0_183 : s0_183 = (bI ((x75 = l9_58) ∨ (x75 = x65))) := hs0_183
                subst hs0_183
                show Goes p e below s _ n0 _ (T.setTop (mkF m 183 #[.val (.int p1), .val (.int p2), .val (.int p3), .val (.int p4), .val (.int p5), .val (.int p6), .val (.int x9), .val (.int x14), .val (.int x23), .val (.int l9_58), .val (.int x65), .val (.int x75), .val (.int x87), .val (.ref b3), .unset, .unset] [(.int (bI ((x75 = l9_58) ∨ (x75 = x65))))]))
                refine g_istore X at_183 rfl (q := 185) (L' := #[.val (.int p1), .val (.int p2), .val (.int p3), .val (.int p4), .val (.int p5), .val (.int p6), .val (.int x9), .val (.int x14), .val (.int x23), .val (.int l9_58), .val (.int x65), .val (.int x75), .val (.int x87), .val (.ref b3), .val (.int (bI ((x75 = l9_58) ∨ (x75 = x65)))), .unset]) rfl ?_
                refine g_aload X at_185 rfl (q := 187) rfl rfl ?_
                refine g_iload X at_187 rfl (q := 189) rfl ?_
                refine g_callV X O_b3.1 [(.int x75)] [] (tw15 hw) (tw16 hw) (tw18 hw) (tw17 hw) (tw3 hw) (tw19 hw) (by decide) (rm3 l Z a0 hw [] b3 x75 w1_95 h1_95 NW_95 W1_136 (x75.toInt.toNat) _ n0 X.size O_b3 A_w1_95 (own_pn (by omega)) (by omega) hD_95.2.1) pd3 rfl rfl rfl at_189 (q := 192) rfl (W := 0) rfl (by decide) (by decide) (c2 := 3) (s2 := 262) rfl rfl (by decide) (by decide) (fun v T h' X hQ => ?_)
                obtain ⟨rfl, rfl⟩ := hQ
                show Goes p e below s _ n0 _ (T.setTop (mkF m 192 #[.val (.int p1), .val (.int p2), .val (.int p3), .val (.int p4), .val (.int p5), .val (.int p6), .val (.int x9), .val (.int x14), .val (.int x23), .val (.int l9_58), .val (.int x65), .val (.int x75), .val (.int x87), .val (.ref b3), .val (.int (bI ((x75 = l9_58) ∨ (x75 = x65)))), .unset] [(.int (bI (tb (W1_136 ((x75.toInt.toNat) / 64)) ((x75.toInt.toNat) % 64) = true)))]))
                refine g_iload X at_192 rfl (q := 194) rfl ?_
                have hok1 : (tb (W1_136 ((x75.toInt.toNat) / 64)) ((x75.toInt.toNat) % 64) = true) ↔ ((x75 = l9_58) ∨ (x75 = x65)) := by
                  refine (show mem W1_136 x75.toInt.toNat ↔ _ from hFM _).trans ?_
                  simp only [← Int32.toInt_inj, false_or]; omega
                refine g_icmpA X at_194 (Or.inr (Or.inr rfl)) (q := 197) rfl (by decide) (t := 199) rfl (fun c45 => ?_) (fun c45 => ?_)
                · replace c45 : (tb (W1_136 ((x75.toInt.toNat) / 64)) ((x75.toInt.toNat) % 64) = true) ↔ ((x75 = l9_58) ∨ (x75 = x65)) := (bI_inj _ _).mp c45
                  refine g_iconst X at_199 rfl (q := 200) (v := -1) rfl ?_
                  refine g_istore X at_200 rfl (q := 202) (L' := #[.val (.int p1), .val (.int p2), .val (.int p3), .val (.int p4), .val (.int p5), .val (.int p6), .val (.int x9), .val (.int x14), .val (.int x23), .val (.int l9_58), .val (.int x65), .val (.int x75), .val (.int x87), .val (.ref b3), .val (.int (bI ((x75 = l9_58) ∨ (x75 = x65)))), .val (.int (-1 : Int32))]) rfl ?_
                  refine g_iload X at_202 rfl (q := 204) rfl ?_
                  refine g_iload X at_204 rfl (q := 206) rfl ?_
                  refine g_iconst X at_206 rfl (q := 207) (v := 1) rfl ?_
                  refine g_icmpA X at_207 (Or.inl rfl) (q := 210) rfl (by decide) (t := 214) rfl (fun (c46 : x14 < (1 : Int32)) => ?_) (fun (c46 : ¬ (x14 < (1 : Int32))) => ?_)
                  · skip
                    refine g_iconst X at_214 rfl (q := 215) (v := 0) rfl ?_
                    refine g_iload X at_215 rfl (q := 217) rfl ?_
                    refine g_iload X at_217 rfl (q := 219) rfl ?_
                    refine g_callS X [(.int x23), (.int (0 : Int32)), (.int x87), (.int (-1 : Int32))] [] (tw20 hw) (tw21 hw) (tw22 hw) (tw23 hw) (by decide) (rm4 l Z a0 hw [] x23 False x87 (-1 : Int32) _ n0 X.size) pd4 rfl rfl rfl at_219 (q := 222) rfl (W := 0) rfl (by decide) (by decide) (c2 := 3) (s2 := 262) rfl rfl (by decide) (by decide) (fun v T h' X hQ => ?_)
                    obtain ⟨rfl, rfl⟩ := hQ
                    show Goes p e below s _ n0 _ (T.setTop (mkF m 222 #[.val (.int p1), .val (.int p2), .val (.int p3), .val (.int p4), .val (.int p5), .val (.int p6), .val (.int x9), .val (.int x14), .val (.int x23), .val (.int l9_58), .val (.int x65), .val (.int x75), .val (.int x87), .val (.ref b3), .val (.int (bI ((x75 = l9_58) ∨ (x75 = x65)))), .val (.int (-1 : Int32))] [(.int (if False then (if x23 < x87 then (-1 : Int32) else (if (-1 : Int32) < (0 : Int32) then x23 else (if x23 < (-1 : Int32) then x23 else (-1 : Int32)))) else (-1 : Int32)))]))
                    refine g_letI (fun r219 hr219 => ?_)
                    have hcb222 := own_cbF (own_cb0 (x87.toInt.toNat)) hr219
                    refine g_istore X at_222 rfl (q := 224) (L' := #[.val (.int p1), .val (.int p2), .val (.int p3), .val (.int p4), .val (.int p5), .val (.int p6), .val (.int x9), .val (.int x14), .val (.int x23), .val (.int l9_58), .val (.int x65), .val (.int x75), .val (.int x87), .val (.ref b3), .val (.int (bI ((x75 = l9_58) ∨ (x75 = x65)))), .val (.int r219)]) rfl ?_
                    refine g_iload X at_224 rfl (q := 226) rfl ?_
                    refine g_iload X at_226 rfl (q := 228) rfl ?_
                    refine g_iconst X at_228 rfl (q := 229) (v := 2) rfl ?_
                    refine g_icmpA X at_229 (Or.inl rfl) (q := 232) rfl (by decide) (t := 236) rfl (fun (c47 : x14 < (2 : Int32)) => ?_) (fun (c47 : ¬ (x14 < (2 : Int32))) => ?_)
                    · skip
                      exact absurd c47 c2
                    · skip
                      refine g_iconst X at_232 rfl (q := 233) (v := 1) rfl ?_
                      refine g_goto X at_233 (by decide) (q := 237) rfl ?_
                      refine g_iload X at_237 rfl (q := 239) rfl ?_
                      refine g_iload X at_239 rfl (q := 241) rfl ?_
                      refine g_callS X [(.int l9_58), (.int (1 : Int32)), (.int x87), (.int r219)] [] (tw20 hw) (tw21 hw) (tw22 hw) (tw23 hw) (by decide) (rm4 l Z a0 hw [] l9_58 True x87 r219 _ n0 X.size) pd4 rfl rfl rfl at_241 (q := 244) rfl (W := 0) rfl (by decide) (by decide) (c2 := 3) (s2 := 262) rfl rfl (by decide) (by decide) (fun v T h' X hQ => ?_)
                      obtain ⟨rfl, rfl⟩ := hQ
                      show Goes p e below s _ n0 _ (T.setTop (mkF m 244 #[.val (.int p1), .val (.int p2), .val (.int p3), .val (.int p4), .val (.int p5), .val (.int p6), .val (.int x9), .val (.int x14), .val (.int x23), .val (.int l9_58), .val (.int x65), .val (.int x75), .val (.int x87), .val (.ref b3), .val (.int (bI ((x75 = l9_58) ∨ (x75 = x65)))), .val (.int r219)] [(.int (if True then (if l9_58 < x87 then r219 else (if r219 < (0 : Int32) then l9_58 else (if l9_58 < r219 then l9_58 else r219))) else r219))]))
                      refine g_letI (fun r241 hr241 => ?_)
                      have hcb244 := own_cbT (own_pn (x := l9_58) (by omega)) (by omega) (own_pn (x := x87) (by omega)) (by omega) (hcb222) hr241
                      refine g_istore X at_244 rfl (q := 246) (L' := #[.val (.int p1), .val (.int p2), .val (.int p3), .val (.int p4), .val (.int p5), .val (.int p6), .val (.int x9), .val (.int x14), .val (.int x23), .val (.int l9_58), .val (.int x65), .val (.int x75), .val (.int x87), .val (.ref b3), .val (.int (bI ((x75 = l9_58) ∨ (x75 = x65)))), .val (.int r241)]) rfl ?_
                      refine g_iload X at_246 rfl (q := 248) rfl ?_
                      refine g_iload X at_248 rfl (q := 250) rfl ?_
                      refine g_iconst X at_250 rfl (q := 251) (v := 3) rfl ?_
                      refine g_icmpA X at_251 (Or.inl rfl) (q := 254) rfl (by decide) (t := 258) rfl (fun (c48 : x14 < (3 : Int32)) => ?_) (fun (c48 : ¬ (x14 < (3 : Int32))) => ?_)
                      · skip
                        exact absurd c48 c29
                      · skip
                        refine g_iconst X at_254 rfl (q := 255) (v := 1) rfl ?_
                        refine g_goto X at_255 (by decide) (q := 259) rfl ?_
                        refine g_iload X at_259 rfl (q := 261) rfl ?_
                        refine g_iload X at_261 rfl (q := 263) rfl ?_
                        refine g_callS X [(.int x65), (.int (1 : Int32)), (.int x87), (.int r241)] [] (tw20 hw) (tw21 hw) (tw22 hw) (tw23 hw) (by decide) (rm4 l Z a0 hw [] x65 True x87 r241 _ n0 X.size) pd4 rfl rfl rfl at_263 (q := 266) rfl (W := 0) rfl (by decide) (by decide) (c2 := 3) (s2 := 262) rfl rfl (by decide) (by decide) (fun v T h' X hQ => ?_)
                        obtain ⟨rfl, rfl⟩ := hQ
                        show Goes p e below s _ n0 _ (T.setTop (mkF m 266 #[.val (.int p1), .val (.int p2), .val (.int p3), .val (.int p4), .val (.int p5), .val (.int p6), .val (.int x9), .val (.int x14), .val (.int x23), .val (.int l9_58), .val (.int x65), .val (.int x75), .val (.int x87), .val (.ref b3), .val (.int (bI ((x75 = l9_58) ∨ (x75 = x65)))), .val (.int r241)] [(.int (if True then (if x65 < x87 then r241 else (if r241 < (0 : Int32) then x65 else (if x65 < r241 then x65 else r241))) else r241))]))
                        refine g_letI (fun r263 hr263 => ?_)
                        have hcb266 := own_cbT (own_pn (x := x65) (by omega)) (by omega) (own_pn (x := x87) (by omega)) (by omega) (hcb244) hr263
                        refine g_istore X at_266 rfl (q := 268) (L' := #[.val (.int p1), .val (.int p2), .val (.int p3), .val (.int p4), .val (.int p5), .val (.int p6), .val (.int x9), .val (.int x14), .val (.int x23), .val (.int l9_58), .val (.int x65), .val (.int x75), .val (.int x87), .val (.ref b3), .val (.int (bI ((x75 = l9_58) ∨ (x75 = x65)))), .val (.int r263)]) rfl ?_
                        refine g_aload X at_268 rfl (q := 270) rfl rfl ?_
                        refine g_iload X at_270 rfl (q := 272) rfl ?_
                        refine g_callV X O_b3.1 [(.int x87)] [] (tw24 hw) (tw25 hw) (tw27 hw) (tw26 hw) (tw3 hw) (tw28 hw) (by decide) (rm5 l Z a0 hw [] b3 x87 w1_95 h1_95 NW_95 NH_95 W1_136 H1_136 (x87.toInt.toNat) _ n0 X.size O_b3 A_w1_95 A_h1_95 (own_pn (by omega)) (by omega) hD_95 hIS1_136) pd0 rfl rfl rfl at_272 (q := 275) rfl (W := 0) rfl (by decide) (by decide) (c2 := 3) (s2 := 262) rfl rfl (by decide) (by decide) (fun v T h' X hQ => ?_)
                        obtain ⟨r1_272, rfl, Kc, hX1_272⟩ := hQ
                        have O_b3 := O_b3.keep Kc nin0
                        have A_w1_95 := A_w1_95.keep Kc nin0
                        have A_h1_95 := A_h1_95.keep Kc nin0
                        show Goes p e below s _ n0 _ (T.setTop (mkF m 275 #[.val (.int p1), .val (.int p2), .val (.int p3), .val (.int p4), .val (.int p5), .val (.int p6), .val (.int x9), .val (.int x14), .val (.int x23), .val (.int l9_58), .val (.int x65), .val (.int x75), .val (.int x87), .val (.ref b3), .val (.int (bI ((x75 = l9_58) ∨ (x75 = x65)))), .val (.int r263)] [(.int r1_272)]))
                        refine g_iload X at_275 rfl (q := 277) rfl ?_
                        have hok2 : r1_272 = r263 := by
                          exact own_cbN hX1_272 hFM (fun j hj => by revert hj; simp only [false_or]; omega) hcb266
                        refine g_icmpA X at_277 (Or.inr (Or.inr rfl)) (q := 280) rfl (by decide) (t := 282) rfl (fun (c49 : r1_272 = r263) => ?_) (fun (c49 : ¬ (r1_272 = r263)) => ?_)
                        · skip
                          refine g_aload X at_282 rfl (q := 284) rfl rfl ?_
                          refine g_callV X O_b3.1 [] [] (tw34 hw) (tw35 hw) (tw37 hw) (tw36 hw) (tw3 hw) (tw38 hw) (by decide) (rm7 l Z a0 hw [] b3 w1_95 h1_95 NW_95 NH_95 W1_136 H1_136 _ n0 X.size O_b3 A_w1_95 A_h1_95 hD_95 hIS1_136) pd5 rfl rfl rfl at_284 (q := 287) rfl (W := 0) rfl (by decide) (by decide) (c2 := 3) (s2 := 262) rfl rfl (by decide) (by decide) (fun v T h' X hQ => ?_)
                          obtain ⟨r1_284, rfl, Kc, hE1_284⟩ := hQ
                          have O_b3 := O_b3.keep Kc nin0
                          have A_w1_95 := A_w1_95.keep Kc nin0
                          have A_h1_95 := A_h1_95.keep Kc nin0
                          show Goes p e below s _ n0 _ (T.setTop (mkF m 287 #[.val (.int p1), .val (.int p2), .val (.int p3), .val (.int p4), .val (.int p5), .val (.int p6), .val (.int x9), .val (.int x14), .val (.int x23), .val (.int l9_58), .val (.int x65), .val (.int x75), .val (.int x87), .val (.ref b3), .val (.int (bI ((x75 = l9_58) ∨ (x75 = x65)))), .val (.int r263)] [(.int r1_284)]))
                          refine g_iload X at_287 rfl (q := 289) rfl ?_
                          refine g_jT1 X (J := 297) (P := fun (s0_297 : Int32) => s0_297 = (bI (x14 = (0 : Int32)))) (L := fun s0_297 => #[.val (.int p1), .val (.int p2), .val (.int p3), .val (.int p4), .val (.int p5), .val (.int p6), .val (.int x9), .val (.int x14), .val (.int x23), .val (.int l9_58), .val (.int x65), .val (.int x75), .val (.int x87), .val (.ref b3), .val (.int (bI ((x75 = l9_58) ∨ (x75 = x65)))), .val (.int r263)]) (S := fun s0_297 => [(.int s0_297), (.int r1_284)]) ?_ ?_
                          · intro T X s0_297 hs0_297
                            replace hs0_297 : s0_297 = (bI (x14 = (0 : Int32))) := hs0_297
                            subst hs0_297
                            show Goes p e below s _ n0 _ (T.setTop (mkF m 297 #[.val (.int p1), .val (.int p2), .val (.int p3), .val (.int p4), .val (.int p5), .val (.int p6), .val (.int x9), .val (.int x14), .val (.int x23), .val (.int l9_58), .val (.int x65), .val (.int x75), .val (.int x87), .val (.ref b3), .val (.int (bI ((x75 = l9_58) ∨ (x75 = x65)))), .val (.int r263)] [(.int (bI (x14 = (0 : Int32)))), (.int r1_284)]))
                            have hok3 : r1_284 = (bI (x14 = (0 : Int32))) := by
                              rw [own_isF (i := l9_58.toInt.toNat) hE1_284 (by omega) ((hFM _).mpr (by simp))]
                              refine bI_f (fun z => ?_)
                              simp only [Int32.lt_iff_toInt_lt, ← Int32.toInt_inj, Int32.reduceToInt] at *
                              omega
                            refine g_icmpA X at_297 (Or.inr (Or.inr rfl)) (q := 300) rfl (by decide) (t := 302) rfl (fun (c50 : r1_284 = (bI (x14 = (0 : Int32)))) => ?_) (fun (c50 : ¬ (r1_284 = (bI (x14 = (0 : Int32))))) => ?_)
                            · skip
                              refine g_aload X at_302 rfl (q := 304) rfl rfl ?_
                              refine g_callV X O_b3.1 [] [] (tw39 hw) (tw40 hw) (tw42 hw) (tw41 hw) (tw3 hw) (tw43 hw) (by decide) (rm8 l Z a0 hw [] b3 w1_95 h1_95 NW_95 NH_95 W1_136 H1_136 _ n0 X.size O_b3 A_w1_95 A_h1_95 g_w1_95 g_h1_95 ne_b3_w1_95 ne_b3_h1_95 ne_w1_95_b3 ne_w1_95_h1_95 ne_h1_95_b3 ne_h1_95_w1_95 hD_95 hIS1_136) pd6 rfl rfl rfl at_304 (q := 307) rfl (W := 0) rfl (by decide) (by decide) (c2 := 3) (s2 := 262) rfl rfl (by decide) (by decide) (fun v T h' X hQ => ?_)
                              obtain ⟨W1_304, H1_304, rfl, Kc, A_w1_95', A_h1_95', hZ1_304, hIS1_304⟩ := hQ
                              have O_b3 := O_b3.keep Kc (ninS ne_b3_w1_95 (ninS ne_b3_h1_95 nin0))
                              have A_w1_95 := A_w1_95'
                              have A_h1_95 := A_h1_95'
                              show Goes p e below s _ n0 _ (T.setTop (mkF m 307 #[.val (.int p1), .val (.int p2), .val (.int p3), .val (.int p4), .val (.int p5), .val (.int p6), .val (.int x9), .val (.int x14), .val (.int x23), .val (.int l9_58), .val (.int x65), .val (.int x75), .val (.int x87), .val (.ref b3), .val (.int (bI ((x75 = l9_58) ∨ (x75 = x65)))), .val (.int r263)] []))
                              refine g_aload X at_307 rfl (q := 309) rfl rfl ?_
                              refine g_callV X O_b3.1 [] [] (tw34 hw) (tw35 hw) (tw37 hw) (tw36 hw) (tw3 hw) (tw38 hw) (by decide) (rm7 l Z a0 hw [] b3 w1_95 h1_95 NW_95 NH_95 W1_304 H1_304 _ n0 X.size O_b3 A_w1_95 A_h1_95 hD_95 hIS1_304) pd5 rfl rfl rfl at_309 (q := 312) rfl (W := 0) rfl (by decide) (by decide) (c2 := 3) (s2 := 262) rfl rfl (by decide) (by decide) (fun v T h' X hQ => ?_)
                              obtain ⟨r1_309, rfl, Kc, hE1_309⟩ := hQ
                              have O_b3 := O_b3.keep Kc nin0
                              have A_w1_95 := A_w1_95.keep Kc nin0
                              have A_h1_95 := A_h1_95.keep Kc nin0
                              show Goes p e below s _ n0 _ (T.setTop (mkF m 312 #[.val (.int p1), .val (.int p2), .val (.int p3), .val (.int p4), .val (.int p5), .val (.int p6), .val (.int x9), .val (.int x14), .val (.int x23), .val (.int l9_58), .val (.int x65), .val (.int x75), .val (.int x87), .val (.ref b3), .val (.int (bI ((x75 = l9_58) ∨ (x75 = x65)))), .val (.int r263)] [(.int r1_309)]))
                              have hok4 : ¬ (r1_309 = (0 : Int32)) := by
                                rw [own_isT hE1_309 hZ1_304]; decide
                              refine g_ifB X at_312 (Or.inr (Or.inr rfl)) (q := 315) rfl (by decide) (t := 317) rfl (fun (c51 : r1_309 = (0 : Int32)) => ?_) (fun (c51 : ¬ (r1_309 = (0 : Int32))) => ?_)
                              · skip
                                exact absurd c51 hok4
                              · skip
                                refine g_aload X at_317 rfl (q := 319) rfl rfl ?_
                                refine g_iload X at_319 rfl (q := 321) rfl ?_
                                refine g_callV X O_b3.1 [(.int x75)] [] (tw15 hw) (tw16 hw) (tw18 hw) (tw17 hw) (tw3 hw) (tw19 hw) (by decide) (rm3 l Z a0 hw [] b3 x75 w1_95 h1_95 NW_95 W1_304 (x75.toInt.toNat) _ n0 X.size O_b3 A_w1_95 (own_pn (by omega)) (by omega) hD_95.2.1) pd3 rfl rfl rfl at_321 (q := 324) rfl (W := 0) rfl (by decide) (by decide) (c2 := 3) (s2 := 262) rfl rfl (by decide) (by decide) (fun v T h' X hQ => ?_)
                                obtain ⟨rfl, rfl⟩ := hQ
                                show Goes p e below s _ n0 _ (T.setTop (mkF m 324 #[.val (.int p1), .val (.int p2), .val (.int p3), .val (.int p4), .val (.int p5), .val (.int p6), .val (.int x9), .val (.int x14), .val (.int x23), .val (.int l9_58), .val (.int x65), .val (.int x75), .val (.int x87), .val (.ref b3), .val (.int (bI ((x75 = l9_58) ∨ (x75 = x65)))), .val (.int r263)] [(.int (bI (tb (W1_304 ((x75.toInt.toNat) / 64)) ((x75.toInt.toNat) % 64) = true)))]))
                                have hok5 : ¬ (tb (W1_304 ((x75.toInt.toNat) / 64)) ((x75.toInt.toNat) % 64) = true) := by
                                  exact own_emp hZ1_304 (i := x75.toInt.toNat) (by omega)
                                refine g_beq X at_324 (q := 327) rfl (by decide) (t := 329) rfl (fun (c52 : tb (W1_304 ((x75.toInt.toNat) / 64)) ((x75.toInt.toNat) % 64) = true) => ?_) (fun (c52 : ¬ (tb (W1_304 ((x75.toInt.toNat) / 64)) ((x75.toInt.toNat) % 64) = true)) => ?_)
                                · skip
                                  exact absurd c52 hok5
                                · skip
                                  refine g_iconst X at_329 rfl (q := 330) (v := 1) rfl ?_
                                  exact g_retZ X at_330 (by decide) (by decide) (by decide) rfl
                            · skip
                              exact absurd hok3 c50
                          · intro J297_52
                            refine g_ifB X at_289 (Or.inr (Or.inr rfl)) (q := 292) rfl (by decide) (t := 296) rfl (fun (c53 : x14 = (0 : Int32)) => ?_) (fun (c53 : ¬ (x14 = (0 : Int32))) => ?_)
                            · skip
                              have b_x14 : (0 : Int) ≤ x14.toInt ∧ x14.toInt ≤ 0 := by have z0 := c53; (try simp only [Int64.lt_iff_toInt_lt, Int32.lt_iff_toInt_lt, Int64.le_iff_toInt_le, Int32.le_iff_toInt_le, ← Int64.toInt_inj, ← Int32.toInt_inj, apply_ite Int64.toInt, apply_ite Int32.toInt, Int64.reduceToInt, Int32.reduceToInt, ne_eq] at z0); have z1 := rng32 x14; omega
                              refine g_iconst X at_292 rfl (q := 293) (v := 1) rfl ?_
                              refine g_goto X at_293 (by decide) (q := 297) rfl ?_
                              exact J297_52 T X _ (bI_t c53)
                            · skip
                              refine g_iconst X at_296 rfl (q := 297) (v := 0) rfl ?_
                              exact J297_52 T X _ (bI_f c53)
                        · skip
                          exact absurd hok2 c49
                  · skip
                    exact absurd c1 c46
                · replace c45 : ¬ ((tb (W1_136 ((x75.toInt.toNat) / 64)) ((x75.toInt.toNat) % 64) = true) ↔ ((x75 = l9_58) ∨ (x75 = x65))) := fun z => c45 ((bI_inj _ _).mpr z)
                  exact absurd hok1 c45
              · intro J183_53
                refine g_icmpA X at_162 (Or.inr (Or.inr rfl)) (q := 165) rfl (by decide) (t := 178) rfl (fun (c54 : x75 = l9_58) => ?_) (fun (c54 : ¬ (x75 = l9_58)) => ?_)
                · skip
                  refine g_iconst X at_178 rfl (q := 179) (v := 1) rfl ?_
                  refine g_goto X at_179 (by decide) (q := 183) rfl ?_
                  exact J183_53 T X _ (bI_t (Or.inl c54))
                · skip
                  refine g_iload X at_165 rfl (q := 167) rfl ?_
                  refine g_iconst X at_167 rfl (q := 168) (v := 3) rfl ?_
                  refine g_icmpA X at_168 (Or.inl rfl) (q := 171) rfl (by decide) (t := 182) rfl (fun (c55 : x14 < (3 : Int32)) => ?_) (fun (c55 : ¬ (x14 < (3 : Int32))) => ?_)
                  · skip
                    exact absurd c55 c29
                  · skip
                    refine g_iload X at_171 rfl (q := 173) rfl ?_
                    refine g_iload X at_173 rfl (q := 175) rfl ?_
                    refine g_icmpB X at_175 (Or.inr (Or.inr rfl)) (q := 178) rfl (by decide) (t := 182) rfl (fun (c56 : x75 = x65) => ?_) (fun (c56 : ¬ (x75 = x65)) => ?_)
                    · skip
                      refine g_iconst X at_178 rfl (q := 179) (v := 1) rfl ?_
                      refine g_goto X at_179 (by decide) (q := 183) rfl ?_
                      exact J183_53 T X _ (bI_t (Or.inr c56))
                    · skip
                      refine g_iconst X at_182 rfl (q := 183) (v := 0) rfl ?_
                      exact J183_53 T X _ (bI_f (fun z => z.elim c54 c56))
          · skip
            exact absurd c1 c43
    · skip
      have b_x14 : (1 : Int) ≤ x14.toInt ∧ x14.toInt ≤ 2147483647 := by have z0 := c1; (try simp only [Int64.lt_iff_toInt_lt, Int32.lt_iff_toInt_lt, Int64.le_iff_toInt_le, Int32.le_iff_toInt_le, ← Int64.toInt_inj, ← Int32.toInt_inj, apply_ite Int64.toInt, apply_ite Int32.toInt, Int64.reduceToInt, Int32.reduceToInt, ne_eq] at z0); have z1 := rng32 x14; omega
      refine g_aload X at_106 rfl (q := 108) rfl rfl ?_
      refine g_iload X at_108 rfl (q := 110) rfl ?_
      refine g_callV X O_b3.1 [(.int x23)] [] (tw44 hw) (tw45 hw) (tw47 hw) (tw46 hw) (tw3 hw) (tw48 hw) (by decide) (rm9 l Z a0 hw [] b3 x23 w1_95 h1_95 NW_95 NH_95 (fun _ => 0) (fun _ => 0) (x23.toInt.toNat) _ n0 X.size O_b3 A_w1_95 A_h1_95 g_w1_95 g_h1_95 ne_b3_w1_95 ne_b3_h1_95 ne_w1_95_b3 ne_w1_95_h1_95 ne_h1_95_b3 ne_h1_95_w1_95 (own_pn (by omega)) (by omega) hD_95 (own_is0 _ _)) pd2 rfl rfl rfl at_110 (q := 113) rfl (W := 0) rfl (by decide) (by decide) (c2 := 3) (s2 := 262) rfl rfl (by decide) (by decide) (fun v T h' X hQ => ?_)
      obtain ⟨W1_110, H1_110, rfl, Kc, A_w1_95', A_h1_95', hIS1_110, hM1_110⟩ := hQ
      have O_b3 := O_b3.keep Kc (ninS ne_b3_w1_95 (ninS ne_b3_h1_95 nin0))
      have A_w1_95 := A_w1_95'
      have A_h1_95 := A_h1_95'
      show Goes p e below s _ n0 _ (T.setTop (mkF m 113 #[.val (.int p1), .val (.int p2), .val (.int p3), .val (.int p4), .val (.int p5), .val (.int p6), .val (.int x9), .val (.int x14), .val (.int x23), .val (.int l9_58), .val (.int x65), .val (.int x75), .val (.int x87), .val (.ref b3), .unset, .unset] []))
      refine g_iload X at_113 rfl (q := 115) rfl ?_
      refine g_iconst X at_115 rfl (q := 116) (v := 2) rfl ?_
      refine g_icmpA X at_116 (Or.inl rfl) (q := 119) rfl (by decide) (t := 126) rfl (fun (c57 : x14 < (2 : Int32)) => ?_) (fun (c57 : ¬ (x14 < (2 : Int32))) => ?_)
      · skip
        have b_x14 : (1 : Int) ≤ x14.toInt ∧ x14.toInt ≤ 1 := by have z0 := c57; (try simp only [Int64.lt_iff_toInt_lt, Int32.lt_iff_toInt_lt, Int64.le_iff_toInt_le, Int32.le_iff_toInt_le, ← Int64.toInt_inj, ← Int32.toInt_inj, apply_ite Int64.toInt, apply_ite Int32.toInt, Int64.reduceToInt, Int32.reduceToInt, ne_eq] at z0); have z1 := rng32 x14; omega
        refine g_iload X at_126 rfl (q := 128) rfl ?_
        refine g_iconst X at_128 rfl (q := 129) (v := 3) rfl ?_
        refine g_icmpA X at_129 (Or.inl rfl) (q := 132) rfl (by decide) (t := 139) rfl (fun (c58 : x14 < (3 : Int32)) => ?_) (fun (c58 : ¬ (x14 < (3 : Int32))) => ?_)
        · skip
          have hFM : ∀ j, mem W1_110 j ↔ (False ∨ j = x23.toInt.toNat) := fun j => by rw [hM1_110 j]; simp [own_mem0]
          refine g_iload X at_139 rfl (q := 141) rfl ?_
          refine g_iconst X at_141 rfl (q := 142) (v := 1) rfl ?_
          refine g_icmpA X at_142 (Or.inl rfl) (q := 145) rfl (by decide) (t := 152) rfl (fun (c59 : x14 < (1 : Int32)) => ?_) (fun (c59 : ¬ (x14 < (1 : Int32))) => ?_)
          · skip
            exact absurd c59 c1
          · skip
            refine g_iload X at_145 rfl (q := 147) rfl ?_
            refine g_iload X at_147 rfl (q := 149) rfl ?_
            refine g_jT1 X (J := 183) (P := fun (s0_183 : Int32) => s0_183 = (bI (x75 = x23))) (L := fun s0_183 => #[.val (.int p1), .val (.int p2), .val (.int p3), .val (.int p4), .val (.int p5), .val (.int p6), .val (.int x9), .val (.int x14), .val (.int x23), .val (.int l9_58), .val (.int x65), .val (.int x75), .val (.int x87), .val (.ref b3), .unset, .unset]) (S := fun s0_183 => [(.int s0_183)]) ?_ ?_
            · intro T X s0_183 hs0_183
              replace hs0_183 : s0_183 = (bI (x75 = x23)) := hs0_183
              subst hs0_183
              show Goes p e below s _ n0 _ (T.setTop (mkF m 183 #[.val (.int p1), .val (.int p2), .val (.int p3), .val (.int p4), .val (.int p5), .val (.int p6), .val (.int x9), .val (.int x14), .val (.int x23), .val (.int l9_58), .val (.int x65), .val (.int x75), .val (.int x87), .val (.ref b3), .unset, .unset] [(.int (bI (x75 = x23)))]))
              refine g_istore X at_183 rfl (q := 185) (L' := #[.val (.int p1), .val (.int p2), .val (.int p3), .val (.int p4), .val (.int p5), .val (.int p6), .val (.int x9), .val (.int x14), .val (.int x23), .val (.int l9_58), .val (.int x65), .val (.int x75), .val (.int x87), .val (.ref b3), .val (.int (bI (x75 = x23))), .unset]) rfl ?_
              refine g_aload X at_185 rfl (q := 187) rfl rfl ?_
              refine g_iload X at_187 rfl (q := 189) rfl ?_
              refine g_callV X O_b3.1 [(.int x75)] [] (tw15 hw) (tw16 hw) (tw18 hw) (tw17 hw) (tw3 hw) (tw19 hw) (by decide) (rm3 l Z a0 hw [] b3 x75 w1_95 h1_95 NW_95 W1_110 (x75.toInt.toNat) _ n0 X.size O_b3 A_w1_95 (own_pn (by omega)) (by omega) hD_95.2.1) pd3 rfl rfl rfl at_189 (q := 192) rfl (W := 0) rfl (by decide) (by decide) (c2 := 3) (s2 := 262) rfl rfl (by decide) (by decide) (fun v T h' X hQ => ?_)
              obtain ⟨rfl, rfl⟩ := hQ
              show Goes p e below s _ n0 _ (T.setTop (mkF m 192 #[.val (.int p1), .val (.int p2), .val (.int p3), .val (.int p4), .val (.int p5), .val (.int p6), .val (.int x9), .val (.int x14), .val (.int x23), .val (.int l9_58), .val (.int x65), .val (.int x75), .val (.int x87), .val (.ref b3), .val (.int (bI (x75 = x23))), .unset] [(.int (bI (tb (W1_110 ((x75.toInt.toNat) / 64)) ((x75.toInt.toNat) % 64) = true)))]))
              refine g_iload X at_192 rfl (q := 194) rfl ?_
              have hok1 : (tb (W1_110 ((x75.toInt.toNat) / 64)) ((x75.toInt.toNat) % 64) = true) ↔ (x75 = x23) := by
                refine (show mem W1_110 x75.toInt.toNat ↔ _ from hFM _).trans ?_
                simp only [← Int32.toInt_inj, false_or]; omega
              refine g_icmpA X at_194 (Or.inr (Or.inr rfl)) (q := 197) rfl (by decide) (t := 199) rfl (fun c60 => ?_) (fun c60 => ?_)
              · replace c60 : (tb (W1_110 ((x75.toInt.toNat) / 64)) ((x75.toInt.toNat) % 64) = true) ↔ (x75 = x23) := (bI_inj _ _).mp c60
                refine g_iconst X at_199 rfl (q := 200) (v := -1) rfl ?_
                refine g_istore X at_200 rfl (q := 202) (L' := #[.val (.int p1), .val (.int p2), .val (.int p3), .val (.int p4), .val (.int p5), .val (.int p6), .val (.int x9), .val (.int x14), .val (.int x23), .val (.int l9_58), .val (.int x65), .val (.int x75), .val (.int x87), .val (.ref b3), .val (.int (bI (x75 = x23))), .val (.int (-1 : Int32))]) rfl ?_
                refine g_iload X at_202 rfl (q := 204) rfl ?_
                refine g_iload X at_204 rfl (q := 206) rfl ?_
                refine g_iconst X at_206 rfl (q := 207) (v := 1) rfl ?_
                refine g_icmpA X at_207 (Or.inl rfl) (q := 210) rfl (by decide) (t := 214) rfl (fun (c61 : x14 < (1 : Int32)) => ?_) (fun (c61 : ¬ (x14 < (1 : Int32))) => ?_)
                · skip
                  exact absurd c61 c1
                · skip
                  refine g_iconst X at_210 rfl (q := 211) (v := 1) rfl ?_
                  refine g_goto X at_211 (by decide) (q := 215) rfl ?_
                  refine g_iload X at_215 rfl (q := 217) rfl ?_
                  refine g_iload X at_217 rfl (q := 219) rfl ?_
                  refine g_callS X [(.int x23), (.int (1 : Int32)), (.int x87), (.int (-1 : Int32))] [] (tw20 hw) (tw21 hw) (tw22 hw) (tw23 hw) (by decide) (rm4 l Z a0 hw [] x23 True x87 (-1 : Int32) _ n0 X.size) pd4 rfl rfl rfl at_219 (q := 222) rfl (W := 0) rfl (by decide) (by decide) (c2 := 3) (s2 := 262) rfl rfl (by decide) (by decide) (fun v T h' X hQ => ?_)
                  obtain ⟨rfl, rfl⟩ := hQ
                  show Goes p e below s _ n0 _ (T.setTop (mkF m 222 #[.val (.int p1), .val (.int p2), .val (.int p3), .val (.int p4), .val (.int p5), .val (.int p6), .val (.int x9), .val (.int x14), .val (.int x23), .val (.int l9_58), .val (.int x65), .val (.int x75), .val (.int x87), .val (.ref b3), .val (.int (bI (x75 = x23))), .val (.int (-1 : Int32))] [(.int (if True then (if x23 < x87 then (-1 : Int32) else (if (-1 : Int32) < (0 : Int32) then x23 else (if x23 < (-1 : Int32) then x23 else (-1 : Int32)))) else (-1 : Int32)))]))
                  refine g_letI (fun r219 hr219 => ?_)
                  have hcb222 := own_cbT (own_pn (x := x23) (by omega)) (by omega) (own_pn (x := x87) (by omega)) (by omega) (own_cb0 (x87.toInt.toNat)) hr219
                  refine g_istore X at_222 rfl (q := 224) (L' := #[.val (.int p1), .val (.int p2), .val (.int p3), .val (.int p4), .val (.int p5), .val (.int p6), .val (.int x9), .val (.int x14), .val (.int x23), .val (.int l9_58), .val (.int x65), .val (.int x75), .val (.int x87), .val (.ref b3), .val (.int (bI (x75 = x23))), .val (.int r219)]) rfl ?_
                  refine g_iload X at_224 rfl (q := 226) rfl ?_
                  refine g_iload X at_226 rfl (q := 228) rfl ?_
                  refine g_iconst X at_228 rfl (q := 229) (v := 2) rfl ?_
                  refine g_icmpA X at_229 (Or.inl rfl) (q := 232) rfl (by decide) (t := 236) rfl (fun (c62 : x14 < (2 : Int32)) => ?_) (fun (c62 : ¬ (x14 < (2 : Int32))) => ?_)
                  · skip
                    refine g_iconst X at_236 rfl (q := 237) (v := 0) rfl ?_
                    refine g_iload X at_237 rfl (q := 239) rfl ?_
                    refine g_iload X at_239 rfl (q := 241) rfl ?_
                    refine g_callS X [(.int l9_58), (.int (0 : Int32)), (.int x87), (.int r219)] [] (tw20 hw) (tw21 hw) (tw22 hw) (tw23 hw) (by decide) (rm4 l Z a0 hw [] l9_58 False x87 r219 _ n0 X.size) pd4 rfl rfl rfl at_241 (q := 244) rfl (W := 0) rfl (by decide) (by decide) (c2 := 3) (s2 := 262) rfl rfl (by decide) (by decide) (fun v T h' X hQ => ?_)
                    obtain ⟨rfl, rfl⟩ := hQ
                    show Goes p e below s _ n0 _ (T.setTop (mkF m 244 #[.val (.int p1), .val (.int p2), .val (.int p3), .val (.int p4), .val (.int p5), .val (.int p6), .val (.int x9), .val (.int x14), .val (.int x23), .val (.int l9_58), .val (.int x65), .val (.int x75), .val (.int x87), .val (.ref b3), .val (.int (bI (x75 = x23))), .val (.int r219)] [(.int (if False then (if l9_58 < x87 then r219 else (if r219 < (0 : Int32) then l9_58 else (if l9_58 < r219 then l9_58 else r219))) else r219))]))
                    refine g_letI (fun r241 hr241 => ?_)
                    have hcb244 := own_cbF (hcb222) hr241
                    refine g_istore X at_244 rfl (q := 246) (L' := #[.val (.int p1), .val (.int p2), .val (.int p3), .val (.int p4), .val (.int p5), .val (.int p6), .val (.int x9), .val (.int x14), .val (.int x23), .val (.int l9_58), .val (.int x65), .val (.int x75), .val (.int x87), .val (.ref b3), .val (.int (bI (x75 = x23))), .val (.int r241)]) rfl ?_
                    refine g_iload X at_246 rfl (q := 248) rfl ?_
                    refine g_iload X at_248 rfl (q := 250) rfl ?_
                    refine g_iconst X at_250 rfl (q := 251) (v := 3) rfl ?_
                    refine g_icmpA X at_251 (Or.inl rfl) (q := 254) rfl (by decide) (t := 258) rfl (fun (c63 : x14 < (3 : Int32)) => ?_) (fun (c63 : ¬ (x14 < (3 : Int32))) => ?_)
                    · skip
                      refine g_iconst X at_258 rfl (q := 259) (v := 0) rfl ?_
                      refine g_iload X at_259 rfl (q := 261) rfl ?_
                      refine g_iload X at_261 rfl (q := 263) rfl ?_
                      refine g_callS X [(.int x65), (.int (0 : Int32)), (.int x87), (.int r241)] [] (tw20 hw) (tw21 hw) (tw22 hw) (tw23 hw) (by decide) (rm4 l Z a0 hw [] x65 False x87 r241 _ n0 X.size) pd4 rfl rfl rfl at_263 (q := 266) rfl (W := 0) rfl (by decide) (by decide) (c2 := 3) (s2 := 262) rfl rfl (by decide) (by decide) (fun v T h' X hQ => ?_)
                      obtain ⟨rfl, rfl⟩ := hQ
                      show Goes p e below s _ n0 _ (T.setTop (mkF m 266 #[.val (.int p1), .val (.int p2), .val (.int p3), .val (.int p4), .val (.int p5), .val (.int p6), .val (.int x9), .val (.int x14), .val (.int x23), .val (.int l9_58), .val (.int x65), .val (.int x75), .val (.int x87), .val (.ref b3), .val (.int (bI (x75 = x23))), .val (.int r241)] [(.int (if False then (if x65 < x87 then r241 else (if r241 < (0 : Int32) then x65 else (if x65 < r241 then x65 else r241))) else r241))]))
                      refine g_letI (fun r263 hr263 => ?_)
                      have hcb266 := own_cbF (hcb244) hr263
                      refine g_istore X at_266 rfl (q := 268) (L' := #[.val (.int p1), .val (.int p2), .val (.int p3), .val (.int p4), .val (.int p5), .val (.int p6), .val (.int x9), .val (.int x14), .val (.int x23), .val (.int l9_58), .val (.int x65), .val (.int x75), .val (.int x87), .val (.ref b3), .val (.int (bI (x75 = x23))), .val (.int r263)]) rfl ?_
                      refine g_aload X at_268 rfl (q := 270) rfl rfl ?_
                      refine g_iload X at_270 rfl (q := 272) rfl ?_
                      refine g_callV X O_b3.1 [(.int x87)] [] (tw24 hw) (tw25 hw) (tw27 hw) (tw26 hw) (tw3 hw) (tw28 hw) (by decide) (rm5 l Z a0 hw [] b3 x87 w1_95 h1_95 NW_95 NH_95 W1_110 H1_110 (x87.toInt.toNat) _ n0 X.size O_b3 A_w1_95 A_h1_95 (own_pn (by omega)) (by omega) hD_95 hIS1_110) pd0 rfl rfl rfl at_272 (q := 275) rfl (W := 0) rfl (by decide) (by decide) (c2 := 3) (s2 := 262) rfl rfl (by decide) (by decide) (fun v T h' X hQ => ?_)
                      obtain ⟨r1_272, rfl, Kc, hX1_272⟩ := hQ
                      have O_b3 := O_b3.keep Kc nin0
                      have A_w1_95 := A_w1_95.keep Kc nin0
                      have A_h1_95 := A_h1_95.keep Kc nin0
                      show Goes p e below s _ n0 _ (T.setTop (mkF m 275 #[.val (.int p1), .val (.int p2), .val (.int p3), .val (.int p4), .val (.int p5), .val (.int p6), .val (.int x9), .val (.int x14), .val (.int x23), .val (.int l9_58), .val (.int x65), .val (.int x75), .val (.int x87), .val (.ref b3), .val (.int (bI (x75 = x23))), .val (.int r263)] [(.int r1_272)]))
                      refine g_iload X at_275 rfl (q := 277) rfl ?_
                      have hok2 : r1_272 = r263 := by
                        exact own_cbN hX1_272 hFM (fun j hj => by revert hj; simp only [false_or]; omega) hcb266
                      refine g_icmpA X at_277 (Or.inr (Or.inr rfl)) (q := 280) rfl (by decide) (t := 282) rfl (fun (c64 : r1_272 = r263) => ?_) (fun (c64 : ¬ (r1_272 = r263)) => ?_)
                      · skip
                        refine g_aload X at_282 rfl (q := 284) rfl rfl ?_
                        refine g_callV X O_b3.1 [] [] (tw34 hw) (tw35 hw) (tw37 hw) (tw36 hw) (tw3 hw) (tw38 hw) (by decide) (rm7 l Z a0 hw [] b3 w1_95 h1_95 NW_95 NH_95 W1_110 H1_110 _ n0 X.size O_b3 A_w1_95 A_h1_95 hD_95 hIS1_110) pd5 rfl rfl rfl at_284 (q := 287) rfl (W := 0) rfl (by decide) (by decide) (c2 := 3) (s2 := 262) rfl rfl (by decide) (by decide) (fun v T h' X hQ => ?_)
                        obtain ⟨r1_284, rfl, Kc, hE1_284⟩ := hQ
                        have O_b3 := O_b3.keep Kc nin0
                        have A_w1_95 := A_w1_95.keep Kc nin0
                        have A_h1_95 := A_h1_95.keep Kc nin0
                        show Goes p e below s _ n0 _ (T.setTop (mkF m 287 #[.val (.int p1), .val (.int p2), .val (.int p3), .val (.int p4), .val (.int p5), .val (.int p6), .val (.int x9), .val (.int x14), .val (.int x23), .val (.int l9_58), .val (.int x65), .val (.int x75), .val (.int x87), .val (.ref b3), .val (.int (bI (x75 = x23))), .val (.int r263)] [(.int r1_284)]))
                        refine g_iload X at_287 rfl (q := 289) rfl ?_
                        refine g_jT1 X (J := 297) (P := fun (s0_297 : Int32) => s0_297 = (bI (x14 = (0 : Int32)))) (L := fun s0_297 => #[.val (.int p1), .val (.int p2), .val (.int p3), .val (.int p4), .val (.int p5), .val (.int p6), .val (.int x9), .val (.int x14), .val (.int x23), .val (.int l9_58), .val (.int x65), .val (.int x75), .val (.int x87), .val (.ref b3), .val (.int (bI (x75 = x23))), .val (.int r263)]) (S := fun s0_297 => [(.int s0_297), (.int r1_284)]) ?_ ?_
                        · intro T X s0_297 hs0_297
                          replace hs0_297 : s0_297 = (bI (x14 = (0 : Int32))) := hs0_297
                          subst hs0_297
                          show Goes p e below s _ n0 _ (T.setTop (mkF m 297 #[.val (.int p1), .val (.int p2), .val (.int p3), .val (.int p4), .val (.int p5), .val (.int p6), .val (.int x9), .val (.int x14), .val (.int x23), .val (.int l9_58), .val (.int x65), .val (.int x75), .val (.int x87), .val (.ref b3), .val (.int (bI (x75 = x23))), .val (.int r263)] [(.int (bI (x14 = (0 : Int32)))), (.int r1_284)]))
                          have hok3 : r1_284 = (bI (x14 = (0 : Int32))) := by
                            rw [own_isF (i := x23.toInt.toNat) hE1_284 (by omega) ((hFM _).mpr (by simp))]
                            refine bI_f (fun z => ?_)
                            simp only [Int32.lt_iff_toInt_lt, ← Int32.toInt_inj, Int32.reduceToInt] at *
                            omega
                          refine g_icmpA X at_297 (Or.inr (Or.inr rfl)) (q := 300) rfl (by decide) (t := 302) rfl (fun (c65 : r1_284 = (bI (x14 = (0 : Int32)))) => ?_) (fun (c65 : ¬ (r1_284 = (bI (x14 = (0 : Int32))))) => ?_)
                          · skip
                            refine g_aload X at_302 rfl (q := 304) rfl rfl ?_
                            refine g_callV X O_b3.1 [] [] (tw39 hw) (tw40 hw) (tw42 hw) (tw41 hw) (tw3 hw) (tw43 hw) (by decide) (rm8 l Z a0 hw [] b3 w1_95 h1_95 NW_95 NH_95 W1_110 H1_110 _ n0 X.size O_b3 A_w1_95 A_h1_95 g_w1_95 g_h1_95 ne_b3_w1_95 ne_b3_h1_95 ne_w1_95_b3 ne_w1_95_h1_95 ne_h1_95_b3 ne_h1_95_w1_95 hD_95 hIS1_110) pd6 rfl rfl rfl at_304 (q := 307) rfl (W := 0) rfl (by decide) (by decide) (c2 := 3) (s2 := 262) rfl rfl (by decide) (by decide) (fun v T h' X hQ => ?_)
                            obtain ⟨W1_304, H1_304, rfl, Kc, A_w1_95', A_h1_95', hZ1_304, hIS1_304⟩ := hQ
                            have O_b3 := O_b3.keep Kc (ninS ne_b3_w1_95 (ninS ne_b3_h1_95 nin0))
                            have A_w1_95 := A_w1_95'
                            have A_h1_95 := A_h1_95'
                            show Goes p e below s _ n0 _ (T.setTop (mkF m 307 #[.val (.int p1), .val (.int p2), .val (.int p3), .val (.int p4), .val (.int p5), .val (.int p6), .val (.int x9), .val (.int x14), .val (.int x23), .val (.int l9_58), .val (.int x65), .val (.int x75), .val (.int x87), .val (.ref b3), .val (.int (bI (x75 = x23))), .val (.int r263)] []))
                            refine g_aload X at_307 rfl (q := 309) rfl rfl ?_
                            refine g_callV X O_b3.1 [] [] (tw34 hw) (tw35 hw) (tw37 hw) (tw36 hw) (tw3 hw) (tw38 hw) (by decide) (rm7 l Z a0 hw [] b3 w1_95 h1_95 NW_95 NH_95 W1_304 H1_304 _ n0 X.size O_b3 A_w1_95 A_h1_95 hD_95 hIS1_304) pd5 rfl rfl rfl at_309 (q := 312) rfl (W := 0) rfl (by decide) (by decide) (c2 := 3) (s2 := 262) rfl rfl (by decide) (by decide) (fun v T h' X hQ => ?_)
                            obtain ⟨r1_309, rfl, Kc, hE1_309⟩ := hQ
                            have O_b3 := O_b3.keep Kc nin0
                            have A_w1_95 := A_w1_95.keep Kc nin0
                            have A_h1_95 := A_h1_95.keep Kc nin0
                            show Goes p e below s _ n0 _ (T.setTop (mkF m 312 #[.val (.int p1), .val (.int p2), .val (.int p3), .val (.int p4), .val (.int p5), .val (.int p6), .val (.int x9), .val (.int x14), .val (.int x23), .val (.int l9_58), .val (.int x65), .val (.int x75), .val (.int x87), .val (.ref b3), .val (.int (bI (x75 = x23))), .val (.int r263)] [(.int r1_309)]))
                            have hok4 : ¬ (r1_309 = (0 : Int32)) := by
                              rw [own_isT hE1_309 hZ1_304]; decide
                            refine g_ifB X at_312 (Or.inr (Or.inr rfl)) (q := 315) rfl (by decide) (t := 317) rfl (fun (c66 : r1_309 = (0 : Int32)) => ?_) (fun (c66 : ¬ (r1_309 = (0 : Int32))) => ?_)
                            · skip
                              exact absurd c66 hok4
                            · skip
                              refine g_aload X at_317 rfl (q := 319) rfl rfl ?_
                              refine g_iload X at_319 rfl (q := 321) rfl ?_
                              refine g_callV X O_b3.1 [(.int x75)] [] (tw15 hw) (tw16 hw) (tw18 hw) (tw17 hw) (tw3 hw) (tw19 hw) (by decide) (rm3 l Z a0 hw [] b3 x75 w1_95 h1_95 NW_95 W1_304 (x75.toInt.toNat) _ n0 X.size O_b3 A_w1_95 (own_pn (by omega)) (by omega) hD_95.2.1) pd3 rfl rfl rfl at_321 (q := 324) rfl (W := 0) rfl (by decide) (by decide) (c2 := 3) (s2 := 262) rfl rfl (by decide) (by decide) (fun v T h' X hQ => ?_)
                              obtain ⟨rfl, rfl⟩ := hQ
                              show Goes p e below s _ n0 _ (T.setTop (mkF m 324 #[.val (.int p1), .val (.int p2), .val (.int p3), .val (.int p4), .val (.int p5), .val (.int p6), .val (.int x9), .val (.int x14), .val (.int x23), .val (.int l9_58), .val (.int x65), .val (.int x75), .val (.int x87), .val (.ref b3), .val (.int (bI (x75 = x23))), .val (.int r263)] [(.int (bI (tb (W1_304 ((x75.toInt.toNat) / 64)) ((x75.toInt.toNat) % 64) = true)))]))
                              have hok5 : ¬ (tb (W1_304 ((x75.toInt.toNat) / 64)) ((x75.toInt.toNat) % 64) = true) := by
                                exact own_emp hZ1_304 (i := x75.toInt.toNat) (by omega)
                              refine g_beq X at_324 (q := 327) rfl (by decide) (t := 329) rfl (fun (c67 : tb (W1_304 ((x75.toInt.toNat) / 64)) ((x75.toInt.toNat) % 64) = true) => ?_) (fun (c67 : ¬ (tb (W1_304 ((x75.toInt.toNat) / 64)) ((x75.toInt.toNat) % 64) = true)) => ?_)
                              · skip
                                exact absurd c67 hok5
                              · skip
                                refine g_iconst X at_329 rfl (q := 330) (v := 1) rfl ?_
                                exact g_retZ X at_330 (by decide) (by decide) (by decide) rfl
                          · skip
                            exact absurd hok3 c65
                        · intro J297_67
                          refine g_ifB X at_289 (Or.inr (Or.inr rfl)) (q := 292) rfl (by decide) (t := 296) rfl (fun (c68 : x14 = (0 : Int32)) => ?_) (fun (c68 : ¬ (x14 = (0 : Int32))) => ?_)
                          · skip
                            have b_x14 : (0 : Int) ≤ x14.toInt ∧ x14.toInt ≤ 0 := by have z0 := c68; (try simp only [Int64.lt_iff_toInt_lt, Int32.lt_iff_toInt_lt, Int64.le_iff_toInt_le, Int32.le_iff_toInt_le, ← Int64.toInt_inj, ← Int32.toInt_inj, apply_ite Int64.toInt, apply_ite Int32.toInt, Int64.reduceToInt, Int32.reduceToInt, ne_eq] at z0); have z1 := rng32 x14; omega
                            refine g_iconst X at_292 rfl (q := 293) (v := 1) rfl ?_
                            refine g_goto X at_293 (by decide) (q := 297) rfl ?_
                            exact J297_67 T X _ (bI_t c68)
                          · skip
                            refine g_iconst X at_296 rfl (q := 297) (v := 0) rfl ?_
                            exact J297_67 T X _ (bI_f c68)
                      · skip
                        exact absurd hok2 c64
                    · skip
                      exact absurd c58 c63
                  · skip
                    exact absurd c57 c62
              · replace c60 : ¬ ((tb (W1_110 ((x75.toInt.toNat) / 64)) ((x75.toInt.toNat) % 64) = true) ↔ (x75 = x23)) := fun z => c60 ((bI_inj _ _).mpr z)
                exact absurd hok1 c60
            · intro J183_68
              refine g_icmpA X at_149 (Or.inr (Or.inr rfl)) (q := 152) rfl (by decide) (t := 178) rfl (fun (c69 : x75 = x23) => ?_) (fun (c69 : ¬ (x75 = x23)) => ?_)
              · skip
                refine g_iconst X at_178 rfl (q := 179) (v := 1) rfl ?_
                refine g_goto X at_179 (by decide) (q := 183) rfl ?_
                exact J183_68 T X _ (bI_t c69)
              · skip
                refine g_iload X at_152 rfl (q := 154) rfl ?_
                refine g_iconst X at_154 rfl (q := 155) (v := 2) rfl ?_
                refine g_icmpA X at_155 (Or.inl rfl) (q := 158) rfl (by decide) (t := 165) rfl (fun (c70 : x14 < (2 : Int32)) => ?_) (fun (c70 : ¬ (x14 < (2 : Int32))) => ?_)
                · skip
                  refine g_iload X at_165 rfl (q := 167) rfl ?_
                  refine g_iconst X at_167 rfl (q := 168) (v := 3) rfl ?_
                  refine g_icmpA X at_168 (Or.inl rfl) (q := 171) rfl (by decide) (t := 182) rfl (fun (c71 : x14 < (3 : Int32)) => ?_) (fun (c71 : ¬ (x14 < (3 : Int32))) => ?_)
                  · skip
                    refine g_iconst X at_182 rfl (q := 183) (v := 0) rfl ?_
                    exact J183_68 T X _ (bI_f c69)
                  · skip
                    exact absurd c58 c71
                · skip
                  exact absurd c57 c70
        · skip
          have b_x14 : (3 : Int) ≤ x14.toInt ∧ x14.toInt ≤ 1 := by have z0 := c58; (try simp only [Int64.lt_iff_toInt_lt, Int32.lt_iff_toInt_lt, Int64.le_iff_toInt_le, Int32.le_iff_toInt_le, ← Int64.toInt_inj, ← Int32.toInt_inj, apply_ite Int64.toInt, apply_ite Int32.toInt, Int64.reduceToInt, Int32.reduceToInt, ne_eq] at z0); have z1 := rng32 x14; omega
          refine g_aload X at_132 rfl (q := 134) rfl rfl ?_
          refine g_iload X at_134 rfl (q := 136) rfl ?_
          refine g_callV X O_b3.1 [(.int x65)] [] (tw44 hw) (tw45 hw) (tw47 hw) (tw46 hw) (tw3 hw) (tw48 hw) (by decide) (rm9 l Z a0 hw [] b3 x65 w1_95 h1_95 NW_95 NH_95 W1_110 H1_110 (x65.toInt.toNat) _ n0 X.size O_b3 A_w1_95 A_h1_95 g_w1_95 g_h1_95 ne_b3_w1_95 ne_b3_h1_95 ne_w1_95_b3 ne_w1_95_h1_95 ne_h1_95_b3 ne_h1_95_w1_95 (own_pn (by omega)) (by omega) hD_95 hIS1_110) pd2 rfl rfl rfl at_136 (q := 139) rfl (W := 0) rfl (by decide) (by decide) (c2 := 3) (s2 := 262) rfl rfl (by decide) (by decide) (fun v T h' X hQ => ?_)
          obtain ⟨W1_136, H1_136, rfl, Kc, A_w1_95', A_h1_95', hIS1_136, hM1_136⟩ := hQ
          have O_b3 := O_b3.keep Kc (ninS ne_b3_w1_95 (ninS ne_b3_h1_95 nin0))
          have A_w1_95 := A_w1_95'
          have A_h1_95 := A_h1_95'
          show Goes p e below s _ n0 _ (T.setTop (mkF m 139 #[.val (.int p1), .val (.int p2), .val (.int p3), .val (.int p4), .val (.int p5), .val (.int p6), .val (.int x9), .val (.int x14), .val (.int x23), .val (.int l9_58), .val (.int x65), .val (.int x75), .val (.int x87), .val (.ref b3), .unset, .unset] []))
          have hFM : ∀ j, mem W1_136 j ↔ ((False ∨ j = x23.toInt.toNat) ∨ j = x65.toInt.toNat) := fun j => by rw [hM1_136 j, hM1_110 j]; simp [own_mem0]
          refine g_iload X at_139 rfl (q := 141) rfl ?_
          refine g_iconst X at_141 rfl (q := 142) (v := 1) rfl ?_
          refine g_icmpA X at_142 (Or.inl rfl) (q := 145) rfl (by decide) (t := 152) rfl (fun (c72 : x14 < (1 : Int32)) => ?_) (fun (c72 : ¬ (x14 < (1 : Int32))) => ?_)
          · skip
            exact absurd c72 c1
          · skip
            refine g_iload X at_145 rfl (q := 147) rfl ?_
            refine g_iload X at_147 rfl (q := 149) rfl ?_
            refine g_jT1 X (J := 183) (P := fun (s0_183 : Int32) => s0_183 = (bI ((x75 = x23) ∨ (x75 = x65)))) (L := fun s0_183 => #[.val (.int p1), .val (.int p2), .val (.int p3), .val (.int p4), .val (.int p5), .val (.int p6), .val (.int x9), .val (.int x14), .val (.int x23), .val (.int l9_58), .val (.int x65), .val (.int x75), .val (.int x87), .val (.ref b3), .unset, .unset]) (S := fun s0_183 => [(.int s0_183)]) ?_ ?_
            · intro T X s0_183 hs0_183
              replace hs0_183 : s0_183 = (bI ((x75 = x23) ∨ (x75 = x65))) := hs0_183
              subst hs0_183
              show Goes p e below s _ n0 _ (T.setTop (mkF m 183 #[.val (.int p1), .val (.int p2), .val (.int p3), .val (.int p4), .val (.int p5), .val (.int p6), .val (.int x9), .val (.int x14), .val (.int x23), .val (.int l9_58), .val (.int x65), .val (.int x75), .val (.int x87), .val (.ref b3), .unset, .unset] [(.int (bI ((x75 = x23) ∨ (x75 = x65))))]))
              refine g_istore X at_183 rfl (q := 185) (L' := #[.val (.int p1), .val (.int p2), .val (.int p3), .val (.int p4), .val (.int p5), .val (.int p6), .val (.int x9), .val (.int x14), .val (.int x23), .val (.int l9_58), .val (.int x65), .val (.int x75), .val (.int x87), .val (.ref b3), .val (.int (bI ((x75 = x23) ∨ (x75 = x65)))), .unset]) rfl ?_
              refine g_aload X at_185 rfl (q := 187) rfl rfl ?_
              refine g_iload X at_187 rfl (q := 189) rfl ?_
              refine g_callV X O_b3.1 [(.int x75)] [] (tw15 hw) (tw16 hw) (tw18 hw) (tw17 hw) (tw3 hw) (tw19 hw) (by decide) (rm3 l Z a0 hw [] b3 x75 w1_95 h1_95 NW_95 W1_136 (x75.toInt.toNat) _ n0 X.size O_b3 A_w1_95 (own_pn (by omega)) (by omega) hD_95.2.1) pd3 rfl rfl rfl at_189 (q := 192) rfl (W := 0) rfl (by decide) (by decide) (c2 := 3) (s2 := 262) rfl rfl (by decide) (by decide) (fun v T h' X hQ => ?_)
              obtain ⟨rfl, rfl⟩ := hQ
              show Goes p e below s _ n0 _ (T.setTop (mkF m 192 #[.val (.int p1), .val (.int p2), .val (.int p3), .val (.int p4), .val (.int p5), .val (.int p6), .val (.int x9), .val (.int x14), .val (.int x23), .val (.int l9_58), .val (.int x65), .val (.int x75), .val (.int x87), .val (.ref b3), .val (.int (bI ((x75 = x23) ∨ (x75 = x65)))), .unset] [(.int (bI (tb (W1_136 ((x75.toInt.toNat) / 64)) ((x75.toInt.toNat) % 64) = true)))]))
              refine g_iload X at_192 rfl (q := 194) rfl ?_
              have hok1 : (tb (W1_136 ((x75.toInt.toNat) / 64)) ((x75.toInt.toNat) % 64) = true) ↔ ((x75 = x23) ∨ (x75 = x65)) := by
                refine (show mem W1_136 x75.toInt.toNat ↔ _ from hFM _).trans ?_
                simp only [← Int32.toInt_inj, false_or]; omega
              refine g_icmpA X at_194 (Or.inr (Or.inr rfl)) (q := 197) rfl (by decide) (t := 199) rfl (fun c73 => ?_) (fun c73 => ?_)
              · replace c73 : (tb (W1_136 ((x75.toInt.toNat) / 64)) ((x75.toInt.toNat) % 64) = true) ↔ ((x75 = x23) ∨ (x75 = x65)) := (bI_inj _ _).mp c73
                refine g_iconst X at_199 rfl (q := 200) (v := -1) rfl ?_
                refine g_istore X at_200 rfl (q := 202) (L' := #[.val (.int p1), .val (.int p2), .val (.int p3), .val (.int p4), .val (.int p5), .val (.int p6), .val (.int x9), .val (.int x14), .val (.int x23), .val (.int l9_58), .val (.int x65), .val (.int x75), .val (.int x87), .val (.ref b3), .val (.int (bI ((x75 = x23) ∨ (x75 = x65)))), .val (.int (-1 : Int32))]) rfl ?_
                refine g_iload X at_202 rfl (q := 204) rfl ?_
                refine g_iload X at_204 rfl (q := 206) rfl ?_
                refine g_iconst X at_206 rfl (q := 207) (v := 1) rfl ?_
                refine g_icmpA X at_207 (Or.inl rfl) (q := 210) rfl (by decide) (t := 214) rfl (fun (c74 : x14 < (1 : Int32)) => ?_) (fun (c74 : ¬ (x14 < (1 : Int32))) => ?_)
                · skip
                  exact absurd c74 c1
                · skip
                  refine g_iconst X at_210 rfl (q := 211) (v := 1) rfl ?_
                  refine g_goto X at_211 (by decide) (q := 215) rfl ?_
                  refine g_iload X at_215 rfl (q := 217) rfl ?_
                  refine g_iload X at_217 rfl (q := 219) rfl ?_
                  refine g_callS X [(.int x23), (.int (1 : Int32)), (.int x87), (.int (-1 : Int32))] [] (tw20 hw) (tw21 hw) (tw22 hw) (tw23 hw) (by decide) (rm4 l Z a0 hw [] x23 True x87 (-1 : Int32) _ n0 X.size) pd4 rfl rfl rfl at_219 (q := 222) rfl (W := 0) rfl (by decide) (by decide) (c2 := 3) (s2 := 262) rfl rfl (by decide) (by decide) (fun v T h' X hQ => ?_)
                  obtain ⟨rfl, rfl⟩ := hQ
                  show Goes p e below s _ n0 _ (T.setTop (mkF m 222 #[.val (.int p1), .val (.int p2), .val (.int p3), .val (.int p4), .val (.int p5), .val (.int p6), .val (.int x9), .val (.int x14), .val (.int x23), .val (.int l9_58), .val (.int x65), .val (.int x75), .val (.int x87), .val (.ref b3), .val (.int (bI ((x75 = x23) ∨ (x75 = x65)))), .val (.int (-1 : Int32))] [(.int (if True then (if x23 < x87 then (-1 : Int32) else (if (-1 : Int32) < (0 : Int32) then x23 else (if x23 < (-1 : Int32) then x23 else (-1 : Int32)))) else (-1 : Int32)))]))
                  refine g_letI (fun r219 hr219 => ?_)
                  have hcb222 := own_cbT (own_pn (x := x23) (by omega)) (by omega) (own_pn (x := x87) (by omega)) (by omega) (own_cb0 (x87.toInt.toNat)) hr219
                  refine g_istore X at_222 rfl (q := 224) (L' := #[.val (.int p1), .val (.int p2), .val (.int p3), .val (.int p4), .val (.int p5), .val (.int p6), .val (.int x9), .val (.int x14), .val (.int x23), .val (.int l9_58), .val (.int x65), .val (.int x75), .val (.int x87), .val (.ref b3), .val (.int (bI ((x75 = x23) ∨ (x75 = x65)))), .val (.int r219)]) rfl ?_
                  refine g_iload X at_224 rfl (q := 226) rfl ?_
                  refine g_iload X at_226 rfl (q := 228) rfl ?_
                  refine g_iconst X at_228 rfl (q := 229) (v := 2) rfl ?_
                  refine g_icmpA X at_229 (Or.inl rfl) (q := 232) rfl (by decide) (t := 236) rfl (fun (c75 : x14 < (2 : Int32)) => ?_) (fun (c75 : ¬ (x14 < (2 : Int32))) => ?_)
                  · skip
                    refine g_iconst X at_236 rfl (q := 237) (v := 0) rfl ?_
                    refine g_iload X at_237 rfl (q := 239) rfl ?_
                    refine g_iload X at_239 rfl (q := 241) rfl ?_
                    refine g_callS X [(.int l9_58), (.int (0 : Int32)), (.int x87), (.int r219)] [] (tw20 hw) (tw21 hw) (tw22 hw) (tw23 hw) (by decide) (rm4 l Z a0 hw [] l9_58 False x87 r219 _ n0 X.size) pd4 rfl rfl rfl at_241 (q := 244) rfl (W := 0) rfl (by decide) (by decide) (c2 := 3) (s2 := 262) rfl rfl (by decide) (by decide) (fun v T h' X hQ => ?_)
                    obtain ⟨rfl, rfl⟩ := hQ
                    show Goes p e below s _ n0 _ (T.setTop (mkF m 244 #[.val (.int p1), .val (.int p2), .val (.int p3), .val (.int p4), .val (.int p5), .val (.int p6), .val (.int x9), .val (.int x14), .val (.int x23), .val (.int l9_58), .val (.int x65), .val (.int x75), .val (.int x87), .val (.ref b3), .val (.int (bI ((x75 = x23) ∨ (x75 = x65)))), .val (.int r219)] [(.int (if False then (if l9_58 < x87 then r219 else (if r219 < (0 : Int32) then l9_58 else (if l9_58 < r219 then l9_58 else r219))) else r219))]))
                    refine g_letI (fun r241 hr241 => ?_)
                    have hcb244 := own_cbF (hcb222) hr241
                    refine g_istore X at_244 rfl (q := 246) (L' := #[.val (.int p1), .val (.int p2), .val (.int p3), .val (.int p4), .val (.int p5), .val (.int p6), .val (.int x9), .val (.int x14), .val (.int x23), .val (.int l9_58), .val (.int x65), .val (.int x75), .val (.int x87), .val (.ref b3), .val (.int (bI ((x75 = x23) ∨ (x75 = x65)))), .val (.int r241)]) rfl ?_
                    refine g_iload X at_246 rfl (q := 248) rfl ?_
                    refine g_iload X at_248 rfl (q := 250) rfl ?_
                    refine g_iconst X at_250 rfl (q := 251) (v := 3) rfl ?_
                    refine g_icmpA X at_251 (Or.inl rfl) (q := 254) rfl (by decide) (t := 258) rfl (fun (c76 : x14 < (3 : Int32)) => ?_) (fun (c76 : ¬ (x14 < (3 : Int32))) => ?_)
                    · skip
                      exact absurd c76 c58
                    · skip
                      refine g_iconst X at_254 rfl (q := 255) (v := 1) rfl ?_
                      refine g_goto X at_255 (by decide) (q := 259) rfl ?_
                      refine g_iload X at_259 rfl (q := 261) rfl ?_
                      refine g_iload X at_261 rfl (q := 263) rfl ?_
                      refine g_callS X [(.int x65), (.int (1 : Int32)), (.int x87), (.int r241)] [] (tw20 hw) (tw21 hw) (tw22 hw) (tw23 hw) (by decide) (rm4 l Z a0 hw [] x65 True x87 r241 _ n0 X.size) pd4 rfl rfl rfl at_263 (q := 266) rfl (W := 0) rfl (by decide) (by decide) (c2 := 3) (s2 := 262) rfl rfl (by decide) (by decide) (fun v T h' X hQ => ?_)
                      obtain ⟨rfl, rfl⟩ := hQ
                      show Goes p e below s _ n0 _ (T.setTop (mkF m 266 #[.val (.int p1), .val (.int p2), .val (.int p3), .val (.int p4), .val (.int p5), .val (.int p6), .val (.int x9), .val (.int x14), .val (.int x23), .val (.int l9_58), .val (.int x65), .val (.int x75), .val (.int x87), .val (.ref b3), .val (.int (bI ((x75 = x23) ∨ (x75 = x65)))), .val (.int r241)] [(.int (if True then (if x65 < x87 then r241 else (if r241 < (0 : Int32) then x65 else (if x65 < r241 then x65 else r241))) else r241))]))
                      refine g_letI (fun r263 hr263 => ?_)
                      have hcb266 := own_cbT (own_pn (x := x65) (by omega)) (by omega) (own_pn (x := x87) (by omega)) (by omega) (hcb244) hr263
                      refine g_istore X at_266 rfl (q := 268) (L' := #[.val (.int p1), .val (.int p2), .val (.int p3), .val (.int p4), .val (.int p5), .val (.int p6), .val (.int x9), .val (.int x14), .val (.int x23), .val (.int l9_58), .val (.int x65), .val (.int x75), .val (.int x87), .val (.ref b3), .val (.int (bI ((x75 = x23) ∨ (x75 = x65)))), .val (.int r263)]) rfl ?_
                      refine g_aload X at_268 rfl (q := 270) rfl rfl ?_
                      refine g_iload X at_270 rfl (q := 272) rfl ?_
                      refine g_callV X O_b3.1 [(.int x87)] [] (tw24 hw) (tw25 hw) (tw27 hw) (tw26 hw) (tw3 hw) (tw28 hw) (by decide) (rm5 l Z a0 hw [] b3 x87 w1_95 h1_95 NW_95 NH_95 W1_136 H1_136 (x87.toInt.toNat) _ n0 X.size O_b3 A_w1_95 A_h1_95 (own_pn (by omega)) (by omega) hD_95 hIS1_136) pd0 rfl rfl rfl at_272 (q := 275) rfl (W := 0) rfl (by decide) (by decide) (c2 := 3) (s2 := 262) rfl rfl (by decide) (by decide) (fun v T h' X hQ => ?_)
                      obtain ⟨r1_272, rfl, Kc, hX1_272⟩ := hQ
                      have O_b3 := O_b3.keep Kc nin0
                      have A_w1_95 := A_w1_95.keep Kc nin0
                      have A_h1_95 := A_h1_95.keep Kc nin0
                      show Goes p e below s _ n0 _ (T.setTop (mkF m 275 #[.val (.int p1), .val (.int p2), .val (.int p3), .val (.int p4), .val (.int p5), .val (.int p6), .val (.int x9), .val (.int x14), .val (.int x23), .val (.int l9_58), .val (.int x65), .val (.int x75), .val (.int x87), .val (.ref b3), .val (.int (bI ((x75 = x23) ∨ (x75 = x65)))), .val (.int r263)] [(.int r1_272)]))
                      refine g_iload X at_275 rfl (q := 277) rfl ?_
                      have hok2 : r1_272 = r263 := by
                        exact own_cbN hX1_272 hFM (fun j hj => by revert hj; simp only [false_or]; omega) hcb266
                      refine g_icmpA X at_277 (Or.inr (Or.inr rfl)) (q := 280) rfl (by decide) (t := 282) rfl (fun (c77 : r1_272 = r263) => ?_) (fun (c77 : ¬ (r1_272 = r263)) => ?_)
                      · skip
                        refine g_aload X at_282 rfl (q := 284) rfl rfl ?_
                        refine g_callV X O_b3.1 [] [] (tw34 hw) (tw35 hw) (tw37 hw) (tw36 hw) (tw3 hw) (tw38 hw) (by decide) (rm7 l Z a0 hw [] b3 w1_95 h1_95 NW_95 NH_95 W1_136 H1_136 _ n0 X.size O_b3 A_w1_95 A_h1_95 hD_95 hIS1_136) pd5 rfl rfl rfl at_284 (q := 287) rfl (W := 0) rfl (by decide) (by decide) (c2 := 3) (s2 := 262) rfl rfl (by decide) (by decide) (fun v T h' X hQ => ?_)
                        obtain ⟨r1_284, rfl, Kc, hE1_284⟩ := hQ
                        have O_b3 := O_b3.keep Kc nin0
                        have A_w1_95 := A_w1_95.keep Kc nin0
                        have A_h1_95 := A_h1_95.keep Kc nin0
                        show Goes p e below s _ n0 _ (T.setTop (mkF m 287 #[.val (.int p1), .val (.int p2), .val (.int p3), .val (.int p4), .val (.int p5), .val (.int p6), .val (.int x9), .val (.int x14), .val (.int x23), .val (.int l9_58), .val (.int x65), .val (.int x75), .val (.int x87), .val (.ref b3), .val (.int (bI ((x75 = x23) ∨ (x75 = x65)))), .val (.int r263)] [(.int r1_284)]))
                        refine g_iload X at_287 rfl (q := 289) rfl ?_
                        refine g_jT1 X (J := 297) (P := fun (s0_297 : Int32) => s0_297 = (bI (x14 = (0 : Int32)))) (L := fun s0_297 => #[.val (.int p1), .val (.int p2), .val (.int p3), .val (.int p4), .val (.int p5), .val (.int p6), .val (.int x9), .val (.int x14), .val (.int x23), .val (.int l9_58), .val (.int x65), .val (.int x75), .val (.int x87), .val (.ref b3), .val (.int (bI ((x75 = x23) ∨ (x75 = x65)))), .val (.int r263)]) (S := fun s0_297 => [(.int s0_297), (.int r1_284)]) ?_ ?_
                        · intro T X s0_297 hs0_297
                          replace hs0_297 : s0_297 = (bI (x14 = (0 : Int32))) := hs0_297
                          subst hs0_297
                          show Goes p e below s _ n0 _ (T.setTop (mkF m 297 #[.val (.int p1), .val (.int p2), .val (.int p3), .val (.int p4), .val (.int p5), .val (.int p6), .val (.int x9), .val (.int x14), .val (.int x23), .val (.int l9_58), .val (.int x65), .val (.int x75), .val (.int x87), .val (.ref b3), .val (.int (bI ((x75 = x23) ∨ (x75 = x65)))), .val (.int r263)] [(.int (bI (x14 = (0 : Int32)))), (.int r1_284)]))
                          have hok3 : r1_284 = (bI (x14 = (0 : Int32))) := by
                            rw [own_isF (i := x23.toInt.toNat) hE1_284 (by omega) ((hFM _).mpr (by simp))]
                            refine bI_f (fun z => ?_)
                            simp only [Int32.lt_iff_toInt_lt, ← Int32.toInt_inj, Int32.reduceToInt] at *
                            omega
                          refine g_icmpA X at_297 (Or.inr (Or.inr rfl)) (q := 300) rfl (by decide) (t := 302) rfl (fun (c78 : r1_284 = (bI (x14 = (0 : Int32)))) => ?_) (fun (c78 : ¬ (r1_284 = (bI (x14 = (0 : Int32))))) => ?_)
                          · skip
                            refine g_aload X at_302 rfl (q := 304) rfl rfl ?_
                            refine g_callV X O_b3.1 [] [] (tw39 hw) (tw40 hw) (tw42 hw) (tw41 hw) (tw3 hw) (tw43 hw) (by decide) (rm8 l Z a0 hw [] b3 w1_95 h1_95 NW_95 NH_95 W1_136 H1_136 _ n0 X.size O_b3 A_w1_95 A_h1_95 g_w1_95 g_h1_95 ne_b3_w1_95 ne_b3_h1_95 ne_w1_95_b3 ne_w1_95_h1_95 ne_h1_95_b3 ne_h1_95_w1_95 hD_95 hIS1_136) pd6 rfl rfl rfl at_304 (q := 307) rfl (W := 0) rfl (by decide) (by decide) (c2 := 3) (s2 := 262) rfl rfl (by decide) (by decide) (fun v T h' X hQ => ?_)
                            obtain ⟨W1_304, H1_304, rfl, Kc, A_w1_95', A_h1_95', hZ1_304, hIS1_304⟩ := hQ
                            have O_b3 := O_b3.keep Kc (ninS ne_b3_w1_95 (ninS ne_b3_h1_95 nin0))
                            have A_w1_95 := A_w1_95'
                            have A_h1_95 := A_h1_95'
                            show Goes p e below s _ n0 _ (T.setTop (mkF m 307 #[.val (.int p1), .val (.int p2), .val (.int p3), .val (.int p4), .val (.int p5), .val (.int p6), .val (.int x9), .val (.int x14), .val (.int x23), .val (.int l9_58), .val (.int x65), .val (.int x75), .val (.int x87), .val (.ref b3), .val (.int (bI ((x75 = x23) ∨ (x75 = x65)))), .val (.int r263)] []))
                            refine g_aload X at_307 rfl (q := 309) rfl rfl ?_
                            refine g_callV X O_b3.1 [] [] (tw34 hw) (tw35 hw) (tw37 hw) (tw36 hw) (tw3 hw) (tw38 hw) (by decide) (rm7 l Z a0 hw [] b3 w1_95 h1_95 NW_95 NH_95 W1_304 H1_304 _ n0 X.size O_b3 A_w1_95 A_h1_95 hD_95 hIS1_304) pd5 rfl rfl rfl at_309 (q := 312) rfl (W := 0) rfl (by decide) (by decide) (c2 := 3) (s2 := 262) rfl rfl (by decide) (by decide) (fun v T h' X hQ => ?_)
                            obtain ⟨r1_309, rfl, Kc, hE1_309⟩ := hQ
                            have O_b3 := O_b3.keep Kc nin0
                            have A_w1_95 := A_w1_95.keep Kc nin0
                            have A_h1_95 := A_h1_95.keep Kc nin0
                            show Goes p e below s _ n0 _ (T.setTop (mkF m 312 #[.val (.int p1), .val (.int p2), .val (.int p3), .val (.int p4), .val (.int p5), .val (.int p6), .val (.int x9), .val (.int x14), .val (.int x23), .val (.int l9_58), .val (.int x65), .val (.int x75), .val (.int x87), .val (.ref b3), .val (.int (bI ((x75 = x23) ∨ (x75 = x65)))), .val (.int r263)] [(.int r1_309)]))
                            have hok4 : ¬ (r1_309 = (0 : Int32)) := by
                              rw [own_isT hE1_309 hZ1_304]; decide
                            refine g_ifB X at_312 (Or.inr (Or.inr rfl)) (q := 315) rfl (by decide) (t := 317) rfl (fun (c79 : r1_309 = (0 : Int32)) => ?_) (fun (c79 : ¬ (r1_309 = (0 : Int32))) => ?_)
                            · skip
                              exact absurd c79 hok4
                            · skip
                              refine g_aload X at_317 rfl (q := 319) rfl rfl ?_
                              refine g_iload X at_319 rfl (q := 321) rfl ?_
                              refine g_callV X O_b3.1 [(.int x75)] [] (tw15 hw) (tw16 hw) (tw18 hw) (tw17 hw) (tw3 hw) (tw19 hw) (by decide) (rm3 l Z a0 hw [] b3 x75 w1_95 h1_95 NW_95 W1_304 (x75.toInt.toNat) _ n0 X.size O_b3 A_w1_95 (own_pn (by omega)) (by omega) hD_95.2.1) pd3 rfl rfl rfl at_321 (q := 324) rfl (W := 0) rfl (by decide) (by decide) (c2 := 3) (s2 := 262) rfl rfl (by decide) (by decide) (fun v T h' X hQ => ?_)
                              obtain ⟨rfl, rfl⟩ := hQ
                              show Goes p e below s _ n0 _ (T.setTop (mkF m 324 #[.val (.int p1), .val (.int p2), .val (.int p3), .val (.int p4), .val (.int p5), .val (.int p6), .val (.int x9), .val (.int x14), .val (.int x23), .val (.int l9_58), .val (.int x65), .val (.int x75), .val (.int x87), .val (.ref b3), .val (.int (bI ((x75 = x23) ∨ (x75 = x65)))), .val (.int r263)] [(.int (bI (tb (W1_304 ((x75.toInt.toNat) / 64)) ((x75.toInt.toNat) % 64) = true)))]))
                              have hok5 : ¬ (tb (W1_304 ((x75.toInt.toNat) / 64)) ((x75.toInt.toNat) % 64) = true) := by
                                exact own_emp hZ1_304 (i := x75.toInt.toNat) (by omega)
                              refine g_beq X at_324 (q := 327) rfl (by decide) (t := 329) rfl (fun (c80 : tb (W1_304 ((x75.toInt.toNat) / 64)) ((x75.toInt.toNat) % 64) = true) => ?_) (fun (c80 : ¬ (tb (W1_304 ((x75.toInt.toNat) / 64)) ((x75.toInt.toNat) % 64) = true)) => ?_)
                              · skip
                                exact absurd c80 hok5
                              · skip
                                refine g_iconst X at_329 rfl (q := 330) (v := 1) rfl ?_
                                exact g_retZ X at_330 (by decide) (by decide) (by decide) rfl
                          · skip
                            exact absurd hok3 c78
                        · intro J297_80
                          refine g_ifB X at_289 (Or.inr (Or.inr rfl)) (q := 292) rfl (by decide) (t := 296) rfl (fun (c81 : x14 = (0 : Int32)) => ?_) (fun (c81 : ¬ (x14 = (0 : Int32))) => ?_)
                          · skip
                            have b_x14 : (0 : Int) ≤ x14.toInt ∧ x14.toInt ≤ 0 := by have z0 := c81; (try simp only [Int64.lt_iff_toInt_lt, Int32.lt_iff_toInt_lt, Int64.le_iff_toInt_le, Int32.le_iff_toInt_le, ← Int64.toInt_inj, ← Int32.toInt_inj, apply_ite Int64.toInt, apply_ite Int32.toInt, Int64.reduceToInt, Int32.reduceToInt, ne_eq] at z0); have z1 := rng32 x14; omega
                            refine g_iconst X at_292 rfl (q := 293) (v := 1) rfl ?_
                            refine g_goto X at_293 (by decide) (q := 297) rfl ?_
                            exact J297_80 T X _ (bI_t c81)
                          · skip
                            refine g_iconst X at_296 rfl (q := 297) (v := 0) rfl ?_
                            exact J297_80 T X _ (bI_f c81)
                      · skip
                        exact absurd hok2 c77
                  · skip
                    exact absurd c57 c75
              · replace c73 : ¬ ((tb (W1_136 ((x75.toInt.toNat) / 64)) ((x75.toInt.toNat) % 64) = true) ↔ ((x75 = x23) ∨ (x75 = x65))) := fun z => c73 ((bI_inj _ _).mpr z)
                exact absurd hok1 c73
            · intro J183_81
              refine g_icmpA X at_149 (Or.inr (Or.inr rfl)) (q := 152) rfl (by decide) (t := 178) rfl (fun (c82 : x75 = x23) => ?_) (fun (c82 : ¬ (x75 = x23)) => ?_)
              · skip
                refine g_iconst X at_178 rfl (q := 179) (v := 1) rfl ?_
                refine g_goto X at_179 (by decide) (q := 183) rfl ?_
                exact J183_81 T X _ (bI_t (Or.inl c82))
              · skip
                refine g_iload X at_152 rfl (q := 154) rfl ?_
                refine g_iconst X at_154 rfl (q := 155) (v := 2) rfl ?_
                refine g_icmpA X at_155 (Or.inl rfl) (q := 158) rfl (by decide) (t := 165) rfl (fun (c83 : x14 < (2 : Int32)) => ?_) (fun (c83 : ¬ (x14 < (2 : Int32))) => ?_)
                · skip
                  refine g_iload X at_165 rfl (q := 167) rfl ?_
                  refine g_iconst X at_167 rfl (q := 168) (v := 3) rfl ?_
                  refine g_icmpA X at_168 (Or.inl rfl) (q := 171) rfl (by decide) (t := 182) rfl (fun (c84 : x14 < (3 : Int32)) => ?_) (fun (c84 : ¬ (x14 < (3 : Int32))) => ?_)
                  · skip
                    exact absurd c84 c58
                  · skip
                    refine g_iload X at_171 rfl (q := 173) rfl ?_
                    refine g_iload X at_173 rfl (q := 175) rfl ?_
                    refine g_icmpB X at_175 (Or.inr (Or.inr rfl)) (q := 178) rfl (by decide) (t := 182) rfl (fun (c85 : x75 = x65) => ?_) (fun (c85 : ¬ (x75 = x65)) => ?_)
                    · skip
                      refine g_iconst X at_178 rfl (q := 179) (v := 1) rfl ?_
                      refine g_goto X at_179 (by decide) (q := 183) rfl ?_
                      exact J183_81 T X _ (bI_t (Or.inr c85))
                    · skip
                      refine g_iconst X at_182 rfl (q := 183) (v := 0) rfl ?_
                      exact J183_81 T X _ (bI_f (fun z => z.elim c82 c85))
                · skip
                  exact absurd c57 c83
      · skip
        have b_x14 : (2 : Int) ≤ x14.toInt ∧ x14.toInt ≤ 2147483647 := by have z0 := c57; (try simp only [Int64.lt_iff_toInt_lt, Int32.lt_iff_toInt_lt, Int64.le_iff_toInt_le, Int32.le_iff_toInt_le, ← Int64.toInt_inj, ← Int32.toInt_inj, apply_ite Int64.toInt, apply_ite Int32.toInt, Int64.reduceToInt, Int32.reduceToInt, ne_eq] at z0); have z1 := rng32 x14; omega
        refine g_aload X at_119 rfl (q := 121) rfl rfl ?_
        refine g_iload X at_121 rfl (q := 123) rfl ?_
        refine g_callV X O_b3.1 [(.int l9_58)] [] (tw44 hw) (tw45 hw) (tw47 hw) (tw46 hw) (tw3 hw) (tw48 hw) (by decide) (rm9 l Z a0 hw [] b3 l9_58 w1_95 h1_95 NW_95 NH_95 W1_110 H1_110 (l9_58.toInt.toNat) _ n0 X.size O_b3 A_w1_95 A_h1_95 g_w1_95 g_h1_95 ne_b3_w1_95 ne_b3_h1_95 ne_w1_95_b3 ne_w1_95_h1_95 ne_h1_95_b3 ne_h1_95_w1_95 (own_pn (by omega)) (by omega) hD_95 hIS1_110) pd2 rfl rfl rfl at_123 (q := 126) rfl (W := 0) rfl (by decide) (by decide) (c2 := 3) (s2 := 262) rfl rfl (by decide) (by decide) (fun v T h' X hQ => ?_)
        obtain ⟨W1_123, H1_123, rfl, Kc, A_w1_95', A_h1_95', hIS1_123, hM1_123⟩ := hQ
        have O_b3 := O_b3.keep Kc (ninS ne_b3_w1_95 (ninS ne_b3_h1_95 nin0))
        have A_w1_95 := A_w1_95'
        have A_h1_95 := A_h1_95'
        show Goes p e below s _ n0 _ (T.setTop (mkF m 126 #[.val (.int p1), .val (.int p2), .val (.int p3), .val (.int p4), .val (.int p5), .val (.int p6), .val (.int x9), .val (.int x14), .val (.int x23), .val (.int l9_58), .val (.int x65), .val (.int x75), .val (.int x87), .val (.ref b3), .unset, .unset] []))
        refine g_iload X at_126 rfl (q := 128) rfl ?_
        refine g_iconst X at_128 rfl (q := 129) (v := 3) rfl ?_
        refine g_icmpA X at_129 (Or.inl rfl) (q := 132) rfl (by decide) (t := 139) rfl (fun (c86 : x14 < (3 : Int32)) => ?_) (fun (c86 : ¬ (x14 < (3 : Int32))) => ?_)
        · skip
          have b_x14 : (2 : Int) ≤ x14.toInt ∧ x14.toInt ≤ 2 := by have z0 := c86; (try simp only [Int64.lt_iff_toInt_lt, Int32.lt_iff_toInt_lt, Int64.le_iff_toInt_le, Int32.le_iff_toInt_le, ← Int64.toInt_inj, ← Int32.toInt_inj, apply_ite Int64.toInt, apply_ite Int32.toInt, Int64.reduceToInt, Int32.reduceToInt, ne_eq] at z0); have z1 := rng32 x14; omega
          have hFM : ∀ j, mem W1_123 j ↔ ((False ∨ j = x23.toInt.toNat) ∨ j = l9_58.toInt.toNat) := fun j => by rw [hM1_123 j, hM1_110 j]; simp [own_mem0]
          refine g_iload X at_139 rfl (q := 141) rfl ?_
          refine g_iconst X at_141 rfl (q := 142) (v := 1) rfl ?_
          refine g_icmpA X at_142 (Or.inl rfl) (q := 145) rfl (by decide) (t := 152) rfl (fun (c87 : x14 < (1 : Int32)) => ?_) (fun (c87 : ¬ (x14 < (1 : Int32))) => ?_)
          · skip
            exact absurd c87 c1
          · skip
            refine g_iload X at_145 rfl (q := 147) rfl ?_
            refine g_iload X at_147 rfl (q := 149) rfl ?_
            refine g_jT1 X (J := 183) (P := fun (s0_183 : Int32) => s0_183 = (bI ((x75 = x23) ∨ (x75 = l9_58)))) (L := fun s0_183 => #[.val (.int p1), .val (.int p2), .val (.int p3), .val (.int p4), .val (.int p5), .val (.int p6), .val (.int x9), .val (.int x14), .val (.int x23), .val (.int l9_58), .val (.int x65), .val (.int x75), .val (.int x87), .val (.ref b3), .unset, .unset]) (S := fun s0_183 => [(.int s0_183)]) ?_ ?_
            · intro T X s0_183 hs0_183
              replace hs0_183 : s0_183 = (bI ((x75 = x23) ∨ (x75 = l9_58))) := hs0_183
              subst hs0_183
              show Goes p e below s _ n0 _ (T.setTop (mkF m 183 #[.val (.int p1), .val (.int p2), .val (.int p3), .val (.int p4), .val (.int p5), .val (.int p6), .val (.int x9), .val (.int x14), .val (.int x23), .val (.int l9_58), .val (.int x65), .val (.int x75), .val (.int x87), .val (.ref b3), .unset, .unset] [(.int (bI ((x75 = x23) ∨ (x75 = l9_58))))]))
              refine g_istore X at_183 rfl (q := 185) (L' := #[.val (.int p1), .val (.int p2), .val (.int p3), .val (.int p4), .val (.int p5), .val (.int p6), .val (.int x9), .val (.int x14), .val (.int x23), .val (.int l9_58), .val (.int x65), .val (.int x75), .val (.int x87), .val (.ref b3), .val (.int (bI ((x75 = x23) ∨ (x75 = l9_58)))), .unset]) rfl ?_
              refine g_aload X at_185 rfl (q := 187) rfl rfl ?_
              refine g_iload X at_187 rfl (q := 189) rfl ?_
              refine g_callV X O_b3.1 [(.int x75)] [] (tw15 hw) (tw16 hw) (tw18 hw) (tw17 hw) (tw3 hw) (tw19 hw) (by decide) (rm3 l Z a0 hw [] b3 x75 w1_95 h1_95 NW_95 W1_123 (x75.toInt.toNat) _ n0 X.size O_b3 A_w1_95 (own_pn (by omega)) (by omega) hD_95.2.1) pd3 rfl rfl rfl at_189 (q := 192) rfl (W := 0) rfl (by decide) (by decide) (c2 := 3) (s2 := 262) rfl rfl (by decide) (by decide) (fun v T h' X hQ => ?_)
              obtain ⟨rfl, rfl⟩ := hQ
              show Goes p e below s _ n0 _ (T.setTop (mkF m 192 #[.val (.int p1), .val (.int p2), .val (.int p3), .val (.int p4), .val (.int p5), .val (.int p6), .val (.int x9), .val (.int x14), .val (.int x23), .val (.int l9_58), .val (.int x65), .val (.int x75), .val (.int x87), .val (.ref b3), .val (.int (bI ((x75 = x23) ∨ (x75 = l9_58)))), .unset] [(.int (bI (tb (W1_123 ((x75.toInt.toNat) / 64)) ((x75.toInt.toNat) % 64) = true)))]))
              refine g_iload X at_192 rfl (q := 194) rfl ?_
              have hok1 : (tb (W1_123 ((x75.toInt.toNat) / 64)) ((x75.toInt.toNat) % 64) = true) ↔ ((x75 = x23) ∨ (x75 = l9_58)) := by
                refine (show mem W1_123 x75.toInt.toNat ↔ _ from hFM _).trans ?_
                simp only [← Int32.toInt_inj, false_or]; omega
              refine g_icmpA X at_194 (Or.inr (Or.inr rfl)) (q := 197) rfl (by decide) (t := 199) rfl (fun c88 => ?_) (fun c88 => ?_)
              · replace c88 : (tb (W1_123 ((x75.toInt.toNat) / 64)) ((x75.toInt.toNat) % 64) = true) ↔ ((x75 = x23) ∨ (x75 = l9_58)) := (bI_inj _ _).mp c88
                refine g_iconst X at_199 rfl (q := 200) (v := -1) rfl ?_
                refine g_istore X at_200 rfl (q := 202) (L' := #[.val (.int p1), .val (.int p2), .val (.int p3), .val (.int p4), .val (.int p5), .val (.int p6), .val (.int x9), .val (.int x14), .val (.int x23), .val (.int l9_58), .val (.int x65), .val (.int x75), .val (.int x87), .val (.ref b3), .val (.int (bI ((x75 = x23) ∨ (x75 = l9_58)))), .val (.int (-1 : Int32))]) rfl ?_
                refine g_iload X at_202 rfl (q := 204) rfl ?_
                refine g_iload X at_204 rfl (q := 206) rfl ?_
                refine g_iconst X at_206 rfl (q := 207) (v := 1) rfl ?_
                refine g_icmpA X at_207 (Or.inl rfl) (q := 210) rfl (by decide) (t := 214) rfl (fun (c89 : x14 < (1 : Int32)) => ?_) (fun (c89 : ¬ (x14 < (1 : Int32))) => ?_)
                · skip
                  exact absurd c89 c1
                · skip
                  refine g_iconst X at_210 rfl (q := 211) (v := 1) rfl ?_
                  refine g_goto X at_211 (by decide) (q := 215) rfl ?_
                  refine g_iload X at_215 rfl (q := 217) rfl ?_
                  refine g_iload X at_217 rfl (q := 219) rfl ?_
                  refine g_callS X [(.int x23), (.int (1 : Int32)), (.int x87), (.int (-1 : Int32))] [] (tw20 hw) (tw21 hw) (tw22 hw) (tw23 hw) (by decide) (rm4 l Z a0 hw [] x23 True x87 (-1 : Int32) _ n0 X.size) pd4 rfl rfl rfl at_219 (q := 222) rfl (W := 0) rfl (by decide) (by decide) (c2 := 3) (s2 := 262) rfl rfl (by decide) (by decide) (fun v T h' X hQ => ?_)
                  obtain ⟨rfl, rfl⟩ := hQ
                  show Goes p e below s _ n0 _ (T.setTop (mkF m 222 #[.val (.int p1), .val (.int p2), .val (.int p3), .val (.int p4), .val (.int p5), .val (.int p6), .val (.int x9), .val (.int x14), .val (.int x23), .val (.int l9_58), .val (.int x65), .val (.int x75), .val (.int x87), .val (.ref b3), .val (.int (bI ((x75 = x23) ∨ (x75 = l9_58)))), .val (.int (-1 : Int32))] [(.int (if True then (if x23 < x87 then (-1 : Int32) else (if (-1 : Int32) < (0 : Int32) then x23 else (if x23 < (-1 : Int32) then x23 else (-1 : Int32)))) else (-1 : Int32)))]))
                  refine g_letI (fun r219 hr219 => ?_)
                  have hcb222 := own_cbT (own_pn (x := x23) (by omega)) (by omega) (own_pn (x := x87) (by omega)) (by omega) (own_cb0 (x87.toInt.toNat)) hr219
                  refine g_istore X at_222 rfl (q := 224) (L' := #[.val (.int p1), .val (.int p2), .val (.int p3), .val (.int p4), .val (.int p5), .val (.int p6), .val (.int x9), .val (.int x14), .val (.int x23), .val (.int l9_58), .val (.int x65), .val (.int x75), .val (.int x87), .val (.ref b3), .val (.int (bI ((x75 = x23) ∨ (x75 = l9_58)))), .val (.int r219)]) rfl ?_
                  refine g_iload X at_224 rfl (q := 226) rfl ?_
                  refine g_iload X at_226 rfl (q := 228) rfl ?_
                  refine g_iconst X at_228 rfl (q := 229) (v := 2) rfl ?_
                  refine g_icmpA X at_229 (Or.inl rfl) (q := 232) rfl (by decide) (t := 236) rfl (fun (c90 : x14 < (2 : Int32)) => ?_) (fun (c90 : ¬ (x14 < (2 : Int32))) => ?_)
                  · skip
                    exact absurd c90 c57
                  · skip
                    refine g_iconst X at_232 rfl (q := 233) (v := 1) rfl ?_
                    refine g_goto X at_233 (by decide) (q := 237) rfl ?_
                    refine g_iload X at_237 rfl (q := 239) rfl ?_
                    refine g_iload X at_239 rfl (q := 241) rfl ?_
                    refine g_callS X [(.int l9_58), (.int (1 : Int32)), (.int x87), (.int r219)] [] (tw20 hw) (tw21 hw) (tw22 hw) (tw23 hw) (by decide) (rm4 l Z a0 hw [] l9_58 True x87 r219 _ n0 X.size) pd4 rfl rfl rfl at_241 (q := 244) rfl (W := 0) rfl (by decide) (by decide) (c2 := 3) (s2 := 262) rfl rfl (by decide) (by decide) (fun v T h' X hQ => ?_)
                    obtain ⟨rfl, rfl⟩ := hQ
                    show Goes p e below s _ n0 _ (T.setTop (mkF m 244 #[.val (.int p1), .val (.int p2), .val (.int p3), .val (.int p4), .val (.int p5), .val (.int p6), .val (.int x9), .val (.int x14), .val (.int x23), .val (.int l9_58), .val (.int x65), .val (.int x75), .val (.int x87), .val (.ref b3), .val (.int (bI ((x75 = x23) ∨ (x75 = l9_58)))), .val (.int r219)] [(.int (if True then (if l9_58 < x87 then r219 else (if r219 < (0 : Int32) then l9_58 else (if l9_58 < r219 then l9_58 else r219))) else r219))]))
                    refine g_letI (fun r241 hr241 => ?_)
                    have hcb244 := own_cbT (own_pn (x := l9_58) (by omega)) (by omega) (own_pn (x := x87) (by omega)) (by omega) (hcb222) hr241
                    refine g_istore X at_244 rfl (q := 246) (L' := #[.val (.int p1), .val (.int p2), .val (.int p3), .val (.int p4), .val (.int p5), .val (.int p6), .val (.int x9), .val (.int x14), .val (.int x23), .val (.int l9_58), .val (.int x65), .val (.int x75), .val (.int x87), .val (.ref b3), .val (.int (bI ((x75 = x23) ∨ (x75 = l9_58)))), .val (.int r241)]) rfl ?_
                    refine g_iload X at_246 rfl (q := 248) rfl ?_
                    refine g_iload X at_248 rfl (q := 250) rfl ?_
                    refine g_iconst X at_250 rfl (q := 251) (v := 3) rfl ?_
                    refine g_icmpA X at_251 (Or.inl rfl) (q := 254) rfl (by decide) (t := 258) rfl (fun (c91 : x14 < (3 : Int32)) => ?_) (fun (c91 : ¬ (x14 < (3 : Int32))) => ?_)
                    · skip
                      refine g_iconst X at_258 rfl (q := 259) (v := 0) rfl ?_
                      refine g_iload X at_259 rfl (q := 261) rfl ?_
                      refine g_iload X at_261 rfl (q := 263) rfl ?_
                      refine g_callS X [(.int x65), (.int (0 : Int32)), (.int x87), (.int r241)] [] (tw20 hw) (tw21 hw) (tw22 hw) (tw23 hw) (by decide) (rm4 l Z a0 hw [] x65 False x87 r241 _ n0 X.size) pd4 rfl rfl rfl at_263 (q := 266) rfl (W := 0) rfl (by decide) (by decide) (c2 := 3) (s2 := 262) rfl rfl (by decide) (by decide) (fun v T h' X hQ => ?_)
                      obtain ⟨rfl, rfl⟩ := hQ
                      show Goes p e below s _ n0 _ (T.setTop (mkF m 266 #[.val (.int p1), .val (.int p2), .val (.int p3), .val (.int p4), .val (.int p5), .val (.int p6), .val (.int x9), .val (.int x14), .val (.int x23), .val (.int l9_58), .val (.int x65), .val (.int x75), .val (.int x87), .val (.ref b3), .val (.int (bI ((x75 = x23) ∨ (x75 = l9_58)))), .val (.int r241)] [(.int (if False then (if x65 < x87 then r241 else (if r241 < (0 : Int32) then x65 else (if x65 < r241 then x65 else r241))) else r241))]))
                      refine g_letI (fun r263 hr263 => ?_)
                      have hcb266 := own_cbF (hcb244) hr263
                      refine g_istore X at_266 rfl (q := 268) (L' := #[.val (.int p1), .val (.int p2), .val (.int p3), .val (.int p4), .val (.int p5), .val (.int p6), .val (.int x9), .val (.int x14), .val (.int x23), .val (.int l9_58), .val (.int x65), .val (.int x75), .val (.int x87), .val (.ref b3), .val (.int (bI ((x75 = x23) ∨ (x75 = l9_58)))), .val (.int r263)]) rfl ?_
                      refine g_aload X at_268 rfl (q := 270) rfl rfl ?_
                      refine g_iload X at_270 rfl (q := 272) rfl ?_
                      refine g_callV X O_b3.1 [(.int x87)] [] (tw24 hw) (tw25 hw) (tw27 hw) (tw26 hw) (tw3 hw) (tw28 hw) (by decide) (rm5 l Z a0 hw [] b3 x87 w1_95 h1_95 NW_95 NH_95 W1_123 H1_123 (x87.toInt.toNat) _ n0 X.size O_b3 A_w1_95 A_h1_95 (own_pn (by omega)) (by omega) hD_95 hIS1_123) pd0 rfl rfl rfl at_272 (q := 275) rfl (W := 0) rfl (by decide) (by decide) (c2 := 3) (s2 := 262) rfl rfl (by decide) (by decide) (fun v T h' X hQ => ?_)
                      obtain ⟨r1_272, rfl, Kc, hX1_272⟩ := hQ
                      have O_b3 := O_b3.keep Kc nin0
                      have A_w1_95 := A_w1_95.keep Kc nin0
                      have A_h1_95 := A_h1_95.keep Kc nin0
                      show Goes p e below s _ n0 _ (T.setTop (mkF m 275 #[.val (.int p1), .val (.int p2), .val (.int p3), .val (.int p4), .val (.int p5), .val (.int p6), .val (.int x9), .val (.int x14), .val (.int x23), .val (.int l9_58), .val (.int x65), .val (.int x75), .val (.int x87), .val (.ref b3), .val (.int (bI ((x75 = x23) ∨ (x75 = l9_58)))), .val (.int r263)] [(.int r1_272)]))
                      refine g_iload X at_275 rfl (q := 277) rfl ?_
                      have hok2 : r1_272 = r263 := by
                        exact own_cbN hX1_272 hFM (fun j hj => by revert hj; simp only [false_or]; omega) hcb266
                      refine g_icmpA X at_277 (Or.inr (Or.inr rfl)) (q := 280) rfl (by decide) (t := 282) rfl (fun (c92 : r1_272 = r263) => ?_) (fun (c92 : ¬ (r1_272 = r263)) => ?_)
                      · skip
                        refine g_aload X at_282 rfl (q := 284) rfl rfl ?_
                        refine g_callV X O_b3.1 [] [] (tw34 hw) (tw35 hw) (tw37 hw) (tw36 hw) (tw3 hw) (tw38 hw) (by decide) (rm7 l Z a0 hw [] b3 w1_95 h1_95 NW_95 NH_95 W1_123 H1_123 _ n0 X.size O_b3 A_w1_95 A_h1_95 hD_95 hIS1_123) pd5 rfl rfl rfl at_284 (q := 287) rfl (W := 0) rfl (by decide) (by decide) (c2 := 3) (s2 := 262) rfl rfl (by decide) (by decide) (fun v T h' X hQ => ?_)
                        obtain ⟨r1_284, rfl, Kc, hE1_284⟩ := hQ
                        have O_b3 := O_b3.keep Kc nin0
                        have A_w1_95 := A_w1_95.keep Kc nin0
                        have A_h1_95 := A_h1_95.keep Kc nin0
                        show Goes p e below s _ n0 _ (T.setTop (mkF m 287 #[.val (.int p1), .val (.int p2), .val (.int p3), .val (.int p4), .val (.int p5), .val (.int p6), .val (.int x9), .val (.int x14), .val (.int x23), .val (.int l9_58), .val (.int x65), .val (.int x75), .val (.int x87), .val (.ref b3), .val (.int (bI ((x75 = x23) ∨ (x75 = l9_58)))), .val (.int r263)] [(.int r1_284)]))
                        refine g_iload X at_287 rfl (q := 289) rfl ?_
                        refine g_jT1 X (J := 297) (P := fun (s0_297 : Int32) => s0_297 = (bI (x14 = (0 : Int32)))) (L := fun s0_297 => #[.val (.int p1), .val (.int p2), .val (.int p3), .val (.int p4), .val (.int p5), .val (.int p6), .val (.int x9), .val (.int x14), .val (.int x23), .val (.int l9_58), .val (.int x65), .val (.int x75), .val (.int x87), .val (.ref b3), .val (.int (bI ((x75 = x23) ∨ (x75 = l9_58)))), .val (.int r263)]) (S := fun s0_297 => [(.int s0_297), (.int r1_284)]) ?_ ?_
                        · intro T X s0_297 hs0_297
                          replace hs0_297 : s0_297 = (bI (x14 = (0 : Int32))) := hs0_297
                          subst hs0_297
                          show Goes p e below s _ n0 _ (T.setTop (mkF m 297 #[.val (.int p1), .val (.int p2), .val (.int p3), .val (.int p4), .val (.int p5), .val (.int p6), .val (.int x9), .val (.int x14), .val (.int x23), .val (.int l9_58), .val (.int x65), .val (.int x75), .val (.int x87), .val (.ref b3), .val (.int (bI ((x75 = x23) ∨ (x75 = l9_58)))), .val (.int r263)] [(.int (bI (x14 = (0 : Int32)))), (.int r1_284)]))
                          have hok3 : r1_284 = (bI (x14 = (0 : Int32))) := by
                            rw [own_isF (i := x23.toInt.toNat) hE1_284 (by omega) ((hFM _).mpr (by simp))]
                            refine bI_f (fun z => ?_)
                            simp only [Int32.lt_iff_toInt_lt, ← Int32.toInt_inj, Int32.reduceToInt] at *
                            omega
                          refine g_icmpA X at_297 (Or.inr (Or.inr rfl)) (q := 300) rfl (by decide) (t := 302) rfl (fun (c93 : r1_284 = (bI (x14 = (0 : Int32)))) => ?_) (fun (c93 : ¬ (r1_284 = (bI (x14 = (0 : Int32))))) => ?_)
                          · skip
                            refine g_aload X at_302 rfl (q := 304) rfl rfl ?_
                            refine g_callV X O_b3.1 [] [] (tw39 hw) (tw40 hw) (tw42 hw) (tw41 hw) (tw3 hw) (tw43 hw) (by decide) (rm8 l Z a0 hw [] b3 w1_95 h1_95 NW_95 NH_95 W1_123 H1_123 _ n0 X.size O_b3 A_w1_95 A_h1_95 g_w1_95 g_h1_95 ne_b3_w1_95 ne_b3_h1_95 ne_w1_95_b3 ne_w1_95_h1_95 ne_h1_95_b3 ne_h1_95_w1_95 hD_95 hIS1_123) pd6 rfl rfl rfl at_304 (q := 307) rfl (W := 0) rfl (by decide) (by decide) (c2 := 3) (s2 := 262) rfl rfl (by decide) (by decide) (fun v T h' X hQ => ?_)
                            obtain ⟨W1_304, H1_304, rfl, Kc, A_w1_95', A_h1_95', hZ1_304, hIS1_304⟩ := hQ
                            have O_b3 := O_b3.keep Kc (ninS ne_b3_w1_95 (ninS ne_b3_h1_95 nin0))
                            have A_w1_95 := A_w1_95'
                            have A_h1_95 := A_h1_95'
                            show Goes p e below s _ n0 _ (T.setTop (mkF m 307 #[.val (.int p1), .val (.int p2), .val (.int p3), .val (.int p4), .val (.int p5), .val (.int p6), .val (.int x9), .val (.int x14), .val (.int x23), .val (.int l9_58), .val (.int x65), .val (.int x75), .val (.int x87), .val (.ref b3), .val (.int (bI ((x75 = x23) ∨ (x75 = l9_58)))), .val (.int r263)] []))
                            refine g_aload X at_307 rfl (q := 309) rfl rfl ?_
                            refine g_callV X O_b3.1 [] [] (tw34 hw) (tw35 hw) (tw37 hw) (tw36 hw) (tw3 hw) (tw38 hw) (by decide) (rm7 l Z a0 hw [] b3 w1_95 h1_95 NW_95 NH_95 W1_304 H1_304 _ n0 X.size O_b3 A_w1_95 A_h1_95 hD_95 hIS1_304) pd5 rfl rfl rfl at_309 (q := 312) rfl (W := 0) rfl (by decide) (by decide) (c2 := 3) (s2 := 262) rfl rfl (by decide) (by decide) (fun v T h' X hQ => ?_)
                            obtain ⟨r1_309, rfl, Kc, hE1_309⟩ := hQ
                            have O_b3 := O_b3.keep Kc nin0
                            have A_w1_95 := A_w1_95.keep Kc nin0
                            have A_h1_95 := A_h1_95.keep Kc nin0
                            show Goes p e below s _ n0 _ (T.setTop (mkF m 312 #[.val (.int p1), .val (.int p2), .val (.int p3), .val (.int p4), .val (.int p5), .val (.int p6), .val (.int x9), .val (.int x14), .val (.int x23), .val (.int l9_58), .val (.int x65), .val (.int x75), .val (.int x87), .val (.ref b3), .val (.int (bI ((x75 = x23) ∨ (x75 = l9_58)))), .val (.int r263)] [(.int r1_309)]))
                            have hok4 : ¬ (r1_309 = (0 : Int32)) := by
                              rw [own_isT hE1_309 hZ1_304]; decide
                            refine g_ifB X at_312 (Or.inr (Or.inr rfl)) (q := 315) rfl (by decide) (t := 317) rfl (fun (c94 : r1_309 = (0 : Int32)) => ?_) (fun (c94 : ¬ (r1_309 = (0 : Int32))) => ?_)
                            · skip
                              exact absurd c94 hok4
                            · skip
                              refine g_aload X at_317 rfl (q := 319) rfl rfl ?_
                              refine g_iload X at_319 rfl (q := 321) rfl ?_
                              refine g_callV X O_b3.1 [(.int x75)] [] (tw15 hw) (tw16 hw) (tw18 hw) (tw17 hw) (tw3 hw) (tw19 hw) (by decide) (rm3 l Z a0 hw [] b3 x75 w1_95 h1_95 NW_95 W1_304 (x75.toInt.toNat) _ n0 X.size O_b3 A_w1_95 (own_pn (by omega)) (by omega) hD_95.2.1) pd3 rfl rfl rfl at_321 (q := 324) rfl (W := 0) rfl (by decide) (by decide) (c2 := 3) (s2 := 262) rfl rfl (by decide) (by decide) (fun v T h' X hQ => ?_)
                              obtain ⟨rfl, rfl⟩ := hQ
                              show Goes p e below s _ n0 _ (T.setTop (mkF m 324 #[.val (.int p1), .val (.int p2), .val (.int p3), .val (.int p4), .val (.int p5), .val (.int p6), .val (.int x9), .val (.int x14), .val (.int x23), .val (.int l9_58), .val (.int x65), .val (.int x75), .val (.int x87), .val (.ref b3), .val (.int (bI ((x75 = x23) ∨ (x75 = l9_58)))), .val (.int r263)] [(.int (bI (tb (W1_304 ((x75.toInt.toNat) / 64)) ((x75.toInt.toNat) % 64) = true)))]))
                              have hok5 : ¬ (tb (W1_304 ((x75.toInt.toNat) / 64)) ((x75.toInt.toNat) % 64) = true) := by
                                exact own_emp hZ1_304 (i := x75.toInt.toNat) (by omega)
                              refine g_beq X at_324 (q := 327) rfl (by decide) (t := 329) rfl (fun (c95 : tb (W1_304 ((x75.toInt.toNat) / 64)) ((x75.toInt.toNat) % 64) = true) => ?_) (fun (c95 : ¬ (tb (W1_304 ((x75.toInt.toNat) / 64)) ((x75.toInt.toNat) % 64) = true)) => ?_)
                              · skip
                                exact absurd c95 hok5
                              · skip
                                refine g_iconst X at_329 rfl (q := 330) (v := 1) rfl ?_
                                exact g_retZ X at_330 (by decide) (by decide) (by decide) rfl
                          · skip
                            exact absurd hok3 c93
                        · intro J297_95
                          refine g_ifB X at_289 (Or.inr (Or.inr rfl)) (q := 292) rfl (by decide) (t := 296) rfl (fun (c96 : x14 = (0 : Int32)) => ?_) (fun (c96 : ¬ (x14 = (0 : Int32))) => ?_)
                          · skip
                            have b_x14 : (0 : Int) ≤ x14.toInt ∧ x14.toInt ≤ 0 := by have z0 := c96; (try simp only [Int64.lt_iff_toInt_lt, Int32.lt_iff_toInt_lt, Int64.le_iff_toInt_le, Int32.le_iff_toInt_le, ← Int64.toInt_inj, ← Int32.toInt_inj, apply_ite Int64.toInt, apply_ite Int32.toInt, Int64.reduceToInt, Int32.reduceToInt, ne_eq] at z0); have z1 := rng32 x14; omega
                            refine g_iconst X at_292 rfl (q := 293) (v := 1) rfl ?_
                            refine g_goto X at_293 (by decide) (q := 297) rfl ?_
                            exact J297_95 T X _ (bI_t c96)
                          · skip
                            refine g_iconst X at_296 rfl (q := 297) (v := 0) rfl ?_
                            exact J297_95 T X _ (bI_f c96)
                      · skip
                        exact absurd hok2 c92
                    · skip
                      exact absurd c86 c91
              · replace c88 : ¬ ((tb (W1_123 ((x75.toInt.toNat) / 64)) ((x75.toInt.toNat) % 64) = true) ↔ ((x75 = x23) ∨ (x75 = l9_58))) := fun z => c88 ((bI_inj _ _).mpr z)
                exact absurd hok1 c88
            · intro J183_96
              refine g_icmpA X at_149 (Or.inr (Or.inr rfl)) (q := 152) rfl (by decide) (t := 178) rfl (fun (c97 : x75 = x23) => ?_) (fun (c97 : ¬ (x75 = x23)) => ?_)
              · skip
                refine g_iconst X at_178 rfl (q := 179) (v := 1) rfl ?_
                refine g_goto X at_179 (by decide) (q := 183) rfl ?_
                exact J183_96 T X _ (bI_t (Or.inl c97))
              · skip
                refine g_iload X at_152 rfl (q := 154) rfl ?_
                refine g_iconst X at_154 rfl (q := 155) (v := 2) rfl ?_
                refine g_icmpA X at_155 (Or.inl rfl) (q := 158) rfl (by decide) (t := 165) rfl (fun (c98 : x14 < (2 : Int32)) => ?_) (fun (c98 : ¬ (x14 < (2 : Int32))) => ?_)
                · skip
                  exact absurd c98 c57
                · skip
                  refine g_iload X at_158 rfl (q := 160) rfl ?_
                  refine g_iload X at_160 rfl (q := 162) rfl ?_
                  refine g_icmpA X at_162 (Or.inr (Or.inr rfl)) (q := 165) rfl (by decide) (t := 178) rfl (fun (c99 : x75 = l9_58) => ?_) (fun (c99 : ¬ (x75 = l9_58)) => ?_)
                  · skip
                    refine g_iconst X at_178 rfl (q := 179) (v := 1) rfl ?_
                    refine g_goto X at_179 (by decide) (q := 183) rfl ?_
                    exact J183_96 T X _ (bI_t (Or.inr c99))
                  · skip
                    refine g_iload X at_165 rfl (q := 167) rfl ?_
                    refine g_iconst X at_167 rfl (q := 168) (v := 3) rfl ?_
                    refine g_icmpA X at_168 (Or.inl rfl) (q := 171) rfl (by decide) (t := 182) rfl (fun (c100 : x14 < (3 : Int32)) => ?_) (fun (c100 : ¬ (x14 < (3 : Int32))) => ?_)
                    · skip
                      refine g_iconst X at_182 rfl (q := 183) (v := 0) rfl ?_
                      exact J183_96 T X _ (bI_f (fun z => z.elim c97 c99))
                    · skip
                      exact absurd c86 c100
        · skip
          have b_x14 : (3 : Int) ≤ x14.toInt ∧ x14.toInt ≤ 2147483647 := by have z0 := c86; (try simp only [Int64.lt_iff_toInt_lt, Int32.lt_iff_toInt_lt, Int64.le_iff_toInt_le, Int32.le_iff_toInt_le, ← Int64.toInt_inj, ← Int32.toInt_inj, apply_ite Int64.toInt, apply_ite Int32.toInt, Int64.reduceToInt, Int32.reduceToInt, ne_eq] at z0); have z1 := rng32 x14; omega
          refine g_aload X at_132 rfl (q := 134) rfl rfl ?_
          refine g_iload X at_134 rfl (q := 136) rfl ?_
          refine g_callV X O_b3.1 [(.int x65)] [] (tw44 hw) (tw45 hw) (tw47 hw) (tw46 hw) (tw3 hw) (tw48 hw) (by decide) (rm9 l Z a0 hw [] b3 x65 w1_95 h1_95 NW_95 NH_95 W1_123 H1_123 (x65.toInt.toNat) _ n0 X.size O_b3 A_w1_95 A_h1_95 g_w1_95 g_h1_95 ne_b3_w1_95 ne_b3_h1_95 ne_w1_95_b3 ne_w1_95_h1_95 ne_h1_95_b3 ne_h1_95_w1_95 (own_pn (by omega)) (by omega) hD_95 hIS1_123) pd2 rfl rfl rfl at_136 (q := 139) rfl (W := 0) rfl (by decide) (by decide) (c2 := 3) (s2 := 262) rfl rfl (by decide) (by decide) (fun v T h' X hQ => ?_)
          obtain ⟨W1_136, H1_136, rfl, Kc, A_w1_95', A_h1_95', hIS1_136, hM1_136⟩ := hQ
          have O_b3 := O_b3.keep Kc (ninS ne_b3_w1_95 (ninS ne_b3_h1_95 nin0))
          have A_w1_95 := A_w1_95'
          have A_h1_95 := A_h1_95'
          show Goes p e below s _ n0 _ (T.setTop (mkF m 139 #[.val (.int p1), .val (.int p2), .val (.int p3), .val (.int p4), .val (.int p5), .val (.int p6), .val (.int x9), .val (.int x14), .val (.int x23), .val (.int l9_58), .val (.int x65), .val (.int x75), .val (.int x87), .val (.ref b3), .unset, .unset] []))
          have hFM : ∀ j, mem W1_136 j ↔ (((False ∨ j = x23.toInt.toNat) ∨ j = l9_58.toInt.toNat) ∨ j = x65.toInt.toNat) := fun j => by rw [hM1_136 j, hM1_123 j, hM1_110 j]; simp [own_mem0]
          refine g_iload X at_139 rfl (q := 141) rfl ?_
          refine g_iconst X at_141 rfl (q := 142) (v := 1) rfl ?_
          refine g_icmpA X at_142 (Or.inl rfl) (q := 145) rfl (by decide) (t := 152) rfl (fun (c101 : x14 < (1 : Int32)) => ?_) (fun (c101 : ¬ (x14 < (1 : Int32))) => ?_)
          · skip
            exact absurd c101 c1
          · skip
            refine g_iload X at_145 rfl (q := 147) rfl ?_
            refine g_iload X at_147 rfl (q := 149) rfl ?_
            refine g_jT1 X (J := 183) (P := fun (s0_183 : Int32) => s0_183 = (bI ((x75 = x23) ∨ ((x75 = l9_58) ∨ (x75 = x65))))) (L := fun s0_183 => #[.val (.int p1), .val (.int p2), .val (.int p3), .val (.int p4), .val (.int p5), .val (.int p6), .val (.int x9), .val (.int x14), .val (.int x23), .val (.int l9_58), .val (.int x65), .val (.int x75), .val (.int x87), .val (.ref b3), .unset, .unset]) (S := fun s0_183 => [(.int s0_183)]) ?_ ?_
            · intro T X s0_183 hs0_183
              replace hs0_183 : s0_183 = (bI ((x75 = x23) ∨ ((x75 = l9_58) ∨ (x75 = x65)))) := hs0_183
              subst hs0_183
              show Goes p e below s _ n0 _ (T.setTop (mkF m 183 #[.val (.int p1), .val (.int p2), .val (.int p3), .val (.int p4), .val (.int p5), .val (.int p6), .val (.int x9), .val (.int x14), .val (.int x23), .val (.int l9_58), .val (.int x65), .val (.int x75), .val (.int x87), .val (.ref b3), .unset, .unset] [(.int (bI ((x75 = x23) ∨ ((x75 = l9_58) ∨ (x75 = x65)))))]))
              refine g_istore X at_183 rfl (q := 185) (L' := #[.val (.int p1), .val (.int p2), .val (.int p3), .val (.int p4), .val (.int p5), .val (.int p6), .val (.int x9), .val (.int x14), .val (.int x23), .val (.int l9_58), .val (.int x65), .val (.int x75), .val (.int x87), .val (.ref b3), .val (.int (bI ((x75 = x23) ∨ ((x75 = l9_58) ∨ (x75 = x65))))), .unset]) rfl ?_
              refine g_aload X at_185 rfl (q := 187) rfl rfl ?_
              refine g_iload X at_187 rfl (q := 189) rfl ?_
              refine g_callV X O_b3.1 [(.int x75)] [] (tw15 hw) (tw16 hw) (tw18 hw) (tw17 hw) (tw3 hw) (tw19 hw) (by decide) (rm3 l Z a0 hw [] b3 x75 w1_95 h1_95 NW_95 W1_136 (x75.toInt.toNat) _ n0 X.size O_b3 A_w1_95 (own_pn (by omega)) (by omega) hD_95.2.1) pd3 rfl rfl rfl at_189 (q := 192) rfl (W := 0) rfl (by decide) (by decide) (c2 := 3) (s2 := 262) rfl rfl (by decide) (by decide) (fun v T h' X hQ => ?_)
              obtain ⟨rfl, rfl⟩ := hQ
              show Goes p e below s _ n0 _ (T.setTop (mkF m 192 #[.val (.int p1), .val (.int p2), .val (.int p3), .val (.int p4), .val (.int p5), .val (.int p6), .val (.int x9), .val (.int x14), .val (.int x23), .val (.int l9_58), .val (.int x65), .val (.int x75), .val (.int x87), .val (.ref b3), .val (.int (bI ((x75 = x23) ∨ ((x75 = l9_58) ∨ (x75 = x65))))), .unset] [(.int (bI (tb (W1_136 ((x75.toInt.toNat) / 64)) ((x75.toInt.toNat) % 64) = true)))]))
              refine g_iload X at_192 rfl (q := 194) rfl ?_
              have hok1 : (tb (W1_136 ((x75.toInt.toNat) / 64)) ((x75.toInt.toNat) % 64) = true) ↔ ((x75 = x23) ∨ ((x75 = l9_58) ∨ (x75 = x65))) := by
                refine (show mem W1_136 x75.toInt.toNat ↔ _ from hFM _).trans ?_
                simp only [← Int32.toInt_inj, false_or]; omega
              refine g_icmpA X at_194 (Or.inr (Or.inr rfl)) (q := 197) rfl (by decide) (t := 199) rfl (fun c102 => ?_) (fun c102 => ?_)
              · replace c102 : (tb (W1_136 ((x75.toInt.toNat) / 64)) ((x75.toInt.toNat) % 64) = true) ↔ ((x75 = x23) ∨ ((x75 = l9_58) ∨ (x75 = x65))) := (bI_inj _ _).mp c102
                refine g_iconst X at_199 rfl (q := 200) (v := -1) rfl ?_
                refine g_istore X at_200 rfl (q := 202) (L' := #[.val (.int p1), .val (.int p2), .val (.int p3), .val (.int p4), .val (.int p5), .val (.int p6), .val (.int x9), .val (.int x14), .val (.int x23), .val (.int l9_58), .val (.int x65), .val (.int x75), .val (.int x87), .val (.ref b3), .val (.int (bI ((x75 = x23) ∨ ((x75 = l9_58) ∨ (x75 = x65))))), .val (.int (-1 : Int32))]) rfl ?_
                refine g_iload X at_202 rfl (q := 204) rfl ?_
                refine g_iload X at_204 rfl (q := 206) rfl ?_
                refine g_iconst X at_206 rfl (q := 207) (v := 1) rfl ?_
                refine g_icmpA X at_207 (Or.inl rfl) (q := 210) rfl (by decide) (t := 214) rfl (fun (c103 : x14 < (1 : Int32)) => ?_) (fun (c103 : ¬ (x14 < (1 : Int32))) => ?_)
                · skip
                  exact absurd c103 c1
                · skip
                  refine g_iconst X at_210 rfl (q := 211) (v := 1) rfl ?_
                  refine g_goto X at_211 (by decide) (q := 215) rfl ?_
                  refine g_iload X at_215 rfl (q := 217) rfl ?_
                  refine g_iload X at_217 rfl (q := 219) rfl ?_
                  refine g_callS X [(.int x23), (.int (1 : Int32)), (.int x87), (.int (-1 : Int32))] [] (tw20 hw) (tw21 hw) (tw22 hw) (tw23 hw) (by decide) (rm4 l Z a0 hw [] x23 True x87 (-1 : Int32) _ n0 X.size) pd4 rfl rfl rfl at_219 (q := 222) rfl (W := 0) rfl (by decide) (by decide) (c2 := 3) (s2 := 262) rfl rfl (by decide) (by decide) (fun v T h' X hQ => ?_)
                  obtain ⟨rfl, rfl⟩ := hQ
                  show Goes p e below s _ n0 _ (T.setTop (mkF m 222 #[.val (.int p1), .val (.int p2), .val (.int p3), .val (.int p4), .val (.int p5), .val (.int p6), .val (.int x9), .val (.int x14), .val (.int x23), .val (.int l9_58), .val (.int x65), .val (.int x75), .val (.int x87), .val (.ref b3), .val (.int (bI ((x75 = x23) ∨ ((x75 = l9_58) ∨ (x75 = x65))))), .val (.int (-1 : Int32))] [(.int (if True then (if x23 < x87 then (-1 : Int32) else (if (-1 : Int32) < (0 : Int32) then x23 else (if x23 < (-1 : Int32) then x23 else (-1 : Int32)))) else (-1 : Int32)))]))
                  refine g_letI (fun r219 hr219 => ?_)
                  have hcb222 := own_cbT (own_pn (x := x23) (by omega)) (by omega) (own_pn (x := x87) (by omega)) (by omega) (own_cb0 (x87.toInt.toNat)) hr219
                  refine g_istore X at_222 rfl (q := 224) (L' := #[.val (.int p1), .val (.int p2), .val (.int p3), .val (.int p4), .val (.int p5), .val (.int p6), .val (.int x9), .val (.int x14), .val (.int x23), .val (.int l9_58), .val (.int x65), .val (.int x75), .val (.int x87), .val (.ref b3), .val (.int (bI ((x75 = x23) ∨ ((x75 = l9_58) ∨ (x75 = x65))))), .val (.int r219)]) rfl ?_
                  refine g_iload X at_224 rfl (q := 226) rfl ?_
                  refine g_iload X at_226 rfl (q := 228) rfl ?_
                  refine g_iconst X at_228 rfl (q := 229) (v := 2) rfl ?_
                  refine g_icmpA X at_229 (Or.inl rfl) (q := 232) rfl (by decide) (t := 236) rfl (fun (c104 : x14 < (2 : Int32)) => ?_) (fun (c104 : ¬ (x14 < (2 : Int32))) => ?_)
                  · skip
                    exact absurd c104 c57
                  · skip
                    refine g_iconst X at_232 rfl (q := 233) (v := 1) rfl ?_
                    refine g_goto X at_233 (by decide) (q := 237) rfl ?_
                    refine g_iload X at_237 rfl (q := 239) rfl ?_
                    refine g_iload X at_239 rfl (q := 241) rfl ?_
                    refine g_callS X [(.int l9_58), (.int (1 : Int32)), (.int x87), (.int r219)] [] (tw20 hw) (tw21 hw) (tw22 hw) (tw23 hw) (by decide) (rm4 l Z a0 hw [] l9_58 True x87 r219 _ n0 X.size) pd4 rfl rfl rfl at_241 (q := 244) rfl (W := 0) rfl (by decide) (by decide) (c2 := 3) (s2 := 262) rfl rfl (by decide) (by decide) (fun v T h' X hQ => ?_)
                    obtain ⟨rfl, rfl⟩ := hQ
                    show Goes p e below s _ n0 _ (T.setTop (mkF m 244 #[.val (.int p1), .val (.int p2), .val (.int p3), .val (.int p4), .val (.int p5), .val (.int p6), .val (.int x9), .val (.int x14), .val (.int x23), .val (.int l9_58), .val (.int x65), .val (.int x75), .val (.int x87), .val (.ref b3), .val (.int (bI ((x75 = x23) ∨ ((x75 = l9_58) ∨ (x75 = x65))))), .val (.int r219)] [(.int (if True then (if l9_58 < x87 then r219 else (if r219 < (0 : Int32) then l9_58 else (if l9_58 < r219 then l9_58 else r219))) else r219))]))
                    refine g_letI (fun r241 hr241 => ?_)
                    have hcb244 := own_cbT (own_pn (x := l9_58) (by omega)) (by omega) (own_pn (x := x87) (by omega)) (by omega) (hcb222) hr241
                    refine g_istore X at_244 rfl (q := 246) (L' := #[.val (.int p1), .val (.int p2), .val (.int p3), .val (.int p4), .val (.int p5), .val (.int p6), .val (.int x9), .val (.int x14), .val (.int x23), .val (.int l9_58), .val (.int x65), .val (.int x75), .val (.int x87), .val (.ref b3), .val (.int (bI ((x75 = x23) ∨ ((x75 = l9_58) ∨ (x75 = x65))))), .val (.int r241)]) rfl ?_
                    refine g_iload X at_246 rfl (q := 248) rfl ?_
                    refine g_iload X at_248 rfl (q := 250) rfl ?_
                    refine g_iconst X at_250 rfl (q := 251) (v := 3) rfl ?_
                    refine g_icmpA X at_251 (Or.inl rfl) (q := 254) rfl (by decide) (t := 258) rfl (fun (c105 : x14 < (3 : Int32)) => ?_) (fun (c105 : ¬ (x14 < (3 : Int32))) => ?_)
                    · skip
                      exact absurd c105 c86
                    · skip
                      refine g_iconst X at_254 rfl (q := 255) (v := 1) rfl ?_
                      refine g_goto X at_255 (by decide) (q := 259) rfl ?_
                      refine g_iload X at_259 rfl (q := 261) rfl ?_
                      refine g_iload X at_261 rfl (q := 263) rfl ?_
                      refine g_callS X [(.int x65), (.int (1 : Int32)), (.int x87), (.int r241)] [] (tw20 hw) (tw21 hw) (tw22 hw) (tw23 hw) (by decide) (rm4 l Z a0 hw [] x65 True x87 r241 _ n0 X.size) pd4 rfl rfl rfl at_263 (q := 266) rfl (W := 0) rfl (by decide) (by decide) (c2 := 3) (s2 := 262) rfl rfl (by decide) (by decide) (fun v T h' X hQ => ?_)
                      obtain ⟨rfl, rfl⟩ := hQ
                      show Goes p e below s _ n0 _ (T.setTop (mkF m 266 #[.val (.int p1), .val (.int p2), .val (.int p3), .val (.int p4), .val (.int p5), .val (.int p6), .val (.int x9), .val (.int x14), .val (.int x23), .val (.int l9_58), .val (.int x65), .val (.int x75), .val (.int x87), .val (.ref b3), .val (.int (bI ((x75 = x23) ∨ ((x75 = l9_58) ∨ (x75 = x65))))), .val (.int r241)] [(.int (if True then (if x65 < x87 then r241 else (if r241 < (0 : Int32) then x65 else (if x65 < r241 then x65 else r241))) else r241))]))
                      refine g_letI (fun r263 hr263 => ?_)
                      have hcb266 := own_cbT (own_pn (x := x65) (by omega)) (by omega) (own_pn (x := x87) (by omega)) (by omega) (hcb244) hr263
                      refine g_istore X at_266 rfl (q := 268) (L' := #[.val (.int p1), .val (.int p2), .val (.int p3), .val (.int p4), .val (.int p5), .val (.int p6), .val (.int x9), .val (.int x14), .val (.int x23), .val (.int l9_58), .val (.int x65), .val (.int x75), .val (.int x87), .val (.ref b3), .val (.int (bI ((x75 = x23) ∨ ((x75 = l9_58) ∨ (x75 = x65))))), .val (.int r263)]) rfl ?_
                      refine g_aload X at_268 rfl (q := 270) rfl rfl ?_
                      refine g_iload X at_270 rfl (q := 272) rfl ?_
                      refine g_callV X O_b3.1 [(.int x87)] [] (tw24 hw) (tw25 hw) (tw27 hw) (tw26 hw) (tw3 hw) (tw28 hw) (by decide) (rm5 l Z a0 hw [] b3 x87 w1_95 h1_95 NW_95 NH_95 W1_136 H1_136 (x87.toInt.toNat) _ n0 X.size O_b3 A_w1_95 A_h1_95 (own_pn (by omega)) (by omega) hD_95 hIS1_136) pd0 rfl rfl rfl at_272 (q := 275) rfl (W := 0) rfl (by decide) (by decide) (c2 := 3) (s2 := 262) rfl rfl (by decide) (by decide) (fun v T h' X hQ => ?_)
                      obtain ⟨r1_272, rfl, Kc, hX1_272⟩ := hQ
                      have O_b3 := O_b3.keep Kc nin0
                      have A_w1_95 := A_w1_95.keep Kc nin0
                      have A_h1_95 := A_h1_95.keep Kc nin0
                      show Goes p e below s _ n0 _ (T.setTop (mkF m 275 #[.val (.int p1), .val (.int p2), .val (.int p3), .val (.int p4), .val (.int p5), .val (.int p6), .val (.int x9), .val (.int x14), .val (.int x23), .val (.int l9_58), .val (.int x65), .val (.int x75), .val (.int x87), .val (.ref b3), .val (.int (bI ((x75 = x23) ∨ ((x75 = l9_58) ∨ (x75 = x65))))), .val (.int r263)] [(.int r1_272)]))
                      refine g_iload X at_275 rfl (q := 277) rfl ?_
                      have hok2 : r1_272 = r263 := by
                        exact own_cbN hX1_272 hFM (fun j hj => by revert hj; simp only [false_or]; omega) hcb266
                      refine g_icmpA X at_277 (Or.inr (Or.inr rfl)) (q := 280) rfl (by decide) (t := 282) rfl (fun (c106 : r1_272 = r263) => ?_) (fun (c106 : ¬ (r1_272 = r263)) => ?_)
                      · skip
                        refine g_aload X at_282 rfl (q := 284) rfl rfl ?_
                        refine g_callV X O_b3.1 [] [] (tw34 hw) (tw35 hw) (tw37 hw) (tw36 hw) (tw3 hw) (tw38 hw) (by decide) (rm7 l Z a0 hw [] b3 w1_95 h1_95 NW_95 NH_95 W1_136 H1_136 _ n0 X.size O_b3 A_w1_95 A_h1_95 hD_95 hIS1_136) pd5 rfl rfl rfl at_284 (q := 287) rfl (W := 0) rfl (by decide) (by decide) (c2 := 3) (s2 := 262) rfl rfl (by decide) (by decide) (fun v T h' X hQ => ?_)
                        obtain ⟨r1_284, rfl, Kc, hE1_284⟩ := hQ
                        have O_b3 := O_b3.keep Kc nin0
                        have A_w1_95 := A_w1_95.keep Kc nin0
                        have A_h1_95 := A_h1_95.keep Kc nin0
                        show Goes p e below s _ n0 _ (T.setTop (mkF m 287 #[.val (.int p1), .val (.int p2), .val (.int p3), .val (.int p4), .val (.int p5), .val (.int p6), .val (.int x9), .val (.int x14), .val (.int x23), .val (.int l9_58), .val (.int x65), .val (.int x75), .val (.int x87), .val (.ref b3), .val (.int (bI ((x75 = x23) ∨ ((x75 = l9_58) ∨ (x75 = x65))))), .val (.int r263)] [(.int r1_284)]))
                        refine g_iload X at_287 rfl (q := 289) rfl ?_
                        refine g_jT1 X (J := 297) (P := fun (s0_297 : Int32) => s0_297 = (bI (x14 = (0 : Int32)))) (L := fun s0_297 => #[.val (.int p1), .val (.int p2), .val (.int p3), .val (.int p4), .val (.int p5), .val (.int p6), .val (.int x9), .val (.int x14), .val (.int x23), .val (.int l9_58), .val (.int x65), .val (.int x75), .val (.int x87), .val (.ref b3), .val (.int (bI ((x75 = x23) ∨ ((x75 = l9_58) ∨ (x75 = x65))))), .val (.int r263)]) (S := fun s0_297 => [(.int s0_297), (.int r1_284)]) ?_ ?_
                        · intro T X s0_297 hs0_297
                          replace hs0_297 : s0_297 = (bI (x14 = (0 : Int32))) := hs0_297
                          subst hs0_297
                          show Goes p e below s _ n0 _ (T.setTop (mkF m 297 #[.val (.int p1), .val (.int p2), .val (.int p3), .val (.int p4), .val (.int p5), .val (.int p6), .val (.int x9), .val (.int x14), .val (.int x23), .val (.int l9_58), .val (.int x65), .val (.int x75), .val (.int x87), .val (.ref b3), .val (.int (bI ((x75 = x23) ∨ ((x75 = l9_58) ∨ (x75 = x65))))), .val (.int r263)] [(.int (bI (x14 = (0 : Int32)))), (.int r1_284)]))
                          have hok3 : r1_284 = (bI (x14 = (0 : Int32))) := by
                            rw [own_isF (i := x23.toInt.toNat) hE1_284 (by omega) ((hFM _).mpr (by simp))]
                            refine bI_f (fun z => ?_)
                            simp only [Int32.lt_iff_toInt_lt, ← Int32.toInt_inj, Int32.reduceToInt] at *
                            omega
                          refine g_icmpA X at_297 (Or.inr (Or.inr rfl)) (q := 300) rfl (by decide) (t := 302) rfl (fun (c107 : r1_284 = (bI (x14 = (0 : Int32)))) => ?_) (fun (c107 : ¬ (r1_284 = (bI (x14 = (0 : Int32))))) => ?_)
                          · skip
                            refine g_aload X at_302 rfl (q := 304) rfl rfl ?_
                            refine g_callV X O_b3.1 [] [] (tw39 hw) (tw40 hw) (tw42 hw) (tw41 hw) (tw3 hw) (tw43 hw) (by decide) (rm8 l Z a0 hw [] b3 w1_95 h1_95 NW_95 NH_95 W1_136 H1_136 _ n0 X.size O_b3 A_w1_95 A_h1_95 g_w1_95 g_h1_95 ne_b3_w1_95 ne_b3_h1_95 ne_w1_95_b3 ne_w1_95_h1_95 ne_h1_95_b3 ne_h1_95_w1_95 hD_95 hIS1_136) pd6 rfl rfl rfl at_304 (q := 307) rfl (W := 0) rfl (by decide) (by decide) (c2 := 3) (s2 := 262) rfl rfl (by decide) (by decide) (fun v T h' X hQ => ?_)
                            obtain ⟨W1_304, H1_304, rfl, Kc, A_w1_95', A_h1_95', hZ1_304, hIS1_304⟩ := hQ
                            have O_b3 := O_b3.keep Kc (ninS ne_b3_w1_95 (ninS ne_b3_h1_95 nin0))
                            have A_w1_95 := A_w1_95'
                            have A_h1_95 := A_h1_95'
                            show Goes p e below s _ n0 _ (T.setTop (mkF m 307 #[.val (.int p1), .val (.int p2), .val (.int p3), .val (.int p4), .val (.int p5), .val (.int p6), .val (.int x9), .val (.int x14), .val (.int x23), .val (.int l9_58), .val (.int x65), .val (.int x75), .val (.int x87), .val (.ref b3), .val (.int (bI ((x75 = x23) ∨ ((x75 = l9_58) ∨ (x75 = x65))))), .val (.int r263)] []))
                            refine g_aload X at_307 rfl (q := 309) rfl rfl ?_
                            refine g_callV X O_b3.1 [] [] (tw34 hw) (tw35 hw) (tw37 hw) (tw36 hw) (tw3 hw) (tw38 hw) (by decide) (rm7 l Z a0 hw [] b3 w1_95 h1_95 NW_95 NH_95 W1_304 H1_304 _ n0 X.size O_b3 A_w1_95 A_h1_95 hD_95 hIS1_304) pd5 rfl rfl rfl at_309 (q := 312) rfl (W := 0) rfl (by decide) (by decide) (c2 := 3) (s2 := 262) rfl rfl (by decide) (by decide) (fun v T h' X hQ => ?_)
                            obtain ⟨r1_309, rfl, Kc, hE1_309⟩ := hQ
                            have O_b3 := O_b3.keep Kc nin0
                            have A_w1_95 := A_w1_95.keep Kc nin0
                            have A_h1_95 := A_h1_95.keep Kc nin0
                            show Goes p e below s _ n0 _ (T.setTop (mkF m 312 #[.val (.int p1), .val (.int p2), .val (.int p3), .val (.int p4), .val (.int p5), .val (.int p6), .val (.int x9), .val (.int x14), .val (.int x23), .val (.int l9_58), .val (.int x65), .val (.int x75), .val (.int x87), .val (.ref b3), .val (.int (bI ((x75 = x23) ∨ ((x75 = l9_58) ∨ (x75 = x65))))), .val (.int r263)] [(.int r1_309)]))
                            have hok4 : ¬ (r1_309 = (0 : Int32)) := by
                              rw [own_isT hE1_309 hZ1_304]; decide
                            refine g_ifB X at_312 (Or.inr (Or.inr rfl)) (q := 315) rfl (by decide) (t := 317) rfl (fun (c108 : r1_309 = (0 : Int32)) => ?_) (fun (c108 : ¬ (r1_309 = (0 : Int32))) => ?_)
                            · skip
                              exact absurd c108 hok4
                            · skip
                              refine g_aload X at_317 rfl (q := 319) rfl rfl ?_
                              refine g_iload X at_319 rfl (q := 321) rfl ?_
                              refine g_callV X O_b3.1 [(.int x75)] [] (tw15 hw) (tw16 hw) (tw18 hw) (tw17 hw) (tw3 hw) (tw19 hw) (by decide) (rm3 l Z a0 hw [] b3 x75 w1_95 h1_95 NW_95 W1_304 (x75.toInt.toNat) _ n0 X.size O_b3 A_w1_95 (own_pn (by omega)) (by omega) hD_95.2.1) pd3 rfl rfl rfl at_321 (q := 324) rfl (W := 0) rfl (by decide) (by decide) (c2 := 3) (s2 := 262) rfl rfl (by decide) (by decide) (fun v T h' X hQ => ?_)
                              obtain ⟨rfl, rfl⟩ := hQ
                              show Goes p e below s _ n0 _ (T.setTop (mkF m 324 #[.val (.int p1), .val (.int p2), .val (.int p3), .val (.int p4), .val (.int p5), .val (.int p6), .val (.int x9), .val (.int x14), .val (.int x23), .val (.int l9_58), .val (.int x65), .val (.int x75), .val (.int x87), .val (.ref b3), .val (.int (bI ((x75 = x23) ∨ ((x75 = l9_58) ∨ (x75 = x65))))), .val (.int r263)] [(.int (bI (tb (W1_304 ((x75.toInt.toNat) / 64)) ((x75.toInt.toNat) % 64) = true)))]))
                              have hok5 : ¬ (tb (W1_304 ((x75.toInt.toNat) / 64)) ((x75.toInt.toNat) % 64) = true) := by
                                exact own_emp hZ1_304 (i := x75.toInt.toNat) (by omega)
                              refine g_beq X at_324 (q := 327) rfl (by decide) (t := 329) rfl (fun (c109 : tb (W1_304 ((x75.toInt.toNat) / 64)) ((x75.toInt.toNat) % 64) = true) => ?_) (fun (c109 : ¬ (tb (W1_304 ((x75.toInt.toNat) / 64)) ((x75.toInt.toNat) % 64) = true)) => ?_)
                              · skip
                                exact absurd c109 hok5
                              · skip
                                refine g_iconst X at_329 rfl (q := 330) (v := 1) rfl ?_
                                exact g_retZ X at_330 (by decide) (by decide) (by decide) rfl
                          · skip
                            exact absurd hok3 c107
                        · intro J297_109
                          refine g_ifB X at_289 (Or.inr (Or.inr rfl)) (q := 292) rfl (by decide) (t := 296) rfl (fun (c110 : x14 = (0 : Int32)) => ?_) (fun (c110 : ¬ (x14 = (0 : Int32))) => ?_)
                          · skip
                            have b_x14 : (0 : Int) ≤ x14.toInt ∧ x14.toInt ≤ 0 := by have z0 := c110; (try simp only [Int64.lt_iff_toInt_lt, Int32.lt_iff_toInt_lt, Int64.le_iff_toInt_le, Int32.le_iff_toInt_le, ← Int64.toInt_inj, ← Int32.toInt_inj, apply_ite Int64.toInt, apply_ite Int32.toInt, Int64.reduceToInt, Int32.reduceToInt, ne_eq] at z0); have z1 := rng32 x14; omega
                            refine g_iconst X at_292 rfl (q := 293) (v := 1) rfl ?_
                            refine g_goto X at_293 (by decide) (q := 297) rfl ?_
                            exact J297_109 T X _ (bI_t c110)
                          · skip
                            refine g_iconst X at_296 rfl (q := 297) (v := 0) rfl ?_
                            exact J297_109 T X _ (bI_f c110)
                      · skip
                        exact absurd hok2 c106
              · replace c102 : ¬ ((tb (W1_136 ((x75.toInt.toNat) / 64)) ((x75.toInt.toNat) % 64) = true) ↔ ((x75 = x23) ∨ ((x75 = l9_58) ∨ (x75 = x65)))) := fun z => c102 ((bI_inj _ _).mpr z)
                exact absurd hok1 c102
            · intro J183_110
              refine g_icmpA X at_149 (Or.inr (Or.inr rfl)) (q := 152) rfl (by decide) (t := 178) rfl (fun (c111 : x75 = x23) => ?_) (fun (c111 : ¬ (x75 = x23)) => ?_)
              · skip
                refine g_iconst X at_178 rfl (q := 179) (v := 1) rfl ?_
                refine g_goto X at_179 (by decide) (q := 183) rfl ?_
                exact J183_110 T X _ (bI_t (Or.inl c111))
              · skip
                refine g_iload X at_152 rfl (q := 154) rfl ?_
                refine g_iconst X at_154 rfl (q := 155) (v := 2) rfl ?_
                refine g_icmpA X at_155 (Or.inl rfl) (q := 158) rfl (by decide) (t := 165) rfl (fun (c112 : x14 < (2 : Int32)) => ?_) (fun (c112 : ¬ (x14 < (2 : Int32))) => ?_)
                · skip
                  exact absurd c112 c57
                · skip
                  refine g_iload X at_158 rfl (q := 160) rfl ?_
                  refine g_iload X at_160 rfl (q := 162) rfl ?_
                  refine g_icmpA X at_162 (Or.inr (Or.inr rfl)) (q := 165) rfl (by decide) (t := 178) rfl (fun (c113 : x75 = l9_58) => ?_) (fun (c113 : ¬ (x75 = l9_58)) => ?_)
                  · skip
                    refine g_iconst X at_178 rfl (q := 179) (v := 1) rfl ?_
                    refine g_goto X at_179 (by decide) (q := 183) rfl ?_
                    exact J183_110 T X _ (bI_t (Or.inr (Or.inl c113)))
                  · skip
                    refine g_iload X at_165 rfl (q := 167) rfl ?_
                    refine g_iconst X at_167 rfl (q := 168) (v := 3) rfl ?_
                    refine g_icmpA X at_168 (Or.inl rfl) (q := 171) rfl (by decide) (t := 182) rfl (fun (c114 : x14 < (3 : Int32)) => ?_) (fun (c114 : ¬ (x14 < (3 : Int32))) => ?_)
                    · skip
                      exact absurd c114 c86
                    · skip
                      refine g_iload X at_171 rfl (q := 173) rfl ?_
                      refine g_iload X at_173 rfl (q := 175) rfl ?_
                      refine g_icmpB X at_175 (Or.inr (Or.inr rfl)) (q := 178) rfl (by decide) (t := 182) rfl (fun (c115 : x75 = x65) => ?_) (fun (c115 : ¬ (x75 = x65)) => ?_)
                      · skip
                        refine g_iconst X at_178 rfl (q := 179) (v := 1) rfl ?_
                        refine g_goto X at_179 (by decide) (q := 183) rfl ?_
                        exact J183_110 T X _ (bI_t (Or.inr (Or.inr c115)))
                      · skip
                        refine g_iconst X at_182 rfl (q := 183) (v := 0) rfl ?_
                        exact J183_110 T X _ (bI_f (fun z => z.elim c111 (fun z => z.elim c113 c115)))
  · intro J58_115
    refine g_ifA X at_40 (Or.inr (Or.inr rfl)) (q := 43) rfl (by decide) (t := 58) rfl (fun (c116 : (((p1.toUInt32 >>> ((16 : Int32) &&& 31).toUInt32).toInt32) &&& (1 : Int32)) = (0 : Int32)) => ?_) (fun (c116 : ¬ ((((p1.toUInt32 >>> ((16 : Int32) &&& 31).toUInt32).toInt32) &&& (1 : Int32)) = (0 : Int32))) => ?_)
    · skip
      exact J58_115 T X _ ((if_pos c116).symm)
    · skip
      refine g_iload X at_43 rfl (q := 45) rfl ?_
      refine g_bipush X at_45 rfl (q := 47) (v := -64) rfl ?_
      refine g_iand X at_47 rfl (q := 48) ?_
      refine g_iloadN X at_48 rfl (q := 49) rfl ?_
      refine g_bipush X at_49 rfl (q := 51) (v := 63) rfl ?_
      refine g_iand X at_51 rfl (q := 52) ?_
      refine g_ior X at_52 rfl (q := 53) ?_
      refine g_iload X at_53 rfl (q := 55) rfl ?_
      refine g_irem X at_55 rfl (q := 56) (own_nz0 (by omega)) ?_
      refine g_istore X at_56 rfl (q := 58) (L' := #[.val (.int p1), .val (.int p2), .val (.int p3), .val (.int p4), .val (.int p5), .val (.int p6), .val (.int x9), .val (.int x14), .val (.int x23), .val (.int (((x23 &&& (-64 : Int32)) ||| (p3 &&& (63 : Int32))) % x9)), .unset, .unset, .unset, .unset, .unset, .unset]) rfl ?_
      exact J58_115 T X _ ((if_neg c116).symm)
set_option maxRecDepth 65536 in
set_option maxHeartbeats 40000000 in
theorem comes_1 {Post : Tables → Env → Array Value → State → Outcome → State → Prop} (hpost : ∀ tb e args s v u, (limb_1_1.after args s (.returned v) u = true ∧ limb_1_2.after args s (.returned v) u = true ∧ True) → FrameEnd s (.returned v) u (Jvm.fieldLocs frame_1_writes args s ++ Jvm.arrayLocs frame_1_arrays args s ++ Jvm.staticLocs frame_1_statics s) 16 640 → Post tb e args s (.returned v) u) :
    ArmFor flags0 classFile x code maxLocals ret World_1 tables_1 room_1 Calls_1 rest_1 Pre_1 Post := by
  intro l hfl _ _ p e ha hc hk s m args below hf hA hF happ hP
  obtain ⟨hcalls, hrest, hpre⟩ := hP
  obtain ⟨-, -, -, hnamed, -, -, -, hat⟩ := (Spec.applies_iff hf).mp happ
  obtain ⟨hg, hn⟩ := and_e (Cond.before_iff.mp (show (Jvm.Cond.and given_1 narrow_1).before args s = true from hpre))
  obtain ⟨u1, w1⟩ := and_e hg
  obtain ⟨u2, w2⟩ := and_e w1
  obtain ⟨u3, w3⟩ := and_e w2
  obtain ⟨u4, w4⟩ := and_e w3
  obtain ⟨u5, w5⟩ := and_e w4
  obtain ⟨u6, w6⟩ := and_e w5
  obtain ⟨z0, z1, z2, z3, z4, z5, rfl⟩ : ∃ z0 z1 z2 z3 z4 z5 : Value, args = #[z0, z1, z2, z3, z4, z5] := by
    have hs : args.size = 6 := by simpa [Cond.value, given_1] using u1
    obtain ⟨L⟩ := args
    match L, hs with
    | [z0, z1, z2, z3, z4, z5], _ => exact ⟨z0, z1, z2, z3, z4, z5, rfl⟩
  have hw := fun d (hd : d ∈ tables_1) => atoms_spec (ws := Jvm.Cond.code x code maxLocals ret :: tables_1) hat d (List.mem_cons_of_mem _ hd)
  obtain ⟨i0, ei0⟩ := is_v u2
  obtain rfl : z0 = (.int i0) := Option.some.inj ei0
  obtain ⟨i1, ei1⟩ := is_v u3
  obtain rfl : z1 = (.int i1) := Option.some.inj ei1
  obtain ⟨i2, ei2⟩ := is_v u4
  obtain rfl : z2 = (.int i2) := Option.some.inj ei2
  obtain ⟨i3, ei3⟩ := is_v u5
  obtain rfl : z3 = (.int i3) := Option.some.inj ei3
  obtain ⟨i4, ei4⟩ := is_v u6
  obtain rfl : z4 = (.int i4) := Option.some.inj ei4
  obtain ⟨i5, ei5⟩ := is_v w6
  obtain rfl : z5 = (.int i5) := Option.some.inj ei5
  obtain ⟨n, o, h1, h2, h3, _, L, rfl, ⟨N, rfl⟩, hq⟩ := rm0 l s _ hw tables_1 i0 i1 i2 i3 i4 i5 s.heap s.heap.size (Nat.le_refl _) p e ha hc hk s m _ below hf ((Spec.applies_iff_loose hf).mp happ).1 ⟨rfl, State.Warmed39.refl s, rfl⟩ trivial
  refine ⟨n, _, h1, h2, h3, hpost _ _ _ _ _ _ ⟨Cond.after_iff.mpr rfl, Cond.after_iff.mpr (eq_i res_at (Term.int_eval (1)) rfl), trivial⟩ ⟨hq.1, hq.2.1, (hq.2.2.sift fun y hy => Or.inr (N y hy)).mono (by decide) (by decide)⟩⟩
theorem main_1_1 : Claimed_1_1 := comes_1 fun _ _ _ _ _ _ h hF => ⟨h.1, hF⟩
theorem main_1_2 : Claimed_1_2 := comes_1 fun _ _ _ _ _ _ h hF => ⟨h.2.1, hF⟩
end Jvm.Pilot.@@N@@
namespace Jvm.Pilot.@@N@@
open Jvm Jvm.ClassFile Sem Op Lib Jvm.Free Jvm.Stand Jvm.Pilot.@@N@@.Jvm.D
/-! MADE BY PROGRAM (witnessworld.py) out of the Statement's table words and the real class files: 17 classes; the members and pool entries that the words name. The judged class is class 1, her method 2. -/
namespace start1
open Jvm.ClassFile
def u (s : String) : CpInfo := .utf8 (stringToUtf16 s)
/-- a pool by its gaps: so many unusable entries, then the entry; so many at the end -/
def gap : Nat → List CpInfo → List CpInfo
  | 0, r => r
  | n + 1, r => .unusable :: gap n r
def poolList (es : List (Nat × CpInfo)) (last : Nat) : List CpInfo := es.foldr (fun e r => gap e.1 (e.2 :: r)) (gap last [])
def pool (es : List (Nat × CpInfo)) (last : Nat) : Array CpInfo := ⟨poolList es last⟩
def fileOf (pool : Array CpInfo) (this : Nat) (attrs : Array Attribute := #[]) (ms : Array MethodInfo := #[]) (fl : Nat := 33) (sup : Nat := 0) (ifs : Array Nat := #[]) (fds : Array FieldInfo := #[]) : ClassFile where
  minorVersion := 0
  majorVersion := 65
  constantPool := pool
  accessFlags := fl
  thisClass := this
  superClass := sup
  interfaces := ifs
  fields := fds
  methods := ms
  attributes := attrs
def plain (name : String) (sup : Option ClassId) : Class where
  name := name
  kind := .ordinary
  loader := none
  accessFlags := 33
  super := sup
  interfaces := #[]
  cf := none
  fields := #[]
  methods := #[]
  instanceTypes := #[]
  staticTypes := #[]
  resolved := #[]
  callSites := []
  init := .initialized
  statics := none
  mirror := none

def pool0 : Array CpInfo := pool [(5, u "<init>"), (0, u "()V"), (1, .class_ 10), (1, u "java/lang/Object")] 113

def k0c0 : Code := { maxStack := 0, maxLocals := 1, code := object_method_1_code, exceptionTable := #[], attributes := #[] }
def k0m0 : Method := { name := "<init>", desc := "()V", sig := { parameters := [], returnType := none }, accessFlags := 1, code := some k0c0 }
/-- java/lang/Object -/
def k0 : Class := { plain "java/lang/Object" none with
  accessFlags := 33
  interfaces := #[]
  cf := some (fileOf pool0 8 #[] #[{ accessFlags := 1, nameIndex := 5, descriptorIndex := 6, attributes := #[] }] 33 0 #[] #[])
  fields := #[]
  methods := #[k0m0]
  instanceTypes := #[]
  staticTypes := #[]
  resolved := Array.replicate 124 none
  statics := none }

def pool1 : Array CpInfo := pool [(2, .class_ 4), (1, u "java/lang/Object"), (0, u "<init>"), (0, u "()V"), (0, .integer 2147483647), (0, .class_ 9), (0, u "com/example/bulkstep/bulkstep/engine/IndexSet"), (0, .methodref 8 11), (0, .nameAndType 5 12), (0, u "(I)V"), (0, .methodref 8 14), (0, .nameAndType 15 12), (0, u "add"), (0, .methodref 8 17), (0, .nameAndType 18 19), (0, u "contains"), (0, u "(I)Z"), (0, .methodref 21 22), (0, .class_ 23), (0, .nameAndType 24 25), (0, u "com/example/bulkstep/bulkstep/engine/IndexSetAddPinLaw"), (0, u "cand"), (0, u "(IZII)I"), (0, .methodref 8 27), (0, .nameAndType 28 29), (0, u "next"), (0, u "(I)I"), (0, .methodref 8 31), (0, .nameAndType 32 33), (0, u "isEmpty"), (0, u "()Z"), (0, .methodref 8 35), (0, .nameAndType 36 6), (0, u "clear"), (3, u "law"), (0, u "(IIIIII)Z")] 2

def k1m0 : Method := { name := "<init>", desc := "()V", sig := { parameters := [], returnType := none }, accessFlags := 1, code := none }
def k1c1 : Code := { maxStack := 2, maxLocals := 4, code := method_2_code, exceptionTable := #[], attributes := #[] }
def k1m1 : Method := { name := "cand", desc := "(IZII)I", sig := { parameters := [.int, .boolean, .int, .int], returnType := some .int }, accessFlags := 10, code := some k1c1 }
def k1c2 : Code := { maxStack := 4, maxLocals := 16, code := code, exceptionTable := #[], attributes := #[] }
def k1m2 : Method := { name := "law", desc := "(IIIIII)Z", sig := { parameters := [.int, .int, .int, .int, .int, .int], returnType := some .boolean }, accessFlags := 9, code := some k1c2 }
/-- com/example/bulkstep/bulkstep/engine/IndexSetAddPinLaw -/
def k1 : Class := { plain "com/example/bulkstep/bulkstep/engine/IndexSetAddPinLaw" (some 0) with
  accessFlags := 49
  interfaces := #[]
  cf := some (fileOf pool1 21 #[] #[{ accessFlags := 1, nameIndex := 5, descriptorIndex := 6, attributes := #[] }, { accessFlags := 10, nameIndex := 24, descriptorIndex := 25, attributes := #[] }, { accessFlags := 9, nameIndex := 40, descriptorIndex := 41, attributes := #[] }] 49 2 #[] #[])
  fields := #[]
  methods := #[k1m0, k1m1, k1m2]
  instanceTypes := #[]
  staticTypes := #[]
  resolved := Array.replicate 44 none
  statics := none }

def pool2 : Array CpInfo := pool [(1, .methodref 2 3), (0, .class_ 4), (0, .nameAndType 5 6), (0, u "java/lang/Object"), (0, u "<init>"), (0, u "()V"), (0, .fieldref 8 9), (0, .class_ 10), (0, .nameAndType 11 12), (0, u "com/example/bulkstep/bulkstep/engine/IndexSet"), (0, u "words"), (0, u "[J"), (0, .fieldref 8 14), (0, .nameAndType 15 12), (0, u "held"), (0, .long 18446744073709551615), (1, .methodref 19 20), (0, .class_ 21), (0, .nameAndType 22 23), (0, u "java/lang/Long"), (0, u "numberOfTrailingZeros"), (0, u "(J)I"), (0, .methodref 8 25), (0, .nameAndType 26 27), (0, u "nextWord"), (0, u "(I)I"), (0, u "(I)V"), (2, u "contains"), (0, u "(I)Z"), (1, u "add"), (3, u "isEmpty"), (0, u "()Z"), (0, u "next"), (0, u "clear")] 2

def k2c0 : Code := { maxStack := 3, maxLocals := 2, code := prog_26_method_1_code, exceptionTable := #[], attributes := #[] }
def k2m0 : Method := { name := "<init>", desc := "(I)V", sig := { parameters := [.int], returnType := none }, accessFlags := 0, code := some k2c0 }
def k2c1 : Code := { maxStack := 5, maxLocals := 2, code := prog_26_method_2_code, exceptionTable := #[], attributes := #[] }
def k2m1 : Method := { name := "contains", desc := "(I)Z", sig := { parameters := [.int], returnType := some .boolean }, accessFlags := 0, code := some k2c1 }
def k2c2 : Code := { maxStack := 7, maxLocals := 5, code := prog_26_method_3_code, exceptionTable := #[], attributes := #[] }
def k2m2 : Method := { name := "add", desc := "(I)V", sig := { parameters := [.int], returnType := none }, accessFlags := 0, code := some k2c2 }
def k2c3 : Code := { maxStack := 2, maxLocals := 1, code := prog_26_method_6_code, exceptionTable := #[], attributes := #[] }
def k2m3 : Method := { name := "isEmpty", desc := "()Z", sig := { parameters := [], returnType := some .boolean }, accessFlags := 0, code := some k2c3 }
def k2c4 : Code := { maxStack := 5, maxLocals := 5, code := prog_26_method_7_code, exceptionTable := #[], attributes := #[] }
def k2m4 : Method := { name := "next", desc := "(I)I", sig := { parameters := [.int], returnType := some .int }, accessFlags := 0, code := some k2c4 }
def k2c5 : Code := { maxStack := 6, maxLocals := 4, code := prog_26_method_8_code, exceptionTable := #[], attributes := #[] }
def k2m5 : Method := { name := "clear", desc := "()V", sig := { parameters := [], returnType := none }, accessFlags := 0, code := some k2c5 }
def k2c6 : Code := { maxStack := 5, maxLocals := 5, code := prog_26_method_9_code, exceptionTable := #[], attributes := #[] }
def k2m6 : Method := { name := "nextWord", desc := "(I)I", sig := { parameters := [.int], returnType := some .int }, accessFlags := 2, code := some k2c6 }
/-- com/example/bulkstep/bulkstep/engine/IndexSet -/
def k2 : Class := { plain "com/example/bulkstep/bulkstep/engine/IndexSet" (some 0) with
  accessFlags := 48
  interfaces := #[]
  cf := some (fileOf pool2 8 #[] #[{ accessFlags := 0, nameIndex := 5, descriptorIndex := 28, attributes := #[] }, { accessFlags := 0, nameIndex := 31, descriptorIndex := 32, attributes := #[] }, { accessFlags := 0, nameIndex := 34, descriptorIndex := 28, attributes := #[] }, { accessFlags := 0, nameIndex := 38, descriptorIndex := 39, attributes := #[] }, { accessFlags := 0, nameIndex := 40, descriptorIndex := 27, attributes := #[] }, { accessFlags := 0, nameIndex := 41, descriptorIndex := 6, attributes := #[] }, { accessFlags := 2, nameIndex := 26, descriptorIndex := 27, attributes := #[] }] 48 2 #[] #[{ accessFlags := 18, nameIndex := 11, descriptorIndex := 12, attributes := #[] }, { accessFlags := 18, nameIndex := 15, descriptorIndex := 12, attributes := #[] }])
  fields := #[{ name := "words", type := (.array .long), accessFlags := 18, slot := 0, constantValue := 0 }, { name := "held", type := (.array .long), accessFlags := 18, slot := 1, constantValue := 0 }]
  methods := #[k2m0, k2m1, k2m2, k2m3, k2m4, k2m5, k2m6]
  instanceTypes := #[(.array .long), (.array .long)]
  staticTypes := #[]
  resolved := Array.replicate 44 none
  statics := none }

def pool3 : Array CpInfo := pool [(1, .class_ 2), (0, u "java/io/Serializable"), (0, .class_ 4), (0, u "java/lang/Object")] 2

/-- java/io/Serializable -/
def k3 : Class := { plain "java/io/Serializable" (some 0) with
  accessFlags := 1537
  interfaces := #[]
  cf := some (fileOf pool3 1 #[] #[] 1537 3 #[] #[])
  fields := #[]
  methods := #[]
  instanceTypes := #[]
  staticTypes := #[]
  resolved := Array.replicate 7 none
  statics := none }

def pool4 : Array CpInfo := pool [(2, .class_ 4), (1, u "java/lang/Object"), (0, u "<init>"), (0, u "()V"), (1, .class_ 10), (1, u "java/lang/Number"), (2, .class_ 14), (0, u "java/io/Serializable"), (0, u "serialVersionUID"), (0, u "J")] 20

def k4m0 : Method := { name := "<init>", desc := "()V", sig := { parameters := [], returnType := none }, accessFlags := 1, code := none }
/-- java/lang/Number -/
def k4 : Class := { plain "java/lang/Number" (some 0) with
  accessFlags := 1057
  interfaces := #[3]
  cf := some (fileOf pool4 8 #[] #[{ accessFlags := 1, nameIndex := 5, descriptorIndex := 6, attributes := #[] }] 1057 2 #[13] #[{ accessFlags := 26, nameIndex := 15, descriptorIndex := 16, attributes := #[] }])
  fields := #[{ name := "serialVersionUID", type := .long, accessFlags := 26, slot := 0, constantValue := 0 }]
  methods := #[k4m0]
  instanceTypes := #[]
  staticTypes := #[.long]
  resolved := Array.replicate 37 none
  statics := none }

def pool5 : Array CpInfo := pool [(1, .class_ 2), (0, u "java/lang/Comparable"), (0, .class_ 4), (0, u "java/lang/Object")] 7

/-- java/lang/Comparable -/
def k5 : Class := { plain "java/lang/Comparable" (some 0) with
  accessFlags := 1537
  interfaces := #[]
  cf := some (fileOf pool5 1 #[] #[] 1537 3 #[] #[])
  fields := #[]
  methods := #[]
  instanceTypes := #[]
  staticTypes := #[]
  resolved := Array.replicate 12 none
  statics := none }

def pool6 : Array CpInfo := pool [(1, .class_ 2), (0, u "java/lang/constant/Constable"), (0, .class_ 4), (0, u "java/lang/Object")] 6

/-- java/lang/constant/Constable -/
def k6 : Class := { plain "java/lang/constant/Constable" (some 0) with
  accessFlags := 1537
  interfaces := #[]
  cf := some (fileOf pool6 1 #[] #[] 1537 3 #[] #[])
  fields := #[]
  methods := #[]
  instanceTypes := #[]
  staticTypes := #[]
  resolved := Array.replicate 11 none
  statics := none }

def pool7 : Array CpInfo := pool [(1, .class_ 2), (0, u "java/lang/constant/ConstantDesc"), (0, .class_ 4), (0, u "java/lang/Object")] 32

/-- java/lang/constant/ConstantDesc -/
def k7 : Class := { plain "java/lang/constant/ConstantDesc" (some 0) with
  accessFlags := 1537
  interfaces := #[]
  cf := some (fileOf pool7 1 #[] #[] 1537 3 #[] #[])
  fields := #[]
  methods := #[]
  instanceTypes := #[]
  staticTypes := #[]
  resolved := Array.replicate 37 none
  statics := none }

def pool8 : Array CpInfo := pool [(1, .class_ 2), (0, u "java/lang/Long"), (15, .class_ 20), (1, u "java/lang/Integer"), (80, u "(J)I"), (133, .class_ 237), (1, u "java/lang/Long$LongCache"), (33, .class_ 272), (0, u "java/lang/Number"), (2, u "value"), (0, u "J"), (33, u "(I)I"), (0, .methodref 18 312), (0, .nameAndType 313 310), (0, u "numberOfTrailingZeros"), (47, u "TYPE"), (0, u "Ljava/lang/Class;"), (0, .class_ 364), (0, u "java/lang/Comparable"), (0, .class_ 366), (0, u "java/lang/constant/Constable"), (0, .class_ 368), (0, u "java/lang/constant/ConstantDesc"), (0, u "MIN_VALUE"), (1, u "MAX_VALUE"), (4, u "SIZE"), (0, u "I"), (1, u "BYTES"), (1, u "serialVersionUID")] 142

def k8c0 : Code := { maxStack := 4, maxLocals := 3, code := jdk_35_method_49_code, exceptionTable := #[], attributes := #[] }
def k8m0 : Method := { name := "numberOfTrailingZeros", desc := "(J)I", sig := { parameters := [.long], returnType := some .int }, accessFlags := 9, code := some k8c0 }
/-- java/lang/Long -/
def k8 : Class := { plain "java/lang/Long" (some 4) with
  accessFlags := 49
  interfaces := #[5, 6, 7]
  cf := some (fileOf pool8 1 #[.nestMembers #[235]] #[{ accessFlags := 9, nameIndex := 313, descriptorIndex := 101, attributes := #[] }] 49 271 #[363, 365, 367] #[{ accessFlags := 25, nameIndex := 369, descriptorIndex := 276, attributes := #[] }, { accessFlags := 25, nameIndex := 371, descriptorIndex := 276, attributes := #[] }, { accessFlags := 25, nameIndex := 361, descriptorIndex := 362, attributes := #[] }, { accessFlags := 18, nameIndex := 275, descriptorIndex := 276, attributes := #[] }, { accessFlags := 25, nameIndex := 376, descriptorIndex := 377, attributes := #[] }, { accessFlags := 25, nameIndex := 379, descriptorIndex := 377, attributes := #[] }, { accessFlags := 26, nameIndex := 381, descriptorIndex := 276, attributes := #[] }])
  fields := #[{ name := "MIN_VALUE", type := .long, accessFlags := 25, slot := 0, constantValue := 0 }, { name := "MAX_VALUE", type := .long, accessFlags := 25, slot := 1, constantValue := 0 }, { name := "TYPE", type := (.object "java/lang/Class"), accessFlags := 25, slot := 2, constantValue := 0 }, { name := "value", type := .long, accessFlags := 18, slot := 0, constantValue := 0 }, { name := "SIZE", type := .int, accessFlags := 25, slot := 3, constantValue := 0 }, { name := "BYTES", type := .int, accessFlags := 25, slot := 4, constantValue := 0 }, { name := "serialVersionUID", type := .long, accessFlags := 26, slot := 5, constantValue := 0 }]
  methods := #[k8m0]
  instanceTypes := #[.long]
  staticTypes := #[.long, .long, (.object "java/lang/Class"), .int, .int, .long]
  resolved := Array.replicate 524 none
  statics := none }

def pool9 : Array CpInfo := pool [(1, .class_ 2), (0, u "java/lang/Integer"), (16, u "digits"), (0, u "[C"), (33, u "(I)I"), (30, u "DigitOnes"), (0, u "[B"), (2, u "DigitTens"), (99, .class_ 190), (0, u "java/lang/Integer$IntegerCache"), (3, u "I"), (8, .class_ 204), (0, u "java/lang/Number"), (2, u "value"), (56, .integer 65536), (37, u "TYPE"), (0, u "Ljava/lang/Class;"), (0, .class_ 305), (0, u "java/lang/Comparable"), (0, .class_ 307), (0, u "java/lang/constant/Constable"), (0, .class_ 309), (0, u "java/lang/constant/ConstantDesc"), (0, u "MIN_VALUE"), (1, u "MAX_VALUE"), (3, u "SIZE"), (1, u "BYTES"), (1, u "serialVersionUID"), (0, u "J"), (84, u "numberOfTrailingZeros")] 46

def k9c0 : Code := { maxStack := 3, maxLocals := 2, code := jdk_33_method_48_code, exceptionTable := #[], attributes := #[] }
def k9m0 : Method := { name := "numberOfTrailingZeros", desc := "(I)I", sig := { parameters := [.int], returnType := some .int }, accessFlags := 9, code := some k9c0 }
/-- java/lang/Integer -/
def k9 : Class := { plain "java/lang/Integer" (some 4) with
  accessFlags := 49
  interfaces := #[5, 6, 7]
  cf := some (fileOf pool9 1 #[.nestMembers #[189]] #[{ accessFlags := 9, nameIndex := 406, descriptorIndex := 54, attributes := #[] }] 49 203 #[304, 306, 308] #[{ accessFlags := 25, nameIndex := 310, descriptorIndex := 194, attributes := #[] }, { accessFlags := 25, nameIndex := 312, descriptorIndex := 194, attributes := #[] }, { accessFlags := 25, nameIndex := 302, descriptorIndex := 303, attributes := #[] }, { accessFlags := 24, nameIndex := 19, descriptorIndex := 20, attributes := #[] }, { accessFlags := 24, nameIndex := 89, descriptorIndex := 86, attributes := #[] }, { accessFlags := 24, nameIndex := 85, descriptorIndex := 86, attributes := #[] }, { accessFlags := 18, nameIndex := 207, descriptorIndex := 194, attributes := #[] }, { accessFlags := 25, nameIndex := 316, descriptorIndex := 194, attributes := #[] }, { accessFlags := 25, nameIndex := 318, descriptorIndex := 194, attributes := #[] }, { accessFlags := 26, nameIndex := 320, descriptorIndex := 321, attributes := #[] }])
  fields := #[{ name := "MIN_VALUE", type := .int, accessFlags := 25, slot := 0, constantValue := 0 }, { name := "MAX_VALUE", type := .int, accessFlags := 25, slot := 1, constantValue := 0 }, { name := "TYPE", type := (.object "java/lang/Class"), accessFlags := 25, slot := 2, constantValue := 0 }, { name := "digits", type := (.array .char), accessFlags := 24, slot := 3, constantValue := 0 }, { name := "DigitTens", type := (.array .byte), accessFlags := 24, slot := 4, constantValue := 0 }, { name := "DigitOnes", type := (.array .byte), accessFlags := 24, slot := 5, constantValue := 0 }, { name := "value", type := .int, accessFlags := 18, slot := 0, constantValue := 0 }, { name := "SIZE", type := .int, accessFlags := 25, slot := 6, constantValue := 0 }, { name := "BYTES", type := .int, accessFlags := 25, slot := 7, constantValue := 0 }, { name := "serialVersionUID", type := .long, accessFlags := 26, slot := 8, constantValue := 0 }]
  methods := #[k9m0]
  instanceTypes := #[.int]
  staticTypes := #[.int, .int, (.object "java/lang/Class"), (.array .char), (.array .byte), (.array .byte), .int, .int, .long]
  resolved := Array.replicate 453 none
  statics := none }

def pool10 : Array CpInfo := pool [(1, u "java/lang/Cloneable"), (0, .class_ 1), (0, u "java/lang/Object"), (0, .class_ 3)] 3

/-- java/lang/Cloneable -/
def k10 : Class := { plain "java/lang/Cloneable" (some 0) with
  accessFlags := 1537
  interfaces := #[]
  cf := some (fileOf pool10 2 #[] #[] 1537 4 #[] #[])
  fields := #[]
  methods := #[]
  instanceTypes := #[]
  staticTypes := #[]
  resolved := Array.replicate 8 none
  statics := none }

/-- the primitive byte -/
def k11 : Class := { plain "byte" none with kind := .primitive 'B', accessFlags := 0x411 }
/-- [B -/
def k12 : Class := { plain "[B" (some 0) with kind := .array 11 .byte, interfaces := #[10, 3], accessFlags := 1041 }

/-- the primitive int -/
def k13 : Class := { plain "int" none with kind := .primitive 'I', accessFlags := 0x411 }
/-- [I -/
def k14 : Class := { plain "[I" (some 0) with kind := .array 13 .int, interfaces := #[10, 3], accessFlags := 1041 }

/-- the primitive long -/
def k15 : Class := { plain "long" none with kind := .primitive 'J', accessFlags := 0x411 }
/-- [J -/
def k16 : Class := { plain "[J" (some 0) with kind := .array 15 .long, interfaces := #[10, 3], accessFlags := 1041 }

def heap : Heap := #[]
def classes : Array Class := #[k0, k1, k2, k3, k4, k5, k6, k7, k8, k9, k10, k11, k12, k13, k14, k15, k16]
def interned : List (Array UInt16 × Addr) := []
def slotsUsed : Nat := 0
def theMethod : MethodId := ⟨1, 2⟩
def args0 : Array Value := #[.int 5, .int 7, .int 3, .int 2, .int 1, .int 9]
def aboutOver (below : List Frame) : State where
  vm := { classes := classes, interned := interned.toArray }
  heap := heap
  slotsUsed := slotsUsed
  threads := #[{ frames := .invoking theMethod args0 :: below }]
def below0 : List Frame := [.native { method := ⟨0, 0⟩, args := #[] }]
def about1 : State := aboutOver below0
def p0 : Program := .bare "" "" ""
def e0 : Env := launch0.env 0 0 0
theorem w_frames : about1.frames = Frame.invoking theMethod args0 :: below0 := rfl
set_option maxRecDepth 65536 in
theorem w_args : argsFit about1.vm theMethod args0 = true := by decide +kernel
set_option maxRecDepth 65536 in
theorem w_heap : heapFits about1 = true := by decide +kernel
set_option maxRecDepth 65536 in
theorem w_runnable : about1.curStatus? = some .runnable := by decide +kernel
set_option maxRecDepth 65536 in
theorem w_alone : about1.alone = true := by decide +kernel
set_option maxRecDepth 65536 in
theorem w_named : about1.methodNamed? x = some theMethod := by decide +kernel
set_option maxRecDepth 65536 in
theorem w_hears : about1.hears theMethod below0 = true := by decide +kernel
set_option maxRecDepth 65536 in
theorem w_ripe : about1.ripe theMethod args0 below0 = true := by decide +kernel
theorem w_running : about1.status = .running := rfl
set_option maxRecDepth 65536 in
theorem w_room : about1.hasRoom e0.platform room_1 = true :=
  launch0.hasRoom_least _ room_1 (by decide +kernel) (by decide +kernel) (by decide +kernel) (by decide +kernel) (by decide +kernel) (by decide +kernel)
theorem allAtoms_all (ts : List Jvm.Cond) (a : Array Jvm.Value) (st : Jvm.State) : (allAtoms ts).before a st = ts.all (fun c => c.before a st) := by
  induction ts with
  | nil => rfl
  | cons c t ih =>
    show (Jvm.Cond.and c (allAtoms t)).before a st = _
    rw [Jvm.Cond.before_and, ih, List.all_cons]
def words1 : List Jvm.Cond := Jvm.Cond.code x code maxLocals ret :: tables_1
/-- a 'code' word, met by the world's own term for the bytes: nothing is compared byte by byte -/
theorem code_word {y : MethodName} {bytes : ByteArray} {mx : Nat} {rt : Option FieldType} {a : Array Value} {s : State} {m : MethodId} {meth : Method} {c : Code} (h1 : s.methodNamed? y = some m) (h2 : s.vm.method? m = some meth) (h3 : meth.code = some c) (h4 : c.code = bytes)
    (h5 : (c.maxLocals == mx && c.exceptionTable.isEmpty && decide (c.maxStack ≤ mostOperands) && decide (meth.sig.returnType = rt) && !meth.locks && decide (parseMethodDescriptor y.desc = some meth.sig)) = true) : (Jvm.Cond.code y bytes mx rt).before a s = true := by
  simp only [Bool.and_eq_true, beq_iff_eq, Bool.not_eq_true', decide_eq_true_eq] at h5
  obtain ⟨⟨⟨⟨⟨g1, g2⟩, g3⟩, g4⟩, g5⟩, g6⟩ := h5
  simp [Cond.before, Cond.holds, Cond.value, h1, h2, h3, h4, g1, g2, g3, g4, g5, g6]
def isCode : Jvm.Cond → Bool
  | .code _ _ _ _ => true
  | _ => false
theorem all_split {L : List Jvm.Cond} {P : Jvm.Cond → Bool} (h1 : L.all (fun c => isCode c || P c) = true) (h2 : ∀ c ∈ L.filter isCode, P c = true) : L.all P = true := by
  refine List.all_eq_true.mpr fun c hc => ?_
  have h := List.all_eq_true.mp h1 c hc
  rcases Bool.eq_false_or_eq_true (isCode c) with hi | hi
  · exact h2 c (List.mem_filter.mpr ⟨hc, hi⟩)
  · simpa [hi] using h
set_option maxRecDepth 65536 in
theorem w_c0 : (Jvm.Cond.code x code maxLocals ret).before args0 about1 = true := code_word (m := ⟨1, 2⟩) (meth := k1m2) (c := k1c2) (by decide +kernel) rfl rfl rfl (by decide +kernel)
set_option maxRecDepth 65536 in
theorem w_c1 : (Jvm.Cond.code ({ cls := "com/example/bulkstep/bulkstep/engine/IndexSet", name := "<init>", desc := "(I)V" } : Jvm.MethodName) prog_26_method_1_code (2 : Nat) (Option.none : Option Jvm.ClassFile.FieldType)).before args0 about1 = true := code_word (m := ⟨2, 0⟩) (meth := k2m0) (c := k2c0) (by decide +kernel) rfl rfl rfl (by decide +kernel)
set_option maxRecDepth 65536 in
theorem w_c2 : (Jvm.Cond.code ({ cls := "java/lang/Object", name := "<init>", desc := "()V" } : Jvm.MethodName) object_method_1_code (1 : Nat) (Option.none : Option Jvm.ClassFile.FieldType)).before args0 about1 = true := code_word (m := ⟨0, 0⟩) (meth := k0m0) (c := k0c0) (by decide +kernel) rfl rfl rfl (by decide +kernel)
set_option maxRecDepth 65536 in
theorem w_c3 : (Jvm.Cond.code ({ cls := "com/example/bulkstep/bulkstep/engine/IndexSet", name := "contains", desc := "(I)Z" } : Jvm.MethodName) prog_26_method_2_code (2 : Nat) (Option.some Jvm.ClassFile.FieldType.boolean)).before args0 about1 = true := code_word (m := ⟨2, 1⟩) (meth := k2m1) (c := k2c1) (by decide +kernel) rfl rfl rfl (by decide +kernel)
set_option maxRecDepth 65536 in
theorem w_c4 : (Jvm.Cond.code ({ cls := "com/example/bulkstep/bulkstep/engine/IndexSetAddPinLaw", name := "cand", desc := "(IZII)I" } : Jvm.MethodName) method_2_code (4 : Nat) (Option.some Jvm.ClassFile.FieldType.int)).before args0 about1 = true := code_word (m := ⟨1, 1⟩) (meth := k1m1) (c := k1c1) (by decide +kernel) rfl rfl rfl (by decide +kernel)
set_option maxRecDepth 65536 in
theorem w_c5 : (Jvm.Cond.code ({ cls := "com/example/bulkstep/bulkstep/engine/IndexSet", name := "next", desc := "(I)I" } : Jvm.MethodName) prog_26_method_7_code (5 : Nat) (Option.some Jvm.ClassFile.FieldType.int)).before args0 about1 = true := code_word (m := ⟨2, 4⟩) (meth := k2m4) (c := k2c4) (by decide +kernel) rfl rfl rfl (by decide +kernel)
set_option maxRecDepth 65536 in
theorem w_c6 : (Jvm.Cond.code ({ cls := "com/example/bulkstep/bulkstep/engine/IndexSet", name := "nextWord", desc := "(I)I" } : Jvm.MethodName) prog_26_method_9_code (5 : Nat) (Option.some Jvm.ClassFile.FieldType.int)).before args0 about1 = true := code_word (m := ⟨2, 6⟩) (meth := k2m6) (c := k2c6) (by decide +kernel) rfl rfl rfl (by decide +kernel)
set_option maxRecDepth 65536 in
theorem w_c7 : (Jvm.Cond.code ({ cls := "com/example/bulkstep/bulkstep/engine/IndexSet", name := "isEmpty", desc := "()Z" } : Jvm.MethodName) prog_26_method_6_code (1 : Nat) (Option.some Jvm.ClassFile.FieldType.boolean)).before args0 about1 = true := code_word (m := ⟨2, 3⟩) (meth := k2m3) (c := k2c3) (by decide +kernel) rfl rfl rfl (by decide +kernel)
set_option maxRecDepth 65536 in
theorem w_c8 : (Jvm.Cond.code ({ cls := "com/example/bulkstep/bulkstep/engine/IndexSet", name := "clear", desc := "()V" } : Jvm.MethodName) prog_26_method_8_code (4 : Nat) (Option.none : Option Jvm.ClassFile.FieldType)).before args0 about1 = true := code_word (m := ⟨2, 5⟩) (meth := k2m5) (c := k2c5) (by decide +kernel) rfl rfl rfl (by decide +kernel)
set_option maxRecDepth 65536 in
theorem w_c9 : (Jvm.Cond.code ({ cls := "com/example/bulkstep/bulkstep/engine/IndexSet", name := "add", desc := "(I)V" } : Jvm.MethodName) prog_26_method_3_code (5 : Nat) (Option.none : Option Jvm.ClassFile.FieldType)).before args0 about1 = true := code_word (m := ⟨2, 2⟩) (meth := k2m2) (c := k2c2) (by decide +kernel) rfl rfl rfl (by decide +kernel)
set_option maxRecDepth 65536 in
theorem w_c10 : (Jvm.Cond.code ({ cls := "java/lang/Long", name := "numberOfTrailingZeros", desc := "(J)I" } : Jvm.MethodName) jdk_35_method_49_code (3 : Nat) (Option.some Jvm.ClassFile.FieldType.int)).before args0 about1 = true := code_word (m := ⟨8, 0⟩) (meth := k8m0) (c := k8c0) (by decide +kernel) rfl rfl rfl (by decide +kernel)
set_option maxRecDepth 65536 in
theorem w_c11 : (Jvm.Cond.code ({ cls := "java/lang/Integer", name := "numberOfTrailingZeros", desc := "(I)I" } : Jvm.MethodName) jdk_33_method_48_code (2 : Nat) (Option.some Jvm.ClassFile.FieldType.int)).before args0 about1 = true := code_word (m := ⟨9, 0⟩) (meth := k9m0) (c := k9c0) (by decide +kernel) rfl rfl rfl (by decide +kernel)
def codes1 : List Jvm.Cond := [Jvm.Cond.code x code maxLocals ret, Jvm.Cond.code ({ cls := "com/example/bulkstep/bulkstep/engine/IndexSet", name := "<init>", desc := "(I)V" } : Jvm.MethodName) prog_26_method_1_code (2 : Nat) (Option.none : Option Jvm.ClassFile.FieldType), Jvm.Cond.code ({ cls := "java/lang/Object", name := "<init>", desc := "()V" } : Jvm.MethodName) object_method_1_code (1 : Nat) (Option.none : Option Jvm.ClassFile.FieldType), Jvm.Cond.code ({ cls := "com/example/bulkstep/bulkstep/engine/IndexSet", name := "contains", desc := "(I)Z" } : Jvm.MethodName) prog_26_method_2_code (2 : Nat) (Option.some Jvm.ClassFile.FieldType.boolean), Jvm.Cond.code ({ cls := "com/example/bulkstep/bulkstep/engine/IndexSetAddPinLaw", name := "cand", desc := "(IZII)I" } : Jvm.MethodName) method_2_code (4 : Nat) (Option.some Jvm.ClassFile.FieldType.int), Jvm.Cond.code ({ cls := "com/example/bulkstep/bulkstep/engine/IndexSet", name := "next", desc := "(I)I" } : Jvm.MethodName) prog_26_method_7_code (5 : Nat) (Option.some Jvm.ClassFile.FieldType.int), Jvm.Cond.code ({ cls := "com/example/bulkstep/bulkstep/engine/IndexSet", name := "nextWord", desc := "(I)I" } : Jvm.MethodName) prog_26_method_9_code (5 : Nat) (Option.some Jvm.ClassFile.FieldType.int), Jvm.Cond.code ({ cls := "com/example/bulkstep/bulkstep/engine/IndexSet", name := "isEmpty", desc := "()Z" } : Jvm.MethodName) prog_26_method_6_code (1 : Nat) (Option.some Jvm.ClassFile.FieldType.boolean), Jvm.Cond.code ({ cls := "com/example/bulkstep/bulkstep/engine/IndexSet", name := "clear", desc := "()V" } : Jvm.MethodName) prog_26_method_8_code (4 : Nat) (Option.none : Option Jvm.ClassFile.FieldType), Jvm.Cond.code ({ cls := "com/example/bulkstep/bulkstep/engine/IndexSet", name := "add", desc := "(I)V" } : Jvm.MethodName) prog_26_method_3_code (5 : Nat) (Option.none : Option Jvm.ClassFile.FieldType), Jvm.Cond.code ({ cls := "java/lang/Long", name := "numberOfTrailingZeros", desc := "(J)I" } : Jvm.MethodName) jdk_35_method_49_code (3 : Nat) (Option.some Jvm.ClassFile.FieldType.int), Jvm.Cond.code ({ cls := "java/lang/Integer", name := "numberOfTrailingZeros", desc := "(I)I" } : Jvm.MethodName) jdk_33_method_48_code (2 : Nat) (Option.some Jvm.ClassFile.FieldType.int)]
set_option maxRecDepth 65536 in
theorem codes_eq : words1.filter isCode = codes1 := rfl
theorem w_codes : ∀ c ∈ words1.filter isCode, c.before args0 about1 = true := by
  rw [codes_eq]
  intro c hc
  simp only [codes1, List.mem_cons, List.not_mem_nil, or_false] at hc
  rcases hc with rfl | rfl | rfl | rfl | rfl | rfl | rfl | rfl | rfl | rfl | rfl | rfl
  · exact w_c0
  · exact w_c1
  · exact w_c2
  · exact w_c3
  · exact w_c4
  · exact w_c5
  · exact w_c6
  · exact w_c7
  · exact w_c8
  · exact w_c9
  · exact w_c10
  · exact w_c11
set_option maxRecDepth 65536 in
theorem w_t1 : (words1.take 24).all (fun c => isCode c || c.before args0 about1) = true := by decide +kernel
set_option maxRecDepth 65536 in
theorem w_t2 : ((words1.drop 24).take 24).all (fun c => isCode c || c.before args0 about1) = true := by decide +kernel
set_option maxRecDepth 65536 in
theorem w_t3 : ((words1.drop 24).drop 24).all (fun c => isCode c || c.before args0 about1) = true := by decide +kernel
theorem w_tables : (allAtoms (Jvm.Cond.code x code maxLocals ret :: tables_1)).before args0 about1 = true := by
  rw [allAtoms_all]
  show words1.all (fun c => c.before args0 about1) = true
  refine all_split ?_ w_codes
  rw [← List.take_append_drop 24 words1, List.all_append, w_t1, ← List.take_append_drop 24 (words1.drop 24), List.all_append, w_t2, w_t3]
  rfl
set_option maxRecDepth 65536 in
theorem w_case : (Jvm.Cond.and given_1 narrow_1).before args0 about1 = true := by decide +kernel
theorem w_applies : (headSpec (Jvm.Cond.code x code maxLocals ret :: tables_1) room_1).applies x e0.platform about1 = true :=
  (Spec.applies_iff w_frames).mpr ⟨w_running, w_runnable, w_alone, w_named, w_hears, w_ripe, w_room, w_tables⟩
theorem atStart : AtStart classFile x code maxLocals ret World_1 tables_1 room_1 Calls_1 rest_1 Pre_1 launch0 p0 e0 about1 theMethod args0 below0 :=
  ⟨lists_1, trivial, launch0.admits_env _ _ _, launch0.least_env, fairChoices_fair.cas, fairChoices_fair.clock, w_frames, w_args, w_heap, w_applies, trivial, trivial, w_case⟩
end start1
theorem witness_1 : WitnessClaimed_1 := ⟨start1.p0, start1.e0, start1.about1, start1.theMethod, start1.args0, start1.below0, start1.atStart⟩
end Jvm.Pilot.@@N@@
