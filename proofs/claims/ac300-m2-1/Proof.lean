import JvmDerived
import JvmDerived.Pilot.@@N@@Statement
import JvmDerived.Pilot.@@N@@Code
set_option linter.unusedVariables false
set_option linter.unusedSimpArgs false
namespace Jvm.Own
open Jvm Jvm.ClassFile Sem Op Lib Jvm.Free Jvm.Stand Jvm.LawKit Jvm.RoadKit Bundle

/-! a calculus of walks, over the library's step laws -/
def Wk (Z : State) (own nm : String) (bytes : ByteArray) (ml : Nat) (ret : Option FieldType) (R : Room) (n0 : Nat) (p : Program) (l : Launch) (e : Env) (s : State) (m : MethodId) (args : Array Value) (below : List Frame) (meth : Method) (c : Code) (T : State) (cells slots : Nat) (h : Heap) : Prop :=
  ∃ locs, Stand p l e R s m args below meth c T locs cells slots ∧ Fr n0 locs ∧ T.heap = h ∧ n0 ≤ s.heap.size ∧ p.tables.exec = Jvm.exec ∧ Z.Warmed39 s.vm ∧ c.code = bytes ∧ c.maxLocals = ml ∧ s.vm.findClass own = some m.cls ∧ meth.name = nm ∧ meth.sig.returnType = ret ∧ meth.locks = false
def Goes (p : Program) (e : Env) (below : List Frame) (s : State) (R : Room) (n0 : Nat) (Q : Option Value → Heap → Prop) (t : State) : Prop :=
  ∃ s₂ o, Steps p.tables e below t s₂ ∧ s₂.status = .running ∧ Ended s₂ below o ∧ ∃ v L, o = .returned v ∧ (Fr n0 L ∧ Q v s₂.heap) ∧ FrameEnd s o s₂ L R.cells R.slots
def Met (l : Launch) (Z : State) (y : MethodName) (bytes : ByteArray) (ml : Nat) (ret : Option FieldType) (R : Room) (ws : List Jvm.Cond) (n0 : Nat) (as : Array Value) (h0 : Heap) (Q : Option Value → Heap → Prop) : Prop :=
  MetFree l y (head1 (Jvm.Cond.code y bytes ml ret :: ws) R) (fun a U => a = as ∧ Z.Warmed39 U.vm ∧ U.heap = h0) (fun _ _ _ _ _ => True) (fun _ U o U' => ∃ v L, o = .returned v ∧ (Fr n0 L ∧ Q v U'.heap) ∧ FrameEnd U o U' L R.cells R.slots)
def bI (c : Prop) [Decidable c] : Int32 := if c then 1 else 0
theorem bI_t {c : Prop} [Decidable c] (h : c) : (1 : Int32) = bI c := (if_pos h).symm
theorem bI_f {c : Prop} [Decidable c] (h : ¬ c) : (0 : Int32) = bI c := (if_neg h).symm
theorem bI_01 (c : Prop) [Decidable c] : bI c = 0 ∨ bI c = 1 := by unfold bI; split <;> simp
theorem bI_eq0 (c : Prop) [Decidable c] : bI c = 0 ↔ ¬ c := by unfold bI; split <;> simp_all
theorem bI_eq1 (c : Prop) [Decidable c] : bI c = 1 ↔ c := by unfold bI; split <;> simp_all
theorem bI_inj (c d : Prop) [Decidable c] [Decidable d] : bI c = bI d ↔ (c ↔ d) := by unfold bI; split <;> split <;> simp_all
theorem bI_cong {c d : Prop} [Decidable c] [Decidable d] (h : c ↔ d) : bI c = bI d := (bI_inj c d).mpr h
def pcI (cd : ClassFile.Cond) (x y : Int32) : Prop := match cd with
  | .lt | .ge => x < y
  | .gt | .le => y < x
  | .eq | .ne => x = y
def pcJ (cd : ClassFile.Cond) (x y : Int64) : Prop := match cd with
  | .lt | .ge => x < y
  | .gt | .le => y < x
  | .eq | .ne => x = y

theorem own_selP {Z : State} {a0 : Array Value} {y : MethodName} {n : Nat} (wi : (Jvm.Cond.instantiable y.cls n).before a0 Z = true) (w6 : (Jvm.Cond.instanceMethod y).before a0 Z = true) (w7 : (Jvm.Cond.privateMethod y).before a0 Z = true) (hy : y.cls ≠ "java/lang/invoke/MethodHandle" ∧ y.cls ≠ "java/lang/invoke/VarHandle") : (Jvm.Cond.selects y.cls y y).before a0 Z = true := by
  obtain ⟨c, k, hc, hk, -, hf, -⟩ := Cond.instantiable_spec (show (Jvm.Cond.instantiable y.cls n).holds a0 Z none Z [] = true from wi)
  exact selects_self_of_private hc hk ((Bool.or_eq_false_iff.mp hf).1) (Cond.privateMethod_at w7) w6 hy
theorem own_bI01 (c : Prop) [Decidable c] : (c ∧ (bI c).toInt = 1) ∨ (¬ c ∧ (bI c).toInt = 0) := by unfold bI; split <;> simp_all
theorem own_mask' (m x : Int32) (k : Nat) (hk : k ≤ 31) (hm : m.toBitVec.toNat = 2 ^ k - 1) : (m &&& x).toInt = x.toInt % (2 ^ k : Nat) := by rw [Int32.and_comm]; exact c_mask x m k hk hm
theorem own_maskL' (m x : Int64) (k : Nat) (hk : k ≤ 63) (hm : m.toBitVec.toNat = 2 ^ k - 1) : (m &&& x).toInt = x.toInt % (2 ^ k : Nat) := by rw [Int64.and_comm]; exact c_maskL x m k hk hm
theorem own_mB (x m : Int32) (k : Nat) (hk : k ≤ 31) (hm : m.toBitVec.toNat = 2 ^ k - 1) (M : Nat) (hM : M + 1 = 2 ^ k) : 0 ≤ (x &&& m).toInt ∧ (x &&& m).toInt ≤ M := by
  rw [c_mask x m k hk hm, ← hM]; have a := Int.emod_nonneg x.toInt (b := ((M + 1 : Nat) : Int)) (by omega); have b := Int.emod_lt_of_pos x.toInt (b := ((M + 1 : Nat) : Int)) (by omega); omega
theorem own_mBL (x m : Int64) (k : Nat) (hk : k ≤ 63) (hm : m.toBitVec.toNat = 2 ^ k - 1) (M : Nat) (hM : M + 1 = 2 ^ k) : 0 ≤ (x &&& m).toInt ∧ (x &&& m).toInt ≤ M := by
  rw [c_maskL x m k hk hm, ← hM]; have a := Int.emod_nonneg x.toInt (b := ((M + 1 : Nat) : Int)) (by omega); have b := Int.emod_lt_of_pos x.toInt (b := ((M + 1 : Nat) : Int)) (by omega); omega
theorem own_mB' (m x : Int32) (k : Nat) (hk : k ≤ 31) (hm : m.toBitVec.toNat = 2 ^ k - 1) (M : Nat) (hM : M + 1 = 2 ^ k) : 0 ≤ (m &&& x).toInt ∧ (m &&& x).toInt ≤ M := by rw [Int32.and_comm]; exact own_mB x m k hk hm M hM
theorem own_mBL' (m x : Int64) (k : Nat) (hk : k ≤ 63) (hm : m.toBitVec.toNat = 2 ^ k - 1) (M : Nat) (hM : M + 1 = 2 ^ k) : 0 ≤ (m &&& x).toInt ∧ (m &&& x).toInt ≤ M := by rw [Int64.and_comm]; exact own_mBL x m k hk hm M hM
theorem own_iaddE (x y : Int32) (h : -2147483648 ≤ x.toInt + y.toInt ∧ x.toInt + y.toInt < 2147483648) : (x + y).toInt = x.toInt + y.toInt := by
  have a := c_iadd x y; have b := rng32 (x + y); omega
theorem own_isubE (x y : Int32) (h : -2147483648 ≤ x.toInt - y.toInt ∧ x.toInt - y.toInt < 2147483648) : (x - y).toInt = x.toInt - y.toInt := by
  have a := c_isub x y; have b := rng32 (x - y); omega
theorem own_imulE (x y : Int32) (h : -2147483648 ≤ x.toInt * y.toInt ∧ x.toInt * y.toInt < 2147483648) : (x * y).toInt = x.toInt * y.toInt := by
  have a := c_imul x y; have b := rng32 (x * y); omega
theorem own_inegE (x : Int32) (h : -2147483648 ≤ -x.toInt ∧ -x.toInt < 2147483648) : (-x).toInt = -x.toInt := by
  have a := c_ineg x; have b := rng32 (-x); omega
theorem own_laddE (x y : Int64) (h : -9223372036854775808 ≤ x.toInt + y.toInt ∧ x.toInt + y.toInt < 9223372036854775808) : (x + y).toInt = x.toInt + y.toInt := by
  have a := c_ladd x y; have b := rng64 (x + y); omega
theorem own_lsubE (x y : Int64) (h : -9223372036854775808 ≤ x.toInt - y.toInt ∧ x.toInt - y.toInt < 9223372036854775808) : (x - y).toInt = x.toInt - y.toInt := by
  have a := c_lsub x y; have b := rng64 (x - y); omega
theorem own_lmulE (x y : Int64) (h : -9223372036854775808 ≤ x.toInt * y.toInt ∧ x.toInt * y.toInt < 9223372036854775808) : (x * y).toInt = x.toInt * y.toInt := by
  have a := c_lmul x y; have b := rng64 (x * y); omega
theorem own_lnegE (x : Int64) (h : -9223372036854775808 ≤ -x.toInt ∧ -x.toInt < 9223372036854775808) : (-x).toInt = -x.toInt := by
  have a := c_lneg x; have b := rng64 (-x); omega
theorem own_l2iE (x : Int64) (h : -2147483648 ≤ x.toInt ∧ x.toInt < 2147483648) : x.toInt32.toInt = x.toInt := by
  have a := c_l2i x; have b := rng32 x.toInt32; omega
theorem own_ushB (x q : Int32) (k : Nat) (hk : q.toBitVec.toNat % 32 = k) (h0 : 0 < k) (M : Nat) (hM : M * 2 ^ k = 4294967296) : 0 ≤ ((x.toUInt32 >>> (q &&& 31).toUInt32).toInt32).toInt ∧ ((x.toUInt32 >>> (q &&& 31).toUInt32).toInt32).toInt < M := by
  rw [c_iushr x q k hk h0]
  have h2 : (0 : Int) < ((2 ^ k : Nat) : Int) := Int.natCast_pos.mpr (Nat.pow_pos (by decide))
  refine ⟨Int.ediv_nonneg (by omega) (Int.le_of_lt h2), Int.ediv_lt_of_lt_mul h2 ?_⟩
  have q : ((M : Int)) * ((2 ^ k : Nat) : Int) = 4294967296 := by rw [← Int.natCast_mul, hM]; rfl
  omega
theorem own_irem (x y : Int32) (d : Int) (hy : y.toInt = d) : (0 ≤ x.toInt → (x % y).toInt = x.toInt % d) ∧ (x.toInt < 0 → (x % y).toInt = -((-x.toInt) % d)) := c_irem x y d hy
theorem own_lrem (x y : Int64) (d : Int) (hy : y.toInt = d) : (0 ≤ x.toInt → (x % y).toInt = x.toInt % d) ∧ (x.toInt < 0 → (x % y).toInt = -((-x.toInt) % d)) := by rw [← lrem_mod]; exact c_lrem x y d hy
theorem own_iremV (x y : Int32) : (0 ≤ x.toInt → 0 < y.toInt → 0 ≤ (x % y).toInt ∧ (x % y).toInt < y.toInt ∧ (x % y).toInt ≤ x.toInt) := fun h1 h2 => ⟨((c_iremV x y).1 h1 h2).1, ((c_iremV x y).1 h1 h2).2.1, ((c_iremV x y).1 h1 h2).2.2.1⟩
theorem own_emod_le {a b : Int} (h1 : 0 ≤ a) (h2 : 0 < b) : a % b ≤ a := by
  have q := Int.emod_add_mul_ediv a b; have z : 0 ≤ b * (a / b) := Int.mul_nonneg (Int.le_of_lt h2) (Int.ediv_nonneg h1 (Int.le_of_lt h2)); omega
theorem own_lremV (x y : Int64) : (0 ≤ x.toInt → 0 < y.toInt → 0 ≤ (x % y).toInt ∧ (x % y).toInt < y.toInt ∧ (x % y).toInt ≤ x.toInt) := fun h1 h2 => by
  rw [Int64.toInt_mod, Int.tmod_eq_emod_of_nonneg h1]
  exact ⟨Int.emod_nonneg _ (by omega), Int.emod_lt_of_pos _ h2, own_emod_le h1 h2⟩
theorem own_iremP (x y : Int32) (d : Int) (hy : y.toInt = d) (h0 : 0 ≤ x.toInt) : (x % y).toInt = x.toInt % d := (own_irem x y d hy).1 h0
theorem own_iremB (x y : Int32) (d : Int) (hy : y.toInt = d) (hd : 0 < d) (h0 : 0 ≤ x.toInt) : 0 ≤ (x % y).toInt ∧ (x % y).toInt < d ∧ (x % y).toInt ≤ x.toInt := by
  rw [own_iremP x y d hy h0]; exact ⟨Int.emod_nonneg _ (by omega), Int.emod_lt_of_pos _ hd, own_emod_le h0 hd⟩
theorem own_iremM (x y : Int32) (d : Int) (hy : y.toInt = d) (hd : 0 < d) : -d < (x % y).toInt ∧ (x % y).toInt < d := by
  rcases Int.lt_or_le x.toInt 0 with h | h
  · rw [(own_irem x y d hy).2 h]; have a := Int.emod_nonneg (-x.toInt) (b := d) (by omega); have b := Int.emod_lt_of_pos (-x.toInt) hd; omega
  · have q := own_iremB x y d hy hd h; omega
theorem own_lremP (x y : Int64) (d : Int) (hy : y.toInt = d) (h0 : 0 ≤ x.toInt) : (x % y).toInt = x.toInt % d := (own_lrem x y d hy).1 h0
theorem own_lremB (x y : Int64) (d : Int) (hy : y.toInt = d) (hd : 0 < d) (h0 : 0 ≤ x.toInt) : 0 ≤ (x % y).toInt ∧ (x % y).toInt < d ∧ (x % y).toInt ≤ x.toInt := by
  rw [own_lremP x y d hy h0]; exact ⟨Int.emod_nonneg _ (by omega), Int.emod_lt_of_pos _ hd, own_emod_le h0 hd⟩
theorem own_lremM (x y : Int64) (d : Int) (hy : y.toInt = d) (hd : 0 < d) : -d < (x % y).toInt ∧ (x % y).toInt < d := by
  rcases Int.lt_or_le x.toInt 0 with h | h
  · rw [(own_lrem x y d hy).2 h]; have a := Int.emod_nonneg (-x.toInt) (b := d) (by omega); have b := Int.emod_lt_of_pos (-x.toInt) hd; omega
  · have q := own_lremB x y d hy hd h; omega
theorem own_bor (A B : Prop) [Decidable A] [Decidable B] : bI A ||| bI B = bI (A ∨ B) := by unfold bI; by_cases a : A <;> by_cases b : B <;> simp [a, b] <;> decide
theorem own_band (A B : Prop) [Decidable A] [Decidable B] : bI A &&& bI B = bI (A ∧ B) := by unfold bI; by_cases a : A <;> by_cases b : B <;> simp [a, b] <;> decide
def Apart (a b : Addr) : Prop := a ≠ b
theorem own_apS {a b : Addr} (h : Apart a b) : Apart b a := Ne.symm h
theorem own_new {h : Heap} {a b : Addr} (hb : b = h.size) (ha : a < h.size) : Apart a b := by subst hb; exact Nat.ne_of_lt ha
theorem own_sz {h0 h : Heap} {b : Addr} {ws : List Addr} (hb : b = h.size) (K : Keep h0 h ws) : h0.size ≤ b := by subst hb; exact K.1
theorem own_far {h : Heap} {a b : Addr} (ha : a < h.size) (hb : h.size ≤ b) : Apart a b := Nat.ne_of_lt (Nat.lt_of_lt_of_le ha hb)
theorem own_narZ {z : Int32} (hz : z = 0 ∨ z = 1) : narrow .boolean (.int z) = .int z := by rcases hz with rfl | rfl <;> rfl
theorem own_fitZ {z : Int32} (hz : z = 0 ∨ z = 1) : fits .boolean (.int z) = true := by rcases hz with rfl | rfl <;> rfl
theorem own_narZ' {z : Int32} (hz : z = 0 ∨ z = 1) : nar .boolean z = z := by rcases hz with rfl | rfl <;> rfl
theorem own_fin {c : Prop} [Decidable c] (h : c) : (some (Value.int (bI c))) = some (Value.int 1) := by rw [← bI_t h]
def own_up {α : Type} (f : Nat → α) (i : Nat) (x : α) : Nat → α := fun k => if k = i then x else f k
def AI (Z : State) (h : Heap) (a : Addr) (ty : FieldType) (n : Nat) (f : Nat → Int32) : Prop := n < 2 ^ 31 ∧ ∃ c : Cell, Arr Z h a c ty ∧ c.slots.size = n ∧ ∀ j, j < n → c.slots[j]? = some (.int (f j))
def AJ (Z : State) (h : Heap) (a : Addr) (n : Nat) (f : Nat → Int64) : Prop := n < 2 ^ 31 ∧ ∃ c : Cell, Arr Z h a c .long ∧ c.slots.size = n ∧ ∀ j, j < n → c.slots[j]? = some (.long (f j))
theorem AI.lt {Z : State} {h : Heap} {a : Addr} {ty : FieldType} {n : Nat} {f : Nat → Int32} (A : AI Z h a ty n f) : a < h.size := by obtain ⟨_, c, A, _⟩ := A; exact A.lt
theorem AI.ext {Z : State} {h h' : Heap} {a : Addr} {ty : FieldType} {n : Nat} {f : Nat → Int32} (A : AI Z h a ty n f) (E : Ext h h') : AI Z h' a ty n f := by obtain ⟨q, c, A, r⟩ := A; exact ⟨q, c, A.ext E, r⟩
theorem AI.keep {Z : State} {h h' : Heap} {a : Addr} {ws : List Addr} {ty : FieldType} {n : Nat} {f : Nat → Int32} (A : AI Z h a ty n f) (K : Keep h h' ws) (q : a ∉ ws) : AI Z h' a ty n f := by obtain ⟨z, c, A, r⟩ := A; exact ⟨z, c, ⟨K.2.1 a c A.1 q, A.2⟩, r⟩
theorem AI.other {Z : State} {h h' : Heap} {a b : Addr} {sl : Nat} {w : Value} {ty : FieldType} {n : Nat} {f : Nat → Int32} (A : AI Z h a ty n f) (W : Wr h h' b sl w) (q : a ≠ b) : AI Z h' a ty n f := by obtain ⟨z, c, A, r⟩ := A; exact ⟨z, c, A.other W q, r⟩
theorem AI.set {Z : State} {h h' : Heap} {a : Addr} {i : Nat} {x : Int32} {ty : FieldType} {n : Nat} {f : Nat → Int32} (A : AI Z h a ty n f) (W : Wr h h' a i (.int x)) : AI Z h' a ty n (own_up f i x) := by
  obtain ⟨z, c, A, r1, r2⟩ := A
  refine ⟨z, _, A.same W, by rw [sz_set]; exact r1, fun j hj => ?_⟩
  by_cases q : j = i
  · subst q; simp [Cell.setSlot, own_up, r1, hj]
  · simp only [Cell.setSlot, own_up, if_neg q]; rw [Array.getElem?_setIfInBounds_ne (Ne.symm q)]; exact r2 j hj
theorem AI.to {Z : State} {h : Heap} {a : Addr} {ty : FieldType} {n : Nat} {f g : Nat → Int32} (A : AI Z h a ty n f) (q : ∀ j, j < n → f j = g j) : AI Z h a ty n g := by obtain ⟨z, c, A, r1, r2⟩ := A; exact ⟨z, c, A, r1, fun j hj => by rw [← q j hj]; exact r2 j hj⟩
theorem AJ.lt {Z : State} {h : Heap} {a : Addr} {n : Nat} {f : Nat → Int64} (A : AJ Z h a n f) : a < h.size := by obtain ⟨_, c, A, _⟩ := A; exact A.lt
theorem AJ.ext {Z : State} {h h' : Heap} {a : Addr} {n : Nat} {f : Nat → Int64} (A : AJ Z h a n f) (E : Ext h h') : AJ Z h' a n f := by obtain ⟨q, c, A, r⟩ := A; exact ⟨q, c, A.ext E, r⟩
theorem AJ.keep {Z : State} {h h' : Heap} {a : Addr} {ws : List Addr} {n : Nat} {f : Nat → Int64} (A : AJ Z h a n f) (K : Keep h h' ws) (q : a ∉ ws) : AJ Z h' a n f := by obtain ⟨z, c, A, r⟩ := A; exact ⟨z, c, ⟨K.2.1 a c A.1 q, A.2⟩, r⟩
theorem AJ.other {Z : State} {h h' : Heap} {a b : Addr} {sl : Nat} {w : Value} {n : Nat} {f : Nat → Int64} (A : AJ Z h a n f) (W : Wr h h' b sl w) (q : a ≠ b) : AJ Z h' a n f := by obtain ⟨z, c, A, r⟩ := A; exact ⟨z, c, A.other W q, r⟩
theorem AJ.set {Z : State} {h h' : Heap} {a : Addr} {i : Nat} {x : Int64} {n : Nat} {f : Nat → Int64} (A : AJ Z h a n f) (W : Wr h h' a i (.long x)) : AJ Z h' a n (own_up f i x) := by
  obtain ⟨z, c, A, r1, r2⟩ := A
  refine ⟨z, _, A.same W, by rw [sz_set]; exact r1, fun j hj => ?_⟩
  by_cases q : j = i
  · subst q; simp [Cell.setSlot, own_up, r1, hj]
  · simp only [Cell.setSlot, own_up, if_neg q]; rw [Array.getElem?_setIfInBounds_ne (Ne.symm q)]; exact r2 j hj
theorem AJ.to {Z : State} {h : Heap} {a : Addr} {n : Nat} {f g : Nat → Int64} (A : AJ Z h a n f) (q : ∀ j, j < n → f j = g j) : AJ Z h a n g := by obtain ⟨z, c, A, r1, r2⟩ := A; exact ⟨z, c, A, r1, fun j hj => by rw [← q j hj]; exact r2 j hj⟩
theorem own_clN {n : Nat} (z : n < 2 ^ 31) : (Int32.ofNat n).toNatClampNeg = n ∧ ¬ Int32.ofNat n < 0 := by
  have q : (Int32.ofNat n).toInt = n := Int32.toInt_ofNat_small z
  constructor
  · simp only [Int32.toNatClampNeg, q]; omega
  · rw [Int32.lt_iff_toInt_lt, q]; simp only [Int32.reduceToInt]; omega
theorem own_rg (n : Nat) (f : Nat → Value) (d : Value) (i : Nat) (hi : i < n) : ((List.range n).map f).getD i d = f i := by simp [List.getD_eq_getElem?_getD, hi]
theorem own_arv {Z : State} {h : Heap} {a : Addr} {n : Nat} {f : Nat → Int64} (A : AJ Z h a n f) : ∃ k, Arv Z h a k .long (Int32.ofNat n) ((List.range n).map fun j => Value.long (f j)) (.long 0) := by
  obtain ⟨z, c, A, s1, e1⟩ := A
  have q := own_clN z
  refine ⟨c.cls, c, A, rfl, by rw [q.1]; exact s1, q.2, fun i hi => ?_, fun i hi => ?_⟩
  · rw [own_rg n _ _ i (by omega)]; exact e1 i (by omega)
  · rw [own_rg n _ _ i (by omega)]; rfl
theorem own_arvB {Z : State} {h : Heap} {b : Addr} {k : ClassId} {n : Nat} {vs : List Value} {f : Nat → Int64} (z : n < 2 ^ 31) (B : Arv Z h b k .long (Int32.ofNat n) vs (.long 0)) (q : ∀ j, j < n → vs.getD j (.long 0) = .long (f j)) : AJ Z h b n f := by
  obtain ⟨c, B1, -, s, -, H, -⟩ := B
  rw [(own_clN z).1] at s
  exact ⟨z, c, B1, s, fun j hj => by rw [H j (by omega), q j hj]⟩
theorem own_cpl (n n' k : Nat) (f f' : Nat → Int64) (h1 : k ≤ n) (h2 : k ≤ n') (j : Nat) (hj : j < n') : (((List.range n').map fun j => Value.long (f' j)).take 0 ++ ((List.range k).map fun i => ((List.range n).map fun j => Value.long (f j)).getD (0 + i) (.long 0)) ++ ((List.range n').map fun j => Value.long (f' j)).drop (0 + k)).getD j (.long 0) = .long (if j < k then f j else f' j) := by
  rw [List.take_zero, List.nil_append, List.getD_eq_getElem?_getD]
  by_cases q : j < k
  · rw [List.getElem?_append_left (by simpa using q), if_pos q, List.getElem?_map, List.getElem?_range q, Option.map_some, Option.getD_some, Nat.zero_add, own_rg n _ _ j (by omega)]
  · rw [List.getElem?_append_right (by simpa using q), if_neg q, List.getElem?_drop, List.length_map, List.length_range, Nat.zero_add, List.getElem?_map, show k + (j - k) = j by omega, List.getElem?_range hj, Option.map_some, Option.getD_some]
theorem own_ix {j : Int32} {n k : Nat} (hk : k = n) (q : 0 ≤ j.toInt ∧ j.toInt < n) : ¬ (j < 0 ∨ k ≤ j.toNatClampNeg) := by
  simp only [Int32.lt_iff_toInt_lt, Int32.toNatClampNeg, Int32.reduceToInt]; omega
theorem own_ixn {j : Int32} {n : Nat} (q : 0 ≤ j.toInt ∧ j.toInt < n) : j.toNatClampNeg < n := by simp only [Int32.toNatClampNeg]; omega
section Walk
variable {Z : State} {a0 : Array Value} {own nm : String} {bytes : ByteArray} {ml : Nat} {ret : Option FieldType} {R : Room} {n0 : Nat} {p : Program} {l : Launch} {e : Env} {s : State} {m : MethodId} {args : Array Value} {below : List Frame} {meth : Method} {c : Code} {T : State} {cells slots : Nat} {h : Heap} {Q : Option Value → Heap → Prop}
theorem Met.intro {y : MethodName} {as : Array Value} {h0 : Heap} {ws : List Jvm.Cond} (hp : plainFor y = true) (hn : n0 ≤ h0.size)
    (body : ∀ p e s m below meth c T, Wk Z y.cls y.name bytes ml ret R n0 p l e s m as below meth c T 0 0 h0 → Goes p e below s R n0 Q (T.setTop (entryFrame m as ml))) : Met l Z y bytes ml ret R ws n0 as h0 Q := by
  refine MetFree.of_bodySF hp hisR ?_
  intro p e s m args below meth c s₁ Bd hml0 hP hK
  obtain ⟨rfl, hZ, hh⟩ := hP
  have e0 : s₁.heap = h0 := by rw [← hh, Bd.state]; rfl
  exact body p e s m below meth c s₁ ⟨[], Stand.of_body Bd, Fr.nil n0, e0, by rw [hh]; exact hn, Bd.exec, hZ, Bd.bytes, hml0, findClass_of_methodNamed Bd.named, (name_of_methodNamed Bd.named Bd.method).1, Bd.returns, Bd.notSynchronized⟩
theorem g_of {A B : State} (hs : ∀ t, Steps p.tables e below A t → Steps p.tables e below B t) (k : Goes p e below s R n0 Q A) : Goes p e below s R n0 Q B := by
  obtain ⟨s2, o, h1, h2⟩ := k
  exact ⟨s2, o, hs _ h1, h2⟩
theorem g_cast {g g' : JFrame} (q : g = g') (k : Goes p e below s R n0 Q (T.setTop g')) : Goes p e below s R n0 Q (T.setTop g) := q ▸ k
theorem g_eqI {pc : Nat} {Ls : Array Slot} {x y : Int32} {rest : List Value} (q : x = y) (k : Goes p e below s R n0 Q (T.setTop (mkF m pc Ls (.int y :: rest)))) : Goes p e below s R n0 Q (T.setTop (mkF m pc Ls (.int x :: rest))) := q ▸ k
theorem g_eqJ {pc : Nat} {Ls : Array Slot} {x y : Int64} {rest : List Value} (q : x = y) (k : Goes p e below s R n0 Q (T.setTop (mkF m pc Ls (.long y :: rest)))) : Goes p e below s R n0 Q (T.setTop (mkF m pc Ls (.long x :: rest))) := q ▸ k
theorem g_letJ {pc : Nat} {Ls : Array Slot} {x : Int64} {rest : List Value} (k : ∀ y, y = x → Goes p e below s R n0 Q (T.setTop (mkF m pc Ls (.long y :: rest)))) : Goes p e below s R n0 Q (T.setTop (mkF m pc Ls (.long x :: rest))) := k x rfl
theorem g_letI {pc : Nat} {Ls : Array Slot} {x : Int32} {rest : List Value} (k : ∀ y, y = x → Goes p e below s R n0 Q (T.setTop (mkF m pc Ls (.int y :: rest)))) : Goes p e below s R n0 Q (T.setTop (mkF m pc Ls (.int x :: rest))) := k x rfl
theorem Wk.size (X : Wk Z own nm bytes ml ret R n0 p l e s m args below meth c T cells slots h) : n0 ≤ h.size := by
  obtain ⟨locs, X, N, eh, hn, hx, hZ, hby, hml, hown, hnm, hret, hlk⟩ := X
  have q : s.heap.size ≤ T.heap.size := X.same.2.1
  rw [eh] at q
  exact Nat.le_trans hn q
theorem Wk.mono (X : Wk Z own nm bytes ml ret R n0 p l e s m args below meth c T cells slots h) {cells' slots' : Nat} (hc : cells ≤ cells') (hs : slots ≤ slots') : Wk Z own nm bytes ml ret R n0 p l e s m args below meth c T cells' slots' h := by
  obtain ⟨locs, X, N, eh, hn, hx, hZ, hby, hml, hown, hnm, hret, hlk⟩ := X
  exact ⟨locs, X.mono hc hs, N, eh, hn, hx, hZ, hby, hml, hown, hnm, hret, hlk⟩
theorem g_out (X : Wk Z own nm bytes ml ret R n0 p l e s m args below meth c T cells slots h) {g : JFrame} {v : Option Value} (hv : ret = none → v = none) (hc : cells ≤ R.cells) (hs : slots ≤ R.slots)
    (st : ∀ locs, Stand p l e R s m args below meth c T locs cells slots → p.tables.exec = Jvm.exec → meth.sig.returnType = ret → c.code = bytes → ∀ fs, (∀ (f : JFrame) (acts : List Action), f.method = m → f.locked = none → f.entered = [] → (doReturn e (T.setTop f) acts v).1 = T.setFrames fs) → Steps p.tables e below (T.setTop g) (T.setFrames fs))
    (hQ : Q v h) : Goes p e below s R n0 Q (T.setTop g) := by
  obtain ⟨locs, X, N, eh, hn, hx, hZ, hby, hml, hown, hnm, hret, hlk⟩ := X
  obtain ⟨fs, hr, hrun, hended, hW, hsame⟩ := X.leave (v := v) (fun q => hv (hret ▸ q)) hlk
  exact ⟨_, _, st _ X hx hret hby fs hr, hrun, hended, _, _, rfl, ⟨N, by rw [show (T.setFrames fs).heap = T.heap from rfl, eh]; exact hQ⟩, ⟨_, rfl⟩, hW, hsame.mono hc hs⟩
theorem g_retI (X : Wk Z own nm bytes ml (some .int) R n0 p l e s m args below meth c T cells slots h) {pc : Nat} {Ls : Array Slot} {z : Int32} {rest : List Value} (hd : decode bytes pc = .ok (.ireturn, 1)) (hc : cells ≤ R.cells) (hs : slots ≤ R.slots) (hQ : Q (some (.int z)) h) : Goes p e below s R n0 Q (T.setTop (mkF m pc Ls (.int z :: rest))) :=
  g_out X nofun hc hs (fun _ Y hx hr hb fs hl => retOut Y hx hr rfl (Or.inl ⟨rfl, Or.inl rfl, _, rfl⟩) (hb ▸ hd) hl) hQ
theorem g_retZ (X : Wk Z own nm bytes ml (some .boolean) R n0 p l e s m args below meth c T cells slots h) {pc : Nat} {Ls : Array Slot} {z : Int32} {rest : List Value} (hd : decode bytes pc = .ok (.ireturn, 1)) (hc : cells ≤ R.cells) (hs : slots ≤ R.slots) (hz : z = 0 ∨ z = 1) (hQ : Q (some (.int z)) h) : Goes p e below s R n0 Q (T.setTop (mkF m pc Ls (.int z :: rest))) :=
  g_out X nofun hc hs (fun _ Y hx hr hb fs hl => retOut Y hx hr (by rcases hz with rfl | rfl <;> rfl) (Or.inl ⟨rfl, Or.inr (Or.inl rfl), _, rfl⟩) (hb ▸ hd) hl) hQ
theorem g_retJ (X : Wk Z own nm bytes ml (some .long) R n0 p l e s m args below meth c T cells slots h) {pc : Nat} {Ls : Array Slot} {z : Int64} {rest : List Value} (hd : decode bytes pc = .ok (.lreturn, 1)) (hc : cells ≤ R.cells) (hs : slots ≤ R.slots) (hQ : Q (some (.long z)) h) : Goes p e below s R n0 Q (T.setTop (mkF m pc Ls (.long z :: rest))) :=
  g_out X nofun hc hs (fun _ Y hx hr hb fs hl => retOut Y hx hr rfl (Or.inr (Or.inl ⟨rfl, rfl, _, rfl⟩)) (hb ▸ hd) hl) hQ
theorem g_retA {t : FieldType} (X : Wk Z own nm bytes ml (some t) R n0 p l e s m args below meth c T cells slots h) (ht : t.isReference = true) {pc : Nat} {Ls : Array Slot} {w : Value} (hw : w.isRef = true) {rest : List Value} (hd : decode bytes pc = .ok (.areturn, 1)) (hc : cells ≤ R.cells) (hs : slots ≤ R.slots) (hQ : Q (some w) h) : Goes p e below s R n0 Q (T.setTop (mkF m pc Ls (w :: rest))) :=
  g_out X nofun hc hs (fun _ Y hx hr hb fs hl => retOut Y hx hr (by cases t <;> simp_all [narrow, FieldType.isReference]) (Or.inr (Or.inr (Or.inr (Or.inr ⟨rfl, ht, hw⟩)))) (hb ▸ hd) hl) hQ
theorem g_ret0 (X : Wk Z own nm bytes ml none R n0 p l e s m args below meth c T cells slots h) {pc : Nat} {Ls : Array Slot} (hd : decode bytes pc = .ok (.return_, 1)) (hc : cells ≤ R.cells) (hs : slots ≤ R.slots) (hQ : Q none h) : Goes p e below s R n0 Q (T.setTop (mkF m pc Ls [])) :=
  g_out X (fun _ => rfl) hc hs (fun _ Y hx hr hb fs hl => Y.returnOut hx hr (hb ▸ hd) hl) hQ
theorem g_lcmp (X : Wk Z own nm bytes ml ret R n0 p l e s m args below meth c T cells slots h) {pc q : Nat} {Ls : Array Slot} {rest : List Value} {x y : Int64} (hd : decode bytes pc = .ok (.lcmp, 1)) (hq : pc + 1 = q) (k : Goes p e below s R n0 Q (T.setTop (mkF m q Ls (.int (lcmpW x y) :: rest)))) : Goes p e below s R n0 Q (T.setTop (mkF m pc Ls (.long y :: .long x :: rest))) := by
  obtain ⟨locs, X, N, eh, hn, hx, hZ, hby, hml, hown, hnm, hret, hlk⟩ := X
  subst hby hq
  exact g_of (fun t r => XS.lcmp X.here hx rfl hd rfl r) k
theorem g_iadd (X : Wk Z own nm bytes ml ret R n0 p l e s m args below meth c T cells slots h) {pc q : Nat} {Ls : Array Slot} {rest : List Value} {x y : Int32} (hd : decode bytes pc = .ok (.iadd, 1)) (hq : pc + 1 = q) (k : Goes p e below s R n0 Q (T.setTop (mkF m q Ls (.int (x + y) :: rest)))) : Goes p e below s R n0 Q (T.setTop (mkF m pc Ls (.int y :: .int x :: rest))) := by
  obtain ⟨locs, X, N, eh, hn, hx, hZ, hby, hml, hown, hnm, hret, hlk⟩ := X
  subst hby hq
  exact g_of (fun t r => XS.iadd X.here hx rfl hd rfl r) k
theorem g_isub (X : Wk Z own nm bytes ml ret R n0 p l e s m args below meth c T cells slots h) {pc q : Nat} {Ls : Array Slot} {rest : List Value} {x y : Int32} (hd : decode bytes pc = .ok (.isub, 1)) (hq : pc + 1 = q) (k : Goes p e below s R n0 Q (T.setTop (mkF m q Ls (.int (x - y) :: rest)))) : Goes p e below s R n0 Q (T.setTop (mkF m pc Ls (.int y :: .int x :: rest))) := by
  obtain ⟨locs, X, N, eh, hn, hx, hZ, hby, hml, hown, hnm, hret, hlk⟩ := X
  subst hby hq
  exact g_of (fun t r => XS.isub X.here hx rfl hd rfl r) k
theorem g_imul (X : Wk Z own nm bytes ml ret R n0 p l e s m args below meth c T cells slots h) {pc q : Nat} {Ls : Array Slot} {rest : List Value} {x y : Int32} (hd : decode bytes pc = .ok (.imul, 1)) (hq : pc + 1 = q) (k : Goes p e below s R n0 Q (T.setTop (mkF m q Ls (.int (x * y) :: rest)))) : Goes p e below s R n0 Q (T.setTop (mkF m pc Ls (.int y :: .int x :: rest))) := by
  obtain ⟨locs, X, N, eh, hn, hx, hZ, hby, hml, hown, hnm, hret, hlk⟩ := X
  subst hby hq
  exact g_of (fun t r => XS.imul X.here hx rfl hd rfl r) k
theorem g_iand (X : Wk Z own nm bytes ml ret R n0 p l e s m args below meth c T cells slots h) {pc q : Nat} {Ls : Array Slot} {rest : List Value} {x y : Int32} (hd : decode bytes pc = .ok (.iand, 1)) (hq : pc + 1 = q) (k : Goes p e below s R n0 Q (T.setTop (mkF m q Ls (.int (x &&& y) :: rest)))) : Goes p e below s R n0 Q (T.setTop (mkF m pc Ls (.int y :: .int x :: rest))) := by
  obtain ⟨locs, X, N, eh, hn, hx, hZ, hby, hml, hown, hnm, hret, hlk⟩ := X
  subst hby hq
  exact g_of (fun t r => XS.iand X.here hx rfl hd rfl r) k
theorem g_ior (X : Wk Z own nm bytes ml ret R n0 p l e s m args below meth c T cells slots h) {pc q : Nat} {Ls : Array Slot} {rest : List Value} {x y : Int32} (hd : decode bytes pc = .ok (.ior, 1)) (hq : pc + 1 = q) (k : Goes p e below s R n0 Q (T.setTop (mkF m q Ls (.int (x ||| y) :: rest)))) : Goes p e below s R n0 Q (T.setTop (mkF m pc Ls (.int y :: .int x :: rest))) := by
  obtain ⟨locs, X, N, eh, hn, hx, hZ, hby, hml, hown, hnm, hret, hlk⟩ := X
  subst hby hq
  exact g_of (fun t r => XS.ior X.here hx rfl hd rfl r) k
theorem g_ixor (X : Wk Z own nm bytes ml ret R n0 p l e s m args below meth c T cells slots h) {pc q : Nat} {Ls : Array Slot} {rest : List Value} {x y : Int32} (hd : decode bytes pc = .ok (.ixor, 1)) (hq : pc + 1 = q) (k : Goes p e below s R n0 Q (T.setTop (mkF m q Ls (.int (x ^^^ y) :: rest)))) : Goes p e below s R n0 Q (T.setTop (mkF m pc Ls (.int y :: .int x :: rest))) := by
  obtain ⟨locs, X, N, eh, hn, hx, hZ, hby, hml, hown, hnm, hret, hlk⟩ := X
  subst hby hq
  exact g_of (fun t r => XS.ixor X.here hx rfl hd rfl r) k
theorem g_ladd (X : Wk Z own nm bytes ml ret R n0 p l e s m args below meth c T cells slots h) {pc q : Nat} {Ls : Array Slot} {rest : List Value} {x y : Int64} (hd : decode bytes pc = .ok (.ladd, 1)) (hq : pc + 1 = q) (k : Goes p e below s R n0 Q (T.setTop (mkF m q Ls (.long (x + y) :: rest)))) : Goes p e below s R n0 Q (T.setTop (mkF m pc Ls (.long y :: .long x :: rest))) := by
  obtain ⟨locs, X, N, eh, hn, hx, hZ, hby, hml, hown, hnm, hret, hlk⟩ := X
  subst hby hq
  exact g_of (fun t r => XS.ladd X.here hx rfl hd rfl r) k
theorem g_lsub (X : Wk Z own nm bytes ml ret R n0 p l e s m args below meth c T cells slots h) {pc q : Nat} {Ls : Array Slot} {rest : List Value} {x y : Int64} (hd : decode bytes pc = .ok (.lsub, 1)) (hq : pc + 1 = q) (k : Goes p e below s R n0 Q (T.setTop (mkF m q Ls (.long (x - y) :: rest)))) : Goes p e below s R n0 Q (T.setTop (mkF m pc Ls (.long y :: .long x :: rest))) := by
  obtain ⟨locs, X, N, eh, hn, hx, hZ, hby, hml, hown, hnm, hret, hlk⟩ := X
  subst hby hq
  exact g_of (fun t r => XS.lsub X.here hx rfl hd rfl r) k
theorem g_lmul (X : Wk Z own nm bytes ml ret R n0 p l e s m args below meth c T cells slots h) {pc q : Nat} {Ls : Array Slot} {rest : List Value} {x y : Int64} (hd : decode bytes pc = .ok (.lmul, 1)) (hq : pc + 1 = q) (k : Goes p e below s R n0 Q (T.setTop (mkF m q Ls (.long (x * y) :: rest)))) : Goes p e below s R n0 Q (T.setTop (mkF m pc Ls (.long y :: .long x :: rest))) := by
  obtain ⟨locs, X, N, eh, hn, hx, hZ, hby, hml, hown, hnm, hret, hlk⟩ := X
  subst hby hq
  exact g_of (fun t r => XS.lmul X.here hx rfl hd rfl r) k
theorem g_land (X : Wk Z own nm bytes ml ret R n0 p l e s m args below meth c T cells slots h) {pc q : Nat} {Ls : Array Slot} {rest : List Value} {x y : Int64} (hd : decode bytes pc = .ok (.land, 1)) (hq : pc + 1 = q) (k : Goes p e below s R n0 Q (T.setTop (mkF m q Ls (.long (x &&& y) :: rest)))) : Goes p e below s R n0 Q (T.setTop (mkF m pc Ls (.long y :: .long x :: rest))) := by
  obtain ⟨locs, X, N, eh, hn, hx, hZ, hby, hml, hown, hnm, hret, hlk⟩ := X
  subst hby hq
  exact g_of (fun t r => XS.land X.here hx rfl hd rfl r) k
theorem g_lor (X : Wk Z own nm bytes ml ret R n0 p l e s m args below meth c T cells slots h) {pc q : Nat} {Ls : Array Slot} {rest : List Value} {x y : Int64} (hd : decode bytes pc = .ok (.lor, 1)) (hq : pc + 1 = q) (k : Goes p e below s R n0 Q (T.setTop (mkF m q Ls (.long (x ||| y) :: rest)))) : Goes p e below s R n0 Q (T.setTop (mkF m pc Ls (.long y :: .long x :: rest))) := by
  obtain ⟨locs, X, N, eh, hn, hx, hZ, hby, hml, hown, hnm, hret, hlk⟩ := X
  subst hby hq
  exact g_of (fun t r => XS.lor X.here hx rfl hd rfl r) k
theorem g_lxor (X : Wk Z own nm bytes ml ret R n0 p l e s m args below meth c T cells slots h) {pc q : Nat} {Ls : Array Slot} {rest : List Value} {x y : Int64} (hd : decode bytes pc = .ok (.lxor, 1)) (hq : pc + 1 = q) (k : Goes p e below s R n0 Q (T.setTop (mkF m q Ls (.long (x ^^^ y) :: rest)))) : Goes p e below s R n0 Q (T.setTop (mkF m pc Ls (.long y :: .long x :: rest))) := by
  obtain ⟨locs, X, N, eh, hn, hx, hZ, hby, hml, hown, hnm, hret, hlk⟩ := X
  subst hby hq
  exact g_of (fun t r => XS.lxor X.here hx rfl hd rfl r) k
theorem g_idiv (X : Wk Z own nm bytes ml ret R n0 p l e s m args below meth c T cells slots h) {pc q : Nat} {Ls : Array Slot} {rest : List Value} {x y : Int32} (hd : decode bytes pc = .ok (.idiv, 1)) (hq : pc + 1 = q) (hy : y ≠ 0) (k : Goes p e below s R n0 Q (T.setTop (mkF m q Ls (.int (x / y) :: rest)))) : Goes p e below s R n0 Q (T.setTop (mkF m pc Ls (.int y :: .int x :: rest))) := by
  obtain ⟨locs, X, N, eh, hn, hx, hZ, hby, hml, hown, hnm, hret, hlk⟩ := X
  subst hby hq
  exact g_of (fun t r => XS.idiv X.here hx rfl hd rfl hy r) k
theorem g_irem (X : Wk Z own nm bytes ml ret R n0 p l e s m args below meth c T cells slots h) {pc q : Nat} {Ls : Array Slot} {rest : List Value} {x y : Int32} (hd : decode bytes pc = .ok (.irem, 1)) (hq : pc + 1 = q) (hy : y ≠ 0) (k : Goes p e below s R n0 Q (T.setTop (mkF m q Ls (.int (x % y) :: rest)))) : Goes p e below s R n0 Q (T.setTop (mkF m pc Ls (.int y :: .int x :: rest))) := by
  obtain ⟨locs, X, N, eh, hn, hx, hZ, hby, hml, hown, hnm, hret, hlk⟩ := X
  subst hby hq
  exact g_of (fun t r => XS.irem X.here hx rfl hd rfl hy (by rw [irem_eq_mod x y]; exact r)) k
theorem g_ldiv (X : Wk Z own nm bytes ml ret R n0 p l e s m args below meth c T cells slots h) {pc q : Nat} {Ls : Array Slot} {rest : List Value} {x y : Int64} (hd : decode bytes pc = .ok (.ldiv, 1)) (hq : pc + 1 = q) (hy : y ≠ 0) (k : Goes p e below s R n0 Q (T.setTop (mkF m q Ls (.long (x / y) :: rest)))) : Goes p e below s R n0 Q (T.setTop (mkF m pc Ls (.long y :: .long x :: rest))) := by
  obtain ⟨locs, X, N, eh, hn, hx, hZ, hby, hml, hown, hnm, hret, hlk⟩ := X
  subst hby hq
  exact g_of (fun t r => XS.ldiv X.here hx rfl hd rfl hy r) k
theorem g_lrem (X : Wk Z own nm bytes ml ret R n0 p l e s m args below meth c T cells slots h) {pc q : Nat} {Ls : Array Slot} {rest : List Value} {x y : Int64} (hd : decode bytes pc = .ok (.lrem, 1)) (hq : pc + 1 = q) (hy : y ≠ 0) (k : Goes p e below s R n0 Q (T.setTop (mkF m q Ls (.long (x % y) :: rest)))) : Goes p e below s R n0 Q (T.setTop (mkF m pc Ls (.long y :: .long x :: rest))) := by
  obtain ⟨locs, X, N, eh, hn, hx, hZ, hby, hml, hown, hnm, hret, hlk⟩ := X
  subst hby hq
  exact g_of (fun t r => XS.lrem X.here hx rfl hd rfl hy (by rw [lrem_mod x y]; exact r)) k
theorem g_ineg (X : Wk Z own nm bytes ml ret R n0 p l e s m args below meth c T cells slots h) {pc q : Nat} {Ls : Array Slot} {rest : List Value} {x : Int32} (hd : decode bytes pc = .ok (.ineg, 1)) (hq : pc + 1 = q) (k : Goes p e below s R n0 Q (T.setTop (mkF m q Ls (.int (-x) :: rest)))) : Goes p e below s R n0 Q (T.setTop (mkF m pc Ls (.int x :: rest))) := by
  obtain ⟨locs, X, N, eh, hn, hx, hZ, hby, hml, hown, hnm, hret, hlk⟩ := X
  subst hby hq
  exact g_of (fun t r => XS.ineg X.here hx rfl hd rfl r) k
theorem g_lneg (X : Wk Z own nm bytes ml ret R n0 p l e s m args below meth c T cells slots h) {pc q : Nat} {Ls : Array Slot} {rest : List Value} {x : Int64} (hd : decode bytes pc = .ok (.lneg, 1)) (hq : pc + 1 = q) (k : Goes p e below s R n0 Q (T.setTop (mkF m q Ls (.long (-x) :: rest)))) : Goes p e below s R n0 Q (T.setTop (mkF m pc Ls (.long x :: rest))) := by
  obtain ⟨locs, X, N, eh, hn, hx, hZ, hby, hml, hown, hnm, hret, hlk⟩ := X
  subst hby hq
  exact g_of (fun t r => XS.lneg X.here hx rfl hd rfl r) k
theorem g_i2l (X : Wk Z own nm bytes ml ret R n0 p l e s m args below meth c T cells slots h) {pc q : Nat} {Ls : Array Slot} {rest : List Value} {x : Int32} (hd : decode bytes pc = .ok (.i2l, 1)) (hq : pc + 1 = q) (k : Goes p e below s R n0 Q (T.setTop (mkF m q Ls (.long x.toInt64 :: rest)))) : Goes p e below s R n0 Q (T.setTop (mkF m pc Ls (.int x :: rest))) := by
  obtain ⟨locs, X, N, eh, hn, hx, hZ, hby, hml, hown, hnm, hret, hlk⟩ := X
  subst hby hq
  exact g_of (fun t r => XS.i2l X.here hx rfl hd rfl r) k
theorem g_l2i (X : Wk Z own nm bytes ml ret R n0 p l e s m args below meth c T cells slots h) {pc q : Nat} {Ls : Array Slot} {rest : List Value} {x : Int64} (hd : decode bytes pc = .ok (.l2i, 1)) (hq : pc + 1 = q) (k : Goes p e below s R n0 Q (T.setTop (mkF m q Ls (.int x.toInt32 :: rest)))) : Goes p e below s R n0 Q (T.setTop (mkF m pc Ls (.long x :: rest))) := by
  obtain ⟨locs, X, N, eh, hn, hx, hZ, hby, hml, hown, hnm, hret, hlk⟩ := X
  subst hby hq
  exact g_of (fun t r => XS.l2i X.here hx rfl hd rfl r) k
theorem g_i2b (X : Wk Z own nm bytes ml ret R n0 p l e s m args below meth c T cells slots h) {pc q : Nat} {Ls : Array Slot} {rest : List Value} {x : Int32} (hd : decode bytes pc = .ok (.i2b, 1)) (hq : pc + 1 = q) (k : Goes p e below s R n0 Q (T.setTop (mkF m q Ls (.int x.toInt8.toInt32 :: rest)))) : Goes p e below s R n0 Q (T.setTop (mkF m pc Ls (.int x :: rest))) := by
  obtain ⟨locs, X, N, eh, hn, hx, hZ, hby, hml, hown, hnm, hret, hlk⟩ := X
  subst hby hq
  exact g_of (fun t r => XS.i2b X.here hx rfl hd rfl r) k
theorem g_i2s (X : Wk Z own nm bytes ml ret R n0 p l e s m args below meth c T cells slots h) {pc q : Nat} {Ls : Array Slot} {rest : List Value} {x : Int32} (hd : decode bytes pc = .ok (.i2s, 1)) (hq : pc + 1 = q) (k : Goes p e below s R n0 Q (T.setTop (mkF m q Ls (.int x.toInt16.toInt32 :: rest)))) : Goes p e below s R n0 Q (T.setTop (mkF m pc Ls (.int x :: rest))) := by
  obtain ⟨locs, X, N, eh, hn, hx, hZ, hby, hml, hown, hnm, hret, hlk⟩ := X
  subst hby hq
  exact g_of (fun t r => XS.i2s X.here hx rfl hd rfl r) k
theorem g_ishl (X : Wk Z own nm bytes ml ret R n0 p l e s m args below meth c T cells slots h) {pc q : Nat} {Ls : Array Slot} {rest : List Value} {x y : Int32} (hd : decode bytes pc = .ok (.ishl, 1)) (hq : pc + 1 = q) (k : Goes p e below s R n0 Q (T.setTop (mkF m q Ls (.int (x <<< (y &&& 31)) :: rest)))) : Goes p e below s R n0 Q (T.setTop (mkF m pc Ls (.int y :: .int x :: rest))) := by
  obtain ⟨locs, X, N, eh, hn, hx, hZ, hby, hml, hown, hnm, hret, hlk⟩ := X
  subst hby hq
  exact g_of (fun t r => XS.ishl X.here hx rfl hd rfl r) k
theorem g_ishr (X : Wk Z own nm bytes ml ret R n0 p l e s m args below meth c T cells slots h) {pc q : Nat} {Ls : Array Slot} {rest : List Value} {x y : Int32} (hd : decode bytes pc = .ok (.ishr, 1)) (hq : pc + 1 = q) (k : Goes p e below s R n0 Q (T.setTop (mkF m q Ls (.int (x >>> (y &&& 31)) :: rest)))) : Goes p e below s R n0 Q (T.setTop (mkF m pc Ls (.int y :: .int x :: rest))) := by
  obtain ⟨locs, X, N, eh, hn, hx, hZ, hby, hml, hown, hnm, hret, hlk⟩ := X
  subst hby hq
  exact g_of (fun t r => XS.ishr X.here hx rfl hd rfl r) k
theorem g_iushr (X : Wk Z own nm bytes ml ret R n0 p l e s m args below meth c T cells slots h) {pc q : Nat} {Ls : Array Slot} {rest : List Value} {x y : Int32} (hd : decode bytes pc = .ok (.iushr, 1)) (hq : pc + 1 = q) (k : Goes p e below s R n0 Q (T.setTop (mkF m q Ls (.int ((x.toUInt32 >>> (y &&& 31).toUInt32).toInt32) :: rest)))) : Goes p e below s R n0 Q (T.setTop (mkF m pc Ls (.int y :: .int x :: rest))) := by
  obtain ⟨locs, X, N, eh, hn, hx, hZ, hby, hml, hown, hnm, hret, hlk⟩ := X
  subst hby hq
  exact g_of (fun t r => XS.iushr X.here hx rfl hd rfl r) k
theorem g_lshl (X : Wk Z own nm bytes ml ret R n0 p l e s m args below meth c T cells slots h) {pc q : Nat} {Ls : Array Slot} {rest : List Value} {x : Int64} {y : Int32} (hd : decode bytes pc = .ok (.lshl, 1)) (hq : pc + 1 = q) (k : Goes p e below s R n0 Q (T.setTop (mkF m q Ls (.long (x <<< (y &&& 0x3f).toInt64) :: rest)))) : Goes p e below s R n0 Q (T.setTop (mkF m pc Ls (.int y :: .long x :: rest))) := by
  obtain ⟨locs, X, N, eh, hn, hx, hZ, hby, hml, hown, hnm, hret, hlk⟩ := X
  subst hby hq
  exact g_of (fun t r => XS.lshl X.here hx rfl hd rfl r) k
theorem g_lshr (X : Wk Z own nm bytes ml ret R n0 p l e s m args below meth c T cells slots h) {pc q : Nat} {Ls : Array Slot} {rest : List Value} {x : Int64} {y : Int32} (hd : decode bytes pc = .ok (.lshr, 1)) (hq : pc + 1 = q) (k : Goes p e below s R n0 Q (T.setTop (mkF m q Ls (.long (x >>> (y &&& 0x3f).toInt64) :: rest)))) : Goes p e below s R n0 Q (T.setTop (mkF m pc Ls (.int y :: .long x :: rest))) := by
  obtain ⟨locs, X, N, eh, hn, hx, hZ, hby, hml, hown, hnm, hret, hlk⟩ := X
  subst hby hq
  exact g_of (fun t r => XS.lshr X.here hx rfl hd rfl r) k
theorem g_lushr (X : Wk Z own nm bytes ml ret R n0 p l e s m args below meth c T cells slots h) {pc q : Nat} {Ls : Array Slot} {rest : List Value} {x : Int64} {y : Int32} (hd : decode bytes pc = .ok (.lushr, 1)) (hq : pc + 1 = q) (k : Goes p e below s R n0 Q (T.setTop (mkF m q Ls (.long ((x.toUInt64 >>> (y &&& 0x3f).toInt64.toUInt64).toInt64) :: rest)))) : Goes p e below s R n0 Q (T.setTop (mkF m pc Ls (.int y :: .long x :: rest))) := by
  obtain ⟨locs, X, N, eh, hn, hx, hZ, hby, hml, hown, hnm, hret, hlk⟩ := X
  subst hby hq
  exact g_of (fun t r => XS.lushr X.here hx rfl hd rfl r) k
theorem g_iload (X : Wk Z own nm bytes ml ret R n0 p l e s m args below meth c T cells slots h) {pc q : Nat} {Ls : Array Slot} {st : List Value} {i : Nat} {v : Int32} (hd : decode bytes pc = .ok (.iload i, 2)) (hq : pc + 2 = q) (hl : Ls[i]? = some (.val (.int v))) (k : Goes p e below s R n0 Q (T.setTop (mkF m q Ls (.int v :: st)))) : Goes p e below s R n0 Q (T.setTop (mkF m pc Ls st)) := by
  obtain ⟨locs, X, N, eh, hn, hx, hZ, hby, hml, hown, hnm, hret, hlk⟩ := X
  subst hby hq
  exact g_of (fun t r => XS.iload X.here hx rfl hd hl r) k
theorem g_iloadN (X : Wk Z own nm bytes ml ret R n0 p l e s m args below meth c T cells slots h) {pc q : Nat} {Ls : Array Slot} {st : List Value} {i : Fin 4} {v : Int32} (hd : decode bytes pc = .ok (.iload_n i, 1)) (hq : pc + 1 = q) (hl : Ls[i.val]? = some (.val (.int v))) (k : Goes p e below s R n0 Q (T.setTop (mkF m q Ls (.int v :: st)))) : Goes p e below s R n0 Q (T.setTop (mkF m pc Ls st)) := by
  obtain ⟨locs, X, N, eh, hn, hx, hZ, hby, hml, hown, hnm, hret, hlk⟩ := X
  subst hby hq
  exact g_of (fun t r => XS.iloadN X.here hx rfl hd hl r) k
theorem g_lload (X : Wk Z own nm bytes ml ret R n0 p l e s m args below meth c T cells slots h) {pc q : Nat} {Ls : Array Slot} {st : List Value} {i : Nat} {v : Int64} (hd : decode bytes pc = .ok (.lload i, 2)) (hq : pc + 2 = q) (hl : Ls[i]? = some (.val (.long v))) (k : Goes p e below s R n0 Q (T.setTop (mkF m q Ls (.long v :: st)))) : Goes p e below s R n0 Q (T.setTop (mkF m pc Ls st)) := by
  obtain ⟨locs, X, N, eh, hn, hx, hZ, hby, hml, hown, hnm, hret, hlk⟩ := X
  subst hby hq
  exact g_of (fun t r => XS.lload X.here hx rfl hd hl r) k
theorem g_lloadN (X : Wk Z own nm bytes ml ret R n0 p l e s m args below meth c T cells slots h) {pc q : Nat} {Ls : Array Slot} {st : List Value} {i : Fin 4} {v : Int64} (hd : decode bytes pc = .ok (.lload_n i, 1)) (hq : pc + 1 = q) (hl : Ls[i.val]? = some (.val (.long v))) (k : Goes p e below s R n0 Q (T.setTop (mkF m q Ls (.long v :: st)))) : Goes p e below s R n0 Q (T.setTop (mkF m pc Ls st)) := by
  obtain ⟨locs, X, N, eh, hn, hx, hZ, hby, hml, hown, hnm, hret, hlk⟩ := X
  subst hby hq
  exact g_of (fun t r => XS.lloadN X.here hx rfl hd hl r) k
theorem g_aload (X : Wk Z own nm bytes ml ret R n0 p l e s m args below meth c T cells slots h) {pc q : Nat} {Ls : Array Slot} {st : List Value} {i : Nat} {v : Value} (hd : decode bytes pc = .ok (.aload i, 2)) (hq : pc + 2 = q) (hl : Ls[i]? = some (.val v)) (hv : v.isRef = true) (k : Goes p e below s R n0 Q (T.setTop (mkF m q Ls (v :: st)))) : Goes p e below s R n0 Q (T.setTop (mkF m pc Ls st)) := by
  obtain ⟨locs, X, N, eh, hn, hx, hZ, hby, hml, hown, hnm, hret, hlk⟩ := X
  subst hby hq
  exact g_of (fun t r => XS.aload X.here hx rfl hd hl hv r) k
theorem g_aloadN (X : Wk Z own nm bytes ml ret R n0 p l e s m args below meth c T cells slots h) {pc q : Nat} {Ls : Array Slot} {st : List Value} {i : Fin 4} {v : Value} (hd : decode bytes pc = .ok (.aload_n i, 1)) (hq : pc + 1 = q) (hl : Ls[i.val]? = some (.val v)) (hv : v.isRef = true) (k : Goes p e below s R n0 Q (T.setTop (mkF m q Ls (v :: st)))) : Goes p e below s R n0 Q (T.setTop (mkF m pc Ls st)) := by
  obtain ⟨locs, X, N, eh, hn, hx, hZ, hby, hml, hown, hnm, hret, hlk⟩ := X
  subst hby hq
  exact g_of (fun t r => XS.aloadN X.here hx rfl hd hl hv r) k
theorem g_istore (X : Wk Z own nm bytes ml ret R n0 p l e s m args below meth c T cells slots h) {pc q : Nat} {Ls : Array Slot} {rest : List Value} {i : Nat} {v : Int32} {L' : Array Slot} (hd : decode bytes pc = .ok (.istore i, 2)) (hq : pc + 2 = q) (hl : storeLocals Ls i (.int v) = some L') (k : Goes p e below s R n0 Q (T.setTop (mkF m q L' rest))) : Goes p e below s R n0 Q (T.setTop (mkF m pc Ls (.int v :: rest))) := by
  obtain ⟨locs, X, N, eh, hn, hx, hZ, hby, hml, hown, hnm, hret, hlk⟩ := X
  subst hby hq
  exact g_of (fun t r => XS.istore X.here hx rfl hd rfl hl r) k
theorem g_istoreN (X : Wk Z own nm bytes ml ret R n0 p l e s m args below meth c T cells slots h) {pc q : Nat} {Ls : Array Slot} {rest : List Value} {i : Fin 4} {v : Int32} {L' : Array Slot} (hd : decode bytes pc = .ok (.istore_n i, 1)) (hq : pc + 1 = q) (hl : storeLocals Ls i.val (.int v) = some L') (k : Goes p e below s R n0 Q (T.setTop (mkF m q L' rest))) : Goes p e below s R n0 Q (T.setTop (mkF m pc Ls (.int v :: rest))) := by
  obtain ⟨locs, X, N, eh, hn, hx, hZ, hby, hml, hown, hnm, hret, hlk⟩ := X
  subst hby hq
  exact g_of (fun t r => XS.istoreN X.here hx rfl hd rfl hl r) k
theorem g_lstore (X : Wk Z own nm bytes ml ret R n0 p l e s m args below meth c T cells slots h) {pc q : Nat} {Ls : Array Slot} {rest : List Value} {i : Nat} {v : Int64} {L' : Array Slot} (hd : decode bytes pc = .ok (.lstore i, 2)) (hq : pc + 2 = q) (hl : storeLocals Ls i (.long v) = some L') (k : Goes p e below s R n0 Q (T.setTop (mkF m q L' rest))) : Goes p e below s R n0 Q (T.setTop (mkF m pc Ls (.long v :: rest))) := by
  obtain ⟨locs, X, N, eh, hn, hx, hZ, hby, hml, hown, hnm, hret, hlk⟩ := X
  subst hby hq
  exact g_of (fun t r => XS.lstore X.here hx rfl hd rfl hl r) k
theorem g_lstoreN (X : Wk Z own nm bytes ml ret R n0 p l e s m args below meth c T cells slots h) {pc q : Nat} {Ls : Array Slot} {rest : List Value} {i : Fin 4} {v : Int64} {L' : Array Slot} (hd : decode bytes pc = .ok (.lstore_n i, 1)) (hq : pc + 1 = q) (hl : storeLocals Ls i.val (.long v) = some L') (k : Goes p e below s R n0 Q (T.setTop (mkF m q L' rest))) : Goes p e below s R n0 Q (T.setTop (mkF m pc Ls (.long v :: rest))) := by
  obtain ⟨locs, X, N, eh, hn, hx, hZ, hby, hml, hown, hnm, hret, hlk⟩ := X
  subst hby hq
  exact g_of (fun t r => XS.lstoreN X.here hx rfl hd rfl hl r) k
theorem g_astore (X : Wk Z own nm bytes ml ret R n0 p l e s m args below meth c T cells slots h) {pc q : Nat} {Ls : Array Slot} {rest : List Value} {i : Nat} {v : Value} {L' : Array Slot} (hd : decode bytes pc = .ok (.astore i, 2)) (hq : pc + 2 = q) (hv : v.isRef = true) (hl : storeLocals Ls i v = some L') (k : Goes p e below s R n0 Q (T.setTop (mkF m q L' rest))) : Goes p e below s R n0 Q (T.setTop (mkF m pc Ls (v :: rest))) := by
  obtain ⟨locs, X, N, eh, hn, hx, hZ, hby, hml, hown, hnm, hret, hlk⟩ := X
  subst hby hq
  exact g_of (fun t r => XS.astore X.here hx rfl hd rfl hv hl r) k
theorem g_astoreN (X : Wk Z own nm bytes ml ret R n0 p l e s m args below meth c T cells slots h) {pc q : Nat} {Ls : Array Slot} {rest : List Value} {i : Fin 4} {v : Value} {L' : Array Slot} (hd : decode bytes pc = .ok (.astore_n i, 1)) (hq : pc + 1 = q) (hv : v.isRef = true) (hl : storeLocals Ls i.val v = some L') (k : Goes p e below s R n0 Q (T.setTop (mkF m q L' rest))) : Goes p e below s R n0 Q (T.setTop (mkF m pc Ls (v :: rest))) := by
  obtain ⟨locs, X, N, eh, hn, hx, hZ, hby, hml, hown, hnm, hret, hlk⟩ := X
  subst hby hq
  exact g_of (fun t r => XS.astoreN X.here hx rfl hd rfl hv hl r) k
theorem g_iconst (X : Wk Z own nm bytes ml ret R n0 p l e s m args below meth c T cells slots h) {pc q : Nat} {Ls : Array Slot} {st : List Value} {i : Int} {v : Int32} (hd : decode bytes pc = .ok (.iconst i, 1)) (hq : pc + 1 = q) (hv : Int32.ofInt i = v) (k : Goes p e below s R n0 Q (T.setTop (mkF m q Ls (.int v :: st)))) : Goes p e below s R n0 Q (T.setTop (mkF m pc Ls st)) := by
  obtain ⟨locs, X, N, eh, hn, hx, hZ, hby, hml, hown, hnm, hret, hlk⟩ := X
  subst hby hq
  exact g_of (fun t r => XS.iconst X.here hx rfl hd (by rw [hv]; exact r)) k
theorem g_bipush (X : Wk Z own nm bytes ml ret R n0 p l e s m args below meth c T cells slots h) {pc q : Nat} {Ls : Array Slot} {st : List Value} {i : Int} {v : Int32} (hd : decode bytes pc = .ok (.bipush i, 2)) (hq : pc + 2 = q) (hv : (Int8.ofInt i).toInt32 = v) (k : Goes p e below s R n0 Q (T.setTop (mkF m q Ls (.int v :: st)))) : Goes p e below s R n0 Q (T.setTop (mkF m pc Ls st)) := by
  obtain ⟨locs, X, N, eh, hn, hx, hZ, hby, hml, hown, hnm, hret, hlk⟩ := X
  subst hby hq
  exact g_of (fun t r => XS.bipush X.here hx rfl hd (by rw [hv]; exact r)) k
theorem g_sipush (X : Wk Z own nm bytes ml ret R n0 p l e s m args below meth c T cells slots h) {pc q : Nat} {Ls : Array Slot} {st : List Value} {i : Int} {v : Int32} (hd : decode bytes pc = .ok (.sipush i, 3)) (hq : pc + 3 = q) (hv : (Int16.ofInt i).toInt32 = v) (k : Goes p e below s R n0 Q (T.setTop (mkF m q Ls (.int v :: st)))) : Goes p e below s R n0 Q (T.setTop (mkF m pc Ls st)) := by
  obtain ⟨locs, X, N, eh, hn, hx, hZ, hby, hml, hown, hnm, hret, hlk⟩ := X
  subst hby hq
  exact g_of (fun t r => XS.sipush X.here hx rfl hd (by rw [hv]; exact r)) k
theorem g_lconst (X : Wk Z own nm bytes ml ret R n0 p l e s m args below meth c T cells slots h) {pc q : Nat} {Ls : Array Slot} {st : List Value} {i : Fin 2} {v : Int64} (hd : decode bytes pc = .ok (.lconst i, 1)) (hq : pc + 1 = q) (hv : Int64.ofNat i = v) (k : Goes p e below s R n0 Q (T.setTop (mkF m q Ls (.long v :: st)))) : Goes p e below s R n0 Q (T.setTop (mkF m pc Ls st)) := by
  obtain ⟨locs, X, N, eh, hn, hx, hZ, hby, hml, hown, hnm, hret, hlk⟩ := X
  subst hby hq
  exact g_of (fun t r => XS.lconst X.here hx rfl hd (by rw [hv]; exact r)) k
theorem g_aconst_null (X : Wk Z own nm bytes ml ret R n0 p l e s m args below meth c T cells slots h) {pc q : Nat} {Ls : Array Slot} {st : List Value} (hd : decode bytes pc = .ok (.aconst_null, 1)) (hq : pc + 1 = q) (k : Goes p e below s R n0 Q (T.setTop (mkF m q Ls (.null :: st)))) : Goes p e below s R n0 Q (T.setTop (mkF m pc Ls st)) := by
  obtain ⟨locs, X, N, eh, hn, hx, hZ, hby, hml, hown, hnm, hret, hlk⟩ := X
  subst hby hq
  exact g_of (fun t r => XS.aconstNull X.here hx rfl hd r) k
theorem g_dup (X : Wk Z own nm bytes ml ret R n0 p l e s m args below meth c T cells slots h) {pc q : Nat} {Ls : Array Slot} {rest : List Value} {v : Value} (hd : decode bytes pc = .ok (.dup, 1)) (hq : pc + 1 = q) (hv : v.category = 1) (k : Goes p e below s R n0 Q (T.setTop (mkF m q Ls (v :: v :: rest)))) : Goes p e below s R n0 Q (T.setTop (mkF m pc Ls (v :: rest))) := by
  obtain ⟨locs, X, N, eh, hn, hx, hZ, hby, hml, hown, hnm, hret, hlk⟩ := X
  subst hby hq
  exact g_of (fun t r => XS.dup X.here hx rfl hd rfl hv r) k
theorem g_dup_x1 (X : Wk Z own nm bytes ml ret R n0 p l e s m args below meth c T cells slots h) {pc q : Nat} {Ls : Array Slot} {rest : List Value} {v w : Value} (hd : decode bytes pc = .ok (.dup_x1, 1)) (hq : pc + 1 = q) (hv : v.category = 1) (hw : w.category = 1) (k : Goes p e below s R n0 Q (T.setTop (mkF m q Ls (v :: w :: v :: rest)))) : Goes p e below s R n0 Q (T.setTop (mkF m pc Ls (v :: w :: rest))) := by
  obtain ⟨locs, X, N, eh, hn, hx, hZ, hby, hml, hown, hnm, hret, hlk⟩ := X
  subst hby hq
  exact g_of (fun t r => XS.dupX1 X.here hx rfl hd rfl hv hw r) k
theorem g_dup2 (X : Wk Z own nm bytes ml ret R n0 p l e s m args below meth c T cells slots h) {pc q : Nat} {Ls : Array Slot} {rest : List Value} {v w : Value} (hd : decode bytes pc = .ok (.dup2, 1)) (hq : pc + 1 = q) (hv : v.category = 1) (hw : w.category = 1) (k : Goes p e below s R n0 Q (T.setTop (mkF m q Ls (v :: w :: v :: w :: rest)))) : Goes p e below s R n0 Q (T.setTop (mkF m pc Ls (v :: w :: rest))) := by
  obtain ⟨locs, X, N, eh, hn, hx, hZ, hby, hml, hown, hnm, hret, hlk⟩ := X
  subst hby hq
  exact g_of (fun t r => Jvm.Free.XT.dup2 X.here hx rfl hd rfl hv hw r) k
theorem g_dup2L (X : Wk Z own nm bytes ml ret R n0 p l e s m args below meth c T cells slots h) {pc q : Nat} {Ls : Array Slot} {rest : List Value} {x : Int64} (hd : decode bytes pc = .ok (.dup2, 1)) (hq : pc + 1 = q) (k : Goes p e below s R n0 Q (T.setTop (mkF m q Ls (.long x :: .long x :: rest)))) : Goes p e below s R n0 Q (T.setTop (mkF m pc Ls (.long x :: rest))) := by
  obtain ⟨locs, X, N, eh, hn, hx, hZ, hby, hml, hown, hnm, hret, hlk⟩ := X
  subst hby hq
  exact g_of (fun t r => Jvm.Free.XT.dup2L X.here hx rfl hd rfl r) k
theorem g_pop (X : Wk Z own nm bytes ml ret R n0 p l e s m args below meth c T cells slots h) {pc q : Nat} {Ls : Array Slot} {rest : List Value} {v : Value} (hd : decode bytes pc = .ok (.pop, 1)) (hq : pc + 1 = q) (hv : v.category = 1) (k : Goes p e below s R n0 Q (T.setTop (mkF m q Ls rest))) : Goes p e below s R n0 Q (T.setTop (mkF m pc Ls (v :: rest))) := by
  obtain ⟨locs, X, N, eh, hn, hx, hZ, hby, hml, hown, hnm, hret, hlk⟩ := X
  subst hby hq
  exact g_of (fun t r => XS.pop X.here hx rfl hd rfl hv r) k
theorem g_iinc (X : Wk Z own nm bytes ml ret R n0 p l e s m args below meth c T cells slots h) {pc q : Nat} {Ls L' : Array Slot} {st : List Value} {i : Nat} {cst : Int} {x d : Int32} (hd : decode bytes pc = .ok (.iinc i cst, 3)) (hq : pc + 3 = q) (hl : Ls[i]? = some (.val (.int x))) (hc : Int32.ofInt cst = d) (hl' : storeLocals Ls i (.int (x + d)) = some L') (k : Goes p e below s R n0 Q (T.setTop (mkF m q L' st))) : Goes p e below s R n0 Q (T.setTop (mkF m pc Ls st)) := by
  obtain ⟨locs, X, N, eh, hn, hx, hZ, hby, hml, hown, hnm, hret, hlk⟩ := X
  subst hby hq hc
  exact g_of (fun t r => XS.iinc X.here hx rfl hd hl hl' r) k
theorem g_goto (X : Wk Z own nm bytes ml ret R n0 p l e s m args below meth c T cells slots h) {pc q : Nat} {Ls : Array Slot} {st : List Value} {o : Int} (hd : decode bytes pc = .ok (.goto o, 3)) (ho : 0 ≤ (pc : Int) + o) (hq : ((pc : Int) + o).toNat = q) (k : Goes p e below s R n0 Q (T.setTop (mkF m q Ls st))) : Goes p e below s R n0 Q (T.setTop (mkF m pc Ls st)) := by
  obtain ⟨locs, X, N, eh, hn, hx, hZ, hby, hml, hown, hnm, hret, hlk⟩ := X
  subst hby
  exact g_of (fun t r => XS.goto X.here hx rfl (pc0 := pc) rfl hd ho hq r) k
theorem g_bor (X : Wk Z own nm bytes ml ret R n0 p l e s m args below meth c T cells slots h) {pc q : Nat} {Ls : Array Slot} {rest : List Value} {A B : Prop} [Decidable A] [Decidable B] (hd : decode bytes pc = .ok (.ior, 1)) (hq : pc + 1 = q) (k : Goes p e below s R n0 Q (T.setTop (mkF m q Ls (.int (bI (A ∨ B)) :: rest)))) : Goes p e below s R n0 Q (T.setTop (mkF m pc Ls (.int (bI B) :: .int (bI A) :: rest))) :=
  g_ior X hd hq (by rw [show bI A ||| bI B = bI (A ∨ B) from own_bor A B]; exact k)
theorem g_band (X : Wk Z own nm bytes ml ret R n0 p l e s m args below meth c T cells slots h) {pc q : Nat} {Ls : Array Slot} {rest : List Value} {A B : Prop} [Decidable A] [Decidable B] (hd : decode bytes pc = .ok (.iand, 1)) (hq : pc + 1 = q) (k : Goes p e below s R n0 Q (T.setTop (mkF m q Ls (.int (bI (A ∧ B)) :: rest)))) : Goes p e below s R n0 Q (T.setTop (mkF m pc Ls (.int (bI B) :: .int (bI A) :: rest))) :=
  g_iand X hd hq (by rw [show bI A &&& bI B = bI (A ∧ B) from own_band A B]; exact k)
theorem hI {cd : ClassFile.Cond} {x y : Int32} (hcd : cd = .lt ∨ cd = .gt ∨ cd = .eq) : (pcI cd x y → if_icmp.holds cd x y = true) ∧ (¬ pcI cd x y → if_icmp.holds cd x y = false) := by
  rcases hcd with rfl | rfl | rfl
  · exact ⟨fun q => (tlt q).1, fun q => (flt q).1⟩
  · exact ⟨fun q => (tlt q).2.2.1, fun q => (flt q).2.2.1⟩
  · exact ⟨fun q => (teq q).1, fun q => (feq q).1⟩
theorem hN {cd : ClassFile.Cond} {x y : Int32} (hcd : cd = .ge ∨ cd = .le ∨ cd = .ne) : (pcI cd x y → if_icmp.holds cd x y = false) ∧ (¬ pcI cd x y → if_icmp.holds cd x y = true) := by
  rcases hcd with rfl | rfl | rfl
  · exact ⟨fun q => (tlt q).2.1, fun q => (flt q).2.1⟩
  · exact ⟨fun q => (tlt q).2.2.2, fun q => (flt q).2.2.2⟩
  · exact ⟨fun q => (teq q).2, fun q => (feq q).2⟩
theorem pcL {cd : ClassFile.Cond} {x y : Int64} : pcI cd (lcmpW x y) 0 ↔ pcJ cd x y := by
  cases cd
  · exact lw_eq x y
  · exact lw_eq x y
  · exact lw_lt x y
  · exact lw_lt x y
  · exact lw_gt x y
  · exact lw_gt x y
instance pcI_dec (cd : ClassFile.Cond) (x y : Int32) : Decidable (pcI cd x y) := by cases cd <;> (unfold pcI; infer_instance)
theorem g_icmpA (X : Wk Z own nm bytes ml ret R n0 p l e s m args below meth c T cells slots h) {pc q t : Nat} {Ls : Array Slot} {rest : List Value} {o : Int} {cd : ClassFile.Cond} {x y : Int32} (hd : decode bytes pc = .ok (.if_icmp cd o, 3)) (hcd : cd = .lt ∨ cd = .gt ∨ cd = .eq) (hq : pc + 3 = q) (ho : 0 ≤ (pc : Int) + o) (ht : ((pc : Int) + o).toNat = t) (kP : pcI cd x y → Goes p e below s R n0 Q (T.setTop (mkF m t Ls rest))) (kN : ¬ pcI cd x y → Goes p e below s R n0 Q (T.setTop (mkF m q Ls rest))) : Goes p e below s R n0 Q (T.setTop (mkF m pc Ls (.int y :: .int x :: rest))) := by
  obtain ⟨locs, X, N, eh, hn, hx, hZ, hby, hml, hown, hnm, hret, hlk⟩ := X
  subst hby hq
  by_cases hP : pcI cd x y
  · exact g_of (fun _ r => XS.icmpYes X.here hx rfl (pc0 := pc) rfl hd rfl ((hI hcd).1 hP) ho ht r) (kP hP)
  · exact g_of (fun _ r => XS.icmpNo X.here hx rfl hd rfl ((hI hcd).2 hP) r) (kN hP)
theorem g_ifA (X : Wk Z own nm bytes ml ret R n0 p l e s m args below meth c T cells slots h) {pc q t : Nat} {Ls : Array Slot} {rest : List Value} {o : Int} {cd : ClassFile.Cond} {x : Int32} (hd : decode bytes pc = .ok (.ifCond cd o, 3)) (hcd : cd = .lt ∨ cd = .gt ∨ cd = .eq) (hq : pc + 3 = q) (ho : 0 ≤ (pc : Int) + o) (ht : ((pc : Int) + o).toNat = t) (kP : pcI cd x 0 → Goes p e below s R n0 Q (T.setTop (mkF m t Ls rest))) (kN : ¬ pcI cd x 0 → Goes p e below s R n0 Q (T.setTop (mkF m q Ls rest))) : Goes p e below s R n0 Q (T.setTop (mkF m pc Ls (.int x :: rest))) := by
  obtain ⟨locs, X, N, eh, hn, hx, hZ, hby, hml, hown, hnm, hret, hlk⟩ := X
  subst hby hq
  by_cases hP : pcI cd x 0
  · exact g_of (fun _ r => XS.ifYes X.here hx rfl (pc0 := pc) rfl hd rfl ((if0 _ _).trans ((hI hcd).1 hP)) ho ht r) (kP hP)
  · exact g_of (fun _ r => XS.ifNo X.here hx rfl hd rfl ((if0 _ _).trans ((hI hcd).2 hP)) r) (kN hP)
theorem g_lcmpA (X : Wk Z own nm bytes ml ret R n0 p l e s m args below meth c T cells slots h) {pc q t : Nat} {Ls : Array Slot} {rest : List Value} {o : Int} {cd : ClassFile.Cond} {x y : Int64} {q1 : Nat} (hd0 : decode bytes pc = .ok (.lcmp, 1)) (hq1 : pc + 1 = q1) (hd : decode bytes q1 = .ok (.ifCond cd o, 3)) (hcd : cd = .lt ∨ cd = .gt ∨ cd = .eq) (hq : q1 + 3 = q) (ho : 0 ≤ (q1 : Int) + o) (ht : ((q1 : Int) + o).toNat = t) (kP : pcJ cd x y → Goes p e below s R n0 Q (T.setTop (mkF m t Ls rest))) (kN : ¬ pcJ cd x y → Goes p e below s R n0 Q (T.setTop (mkF m q Ls rest))) : Goes p e below s R n0 Q (T.setTop (mkF m pc Ls (.long y :: .long x :: rest))) := by
  refine g_lcmp X hd0 hq1 (g_ifA X hd hcd hq ho ht (fun z => kP (pcL.mp z)) (fun z => kN (fun w => z (pcL.mpr w))))
theorem g_icmpB (X : Wk Z own nm bytes ml ret R n0 p l e s m args below meth c T cells slots h) {pc q t : Nat} {Ls : Array Slot} {rest : List Value} {o : Int} {cd : ClassFile.Cond} {x y : Int32} (hd : decode bytes pc = .ok (.if_icmp cd o, 3)) (hcd : cd = .ge ∨ cd = .le ∨ cd = .ne) (hq : pc + 3 = q) (ho : 0 ≤ (pc : Int) + o) (ht : ((pc : Int) + o).toNat = t) (kP : pcI cd x y → Goes p e below s R n0 Q (T.setTop (mkF m q Ls rest))) (kN : ¬ pcI cd x y → Goes p e below s R n0 Q (T.setTop (mkF m t Ls rest))) : Goes p e below s R n0 Q (T.setTop (mkF m pc Ls (.int y :: .int x :: rest))) := by
  obtain ⟨locs, X, N, eh, hn, hx, hZ, hby, hml, hown, hnm, hret, hlk⟩ := X
  subst hby hq
  by_cases hP : pcI cd x y
  · exact g_of (fun _ r => XS.icmpNo X.here hx rfl hd rfl ((hN hcd).1 hP) r) (kP hP)
  · exact g_of (fun _ r => XS.icmpYes X.here hx rfl (pc0 := pc) rfl hd rfl ((hN hcd).2 hP) ho ht r) (kN hP)
theorem g_ifB (X : Wk Z own nm bytes ml ret R n0 p l e s m args below meth c T cells slots h) {pc q t : Nat} {Ls : Array Slot} {rest : List Value} {o : Int} {cd : ClassFile.Cond} {x : Int32} (hd : decode bytes pc = .ok (.ifCond cd o, 3)) (hcd : cd = .ge ∨ cd = .le ∨ cd = .ne) (hq : pc + 3 = q) (ho : 0 ≤ (pc : Int) + o) (ht : ((pc : Int) + o).toNat = t) (kP : pcI cd x 0 → Goes p e below s R n0 Q (T.setTop (mkF m q Ls rest))) (kN : ¬ pcI cd x 0 → Goes p e below s R n0 Q (T.setTop (mkF m t Ls rest))) : Goes p e below s R n0 Q (T.setTop (mkF m pc Ls (.int x :: rest))) := by
  obtain ⟨locs, X, N, eh, hn, hx, hZ, hby, hml, hown, hnm, hret, hlk⟩ := X
  subst hby hq
  by_cases hP : pcI cd x 0
  · exact g_of (fun _ r => XS.ifNo X.here hx rfl hd rfl ((if0 _ _).trans ((hN hcd).1 hP)) r) (kP hP)
  · exact g_of (fun _ r => XS.ifYes X.here hx rfl (pc0 := pc) rfl hd rfl ((if0 _ _).trans ((hN hcd).2 hP)) ho ht r) (kN hP)
theorem g_lcmpB (X : Wk Z own nm bytes ml ret R n0 p l e s m args below meth c T cells slots h) {pc q t : Nat} {Ls : Array Slot} {rest : List Value} {o : Int} {cd : ClassFile.Cond} {x y : Int64} {q1 : Nat} (hd0 : decode bytes pc = .ok (.lcmp, 1)) (hq1 : pc + 1 = q1) (hd : decode bytes q1 = .ok (.ifCond cd o, 3)) (hcd : cd = .ge ∨ cd = .le ∨ cd = .ne) (hq : q1 + 3 = q) (ho : 0 ≤ (q1 : Int) + o) (ht : ((q1 : Int) + o).toNat = t) (kP : pcJ cd x y → Goes p e below s R n0 Q (T.setTop (mkF m q Ls rest))) (kN : ¬ pcJ cd x y → Goes p e below s R n0 Q (T.setTop (mkF m t Ls rest))) : Goes p e below s R n0 Q (T.setTop (mkF m pc Ls (.long y :: .long x :: rest))) := by
  refine g_lcmp X hd0 hq1 (g_ifB X hd hcd hq ho ht (fun z => kP (pcL.mp z)) (fun z => kN (fun w => z (pcL.mpr w))))
theorem g_bne (X : Wk Z own nm bytes ml ret R n0 p l e s m args below meth c T cells slots h) {pc q t : Nat} {Ls : Array Slot} {rest : List Value} {o : Int} {c' : Prop} [Decidable c'] (hd : decode bytes pc = .ok (.ifCond .ne o, 3)) (hq : pc + 3 = q) (ho : 0 ≤ (pc : Int) + o) (ht : ((pc : Int) + o).toNat = t) (kP : c' → Goes p e below s R n0 Q (T.setTop (mkF m t Ls rest))) (kN : ¬ c' → Goes p e below s R n0 Q (T.setTop (mkF m q Ls rest))) : Goes p e below s R n0 Q (T.setTop (mkF m pc Ls (.int (bI c') :: rest))) :=
  g_ifB X hd (Or.inr (Or.inr rfl)) hq ho ht (fun z => kN ((bI_eq0 c').mp z)) (fun z => kP (Decidable.of_not_not fun w => z ((bI_eq0 c').mpr w)))
theorem g_beq (X : Wk Z own nm bytes ml ret R n0 p l e s m args below meth c T cells slots h) {pc q t : Nat} {Ls : Array Slot} {rest : List Value} {o : Int} {c' : Prop} [Decidable c'] (hd : decode bytes pc = .ok (.ifCond .eq o, 3)) (hq : pc + 3 = q) (ho : 0 ≤ (pc : Int) + o) (ht : ((pc : Int) + o).toNat = t) (kP : c' → Goes p e below s R n0 Q (T.setTop (mkF m q Ls rest))) (kN : ¬ c' → Goes p e below s R n0 Q (T.setTop (mkF m t Ls rest))) : Goes p e below s R n0 Q (T.setTop (mkF m pc Ls (.int (bI c') :: rest))) :=
  g_ifA X hd (Or.inr (Or.inr rfl)) hq ho ht (fun z => kN ((bI_eq0 c').mp z)) (fun z => kP (Decidable.of_not_not fun w => z ((bI_eq0 c').mpr w)))
theorem g_ifnullY (X : Wk Z own nm bytes ml ret R n0 p l e s m args below meth c T cells slots h) {pc q : Nat} {Ls : Array Slot} {rest : List Value} {o : Int} (hd : decode bytes pc = .ok (.ifnull o, 3)) (ho : 0 ≤ (pc : Int) + o) (hq : ((pc : Int) + o).toNat = q) (k : Goes p e below s R n0 Q (T.setTop (mkF m q Ls rest))) : Goes p e below s R n0 Q (T.setTop (mkF m pc Ls (.null :: rest))) := by
  obtain ⟨locs, X, N, eh, hn, hx, hZ, hby, hml, hown, hnm, hret, hlk⟩ := X
  subst hby
  exact g_of (fun t r => XS.ifnullYes X.here hx rfl (pc0 := pc) rfl hd rfl ho hq r) k
theorem g_ifnullN (X : Wk Z own nm bytes ml ret R n0 p l e s m args below meth c T cells slots h) {pc q : Nat} {Ls : Array Slot} {rest : List Value} {o : Int} {b : Addr} (hd : decode bytes pc = .ok (.ifnull o, 3)) (hq : pc + 3 = q) (k : Goes p e below s R n0 Q (T.setTop (mkF m q Ls rest))) : Goes p e below s R n0 Q (T.setTop (mkF m pc Ls (.ref b :: rest))) := by
  obtain ⟨locs, X, N, eh, hn, hx, hZ, hby, hml, hown, hnm, hret, hlk⟩ := X
  subst hby hq
  exact g_of (fun t r => XS.ifnullNo X.here hx rfl hd rfl r) k
theorem g_ifnonnullY (X : Wk Z own nm bytes ml ret R n0 p l e s m args below meth c T cells slots h) {pc q : Nat} {Ls : Array Slot} {rest : List Value} {o : Int} {b : Addr} (hd : decode bytes pc = .ok (.ifnonnull o, 3)) (ho : 0 ≤ (pc : Int) + o) (hq : ((pc : Int) + o).toNat = q) (k : Goes p e below s R n0 Q (T.setTop (mkF m q Ls rest))) : Goes p e below s R n0 Q (T.setTop (mkF m pc Ls (.ref b :: rest))) := by
  obtain ⟨locs, X, N, eh, hn, hx, hZ, hby, hml, hown, hnm, hret, hlk⟩ := X
  subst hby
  exact g_of (fun t r => XS.ifnonnullYes X.here hx rfl (pc0 := pc) rfl hd rfl ho hq r) k
theorem g_ifnonnullN (X : Wk Z own nm bytes ml ret R n0 p l e s m args below meth c T cells slots h) {pc q : Nat} {Ls : Array Slot} {rest : List Value} {o : Int} (hd : decode bytes pc = .ok (.ifnonnull o, 3)) (hq : pc + 3 = q) (k : Goes p e below s R n0 Q (T.setTop (mkF m q Ls rest))) : Goes p e below s R n0 Q (T.setTop (mkF m pc Ls (.null :: rest))) := by
  obtain ⟨locs, X, N, eh, hn, hx, hZ, hby, hml, hown, hnm, hret, hlk⟩ := X
  subst hby hq
  exact g_of (fun t r => XS.ifnonnullNo X.here hx rfl hd rfl r) k
theorem g_acmp (X : Wk Z own nm bytes ml ret R n0 p l e s m args below meth c T cells slots h) {pc q : Nat} {Ls : Array Slot} {rest : List Value} {o : Int} {cd : ACond} {x y : Value} {same : Bool} (hd : decode bytes pc = .ok (.if_acmp cd o, 3)) (h1 : x.isRef = true) (h2 : y.isRef = true) (hs : decide (x = y) = same) (ho : 0 ≤ (pc : Int) + o) (hq : q = if acV cd same = true then ((pc : Int) + o).toNat else pc + 3) (k : Goes p e below s R n0 Q (T.setTop (mkF m q Ls rest))) : Goes p e below s R n0 Q (T.setTop (mkF m pc Ls (y :: x :: rest))) := by
  obtain ⟨locs, X, N, eh, hn, hx, hZ, hby, hml, hown, hnm, hret, hlk⟩ := X
  subst hby
  exact g_of (fun t r => Jvm.RoadKit.acmp (g := mkF m pc Ls (y :: x :: rest)) X hx rfl h1 h2 (pc0 := pc) rfl hd rfl hs ho hq r) k

theorem g_ldc2 (X : Wk Z own nm bytes ml ret R n0 p l e s m args below meth c T cells slots h) {index : Nat} {v : Int64} (w : (Jvm.Cond.constantLong own index v).before a0 Z = true) {pc q : Nat} {Ls : Array Slot} {st : List Value} (hd : decode bytes pc = .ok (.ldc2_w index, 3)) (hq : pc + 3 = q) (k : Goes p e below s R n0 Q (T.setTop (mkF m q Ls (.long v :: st)))) : Goes p e below s R n0 Q (T.setTop (mkF m pc Ls st)) := by
  obtain ⟨locs, X, N, eh, hn, hx, hZ, hby, hml, hown, hnm, hret, hlk⟩ := X
  subst hby hq
  exact g_of (fun t r => X.ldc2Long hx hown (mvT hZ w) (g := mkF m pc Ls st) rfl hd t r) k
theorem g_ldc (X : Wk Z own nm bytes ml ret R n0 p l e s m args below meth c T cells slots h) {index : Nat} {v : Int32} (w : (Jvm.Cond.constant own index v).before a0 Z = true) {pc q : Nat} {Ls : Array Slot} {st : List Value} (hd : decode bytes pc = .ok (.ldc index, 2)) (hq : pc + 2 = q) (k : Goes p e below s R n0 Q (T.setTop (mkF m q Ls (.int v :: st)))) : Goes p e below s R n0 Q (T.setTop (mkF m pc Ls st)) := by
  obtain ⟨locs, X, N, eh, hn, hx, hZ, hby, hml, hown, hnm, hret, hlk⟩ := X
  subst hby hq
  exact g_of (fun t r => X.ldcInt hx hown (mvT hZ w) (g := mkF m pc Ls st) rfl hd t r) k
theorem g_ldcw (X : Wk Z own nm bytes ml ret R n0 p l e s m args below meth c T cells slots h) {index : Nat} {v : Int32} (w : (Jvm.Cond.constant own index v).before a0 Z = true) {pc q : Nat} {Ls : Array Slot} {st : List Value} (hd : decode bytes pc = .ok (.ldc_w index, 3)) (hq : pc + 3 = q) (k : Goes p e below s R n0 Q (T.setTop (mkF m q Ls (.int v :: st)))) : Goes p e below s R n0 Q (T.setTop (mkF m pc Ls st)) := by
  obtain ⟨locs, X, N, eh, hn, hx, hZ, hby, hml, hown, hnm, hret, hlk⟩ := X
  subst hby hq
  exact g_of (fun t r => X.ldcwInt hx hown (mvT hZ w) (g := mkF m pc Ls st) rfl hd t r) k
theorem g_getF (X : Wk Z own nm bytes ml ret R n0 p l e s m args below meth c T cells slots h) {index : Nat} {R0 O n d : String} (w : (Jvm.Cond.fieldLink own index R0 n d).before a0 Z = true) (via : Via Z R0 O n d) {a : Addr} {v : Value} (F : Fld Z h a O n d v) {pc q : Nat} {Ls : Array Slot} {rest : List Value} (hd : decode bytes pc = .ok (.getfield index, 3)) (hq : pc + 3 = q)
    (k : ∀ T', Wk Z own nm bytes ml ret R n0 p l e s m args below meth c T' cells slots h → Goes p e below s R n0 Q (T'.setTop (mkF m q Ls (v :: rest)))) : Goes p e below s R n0 Q (T.setTop (mkF m pc Ls (.ref a :: rest))) := by
  obtain ⟨locs, X, N, eh, hn, hx, hZ, hby, hml, hown, hnm, hret, hlk⟩ := X
  subst hby hq
  obtain ⟨T', X', e', st⟩ := getF X hx hZ hown (host := "") (Or.inl w) via eh F (g := mkF m pc Ls (.ref a :: rest)) rfl rfl hd
  exact g_of st (k T' ⟨locs, X', N, e', hn, hx, hZ, rfl, hml, hown, hnm, hret, hlk⟩)
theorem g_putF (X : Wk Z own nm bytes ml ret R n0 p l e s m args below meth c T cells slots h) {index kk : Nat} {R0 O n d C : String} {ty : FieldType} (w : (Jvm.Cond.fieldLink own index R0 n d).before a0 Z = true) (via : Via Z R0 O n d) {a : Addr} {v old : Value} (F : Fld Z h a O n d old) (E : Exa Z h a C) (L : (Jvm.Cond.lays C O n d).before a0 Z = true ∨ ((Jvm.Cond.laysFinal C O n d).before a0 Z = true ∧ own = O ∧ nm = "<init>")) (wi : (Jvm.Cond.instantiable C kk).before a0 Z = true) (hty : parseFieldDescriptor d = some ty) (hnr : narrow ty v = v) (hf : fits ty v = true) (ga : n0 ≤ a) {pc q : Nat} {Ls : Array Slot} {rest : List Value} (hd : decode bytes pc = .ok (.putfield index, 3)) (hq : pc + 3 = q)
    (k : ∀ T' h', Wk Z own nm bytes ml ret R n0 p l e s m args below meth c T' cells slots h' → Wr h h' a (Jvm.RoadKit.slotOf Z O n d) v → Goes p e below s R n0 Q (T'.setTop (mkF m q Ls rest))) : Goes p e below s R n0 Q (T.setTop (mkF m pc Ls (v :: .ref a :: rest))) := by
  obtain ⟨locs, X, N, eh, hn, hx, hZ, hby, hml, hown, hnm, hret, hlk⟩ := X
  subst hby hq
  obtain ⟨T', h', X', e', W', st⟩ := putF X hx hZ hown (host := "") (Or.inl w) via eh F E (L.imp id fun z => ⟨z.1, z.2.1, hnm.trans z.2.2⟩) wi hty hnr hf (g := mkF m pc Ls (v :: .ref a :: rest)) rfl rfl hd
  exact g_of st (k T' h' ⟨_, X', Fr.snoc X' N ga, e', hn, hx, hZ, rfl, hml, hown, hnm, hret, hlk⟩ W')
theorem g_new (X : Wk Z own nm bytes ml ret R n0 p l e s m args below meth c T cells slots h) {index n : Nat} {C : String} (w : (Jvm.Cond.classLink own index C).before a0 Z = true) (wi : (Jvm.Cond.instantiable C n).before a0 Z = true) (wz : (Jvm.Cond.initialized C).before a0 Z = true) {pc q c2 s2 : Nat} {Ls : Array Slot} {st : List Value} (hd : decode bytes pc = .ok (.new index, 3)) (hq : pc + 3 = q) (hc : cells + 1 = c2) (hs : slots + n = s2) (hcR : c2 ≤ R.cells) (hsR : s2 ≤ R.slots)
    (k : ∀ T' h' b, Wk Z own nm bytes ml ret R n0 p l e s m args below meth c T' c2 s2 h' → b = h.size → n0 ≤ b → Ext h h' → Exa Z h' b C → (∀ {O nm d : String} {ty : FieldType}, Laid Z a0 C O nm d → parseFieldDescriptor d = some ty → Fld Z h' b O nm d (defaultValue ty)) → Goes p e below s R n0 Q (T'.setTop (mkF m q Ls (.ref b :: st)))) : Goes p e below s R n0 Q (T.setTop (mkF m pc Ls st)) := by
  obtain ⟨locs, X, N, eh, hn, hx, hZ, hby, hml, hown, hnm, hret, hlk⟩ := X
  subst hby hq hc hs
  obtain ⟨T', h', X', e', E', A', D', -, stp⟩ := newO X hx hZ hown w wi wz eh (g := mkF m pc Ls st) rfl hd hcR hsR
  exact g_of stp (k T' h' _ ⟨locs, X', N, e', hn, hx, hZ, rfl, hml, hown, hnm, hret, hlk⟩ rfl (Wk.size ⟨locs, X, N, eh, hn, hx, hZ, rfl, hml, hown, hnm, hret, hlk⟩) E' A' D')
theorem g_initO (X : Wk Z own nm bytes ml ret R n0 p l e s m args below meth c T cells slots h) {index : Nat} (w1 : (Jvm.Cond.methodLink own index Lib.objectInit).before a0 Z = true) (w2 : (Jvm.Cond.instanceMethod Lib.objectInit).before a0 Z = true) (w3 : (Jvm.Cond.code Lib.objectInit ⟨#[0xb1]⟩ 1 none).before a0 Z = true) {a : Addr} {pc q W : Nat} {Ls : Array Slot} {rest : List Value} (hd : decode bytes pc = .ok (.invokespecial index, 3)) (hq : pc + 3 = q) (hLs : Ls.size = ml) (hf : 1 ≤ R.frames) (hW : (rest.map fun v => v.category).sum = W) (hl : W + 12 ≤ R.locals)
    (k : ∀ T', Wk Z own nm bytes ml ret R n0 p l e s m args below meth c T' cells slots h → Goes p e below s R n0 Q (T'.setTop (mkF m q Ls rest))) : Goes p e below s R n0 Q (T.setTop (mkF m pc Ls (.ref a :: rest))) := by
  obtain ⟨locs, X, N, eh, hn, hx, hZ, hby, hml, hown, hnm, hret, hlk⟩ := X
  subst hby hq
  obtain ⟨T', X', e', st⟩ := initO X hx hZ hown w1 w2 w3 eh (g := mkF m pc Ls (.ref a :: rest)) rfl (hLs.trans hml.symm) rfl hd hf (W := W) (by show 2 * 0 + _ ≤ _; omega) hl
  exact g_of st (k T' ⟨locs, X', N, e', hn, hx, hZ, rfl, hml, hown, hnm, hret, hlk⟩)
theorem own_back {index W : Nat} {y : MethodName} {yb : ByteArray} {yml : Nat} {yret : Option FieldType} {Ry : Room} {as' : Array Value} {len : Nat} {Qy : Option Value → Heap → Prop} (hZ : Z.Warmed39 s.vm) (w3 : (Jvm.Cond.initialized y.cls).before a0 Z = true) (w4 : (Jvm.Cond.code y yb yml yret).before a0 Z = true) (hM : Met l Z y yb yml yret Ry [] n0 as' h Qy) (hf : Ry.frames + 1 ≤ R.frames) (hlc : W + (yml + 11) + Ry.locals ≤ R.locals) :
    Back l R p e below s args y len W (fun A a => a = as' ∧ A.U.heap = h ∧ A.cells + Ry.cells ≤ R.cells ∧ A.slots + Ry.slots ≤ R.slots)
      (fun A _ v B => ∃ L, (Fr n0 L ∧ Qy v B.U.heap) ∧ B.locs = A.locs ++ L ∧ B.cells = A.cells + Ry.cells ∧ B.slots = A.slots + Ry.slots) :=
  backOf (Q := fun v h L => Fr n0 L ∧ Qy v h) hM hZ w4 w3 hf hlc
theorem g_callS (X : Wk Z own nm bytes ml ret R n0 p l e s m args below meth c T cells slots h) {index : Nat} {y : MethodName} {yb : ByteArray} {yml : Nat} {yret : Option FieldType} {Ry : Room} {Qy : Option Value → Heap → Prop} {ps : List FieldType} {r : Option FieldType} (as rest : List Value) (w1 : (Jvm.Cond.methodLink own index y).before a0 Z = true) (w2 : (Jvm.Cond.static y).before a0 Z = true) (w3 : (Jvm.Cond.initialized y.cls).before a0 Z = true) (w4 : (Jvm.Cond.code y yb yml yret).before a0 Z = true) (hy : y.cls ≠ "java/lang/invoke/MethodHandle" ∧ y.cls ≠ "java/lang/invoke/VarHandle") (hM : Met l Z y yb yml yret Ry [] n0 as.toArray h Qy) (hp : parseMethodDescriptor y.desc = some ⟨ps, r⟩) (hl : as.length = ps.length)
    {pc q c2 s2 W : Nat} {Ls : Array Slot} {st : List Value} (hst : st = as.reverse ++ rest) (hLs : Ls.size = ml) (hd : decode bytes pc = .ok (.invokestatic index, 3)) (hq : pc + 3 = q) (hW : (rest.map fun v => v.category).sum = W) (hf : Ry.frames + 1 ≤ R.frames) (hlc : W + (yml + 11) + Ry.locals ≤ R.locals) (hc : cells + Ry.cells = c2) (hs : slots + Ry.slots = s2) (hcR : c2 ≤ R.cells) (hsR : s2 ≤ R.slots)
    (k : ∀ v T' h', Wk Z own nm bytes ml ret R n0 p l e s m args below meth c T' c2 s2 h' → Qy v h' → Goes p e below s R n0 Q (T'.setTop (mkF m q Ls (v.toList ++ rest)))) : Goes p e below s R n0 Q (T.setTop (mkF m pc Ls st)) := by
  obtain ⟨locs, X, N, eh, hn, hx, hZ, hby, hml, hown, hnm, hret, hlk⟩ := X
  subst hby hq hc hs hst
  obtain ⟨v, _, ⟨T', L', k', n'⟩, -, X', ⟨Lc, ⟨hF, hQy⟩, l', y', z'⟩, stp⟩ := Jvm.LawKit.callS X hx (y := y) hown (mvT hZ w1) (mvT hZ w2) (mvT hZ w3) (mvT hZ w4) hy (own_back (index := index) (W := W) hZ w3 w4 hM hf hlc) (g := mkF m pc Ls (as.reverse ++ rest)) rfl (hLs.trans hml.symm) (argsL := as) (rest := rest) (lenOf hp hl) rfl (by show 2 * 0 + _ ≤ _; omega) hd (fun _ _ => ⟨rfl, eh, hcR, hsR⟩)
  dsimp only [Pt.U, Pt.locs, Pt.cells, Pt.slots] at X' l' y' z' stp hQy
  subst l' y' z'
  exact g_of stp (k v T' _ ⟨_, X', Fr.app N hF, rfl, hn, hx, hZ, rfl, hml, hown, hnm, hret, hlk⟩ hQy)
theorem g_callI (X : Wk Z own nm bytes ml ret R n0 p l e s m args below meth c T cells slots h) {index : Nat} {y : MethodName} {yb : ByteArray} {yml : Nat} {Ry : Room} {Qy : Option Value → Heap → Prop} {ps : List FieldType} {r : Option FieldType} {a : Addr} (as rest : List Value) (hy1 : y.name = "<init>") (w1 : (Jvm.Cond.methodLink own index y).before a0 Z = true) (w2 : (Jvm.Cond.instanceMethod y).before a0 Z = true) (w3 : (Jvm.Cond.initialized y.cls).before a0 Z = true) (w4 : (Jvm.Cond.code y yb yml none).before a0 Z = true) (hy : y.cls ≠ "java/lang/invoke/MethodHandle" ∧ y.cls ≠ "java/lang/invoke/VarHandle") (hM : Met l Z y yb yml none Ry [] n0 (.ref a :: as).toArray h Qy) (hp : parseMethodDescriptor y.desc = some ⟨ps, r⟩) (hl : as.length = ps.length)
    {pc q c2 s2 W : Nat} {Ls : Array Slot} {st : List Value} (hst : st = as.reverse ++ .ref a :: rest) (hLs : Ls.size = ml) (hd : decode bytes pc = .ok (.invokespecial index, 3)) (hq : pc + 3 = q) (hW : (rest.map fun v => v.category).sum = W) (hf : Ry.frames + 1 ≤ R.frames) (hlc : W + (yml + 11) + Ry.locals ≤ R.locals) (hc : cells + Ry.cells = c2) (hs : slots + Ry.slots = s2) (hcR : c2 ≤ R.cells) (hsR : s2 ≤ R.slots)
    (k : ∀ v T' h', Wk Z own nm bytes ml ret R n0 p l e s m args below meth c T' c2 s2 h' → Qy v h' → Goes p e below s R n0 Q (T'.setTop (mkF m q Ls (v.toList ++ rest)))) : Goes p e below s R n0 Q (T.setTop (mkF m pc Ls st)) := by
  obtain ⟨locs, X, N, eh, hn, hx, hZ, hby, hml, hown, hnm, hret, hlk⟩ := X
  subst hby hq hc hs hst
  obtain ⟨v, _, ⟨T', L', k', n'⟩, -, X', ⟨Lc, ⟨hF, hQy⟩, l', y', z'⟩, stp⟩ := X.specialBack hx (y := y) hy1 hown (mvT hZ w1) (mvT hZ w2) (mvT hZ w4) hy (own_back (index := index) (W := W) hZ w3 w4 hM hf hlc) (g := mkF m pc Ls (as.reverse ++ .ref a :: rest)) rfl (hLs.trans hml.symm) (Steps.refl _) (a := a) (argsL := as) (rest := rest) (lenOf hp hl) rfl (by show 2 * 0 + _ ≤ _; omega) hd (fun _ _ => ⟨rfl, eh, hcR, hsR⟩)
  dsimp only [Pt.U, Pt.locs, Pt.cells, Pt.slots] at X' l' y' z' stp hQy
  subst l' y' z'
  exact g_of (fun _ r => stp.trans r) (k v T' _ ⟨_, X', Fr.app N hF, rfl, hn, hx, hZ, rfl, hml, hown, hnm, hret, hlk⟩ hQy)
theorem g_callV (X : Wk Z own nm bytes ml ret R n0 p l e s m args below meth c T cells slots h) {index : Nat} {y : MethodName} {yb : ByteArray} {yml : Nat} {yret : Option FieldType} {Ry : Room} {Qy : Option Value → Heap → Prop} {ps : List FieldType} {r : Option FieldType} {a : Addr} {C : String} (E : Exa Z h a C) (as rest : List Value) (w1 : (Jvm.Cond.methodLink own index y).before a0 Z = true) (w2 : (Jvm.Cond.declares y).before a0 Z = true) (w5 : (Jvm.Cond.selects C y y).before a0 Z = true) (w6 : (Jvm.Cond.instanceMethod y).before a0 Z = true) (w3 : (Jvm.Cond.initialized y.cls).before a0 Z = true) (w4 : (Jvm.Cond.code y yb yml yret).before a0 Z = true) (hy : y.cls ≠ "java/lang/invoke/MethodHandle" ∧ y.cls ≠ "java/lang/invoke/VarHandle") (hM : Met l Z y yb yml yret Ry [] n0 (.ref a :: as).toArray h Qy) (hp : parseMethodDescriptor y.desc = some ⟨ps, r⟩) (hl : as.length = ps.length)
    {pc q c2 s2 W : Nat} {Ls : Array Slot} {st : List Value} (hst : st = as.reverse ++ .ref a :: rest) (hLs : Ls.size = ml) (hd : decode bytes pc = .ok (.invokevirtual index, 3)) (hq : pc + 3 = q) (hW : (rest.map fun v => v.category).sum = W) (hf : Ry.frames + 1 ≤ R.frames) (hlc : W + (yml + 11) + Ry.locals ≤ R.locals) (hc : cells + Ry.cells = c2) (hs : slots + Ry.slots = s2) (hcR : c2 ≤ R.cells) (hsR : s2 ≤ R.slots)
    (k : ∀ v T' h', Wk Z own nm bytes ml ret R n0 p l e s m args below meth c T' c2 s2 h' → Qy v h' → Goes p e below s R n0 Q (T'.setTop (mkF m q Ls (v.toList ++ rest)))) : Goes p e below s R n0 Q (T.setTop (mkF m pc Ls st)) := by
  obtain ⟨locs, X, N, eh, hn, hx, hZ, hby, hml, hown, hnm, hret, hlk⟩ := X
  subst hby hq hc hs hst
  obtain ⟨cq, kq, qa, qb, qc⟩ := isOf hZ eh E
  obtain ⟨v, _, ⟨T', L', k', n'⟩, -, X', ⟨Lc, ⟨hF, hQy⟩, l', y', z'⟩, stp⟩ := X.virtualBack hx (y := y) (z := y) hown (mvT hZ w1) (mvT hZ w2) (notFace_of_selects (args := #[]) (mvT hZ w5)) (mvT hZ w5) (mvT hZ w6) hy (own_back (index := index) (W := W) hZ w3 w4 hM hf hlc) qa qc (g := mkF m pc Ls (as.reverse ++ .ref a :: rest)) rfl (hLs.trans hml.symm) (Steps.refl _) (argsL := as) (rest := rest) (lenOf hp hl) rfl (by show 2 * 0 + _ ≤ _; omega) hd (fun _ _ => ⟨rfl, eh, hcR, hsR⟩)
  dsimp only [Pt.U, Pt.locs, Pt.cells, Pt.slots] at X' l' y' z' stp hQy
  subst l' y' z'
  exact g_of (fun _ r => stp.trans r) (k v T' _ ⟨_, X', Fr.app N hF, rfl, hn, hx, hZ, rfl, hml, hown, hnm, hret, hlk⟩ hQy)
theorem g_callP (X : Wk Z own nm bytes ml ret R n0 p l e s m args below meth c T cells slots h) {index : Nat} {y : MethodName} {yb : ByteArray} {yml : Nat} {yret : Option FieldType} {Ry : Room} {Qy : Option Value → Heap → Prop} {ps : List FieldType} {r : Option FieldType} {a : Addr} {C : String} (E : Exa Z h a C) (as rest : List Value) (w1 : (Jvm.Cond.methodLink own index y).before a0 Z = true) (w5 : (Jvm.Cond.selects y.cls y y).before a0 Z = true) (w6 : (Jvm.Cond.instanceMethod y).before a0 Z = true) (w7 : (Jvm.Cond.privateMethod y).before a0 Z = true) (w3 : (Jvm.Cond.initialized y.cls).before a0 Z = true) (w4 : (Jvm.Cond.code y yb yml yret).before a0 Z = true) (hy : y.cls ≠ "java/lang/invoke/MethodHandle" ∧ y.cls ≠ "java/lang/invoke/VarHandle") (hM : Met l Z y yb yml yret Ry [] n0 (.ref a :: as).toArray h Qy) (hp : parseMethodDescriptor y.desc = some ⟨ps, r⟩) (hl : as.length = ps.length)
    {pc q c2 s2 W : Nat} {Ls : Array Slot} {st : List Value} (hst : st = as.reverse ++ .ref a :: rest) (hLs : Ls.size = ml) (hd : decode bytes pc = .ok (.invokevirtual index, 3)) (hq : pc + 3 = q) (hW : (rest.map fun v => v.category).sum = W) (hf : Ry.frames + 1 ≤ R.frames) (hlc : W + (yml + 11) + Ry.locals ≤ R.locals) (hc : cells + Ry.cells = c2) (hs : slots + Ry.slots = s2) (hcR : c2 ≤ R.cells) (hsR : s2 ≤ R.slots)
    (k : ∀ v T' h', Wk Z own nm bytes ml ret R n0 p l e s m args below meth c T' c2 s2 h' → Qy v h' → Goes p e below s R n0 Q (T'.setTop (mkF m q Ls (v.toList ++ rest)))) : Goes p e below s R n0 Q (T.setTop (mkF m pc Ls st)) := by
  obtain ⟨locs, X, N, eh, hn, hx, hZ, hby, hml, hown, hnm, hret, hlk⟩ := X
  subst hby hq hc hs hst
  obtain ⟨cq, q1, q2⟩ := E.cell
  obtain ⟨v, _, ⟨T', L', k', n'⟩, -, X', ⟨Lc, ⟨hF, hQy⟩, l', y', z'⟩, stp⟩ := X.privateBack hx (y := y) hown (mvT hZ w1) (mvT hZ w6) (mvT hZ w5) (Cond.privateMethod_at (mvP hZ w7 (args := #[]))) (mvT hZ w4) hy (own_back (index := index) (W := W) hZ w3 w4 hM hf hlc) (g := mkF m pc Ls (as.reverse ++ .ref a :: rest)) rfl (hLs.trans hml.symm) (Steps.refl _) (a := a) (by rw [eh]; exact q1) q2 (argsL := as) (rest := rest) (lenOf hp hl) rfl (by show 2 * 0 + _ ≤ _; omega) hd (fun _ _ => ⟨rfl, eh, hcR, hsR⟩)
  dsimp only [Pt.U, Pt.locs, Pt.cells, Pt.slots] at X' l' y' z' stp hQy
  subst l' y' z'
  exact g_of (fun _ r => stp.trans r) (k v T' _ ⟨_, X', Fr.app N hF, rfl, hn, hx, hZ, rfl, hml, hown, hnm, hret, hlk⟩ hQy)

theorem g_alenI (X : Wk Z own nm bytes ml ret R n0 p l e s m args below meth c T cells slots h) {a : Addr} {ty : FieldType} {n : Nat} {f : Nat → Int32} (A : AI Z h a ty n f) {pc q : Nat} {Ls : Array Slot} {rest : List Value} (hd : decode bytes pc = .ok (.arraylength, 1)) (hq : pc + 1 = q) (k : Goes p e below s R n0 Q (T.setTop (mkF m q Ls (.int n.toInt32 :: rest)))) : Goes p e below s R n0 Q (T.setTop (mkF m pc Ls (.ref a :: rest))) := by
  obtain ⟨locs, X, N, eh, hn, hx, hZ, hby, hml, hown, hnm, hret, hlk⟩ := X
  obtain ⟨z, cl, A, r1, r2⟩ := A
  subst hby hq r1
  exact g_of (fun t r => X.arraylength hx (by rw [eh]; exact A.1) (State.isArrayOf_alike hZ.alike A.2.1) (g := mkF m pc Ls (.ref a :: rest)) rfl rfl hd t r) k
theorem g_alenJ (X : Wk Z own nm bytes ml ret R n0 p l e s m args below meth c T cells slots h) {a : Addr} {n : Nat} {f : Nat → Int64} (A : AJ Z h a n f) {pc q : Nat} {Ls : Array Slot} {rest : List Value} (hd : decode bytes pc = .ok (.arraylength, 1)) (hq : pc + 1 = q) (k : Goes p e below s R n0 Q (T.setTop (mkF m q Ls (.int n.toInt32 :: rest)))) : Goes p e below s R n0 Q (T.setTop (mkF m pc Ls (.ref a :: rest))) := by
  obtain ⟨locs, X, N, eh, hn, hx, hZ, hby, hml, hown, hnm, hret, hlk⟩ := X
  obtain ⟨z, cl, A, r1, r2⟩ := A
  subst hby hq r1
  exact g_of (fun t r => X.arraylength hx (by rw [eh]; exact A.1) (State.isArrayOf_alike hZ.alike A.2.1) (g := mkF m pc Ls (.ref a :: rest)) rfl rfl hd t r) k
theorem g_iaload (X : Wk Z own nm bytes ml ret R n0 p l e s m args below meth c T cells slots h) {a : Addr} {n : Nat} {f : Nat → Int32} (A : AI Z h a .int n f) {j : Int32} (hj : 0 ≤ j.toInt ∧ j.toInt < n) {pc q : Nat} {Ls : Array Slot} {rest : List Value} (hd : decode bytes pc = .ok (.iaload, 1)) (hq : pc + 1 = q) (k : Goes p e below s R n0 Q (T.setTop (mkF m q Ls (.int (f j.toNatClampNeg) :: rest)))) : Goes p e below s R n0 Q (T.setTop (mkF m pc Ls (.int j :: .ref a :: rest))) := by
  obtain ⟨locs, X, N, eh, hn, hx, hZ, hby, hml, hown, hnm, hret, hlk⟩ := X
  obtain ⟨z, cl, A, r1, r2⟩ := A
  subst hby hq
  exact g_of (fun t r => X.iaload hx (j := j) (by rw [eh]; exact A.1) (State.isArrayOf_alike hZ.alike A.2.1) A.2.2 (own_ix r1 hj) (r2 _ (own_ixn hj)) (g := mkF m pc Ls (.int j :: .ref a :: rest)) rfl rfl hd t r) k
theorem g_laload (X : Wk Z own nm bytes ml ret R n0 p l e s m args below meth c T cells slots h) {a : Addr} {n : Nat} {f : Nat → Int64} (A : AJ Z h a n f) {j : Int32} (hj : 0 ≤ j.toInt ∧ j.toInt < n) {pc q : Nat} {Ls : Array Slot} {rest : List Value} (hd : decode bytes pc = .ok (.laload, 1)) (hq : pc + 1 = q) (k : Goes p e below s R n0 Q (T.setTop (mkF m q Ls (.long (f j.toNatClampNeg) :: rest)))) : Goes p e below s R n0 Q (T.setTop (mkF m pc Ls (.int j :: .ref a :: rest))) := by
  obtain ⟨locs, X, N, eh, hn, hx, hZ, hby, hml, hown, hnm, hret, hlk⟩ := X
  obtain ⟨z, cl, A, r1, r2⟩ := A
  subst hby hq
  exact g_of (fun t r => X.laload hx (j := j) (by rw [eh]; exact A.1) (State.isArrayOf_alike hZ.alike A.2.1) A.2.2 (own_ix r1 hj) (r2 _ (own_ixn hj)) (g := mkF m pc Ls (.int j :: .ref a :: rest)) rfl rfl hd t r) k
theorem g_baload (X : Wk Z own nm bytes ml ret R n0 p l e s m args below meth c T cells slots h) {a : Addr} {n : Nat} {f : Nat → Int32} (A : AI Z h a .byte n f) {j : Int32} (hj : 0 ≤ j.toInt ∧ j.toInt < n) {pc q : Nat} {Ls : Array Slot} {rest : List Value} (hd : decode bytes pc = .ok (.baload, 1)) (hq : pc + 1 = q) (k : Goes p e below s R n0 Q (T.setTop (mkF m q Ls (.int (f j.toNatClampNeg) :: rest)))) : Goes p e below s R n0 Q (T.setTop (mkF m pc Ls (.int j :: .ref a :: rest))) := by
  obtain ⟨locs, X, N, eh, hn, hx, hZ, hby, hml, hown, hnm, hret, hlk⟩ := X
  obtain ⟨z, cl, A, r1, r2⟩ := A
  subst hby hq
  exact g_of (fun t r => X.baloadBytes hx (j := j) (by rw [eh]; exact A.1) (State.isArrayOf_alike hZ.alike A.2.1) A.2.2 (own_ix r1 hj) (r2 _ (own_ixn hj)) (g := mkF m pc Ls (.int j :: .ref a :: rest)) rfl rfl hd t r) k
theorem g_zaload (X : Wk Z own nm bytes ml ret R n0 p l e s m args below meth c T cells slots h) {a : Addr} {n : Nat} {f : Nat → Int32} (A : AI Z h a .boolean n f) {j : Int32} (hj : 0 ≤ j.toInt ∧ j.toInt < n) {pc q : Nat} {Ls : Array Slot} {rest : List Value} (hd : decode bytes pc = .ok (.baload, 1)) (hq : pc + 1 = q) (k : Goes p e below s R n0 Q (T.setTop (mkF m q Ls (.int (f j.toNatClampNeg) :: rest)))) : Goes p e below s R n0 Q (T.setTop (mkF m pc Ls (.int j :: .ref a :: rest))) := by
  obtain ⟨locs, X, N, eh, hn, hx, hZ, hby, hml, hown, hnm, hret, hlk⟩ := X
  obtain ⟨z, cl, A, r1, r2⟩ := A
  subst hby hq
  exact g_of (fun t r => X.baloadBooleans hx (j := j) (by rw [eh]; exact A.1) (State.isArrayOf_alike hZ.alike A.2.1) A.2.2 (own_ix r1 hj) (r2 _ (own_ixn hj)) (g := mkF m pc Ls (.int j :: .ref a :: rest)) rfl rfl hd t r) k
theorem g_iastore (X : Wk Z own nm bytes ml ret R n0 p l e s m args below meth c T cells slots h) {a : Addr} {n : Nat} {f : Nat → Int32} (A : AI Z h a .int n f) {j : Int32} {x : Int32} (hj : 0 ≤ j.toInt ∧ j.toInt < n) (ga : n0 ≤ a) {pc q : Nat} {Ls : Array Slot} {rest : List Value} (hd : decode bytes pc = .ok (.iastore, 1)) (hq : pc + 1 = q) (k : ∀ T' h', Wk Z own nm bytes ml ret R n0 p l e s m args below meth c T' cells slots h' → Wr h h' a j.toNatClampNeg (.int x) → Goes p e below s R n0 Q (T'.setTop (mkF m q Ls rest))) : Goes p e below s R n0 Q (T.setTop (mkF m pc Ls (.int x :: .int j :: .ref a :: rest))) := by
  obtain ⟨locs, X, N, eh, hn, hx, hZ, hby, hml, hown, hnm, hret, hlk⟩ := X
  obtain ⟨z, cl, A, r1, r2⟩ := A
  subst hby hq
  obtain ⟨T', h', X', e', W', st⟩ := stI X hx hZ eh A (j := j) (own_ix r1 hj) (g := mkF m pc Ls (.int x :: .int j :: .ref a :: rest)) rfl rfl hd
  exact g_of st (k T' h' ⟨_, X', Fr.snoc X' N ga, e', hn, hx, hZ, rfl, hml, hown, hnm, hret, hlk⟩ W')
theorem g_lastore (X : Wk Z own nm bytes ml ret R n0 p l e s m args below meth c T cells slots h) {a : Addr} {n : Nat} {f : Nat → Int64} (A : AJ Z h a n f) {j : Int32} {x : Int64} (hj : 0 ≤ j.toInt ∧ j.toInt < n) (ga : n0 ≤ a) {pc q : Nat} {Ls : Array Slot} {rest : List Value} (hd : decode bytes pc = .ok (.lastore, 1)) (hq : pc + 1 = q) (k : ∀ T' h', Wk Z own nm bytes ml ret R n0 p l e s m args below meth c T' cells slots h' → Wr h h' a j.toNatClampNeg (.long x) → Goes p e below s R n0 Q (T'.setTop (mkF m q Ls rest))) : Goes p e below s R n0 Q (T.setTop (mkF m pc Ls (.long x :: .int j :: .ref a :: rest))) := by
  obtain ⟨locs, X, N, eh, hn, hx, hZ, hby, hml, hown, hnm, hret, hlk⟩ := X
  obtain ⟨z, cl, A, r1, r2⟩ := A
  subst hby hq
  obtain ⟨T', h', X', e', W', st⟩ := stJ X hx hZ eh A (j := j) (own_ix r1 hj) (g := mkF m pc Ls (.long x :: .int j :: .ref a :: rest)) rfl rfl hd
  exact g_of st (k T' h' ⟨_, X', Fr.snoc X' N ga, e', hn, hx, hZ, rfl, hml, hown, hnm, hret, hlk⟩ W')
theorem g_bastore (X : Wk Z own nm bytes ml ret R n0 p l e s m args below meth c T cells slots h) {a : Addr} {n : Nat} {f : Nat → Int32} (A : AI Z h a .byte n f) {j : Int32} {x : Int32} (hj : 0 ≤ j.toInt ∧ j.toInt < n) (ga : n0 ≤ a) {pc q : Nat} {Ls : Array Slot} {rest : List Value} (hd : decode bytes pc = .ok (.bastore, 1)) (hq : pc + 1 = q) (k : ∀ T' h', Wk Z own nm bytes ml ret R n0 p l e s m args below meth c T' cells slots h' → Wr h h' a j.toNatClampNeg (.int (nar .byte x)) → Goes p e below s R n0 Q (T'.setTop (mkF m q Ls rest))) : Goes p e below s R n0 Q (T.setTop (mkF m pc Ls (.int x :: .int j :: .ref a :: rest))) := by
  obtain ⟨locs, X, N, eh, hn, hx, hZ, hby, hml, hown, hnm, hret, hlk⟩ := X
  obtain ⟨z, cl, A, r1, r2⟩ := A
  subst hby hq
  obtain ⟨T', h', X', e', W', st⟩ := stB X hx hZ eh A (j := j) (own_ix r1 hj) (g := mkF m pc Ls (.int x :: .int j :: .ref a :: rest)) rfl rfl hd
  exact g_of st (k T' h' ⟨_, X', Fr.snoc X' N ga, e', hn, hx, hZ, rfl, hml, hown, hnm, hret, hlk⟩ W')
theorem g_zastore (X : Wk Z own nm bytes ml ret R n0 p l e s m args below meth c T cells slots h) {a : Addr} {n : Nat} {f : Nat → Int32} (A : AI Z h a .boolean n f) {j : Int32} {x : Int32} (hj : 0 ≤ j.toInt ∧ j.toInt < n) (ga : n0 ≤ a) {pc q : Nat} {Ls : Array Slot} {rest : List Value} (hd : decode bytes pc = .ok (.bastore, 1)) (hq : pc + 1 = q) (hz : x = 0 ∨ x = 1) (k : ∀ T' h', Wk Z own nm bytes ml ret R n0 p l e s m args below meth c T' cells slots h' → Wr h h' a j.toNatClampNeg (.int x) → Goes p e below s R n0 Q (T'.setTop (mkF m q Ls rest))) : Goes p e below s R n0 Q (T.setTop (mkF m pc Ls (.int x :: .int j :: .ref a :: rest))) := by
  obtain ⟨locs, X, N, eh, hn, hx, hZ, hby, hml, hown, hnm, hret, hlk⟩ := X
  obtain ⟨z, cl, A, r1, r2⟩ := A
  subst hby hq
  obtain ⟨T', h', X', e', W', st⟩ := stZ X hx hZ eh A (j := j) (own_ix r1 hj) (g := mkF m pc Ls (.int x :: .int j :: .ref a :: rest)) rfl rfl hd
  rw [own_narZ' hz] at W'
  exact g_of st (k T' h' ⟨_, X', Fr.snoc X' N ga, e', hn, hx, hZ, rfl, hml, hown, hnm, hret, hlk⟩ W')
theorem g_newarrI (X : Wk Z own nm bytes ml ret R n0 p l e s m args below meth c T cells slots h) {aty : ArrayType} (ht : defaultValue (newarray.typeOf aty) = .int 0) (w : (Jvm.Cond.arrayClass (newarray.typeOf aty)).before a0 Z = true) {n : Int32} {pc q c2 s2 cap : Nat} {Ls : Array Slot} {rest : List Value} (hd : decode bytes pc = .ok (.newarray aty, 2)) (hq : pc + 2 = q) (h0n : ¬ n < 0) (hcap : n.toNatClampNeg ≤ cap) (hbig : cap * 8 ≤ 536870912) (hc : cells + 1 = c2) (hs : slots + cap = s2) (hcR : c2 ≤ R.cells) (hsR : s2 ≤ R.slots)
    (k : ∀ T' h' b, Wk Z own nm bytes ml ret R n0 p l e s m args below meth c T' c2 s2 h' → b = h.size → n0 ≤ b → Ext h h' → AI Z h' b (newarray.typeOf aty) n.toNatClampNeg (fun _ => 0) → Goes p e below s R n0 Q (T'.setTop (mkF m q Ls (.ref b :: rest)))) : Goes p e below s R n0 Q (T.setTop (mkF m pc Ls (.int n :: rest))) := by
  obtain ⟨locs, X, N, eh, hn, hx, hZ, hby, hml, hown, hnm, hret, hlk⟩ := X
  subst hby hq hc hs
  obtain ⟨T', h', cA, X', e', E', A', stp⟩ := newP X hx hZ (aty := aty) w eh (g := mkF m pc Ls (.int n :: rest)) rfl hd rfl h0n hcap hbig hcR hsR
  refine g_of stp (k T' h' _ ⟨locs, X', N, e', hn, hx, hZ, rfl, hml, hown, hnm, hret, hlk⟩ rfl (Wk.size ⟨locs, X, N, eh, hn, hx, hZ, rfl, hml, hown, hnm, hret, hlk⟩) E' ⟨(back32 h0n).2, _, A', sz_new _ _ _, fun j hj => ?_⟩)
  simp only [newA, Array.getElem?_replicate, hj, if_true]
  rw [ht]
theorem g_newarrJ (X : Wk Z own nm bytes ml ret R n0 p l e s m args below meth c T cells slots h)  (w : (Jvm.Cond.arrayClass .long).before a0 Z = true) {n : Int32} {pc q c2 s2 cap : Nat} {Ls : Array Slot} {rest : List Value} (hd : decode bytes pc = .ok (.newarray .long, 2)) (hq : pc + 2 = q) (h0n : ¬ n < 0) (hcap : n.toNatClampNeg ≤ cap) (hbig : cap * 8 ≤ 536870912) (hc : cells + 1 = c2) (hs : slots + cap = s2) (hcR : c2 ≤ R.cells) (hsR : s2 ≤ R.slots)
    (k : ∀ T' h' b, Wk Z own nm bytes ml ret R n0 p l e s m args below meth c T' c2 s2 h' → b = h.size → n0 ≤ b → Ext h h' → AJ Z h' b n.toNatClampNeg (fun _ => 0) → Goes p e below s R n0 Q (T'.setTop (mkF m q Ls (.ref b :: rest)))) : Goes p e below s R n0 Q (T.setTop (mkF m pc Ls (.int n :: rest))) := by
  obtain ⟨locs, X, N, eh, hn, hx, hZ, hby, hml, hown, hnm, hret, hlk⟩ := X
  subst hby hq hc hs
  obtain ⟨T', h', cA, X', e', E', A', stp⟩ := newP X hx hZ (aty := .long) w eh (g := mkF m pc Ls (.int n :: rest)) rfl hd rfl h0n hcap hbig hcR hsR
  refine g_of stp (k T' h' _ ⟨locs, X', N, e', hn, hx, hZ, rfl, hml, hown, hnm, hret, hlk⟩ rfl (Wk.size ⟨locs, X, N, eh, hn, hx, hZ, rfl, hml, hown, hnm, hret, hlk⟩) E' ⟨(back32 h0n).2, _, A', sz_new _ _ _, fun j hj => ?_⟩)
  simp only [newA, Array.getElem?_replicate, hj, if_true]
  rfl
theorem g_acopyJ (X : Wk Z own nm bytes ml ret R n0 p l e s m args below meth c T cells slots h) {index : Nat} (w1 : (Jvm.Cond.methodLink own index Jvm.Stand.acN).before a0 Z = true) (w2 : (Jvm.Cond.native Jvm.Stand.acN).before a0 Z = true) (w3 : (Jvm.Cond.static Jvm.Stand.acN).before a0 Z = true) (w4 : (Jvm.Cond.initialized "java/lang/System").before a0 Z = true) {a b : Addr} {n n' : Nat} {f f' : Nat → Int64} (A : AJ Z h a n f) (B : AJ Z h b n' f') {nn : Int32} (h3 : ¬ nn < 0) (h4 : nn.toNatClampNeg ≤ n) (h5 : nn.toNatClampNeg ≤ n') (ga : n0 ≤ b) {pc q W : Nat} {Ls : Array Slot} {rest : List Value} (hLs : Ls.size = ml) (hd : decode bytes pc = .ok (.invokestatic index, 3)) (hq : pc + 3 = q) (hW : (rest.map fun v => v.category).sum = W) (hf : 1 ≤ R.frames) (hlo : W + 18 ≤ R.locals)
    (k : ∀ T' h', Wk Z own nm bytes ml ret R n0 p l e s m args below meth c T' cells slots h' → Keep h h' [b] → AJ Z h' b n' (fun j => if j < nn.toNatClampNeg then f j else f' j) → Goes p e below s R n0 Q (T'.setTop (mkF m q Ls rest))) : Goes p e below s R n0 Q (T.setTop (mkF m pc Ls (.int nn :: .int 0 :: .ref b :: .int 0 :: .ref a :: rest))) := by
  obtain ⟨locs, X, N, eh, hn, hx, hZ, hby, hml, hown, hnm, hret, hlk⟩ := X
  subst hby hq
  have zA := A.1
  have zB := B.1
  obtain ⟨kA, A'⟩ := own_arv A
  obtain ⟨kB, B'⟩ := own_arv B
  have qA := (own_clN zA).1
  have qB := (own_clN zB).1
  obtain ⟨T', h', L, X', e', N', K', C', st⟩ := cpA X hx hZ hown w1 w2 w3 w4 eh (sp := 0) (dp := 0) (nn := nn) A' B' (Or.inl ⟨rfl, rfl⟩) (by decide) (by decide) h3 (by rw [qA]; show 0 + _ ≤ _; omega) (by rw [qB]; show 0 + _ ≤ _; omega) rfl (by rw [List.length_map, List.length_range]; show 0 + _ ≤ _; omega) N ga (g := mkF m pc Ls (.int nn :: .int 0 :: .ref b :: .int 0 :: .ref a :: rest)) rfl (hLs.trans hml.symm) (rest := rest) rfl hd hf (W := W) (by show 2 * 0 + _ ≤ _; omega) (by show W + (7 + 11) ≤ _; omega)
  exact g_of st (k T' h' ⟨L, X', N', e', hn, hx, hZ, rfl, hml, hown, hnm, hret, hlk⟩ K' (own_arvB zB C' (fun j hj => own_cpl n n' nn.toNatClampNeg f f' h4 h5 j hj)))
theorem g_jT0 (X : Wk Z own nm bytes ml ret R n0 p l e s m args below meth c T cells slots h) {J : Nat} {g : JFrame} (L : Array Slot) (S : List Value) (rest : ∀ T', Wk Z own nm bytes ml ret R n0 p l e s m args below meth c T' cells slots h → Goes p e below s R n0 Q (T'.setTop (mkF m J (L) (S)))) (here : (∀ T', Wk Z own nm bytes ml ret R n0 p l e s m args below meth c T' cells slots h → Goes p e below s R n0 Q (T'.setTop (mkF m J (L) (S)))) → Goes p e below s R n0 Q (T.setTop g)) : Goes p e below s R n0 Q (T.setTop g) := here rest
theorem g_jT1 {α : Type} (X : Wk Z own nm bytes ml ret R n0 p l e s m args below meth c T cells slots h) {J : Nat} {g : JFrame} (P : α → Prop) (L : α → Array Slot) (S : α → List Value) (rest : ∀ T', Wk Z own nm bytes ml ret R n0 p l e s m args below meth c T' cells slots h → ∀ a, P a → Goes p e below s R n0 Q (T'.setTop (mkF m J (L a) (S a)))) (here : (∀ T', Wk Z own nm bytes ml ret R n0 p l e s m args below meth c T' cells slots h → ∀ a, P a → Goes p e below s R n0 Q (T'.setTop (mkF m J (L a) (S a)))) → Goes p e below s R n0 Q (T.setTop g)) : Goes p e below s R n0 Q (T.setTop g) := here rest
theorem g_jT2 {α β : Type} (X : Wk Z own nm bytes ml ret R n0 p l e s m args below meth c T cells slots h) {J : Nat} {g : JFrame} (P : α → β → Prop) (L : α → β → Array Slot) (S : α → β → List Value) (rest : ∀ T', Wk Z own nm bytes ml ret R n0 p l e s m args below meth c T' cells slots h → ∀ a b, P a b → Goes p e below s R n0 Q (T'.setTop (mkF m J (L a b) (S a b)))) (here : (∀ T', Wk Z own nm bytes ml ret R n0 p l e s m args below meth c T' cells slots h → ∀ a b, P a b → Goes p e below s R n0 Q (T'.setTop (mkF m J (L a b) (S a b)))) → Goes p e below s R n0 Q (T.setTop g)) : Goes p e below s R n0 Q (T.setTop g) := here rest
theorem g_jT3 {α β γ : Type} (X : Wk Z own nm bytes ml ret R n0 p l e s m args below meth c T cells slots h) {J : Nat} {g : JFrame} (P : α → β → γ → Prop) (L : α → β → γ → Array Slot) (S : α → β → γ → List Value) (rest : ∀ T', Wk Z own nm bytes ml ret R n0 p l e s m args below meth c T' cells slots h → ∀ a b c', P a b c' → Goes p e below s R n0 Q (T'.setTop (mkF m J (L a b c') (S a b c')))) (here : (∀ T', Wk Z own nm bytes ml ret R n0 p l e s m args below meth c T' cells slots h → ∀ a b c', P a b c' → Goes p e below s R n0 Q (T'.setTop (mkF m J (L a b c') (S a b c')))) → Goes p e below s R n0 Q (T.setTop g)) : Goes p e below s R n0 Q (T.setTop g) := here rest
theorem g_jT4 {α β γ δ : Type} (X : Wk Z own nm bytes ml ret R n0 p l e s m args below meth c T cells slots h) {J : Nat} {g : JFrame} (P : α → β → γ → δ → Prop) (L : α → β → γ → δ → Array Slot) (S : α → β → γ → δ → List Value) (rest : ∀ T', Wk Z own nm bytes ml ret R n0 p l e s m args below meth c T' cells slots h → ∀ a b c' d, P a b c' d → Goes p e below s R n0 Q (T'.setTop (mkF m J (L a b c' d) (S a b c' d)))) (here : (∀ T', Wk Z own nm bytes ml ret R n0 p l e s m args below meth c T' cells slots h → ∀ a b c' d, P a b c' d → Goes p e below s R n0 Q (T'.setTop (mkF m J (L a b c' d) (S a b c' d)))) → Goes p e below s R n0 Q (T.setTop g)) : Goes p e below s R n0 Q (T.setTop g) := here rest
theorem g_loop1 {α : Type} (X : Wk Z own nm bytes ml ret R n0 p l e s m args below meth c T cells slots h) {H : Nat} (ms : α → Nat) (I : α → Heap → Prop) (L : α → Array Slot) (S : α → List Value) (a : α) (i0 : I a h) (turn : ∀ a T' h', Wk Z own nm bytes ml ret R n0 p l e s m args below meth c T' cells slots h' → I a h' → (∀ a' T'' h'', Wk Z own nm bytes ml ret R n0 p l e s m args below meth c T'' cells slots h'' → I a' h'' → ms a' < ms a → Goes p e below s R n0 Q (T''.setTop (mkF m H (L a') (S a')))) → Goes p e below s R n0 Q (T'.setTop (mkF m H (L a) (S a)))) : Goes p e below s R n0 Q (T.setTop (mkF m H (L a) (S a))) := by
  induction hk : ms a using Nat.strongRecOn generalizing a T h with
  | _ k ih => exact turn a T h X i0 (fun a' T2 h2 X2 i2 lt => ih _ (hk ▸ lt) X2 a' i2 rfl)
theorem g_loop2 {α β : Type} (X : Wk Z own nm bytes ml ret R n0 p l e s m args below meth c T cells slots h) {H : Nat} (ms : α → β → Nat) (I : α → β → Heap → Prop) (L : α → β → Array Slot) (S : α → β → List Value) (a : α) (b : β) (i0 : I a b h) (turn : ∀ a b T' h', Wk Z own nm bytes ml ret R n0 p l e s m args below meth c T' cells slots h' → I a b h' → (∀ a' b' T'' h'', Wk Z own nm bytes ml ret R n0 p l e s m args below meth c T'' cells slots h'' → I a' b' h'' → ms a' b' < ms a b → Goes p e below s R n0 Q (T''.setTop (mkF m H (L a' b') (S a' b')))) → Goes p e below s R n0 Q (T'.setTop (mkF m H (L a b) (S a b)))) : Goes p e below s R n0 Q (T.setTop (mkF m H (L a b) (S a b))) := by
  induction hk : ms a b using Nat.strongRecOn generalizing a b T h with
  | _ k ih => exact turn a b T h X i0 (fun a' b' T2 h2 X2 i2 lt => ih _ (hk ▸ lt) X2 a' b' i2 rfl)
theorem g_loop3 {α β γ : Type} (X : Wk Z own nm bytes ml ret R n0 p l e s m args below meth c T cells slots h) {H : Nat} (ms : α → β → γ → Nat) (I : α → β → γ → Heap → Prop) (L : α → β → γ → Array Slot) (S : α → β → γ → List Value) (a : α) (b : β) (u : γ) (i0 : I a b u h) (turn : ∀ a b u T' h', Wk Z own nm bytes ml ret R n0 p l e s m args below meth c T' cells slots h' → I a b u h' → (∀ a' b' u' T'' h'', Wk Z own nm bytes ml ret R n0 p l e s m args below meth c T'' cells slots h'' → I a' b' u' h'' → ms a' b' u' < ms a b u → Goes p e below s R n0 Q (T''.setTop (mkF m H (L a' b' u') (S a' b' u')))) → Goes p e below s R n0 Q (T'.setTop (mkF m H (L a b u) (S a b u)))) : Goes p e below s R n0 Q (T.setTop (mkF m H (L a b u) (S a b u))) := by
  induction hk : ms a b u using Nat.strongRecOn generalizing a b u T h with
  | _ k ih => exact turn a b u T h X i0 (fun a' b' u' T2 h2 X2 i2 lt => ih _ (hk ▸ lt) X2 a' b' u' i2 rfl)
theorem g_loop4 {α β γ δ : Type} (X : Wk Z own nm bytes ml ret R n0 p l e s m args below meth c T cells slots h) {H : Nat} (ms : α → β → γ → δ → Nat) (I : α → β → γ → δ → Heap → Prop) (L : α → β → γ → δ → Array Slot) (S : α → β → γ → δ → List Value) (a : α) (b : β) (u : γ) (w : δ) (i0 : I a b u w h) (turn : ∀ a b u w T' h', Wk Z own nm bytes ml ret R n0 p l e s m args below meth c T' cells slots h' → I a b u w h' → (∀ a' b' u' w' T'' h'', Wk Z own nm bytes ml ret R n0 p l e s m args below meth c T'' cells slots h'' → I a' b' u' w' h'' → ms a' b' u' w' < ms a b u w → Goes p e below s R n0 Q (T''.setTop (mkF m H (L a' b' u' w') (S a' b' u' w')))) → Goes p e below s R n0 Q (T'.setTop (mkF m H (L a b u w) (S a b u w)))) : Goes p e below s R n0 Q (T.setTop (mkF m H (L a b u w) (S a b u w))) := by
  induction hk : ms a b u w using Nat.strongRecOn generalizing a b u w T h with
  | _ k ih => exact turn a b u w T h X i0 (fun a' b' u' w' T2 h2 X2 i2 lt => ih _ (hk ▸ lt) X2 a' b' u' w' i2 rfl)
theorem g_loop5 {α β γ δ ε : Type} (X : Wk Z own nm bytes ml ret R n0 p l e s m args below meth c T cells slots h) {H : Nat} (ms : α → β → γ → δ → ε → Nat) (I : α → β → γ → δ → ε → Heap → Prop) (L : α → β → γ → δ → ε → Array Slot) (S : α → β → γ → δ → ε → List Value) (a : α) (b : β) (u : γ) (w : δ) (z : ε) (i0 : I a b u w z h) (turn : ∀ a b u w z T' h', Wk Z own nm bytes ml ret R n0 p l e s m args below meth c T' cells slots h' → I a b u w z h' → (∀ a' b' u' w' z' T'' h'', Wk Z own nm bytes ml ret R n0 p l e s m args below meth c T'' cells slots h'' → I a' b' u' w' z' h'' → ms a' b' u' w' z' < ms a b u w z → Goes p e below s R n0 Q (T''.setTop (mkF m H (L a' b' u' w' z') (S a' b' u' w' z')))) → Goes p e below s R n0 Q (T'.setTop (mkF m H (L a b u w z) (S a b u w z)))) : Goes p e below s R n0 Q (T.setTop (mkF m H (L a b u w z) (S a b u w z))) := by
  induction hk : ms a b u w z using Nat.strongRecOn generalizing a b u w z T h with
  | _ k ih => exact turn a b u w z T h X i0 (fun a' b' u' w' z' T2 h2 X2 i2 lt => ih _ (hk ▸ lt) X2 a' b' u' w' z' i2 rfl)
end Walk
end Jvm.Own
namespace Jvm.Pilot.@@N@@
open Jvm Jvm.ClassFile Sem Op Lib Jvm.Free Jvm.Stand Jvm.LawKit Jvm.RoadKit Bundle Jvm.Own Jvm.Pilot.@@N@@.Jvm.D

theorem tw0 {Z : State} {a0 : Array Value} (hw : ∀ d ∈ tables_1, d.before a0 Z = true) : ((Jvm.Cond.arrayClass Jvm.ClassFile.FieldType.int)).before a0 Z = true := hw _ (List.mem_of_getElem? (i := 0) rfl)
theorem tw1 {Z : State} {a0 : Array Value} (hw : ∀ d ∈ tables_1, d.before a0 Z = true) : ((Jvm.Cond.methodLink "com/example/eulay/eulay/generation/PermutationsNextPinLaw" (7 : Nat) ({ cls := "com/example/eulay/eulay/generation/PermutationsNextPinLaw", name := "digit", desc := "(II)I" } : Jvm.MethodName))).before a0 Z = true := hw _ (List.mem_of_getElem? (i := 1) rfl)
theorem tw2 {Z : State} {a0 : Array Value} (hw : ∀ d ∈ tables_1, d.before a0 Z = true) : ((Jvm.Cond.static ({ cls := "com/example/eulay/eulay/generation/PermutationsNextPinLaw", name := "digit", desc := "(II)I" } : Jvm.MethodName))).before a0 Z = true := hw _ (List.mem_of_getElem? (i := 2) rfl)
theorem tw3 {Z : State} {a0 : Array Value} (hw : ∀ d ∈ tables_1, d.before a0 Z = true) : ((Jvm.Cond.initialized "com/example/eulay/eulay/generation/PermutationsNextPinLaw")).before a0 Z = true := hw _ (List.mem_of_getElem? (i := 3) rfl)
theorem tw4 {Z : State} {a0 : Array Value} (hw : ∀ d ∈ tables_1, d.before a0 Z = true) : ((Jvm.Cond.code ({ cls := "com/example/eulay/eulay/generation/PermutationsNextPinLaw", name := "digit", desc := "(II)I" } : Jvm.MethodName) method_3_code (2 : Nat) (Option.some Jvm.ClassFile.FieldType.int))).before a0 Z = true := hw _ (List.mem_of_getElem? (i := 4) rfl)
theorem tw5 {Z : State} {a0 : Array Value} (hw : ∀ d ∈ tables_1, d.before a0 Z = true) : ((Jvm.Cond.methodLink "com/example/eulay/eulay/generation/PermutationsNextPinLaw" (13 : Nat) ({ cls := "com/example/eulay/eulay/generation/PermutationsNextPinLaw", name := "increment", desc := "([II)Z" } : Jvm.MethodName))).before a0 Z = true := hw _ (List.mem_of_getElem? (i := 5) rfl)
theorem tw6 {Z : State} {a0 : Array Value} (hw : ∀ d ∈ tables_1, d.before a0 Z = true) : ((Jvm.Cond.static ({ cls := "com/example/eulay/eulay/generation/PermutationsNextPinLaw", name := "increment", desc := "([II)Z" } : Jvm.MethodName))).before a0 Z = true := hw _ (List.mem_of_getElem? (i := 6) rfl)
theorem tw7 {Z : State} {a0 : Array Value} (hw : ∀ d ∈ tables_1, d.before a0 Z = true) : ((Jvm.Cond.code ({ cls := "com/example/eulay/eulay/generation/PermutationsNextPinLaw", name := "increment", desc := "([II)Z" } : Jvm.MethodName) method_7_code (3 : Nat) (Option.some Jvm.ClassFile.FieldType.boolean))).before a0 Z = true := hw _ (List.mem_of_getElem? (i := 7) rfl)
theorem tw8 {Z : State} {a0 : Array Value} (hw : ∀ d ∈ tables_1, d.before a0 Z = true) : ((Jvm.Cond.methodLink "com/example/eulay/eulay/generation/PermutationsNextPinLaw" (36 : Nat) ({ cls := "com/example/eulay/eulay/generation/PermutationsNextPinLaw", name := "step", desc := "([IIIZ)Z" } : Jvm.MethodName))).before a0 Z = true := hw _ (List.mem_of_getElem? (i := 8) rfl)
theorem tw9 {Z : State} {a0 : Array Value} (hw : ∀ d ∈ tables_1, d.before a0 Z = true) : ((Jvm.Cond.static ({ cls := "com/example/eulay/eulay/generation/PermutationsNextPinLaw", name := "step", desc := "([IIIZ)Z" } : Jvm.MethodName))).before a0 Z = true := hw _ (List.mem_of_getElem? (i := 9) rfl)
theorem tw10 {Z : State} {a0 : Array Value} (hw : ∀ d ∈ tables_1, d.before a0 Z = true) : ((Jvm.Cond.code ({ cls := "com/example/eulay/eulay/generation/PermutationsNextPinLaw", name := "step", desc := "([IIIZ)Z" } : Jvm.MethodName) method_6_code (4 : Nat) (Option.some Jvm.ClassFile.FieldType.boolean))).before a0 Z = true := hw _ (List.mem_of_getElem? (i := 10) rfl)
theorem tw11 {Z : State} {a0 : Array Value} (hw : ∀ d ∈ tables_1, d.before a0 Z = true) : ((Jvm.Cond.methodLink "com/example/eulay/eulay/generation/PermutationsNextPinLaw" (17 : Nat) ({ cls := "com/example/eulay/eulay/generation/PermutationsNextPinLaw", name := "build", desc := "([II)[I" } : Jvm.MethodName))).before a0 Z = true := hw _ (List.mem_of_getElem? (i := 11) rfl)
theorem tw12 {Z : State} {a0 : Array Value} (hw : ∀ d ∈ tables_1, d.before a0 Z = true) : ((Jvm.Cond.static ({ cls := "com/example/eulay/eulay/generation/PermutationsNextPinLaw", name := "build", desc := "([II)[I" } : Jvm.MethodName))).before a0 Z = true := hw _ (List.mem_of_getElem? (i := 12) rfl)
theorem tw13 {Z : State} {a0 : Array Value} (hw : ∀ d ∈ tables_1, d.before a0 Z = true) : ((Jvm.Cond.code ({ cls := "com/example/eulay/eulay/generation/PermutationsNextPinLaw", name := "build", desc := "([II)[I" } : Jvm.MethodName) method_5_code (4 : Nat) (Option.some (Jvm.ClassFile.FieldType.array Jvm.ClassFile.FieldType.int)))).before a0 Z = true := hw _ (List.mem_of_getElem? (i := 13) rfl)
theorem tw14 {Z : State} {a0 : Array Value} (hw : ∀ d ∈ tables_1, d.before a0 Z = true) : ((Jvm.Cond.methodLink "com/example/eulay/eulay/generation/PermutationsNextPinLaw" (21 : Nat) ({ cls := "com/example/eulay/eulay/generation/Permutations", name := "next", desc := "([I)Z" } : Jvm.MethodName))).before a0 Z = true := hw _ (List.mem_of_getElem? (i := 14) rfl)
theorem tw15 {Z : State} {a0 : Array Value} (hw : ∀ d ∈ tables_1, d.before a0 Z = true) : ((Jvm.Cond.static ({ cls := "com/example/eulay/eulay/generation/Permutations", name := "next", desc := "([I)Z" } : Jvm.MethodName))).before a0 Z = true := hw _ (List.mem_of_getElem? (i := 15) rfl)
theorem tw16 {Z : State} {a0 : Array Value} (hw : ∀ d ∈ tables_1, d.before a0 Z = true) : ((Jvm.Cond.initialized "com/example/eulay/eulay/generation/Permutations")).before a0 Z = true := hw _ (List.mem_of_getElem? (i := 16) rfl)
theorem tw17 {Z : State} {a0 : Array Value} (hw : ∀ d ∈ tables_1, d.before a0 Z = true) : ((Jvm.Cond.code ({ cls := "com/example/eulay/eulay/generation/Permutations", name := "next", desc := "([I)Z" } : Jvm.MethodName) prog_18_method_3_code (5 : Nat) (Option.some Jvm.ClassFile.FieldType.boolean))).before a0 Z = true := hw _ (List.mem_of_getElem? (i := 17) rfl)
theorem tw18 {Z : State} {a0 : Array Value} (hw : ∀ d ∈ tables_1, d.before a0 Z = true) : ((Jvm.Cond.methodLink "com/example/eulay/eulay/generation/PermutationsNextPinLaw" (27 : Nat) ({ cls := "com/example/eulay/eulay/generation/PermutationsNextPinLaw", name := "same", desc := "([I[II)Z" } : Jvm.MethodName))).before a0 Z = true := hw _ (List.mem_of_getElem? (i := 18) rfl)
theorem tw19 {Z : State} {a0 : Array Value} (hw : ∀ d ∈ tables_1, d.before a0 Z = true) : ((Jvm.Cond.static ({ cls := "com/example/eulay/eulay/generation/PermutationsNextPinLaw", name := "same", desc := "([I[II)Z" } : Jvm.MethodName))).before a0 Z = true := hw _ (List.mem_of_getElem? (i := 19) rfl)
theorem tw20 {Z : State} {a0 : Array Value} (hw : ∀ d ∈ tables_1, d.before a0 Z = true) : ((Jvm.Cond.code ({ cls := "com/example/eulay/eulay/generation/PermutationsNextPinLaw", name := "same", desc := "([I[II)Z" } : Jvm.MethodName) method_8_code (3 : Nat) (Option.some Jvm.ClassFile.FieldType.boolean))).before a0 Z = true := hw _ (List.mem_of_getElem? (i := 20) rfl)
theorem tw21 {Z : State} {a0 : Array Value} (hw : ∀ d ∈ tables_1, d.before a0 Z = true) : ((Jvm.Cond.constant "com/example/eulay/eulay/generation/PermutationsNextPinLaw" (31 : Nat) (2147483647 : Int32))).before a0 Z = true := hw _ (List.mem_of_getElem? (i := 21) rfl)
theorem tw22 {Z : State} {a0 : Array Value} (hw : ∀ d ∈ tables_1, d.before a0 Z = true) : ((Jvm.Cond.methodLink "com/example/eulay/eulay/generation/PermutationsNextPinLaw" (32 : Nat) ({ cls := "com/example/eulay/eulay/generation/PermutationsNextPinLaw", name := "take", desc := "([II)I" } : Jvm.MethodName))).before a0 Z = true := hw _ (List.mem_of_getElem? (i := 22) rfl)
theorem tw23 {Z : State} {a0 : Array Value} (hw : ∀ d ∈ tables_1, d.before a0 Z = true) : ((Jvm.Cond.static ({ cls := "com/example/eulay/eulay/generation/PermutationsNextPinLaw", name := "take", desc := "([II)I" } : Jvm.MethodName))).before a0 Z = true := hw _ (List.mem_of_getElem? (i := 23) rfl)
theorem tw24 {Z : State} {a0 : Array Value} (hw : ∀ d ∈ tables_1, d.before a0 Z = true) : ((Jvm.Cond.code ({ cls := "com/example/eulay/eulay/generation/PermutationsNextPinLaw", name := "take", desc := "([II)I" } : Jvm.MethodName) method_4_code (3 : Nat) (Option.some Jvm.ClassFile.FieldType.int))).before a0 Z = true := hw _ (List.mem_of_getElem? (i := 24) rfl)
theorem tw25 {Z : State} {a0 : Array Value} (hw : ∀ d ∈ tables_1, d.before a0 Z = true) : ((Jvm.Cond.methodLink "com/example/eulay/eulay/generation/Permutations" (7 : Nat) ({ cls := "com/example/eulay/eulay/generation/Permutations", name := "swap", desc := "([III)V" } : Jvm.MethodName))).before a0 Z = true := hw _ (List.mem_of_getElem? (i := 25) rfl)
theorem tw26 {Z : State} {a0 : Array Value} (hw : ∀ d ∈ tables_1, d.before a0 Z = true) : ((Jvm.Cond.static ({ cls := "com/example/eulay/eulay/generation/Permutations", name := "swap", desc := "([III)V" } : Jvm.MethodName))).before a0 Z = true := hw _ (List.mem_of_getElem? (i := 26) rfl)
theorem tw27 {Z : State} {a0 : Array Value} (hw : ∀ d ∈ tables_1, d.before a0 Z = true) : ((Jvm.Cond.code ({ cls := "com/example/eulay/eulay/generation/Permutations", name := "swap", desc := "([III)V" } : Jvm.MethodName) prog_18_method_4_code (4 : Nat) (Option.none : Option Jvm.ClassFile.FieldType))).before a0 Z = true := hw _ (List.mem_of_getElem? (i := 27) rfl)
theorem pd0 : parseMethodDescriptor "([IIIZ)Z" = some ⟨[(.array .int), .int, .int, .boolean], some .boolean⟩ := by decide +kernel
theorem pd1 : parseMethodDescriptor "([II)I" = some ⟨[(.array .int), .int], some .int⟩ := by decide +kernel
theorem pd2 : parseMethodDescriptor "([III)V" = some ⟨[(.array .int), .int, .int], none⟩ := by decide +kernel
theorem pd3 : parseMethodDescriptor "(II)I" = some ⟨[.int, .int], some .int⟩ := by decide +kernel
theorem pd4 : parseMethodDescriptor "([II)Z" = some ⟨[(.array .int), .int], some .boolean⟩ := by decide +kernel
theorem pd5 : parseMethodDescriptor "([II)[I" = some ⟨[(.array .int), .int], some (.array .int)⟩ := by decide +kernel
theorem pd6 : parseMethodDescriptor "([I)Z" = some ⟨[(.array .int)], some .boolean⟩ := by decide +kernel
theorem pd7 : parseMethodDescriptor "([I[II)Z" = some ⟨[(.array .int), (.array .int), .int], some .boolean⟩ := by decide +kernel
theorem d1_0 : decode method_3_code 0 = .ok (.iload_n 1, 1) := by decide +kernel
theorem d1_1 : decode method_3_code 1 = .ok (.iconst 1, 1) := by decide +kernel
theorem d1_2 : decode method_3_code 2 = .ok (.if_icmp .le 12, 3) := by decide +kernel
theorem d1_5 : decode method_3_code 5 = .ok (.iload_n 0, 1) := by decide +kernel
theorem d1_6 : decode method_3_code 6 = .ok (.ldc 31, 2) := by decide +kernel
theorem d1_8 : decode method_3_code 8 = .ok (.iand, 1) := by decide +kernel
theorem d1_9 : decode method_3_code 9 = .ok (.iload_n 1, 1) := by decide +kernel
theorem d1_10 : decode method_3_code 10 = .ok (.irem, 1) := by decide +kernel
theorem d1_11 : decode method_3_code 11 = .ok (.goto 4, 3) := by decide +kernel
theorem d1_14 : decode method_3_code 14 = .ok (.iconst 0, 1) := by decide +kernel
theorem d1_15 : decode method_3_code 15 = .ok (.ireturn, 1) := by decide +kernel
theorem d2_0 : decode method_7_code 0 = .ok (.iconst 1, 1) := by decide +kernel
theorem d2_1 : decode method_7_code 1 = .ok (.istore_n 2, 1) := by decide +kernel
theorem d2_2 : decode method_7_code 2 = .ok (.aload_n 0, 1) := by decide +kernel
theorem d2_3 : decode method_7_code 3 = .ok (.iconst 4, 1) := by decide +kernel
theorem d2_4 : decode method_7_code 4 = .ok (.iload_n 1, 1) := by decide +kernel
theorem d2_5 : decode method_7_code 5 = .ok (.iload_n 2, 1) := by decide +kernel
theorem d2_6 : decode method_7_code 6 = .ok (.invokestatic 36, 3) := by decide +kernel
theorem d2_9 : decode method_7_code 9 = .ok (.istore_n 2, 1) := by decide +kernel
theorem d2_10 : decode method_7_code 10 = .ok (.aload_n 0, 1) := by decide +kernel
theorem d2_11 : decode method_7_code 11 = .ok (.iconst 3, 1) := by decide +kernel
theorem d2_12 : decode method_7_code 12 = .ok (.iload_n 1, 1) := by decide +kernel
theorem d2_13 : decode method_7_code 13 = .ok (.iload_n 2, 1) := by decide +kernel
theorem d2_14 : decode method_7_code 14 = .ok (.invokestatic 36, 3) := by decide +kernel
theorem d2_17 : decode method_7_code 17 = .ok (.istore_n 2, 1) := by decide +kernel
theorem d2_18 : decode method_7_code 18 = .ok (.aload_n 0, 1) := by decide +kernel
theorem d2_19 : decode method_7_code 19 = .ok (.iconst 2, 1) := by decide +kernel
theorem d2_20 : decode method_7_code 20 = .ok (.iload_n 1, 1) := by decide +kernel
theorem d2_21 : decode method_7_code 21 = .ok (.iload_n 2, 1) := by decide +kernel
theorem d2_22 : decode method_7_code 22 = .ok (.invokestatic 36, 3) := by decide +kernel
theorem d2_25 : decode method_7_code 25 = .ok (.istore_n 2, 1) := by decide +kernel
theorem d2_26 : decode method_7_code 26 = .ok (.aload_n 0, 1) := by decide +kernel
theorem d2_27 : decode method_7_code 27 = .ok (.iconst 1, 1) := by decide +kernel
theorem d2_28 : decode method_7_code 28 = .ok (.iload_n 1, 1) := by decide +kernel
theorem d2_29 : decode method_7_code 29 = .ok (.iload_n 2, 1) := by decide +kernel
theorem d2_30 : decode method_7_code 30 = .ok (.invokestatic 36, 3) := by decide +kernel
theorem d2_33 : decode method_7_code 33 = .ok (.istore_n 2, 1) := by decide +kernel
theorem d2_34 : decode method_7_code 34 = .ok (.aload_n 0, 1) := by decide +kernel
theorem d2_35 : decode method_7_code 35 = .ok (.iconst 0, 1) := by decide +kernel
theorem d2_36 : decode method_7_code 36 = .ok (.iload_n 1, 1) := by decide +kernel
theorem d2_37 : decode method_7_code 37 = .ok (.iload_n 2, 1) := by decide +kernel
theorem d2_38 : decode method_7_code 38 = .ok (.invokestatic 36, 3) := by decide +kernel
theorem d2_41 : decode method_7_code 41 = .ok (.istore_n 2, 1) := by decide +kernel
theorem d2_42 : decode method_7_code 42 = .ok (.iload_n 2, 1) := by decide +kernel
theorem d2_43 : decode method_7_code 43 = .ok (.ifCond .ne 7, 3) := by decide +kernel
theorem d2_46 : decode method_7_code 46 = .ok (.iconst 1, 1) := by decide +kernel
theorem d2_47 : decode method_7_code 47 = .ok (.goto 4, 3) := by decide +kernel
theorem d2_50 : decode method_7_code 50 = .ok (.iconst 0, 1) := by decide +kernel
theorem d2_51 : decode method_7_code 51 = .ok (.ireturn, 1) := by decide +kernel
theorem d3_0 : decode method_6_code 0 = .ok (.iload_n 3, 1) := by decide +kernel
theorem d3_1 : decode method_6_code 1 = .ok (.ifCond .eq 8, 3) := by decide +kernel
theorem d3_4 : decode method_6_code 4 = .ok (.iload_n 1, 1) := by decide +kernel
theorem d3_5 : decode method_6_code 5 = .ok (.iload_n 2, 1) := by decide +kernel
theorem d3_6 : decode method_6_code 6 = .ok (.if_icmp .lt 5, 3) := by decide +kernel
theorem d3_9 : decode method_6_code 9 = .ok (.iload_n 3, 1) := by decide +kernel
theorem d3_10 : decode method_6_code 10 = .ok (.ireturn, 1) := by decide +kernel
theorem d3_11 : decode method_6_code 11 = .ok (.aload_n 0, 1) := by decide +kernel
theorem d3_12 : decode method_6_code 12 = .ok (.iload_n 1, 1) := by decide +kernel
theorem d3_13 : decode method_6_code 13 = .ok (.iaload, 1) := by decide +kernel
theorem d3_14 : decode method_6_code 14 = .ok (.iconst 1, 1) := by decide +kernel
theorem d3_15 : decode method_6_code 15 = .ok (.iadd, 1) := by decide +kernel
theorem d3_16 : decode method_6_code 16 = .ok (.iload_n 2, 1) := by decide +kernel
theorem d3_17 : decode method_6_code 17 = .ok (.iload_n 1, 1) := by decide +kernel
theorem d3_18 : decode method_6_code 18 = .ok (.isub, 1) := by decide +kernel
theorem d3_19 : decode method_6_code 19 = .ok (.if_icmp .ge 13, 3) := by decide +kernel
theorem d3_22 : decode method_6_code 22 = .ok (.aload_n 0, 1) := by decide +kernel
theorem d3_23 : decode method_6_code 23 = .ok (.iload_n 1, 1) := by decide +kernel
theorem d3_24 : decode method_6_code 24 = .ok (.aload_n 0, 1) := by decide +kernel
theorem d3_25 : decode method_6_code 25 = .ok (.iload_n 1, 1) := by decide +kernel
theorem d3_26 : decode method_6_code 26 = .ok (.iaload, 1) := by decide +kernel
theorem d3_27 : decode method_6_code 27 = .ok (.iconst 1, 1) := by decide +kernel
theorem d3_28 : decode method_6_code 28 = .ok (.iadd, 1) := by decide +kernel
theorem d3_29 : decode method_6_code 29 = .ok (.iastore, 1) := by decide +kernel
theorem d3_30 : decode method_6_code 30 = .ok (.iconst 0, 1) := by decide +kernel
theorem d3_31 : decode method_6_code 31 = .ok (.ireturn, 1) := by decide +kernel
theorem d3_32 : decode method_6_code 32 = .ok (.aload_n 0, 1) := by decide +kernel
theorem d3_33 : decode method_6_code 33 = .ok (.iload_n 1, 1) := by decide +kernel
theorem d3_34 : decode method_6_code 34 = .ok (.iconst 0, 1) := by decide +kernel
theorem d3_35 : decode method_6_code 35 = .ok (.iastore, 1) := by decide +kernel
theorem d3_36 : decode method_6_code 36 = .ok (.iconst 1, 1) := by decide +kernel
theorem d3_37 : decode method_6_code 37 = .ok (.ireturn, 1) := by decide +kernel
theorem d4_0 : decode method_5_code 0 = .ok (.iconst 5, 1) := by decide +kernel
theorem d4_1 : decode method_5_code 1 = .ok (.newarray .int, 2) := by decide +kernel
theorem d4_3 : decode method_5_code 3 = .ok (.dup, 1) := by decide +kernel
theorem d4_4 : decode method_5_code 4 = .ok (.iconst 0, 1) := by decide +kernel
theorem d4_5 : decode method_5_code 5 = .ok (.iconst 0, 1) := by decide +kernel
theorem d4_6 : decode method_5_code 6 = .ok (.iastore, 1) := by decide +kernel
theorem d4_7 : decode method_5_code 7 = .ok (.dup, 1) := by decide +kernel
theorem d4_8 : decode method_5_code 8 = .ok (.iconst 1, 1) := by decide +kernel
theorem d4_9 : decode method_5_code 9 = .ok (.iconst 1, 1) := by decide +kernel
theorem d4_10 : decode method_5_code 10 = .ok (.iastore, 1) := by decide +kernel
theorem d4_11 : decode method_5_code 11 = .ok (.dup, 1) := by decide +kernel
theorem d4_12 : decode method_5_code 12 = .ok (.iconst 2, 1) := by decide +kernel
theorem d4_13 : decode method_5_code 13 = .ok (.iconst 2, 1) := by decide +kernel
theorem d4_14 : decode method_5_code 14 = .ok (.iastore, 1) := by decide +kernel
theorem d4_15 : decode method_5_code 15 = .ok (.dup, 1) := by decide +kernel
theorem d4_16 : decode method_5_code 16 = .ok (.iconst 3, 1) := by decide +kernel
theorem d4_17 : decode method_5_code 17 = .ok (.iconst 3, 1) := by decide +kernel
theorem d4_18 : decode method_5_code 18 = .ok (.iastore, 1) := by decide +kernel
theorem d4_19 : decode method_5_code 19 = .ok (.dup, 1) := by decide +kernel
theorem d4_20 : decode method_5_code 20 = .ok (.iconst 4, 1) := by decide +kernel
theorem d4_21 : decode method_5_code 21 = .ok (.iconst 4, 1) := by decide +kernel
theorem d4_22 : decode method_5_code 22 = .ok (.iastore, 1) := by decide +kernel
theorem d4_23 : decode method_5_code 23 = .ok (.astore_n 2, 1) := by decide +kernel
theorem d4_24 : decode method_5_code 24 = .ok (.iload_n 1, 1) := by decide +kernel
theorem d4_25 : decode method_5_code 25 = .ok (.newarray .int, 2) := by decide +kernel
theorem d4_27 : decode method_5_code 27 = .ok (.astore_n 3, 1) := by decide +kernel
theorem d4_28 : decode method_5_code 28 = .ok (.iload_n 1, 1) := by decide +kernel
theorem d4_29 : decode method_5_code 29 = .ok (.ifCond .le 13, 3) := by decide +kernel
theorem d4_32 : decode method_5_code 32 = .ok (.aload_n 3, 1) := by decide +kernel
theorem d4_33 : decode method_5_code 33 = .ok (.iconst 0, 1) := by decide +kernel
theorem d4_34 : decode method_5_code 34 = .ok (.aload_n 2, 1) := by decide +kernel
theorem d4_35 : decode method_5_code 35 = .ok (.aload_n 0, 1) := by decide +kernel
theorem d4_36 : decode method_5_code 36 = .ok (.iconst 0, 1) := by decide +kernel
theorem d4_37 : decode method_5_code 37 = .ok (.iaload, 1) := by decide +kernel
theorem d4_38 : decode method_5_code 38 = .ok (.invokestatic 32, 3) := by decide +kernel
theorem d4_41 : decode method_5_code 41 = .ok (.iastore, 1) := by decide +kernel
theorem d4_42 : decode method_5_code 42 = .ok (.iload_n 1, 1) := by decide +kernel
theorem d4_43 : decode method_5_code 43 = .ok (.iconst 1, 1) := by decide +kernel
theorem d4_44 : decode method_5_code 44 = .ok (.if_icmp .le 13, 3) := by decide +kernel
theorem d4_47 : decode method_5_code 47 = .ok (.aload_n 3, 1) := by decide +kernel
theorem d4_48 : decode method_5_code 48 = .ok (.iconst 1, 1) := by decide +kernel
theorem d4_49 : decode method_5_code 49 = .ok (.aload_n 2, 1) := by decide +kernel
theorem d4_50 : decode method_5_code 50 = .ok (.aload_n 0, 1) := by decide +kernel
theorem d4_51 : decode method_5_code 51 = .ok (.iconst 1, 1) := by decide +kernel
theorem d4_52 : decode method_5_code 52 = .ok (.iaload, 1) := by decide +kernel
theorem d4_53 : decode method_5_code 53 = .ok (.invokestatic 32, 3) := by decide +kernel
theorem d4_56 : decode method_5_code 56 = .ok (.iastore, 1) := by decide +kernel
theorem d4_57 : decode method_5_code 57 = .ok (.iload_n 1, 1) := by decide +kernel
theorem d4_58 : decode method_5_code 58 = .ok (.iconst 2, 1) := by decide +kernel
theorem d4_59 : decode method_5_code 59 = .ok (.if_icmp .le 13, 3) := by decide +kernel
theorem d4_62 : decode method_5_code 62 = .ok (.aload_n 3, 1) := by decide +kernel
theorem d4_63 : decode method_5_code 63 = .ok (.iconst 2, 1) := by decide +kernel
theorem d4_64 : decode method_5_code 64 = .ok (.aload_n 2, 1) := by decide +kernel
theorem d4_65 : decode method_5_code 65 = .ok (.aload_n 0, 1) := by decide +kernel
theorem d4_66 : decode method_5_code 66 = .ok (.iconst 2, 1) := by decide +kernel
theorem d4_67 : decode method_5_code 67 = .ok (.iaload, 1) := by decide +kernel
theorem d4_68 : decode method_5_code 68 = .ok (.invokestatic 32, 3) := by decide +kernel
theorem d4_71 : decode method_5_code 71 = .ok (.iastore, 1) := by decide +kernel
theorem d4_72 : decode method_5_code 72 = .ok (.iload_n 1, 1) := by decide +kernel
theorem d4_73 : decode method_5_code 73 = .ok (.iconst 3, 1) := by decide +kernel
theorem d4_74 : decode method_5_code 74 = .ok (.if_icmp .le 13, 3) := by decide +kernel
theorem d4_77 : decode method_5_code 77 = .ok (.aload_n 3, 1) := by decide +kernel
theorem d4_78 : decode method_5_code 78 = .ok (.iconst 3, 1) := by decide +kernel
theorem d4_79 : decode method_5_code 79 = .ok (.aload_n 2, 1) := by decide +kernel
theorem d4_80 : decode method_5_code 80 = .ok (.aload_n 0, 1) := by decide +kernel
theorem d4_81 : decode method_5_code 81 = .ok (.iconst 3, 1) := by decide +kernel
theorem d4_82 : decode method_5_code 82 = .ok (.iaload, 1) := by decide +kernel
theorem d4_83 : decode method_5_code 83 = .ok (.invokestatic 32, 3) := by decide +kernel
theorem d4_86 : decode method_5_code 86 = .ok (.iastore, 1) := by decide +kernel
theorem d4_87 : decode method_5_code 87 = .ok (.iload_n 1, 1) := by decide +kernel
theorem d4_88 : decode method_5_code 88 = .ok (.iconst 4, 1) := by decide +kernel
theorem d4_89 : decode method_5_code 89 = .ok (.if_icmp .le 13, 3) := by decide +kernel
theorem d4_92 : decode method_5_code 92 = .ok (.aload_n 3, 1) := by decide +kernel
theorem d4_93 : decode method_5_code 93 = .ok (.iconst 4, 1) := by decide +kernel
theorem d4_94 : decode method_5_code 94 = .ok (.aload_n 2, 1) := by decide +kernel
theorem d4_95 : decode method_5_code 95 = .ok (.aload_n 0, 1) := by decide +kernel
theorem d4_96 : decode method_5_code 96 = .ok (.iconst 4, 1) := by decide +kernel
theorem d4_97 : decode method_5_code 97 = .ok (.iaload, 1) := by decide +kernel
theorem d4_98 : decode method_5_code 98 = .ok (.invokestatic 32, 3) := by decide +kernel
theorem d4_101 : decode method_5_code 101 = .ok (.iastore, 1) := by decide +kernel
theorem d4_102 : decode method_5_code 102 = .ok (.aload_n 3, 1) := by decide +kernel
theorem d4_103 : decode method_5_code 103 = .ok (.areturn, 1) := by decide +kernel
theorem d5_0 : decode prog_18_method_3_code 0 = .ok (.aload_n 0, 1) := by decide +kernel
theorem d5_1 : decode prog_18_method_3_code 1 = .ok (.arraylength, 1) := by decide +kernel
theorem d5_2 : decode prog_18_method_3_code 2 = .ok (.iconst 2, 1) := by decide +kernel
theorem d5_3 : decode prog_18_method_3_code 3 = .ok (.isub, 1) := by decide +kernel
theorem d5_4 : decode prog_18_method_3_code 4 = .ok (.istore_n 1, 1) := by decide +kernel
theorem d5_5 : decode prog_18_method_3_code 5 = .ok (.iload_n 1, 1) := by decide +kernel
theorem d5_6 : decode prog_18_method_3_code 6 = .ok (.ifCond .lt 20, 3) := by decide +kernel
theorem d5_9 : decode prog_18_method_3_code 9 = .ok (.aload_n 0, 1) := by decide +kernel
theorem d5_10 : decode prog_18_method_3_code 10 = .ok (.iload_n 1, 1) := by decide +kernel
theorem d5_11 : decode prog_18_method_3_code 11 = .ok (.iaload, 1) := by decide +kernel
theorem d5_12 : decode prog_18_method_3_code 12 = .ok (.aload_n 0, 1) := by decide +kernel
theorem d5_13 : decode prog_18_method_3_code 13 = .ok (.iload_n 1, 1) := by decide +kernel
theorem d5_14 : decode prog_18_method_3_code 14 = .ok (.iconst 1, 1) := by decide +kernel
theorem d5_15 : decode prog_18_method_3_code 15 = .ok (.iadd, 1) := by decide +kernel
theorem d5_16 : decode prog_18_method_3_code 16 = .ok (.iaload, 1) := by decide +kernel
theorem d5_17 : decode prog_18_method_3_code 17 = .ok (.if_icmp .le 9, 3) := by decide +kernel
theorem d5_20 : decode prog_18_method_3_code 20 = .ok (.iinc 1 (-1), 3) := by decide +kernel
theorem d5_23 : decode prog_18_method_3_code 23 = .ok (.goto (-18), 3) := by decide +kernel
theorem d5_26 : decode prog_18_method_3_code 26 = .ok (.iload_n 1, 1) := by decide +kernel
theorem d5_27 : decode prog_18_method_3_code 27 = .ok (.ifCond .ge 5, 3) := by decide +kernel
theorem d5_30 : decode prog_18_method_3_code 30 = .ok (.iconst 0, 1) := by decide +kernel
theorem d5_31 : decode prog_18_method_3_code 31 = .ok (.ireturn, 1) := by decide +kernel
theorem d5_32 : decode prog_18_method_3_code 32 = .ok (.aload_n 0, 1) := by decide +kernel
theorem d5_33 : decode prog_18_method_3_code 33 = .ok (.arraylength, 1) := by decide +kernel
theorem d5_34 : decode prog_18_method_3_code 34 = .ok (.iconst 1, 1) := by decide +kernel
theorem d5_35 : decode prog_18_method_3_code 35 = .ok (.isub, 1) := by decide +kernel
theorem d5_36 : decode prog_18_method_3_code 36 = .ok (.istore_n 2, 1) := by decide +kernel
theorem d5_37 : decode prog_18_method_3_code 37 = .ok (.aload_n 0, 1) := by decide +kernel
theorem d5_38 : decode prog_18_method_3_code 38 = .ok (.iload_n 2, 1) := by decide +kernel
theorem d5_39 : decode prog_18_method_3_code 39 = .ok (.iaload, 1) := by decide +kernel
theorem d5_40 : decode prog_18_method_3_code 40 = .ok (.aload_n 0, 1) := by decide +kernel
theorem d5_41 : decode prog_18_method_3_code 41 = .ok (.iload_n 1, 1) := by decide +kernel
theorem d5_42 : decode prog_18_method_3_code 42 = .ok (.iaload, 1) := by decide +kernel
theorem d5_43 : decode prog_18_method_3_code 43 = .ok (.if_icmp .ge 9, 3) := by decide +kernel
theorem d5_46 : decode prog_18_method_3_code 46 = .ok (.iinc 2 (-1), 3) := by decide +kernel
theorem d5_49 : decode prog_18_method_3_code 49 = .ok (.goto (-12), 3) := by decide +kernel
theorem d5_52 : decode prog_18_method_3_code 52 = .ok (.aload_n 0, 1) := by decide +kernel
theorem d5_53 : decode prog_18_method_3_code 53 = .ok (.iload_n 1, 1) := by decide +kernel
theorem d5_54 : decode prog_18_method_3_code 54 = .ok (.iload_n 2, 1) := by decide +kernel
theorem d5_55 : decode prog_18_method_3_code 55 = .ok (.invokestatic 7, 3) := by decide +kernel
theorem d5_58 : decode prog_18_method_3_code 58 = .ok (.iload_n 1, 1) := by decide +kernel
theorem d5_59 : decode prog_18_method_3_code 59 = .ok (.iconst 1, 1) := by decide +kernel
theorem d5_60 : decode prog_18_method_3_code 60 = .ok (.iadd, 1) := by decide +kernel
theorem d5_61 : decode prog_18_method_3_code 61 = .ok (.istore_n 3, 1) := by decide +kernel
theorem d5_62 : decode prog_18_method_3_code 62 = .ok (.aload_n 0, 1) := by decide +kernel
theorem d5_63 : decode prog_18_method_3_code 63 = .ok (.arraylength, 1) := by decide +kernel
theorem d5_64 : decode prog_18_method_3_code 64 = .ok (.iconst 1, 1) := by decide +kernel
theorem d5_65 : decode prog_18_method_3_code 65 = .ok (.isub, 1) := by decide +kernel
theorem d5_66 : decode prog_18_method_3_code 66 = .ok (.istore 4, 2) := by decide +kernel
theorem d5_68 : decode prog_18_method_3_code 68 = .ok (.iload_n 3, 1) := by decide +kernel
theorem d5_69 : decode prog_18_method_3_code 69 = .ok (.iload 4, 2) := by decide +kernel
theorem d5_71 : decode prog_18_method_3_code 71 = .ok (.if_icmp .ge 19, 3) := by decide +kernel
theorem d5_74 : decode prog_18_method_3_code 74 = .ok (.aload_n 0, 1) := by decide +kernel
theorem d5_75 : decode prog_18_method_3_code 75 = .ok (.iload_n 3, 1) := by decide +kernel
theorem d5_76 : decode prog_18_method_3_code 76 = .ok (.iload 4, 2) := by decide +kernel
theorem d5_78 : decode prog_18_method_3_code 78 = .ok (.invokestatic 7, 3) := by decide +kernel
theorem d5_81 : decode prog_18_method_3_code 81 = .ok (.iinc 3 1, 3) := by decide +kernel
theorem d5_84 : decode prog_18_method_3_code 84 = .ok (.iinc 4 (-1), 3) := by decide +kernel
theorem d5_87 : decode prog_18_method_3_code 87 = .ok (.goto (-19), 3) := by decide +kernel
theorem d5_90 : decode prog_18_method_3_code 90 = .ok (.iconst 1, 1) := by decide +kernel
theorem d5_91 : decode prog_18_method_3_code 91 = .ok (.ireturn, 1) := by decide +kernel
theorem d6_0 : decode method_8_code 0 = .ok (.aload_n 0, 1) := by decide +kernel
theorem d6_1 : decode method_8_code 1 = .ok (.arraylength, 1) := by decide +kernel
theorem d6_2 : decode method_8_code 2 = .ok (.iload_n 2, 1) := by decide +kernel
theorem d6_3 : decode method_8_code 3 = .ok (.if_icmp .ne 82, 3) := by decide +kernel
theorem d6_6 : decode method_8_code 6 = .ok (.aload_n 1, 1) := by decide +kernel
theorem d6_7 : decode method_8_code 7 = .ok (.arraylength, 1) := by decide +kernel
theorem d6_8 : decode method_8_code 8 = .ok (.iload_n 2, 1) := by decide +kernel
theorem d6_9 : decode method_8_code 9 = .ok (.if_icmp .ne 76, 3) := by decide +kernel
theorem d6_12 : decode method_8_code 12 = .ok (.iload_n 2, 1) := by decide +kernel
theorem d6_13 : decode method_8_code 13 = .ok (.ifCond .le 12, 3) := by decide +kernel
theorem d6_16 : decode method_8_code 16 = .ok (.aload_n 0, 1) := by decide +kernel
theorem d6_17 : decode method_8_code 17 = .ok (.iconst 0, 1) := by decide +kernel
theorem d6_18 : decode method_8_code 18 = .ok (.iaload, 1) := by decide +kernel
theorem d6_19 : decode method_8_code 19 = .ok (.aload_n 1, 1) := by decide +kernel
theorem d6_20 : decode method_8_code 20 = .ok (.iconst 0, 1) := by decide +kernel
theorem d6_21 : decode method_8_code 21 = .ok (.iaload, 1) := by decide +kernel
theorem d6_22 : decode method_8_code 22 = .ok (.if_icmp .ne 63, 3) := by decide +kernel
theorem d6_25 : decode method_8_code 25 = .ok (.iload_n 2, 1) := by decide +kernel
theorem d6_26 : decode method_8_code 26 = .ok (.iconst 1, 1) := by decide +kernel
theorem d6_27 : decode method_8_code 27 = .ok (.if_icmp .le 12, 3) := by decide +kernel
theorem d6_30 : decode method_8_code 30 = .ok (.aload_n 0, 1) := by decide +kernel
theorem d6_31 : decode method_8_code 31 = .ok (.iconst 1, 1) := by decide +kernel
theorem d6_32 : decode method_8_code 32 = .ok (.iaload, 1) := by decide +kernel
theorem d6_33 : decode method_8_code 33 = .ok (.aload_n 1, 1) := by decide +kernel
theorem d6_34 : decode method_8_code 34 = .ok (.iconst 1, 1) := by decide +kernel
theorem d6_35 : decode method_8_code 35 = .ok (.iaload, 1) := by decide +kernel
theorem d6_36 : decode method_8_code 36 = .ok (.if_icmp .ne 49, 3) := by decide +kernel
theorem d6_39 : decode method_8_code 39 = .ok (.iload_n 2, 1) := by decide +kernel
theorem d6_40 : decode method_8_code 40 = .ok (.iconst 2, 1) := by decide +kernel
theorem d6_41 : decode method_8_code 41 = .ok (.if_icmp .le 12, 3) := by decide +kernel
theorem d6_44 : decode method_8_code 44 = .ok (.aload_n 0, 1) := by decide +kernel
theorem d6_45 : decode method_8_code 45 = .ok (.iconst 2, 1) := by decide +kernel
theorem d6_46 : decode method_8_code 46 = .ok (.iaload, 1) := by decide +kernel
theorem d6_47 : decode method_8_code 47 = .ok (.aload_n 1, 1) := by decide +kernel
theorem d6_48 : decode method_8_code 48 = .ok (.iconst 2, 1) := by decide +kernel
theorem d6_49 : decode method_8_code 49 = .ok (.iaload, 1) := by decide +kernel
theorem d6_50 : decode method_8_code 50 = .ok (.if_icmp .ne 35, 3) := by decide +kernel
theorem d6_53 : decode method_8_code 53 = .ok (.iload_n 2, 1) := by decide +kernel
theorem d6_54 : decode method_8_code 54 = .ok (.iconst 3, 1) := by decide +kernel
theorem d6_55 : decode method_8_code 55 = .ok (.if_icmp .le 12, 3) := by decide +kernel
theorem d6_58 : decode method_8_code 58 = .ok (.aload_n 0, 1) := by decide +kernel
theorem d6_59 : decode method_8_code 59 = .ok (.iconst 3, 1) := by decide +kernel
theorem d6_60 : decode method_8_code 60 = .ok (.iaload, 1) := by decide +kernel
theorem d6_61 : decode method_8_code 61 = .ok (.aload_n 1, 1) := by decide +kernel
theorem d6_62 : decode method_8_code 62 = .ok (.iconst 3, 1) := by decide +kernel
theorem d6_63 : decode method_8_code 63 = .ok (.iaload, 1) := by decide +kernel
theorem d6_64 : decode method_8_code 64 = .ok (.if_icmp .ne 21, 3) := by decide +kernel
theorem d6_67 : decode method_8_code 67 = .ok (.iload_n 2, 1) := by decide +kernel
theorem d6_68 : decode method_8_code 68 = .ok (.iconst 4, 1) := by decide +kernel
theorem d6_69 : decode method_8_code 69 = .ok (.if_icmp .le 12, 3) := by decide +kernel
theorem d6_72 : decode method_8_code 72 = .ok (.aload_n 0, 1) := by decide +kernel
theorem d6_73 : decode method_8_code 73 = .ok (.iconst 4, 1) := by decide +kernel
theorem d6_74 : decode method_8_code 74 = .ok (.iaload, 1) := by decide +kernel
theorem d6_75 : decode method_8_code 75 = .ok (.aload_n 1, 1) := by decide +kernel
theorem d6_76 : decode method_8_code 76 = .ok (.iconst 4, 1) := by decide +kernel
theorem d6_77 : decode method_8_code 77 = .ok (.iaload, 1) := by decide +kernel
theorem d6_78 : decode method_8_code 78 = .ok (.if_icmp .ne 7, 3) := by decide +kernel
theorem d6_81 : decode method_8_code 81 = .ok (.iconst 1, 1) := by decide +kernel
theorem d6_82 : decode method_8_code 82 = .ok (.goto 4, 3) := by decide +kernel
theorem d6_85 : decode method_8_code 85 = .ok (.iconst 0, 1) := by decide +kernel
theorem d6_86 : decode method_8_code 86 = .ok (.ireturn, 1) := by decide +kernel
theorem d7_0 : decode method_4_code 0 = .ok (.aload_n 0, 1) := by decide +kernel
theorem d7_1 : decode method_4_code 1 = .ok (.iload_n 1, 1) := by decide +kernel
theorem d7_2 : decode method_4_code 2 = .ok (.iaload, 1) := by decide +kernel
theorem d7_3 : decode method_4_code 3 = .ok (.istore_n 2, 1) := by decide +kernel
theorem d7_4 : decode method_4_code 4 = .ok (.iload_n 1, 1) := by decide +kernel
theorem d7_5 : decode method_4_code 5 = .ok (.ifCond .gt 9, 3) := by decide +kernel
theorem d7_8 : decode method_4_code 8 = .ok (.aload_n 0, 1) := by decide +kernel
theorem d7_9 : decode method_4_code 9 = .ok (.iconst 0, 1) := by decide +kernel
theorem d7_10 : decode method_4_code 10 = .ok (.aload_n 0, 1) := by decide +kernel
theorem d7_11 : decode method_4_code 11 = .ok (.iconst 1, 1) := by decide +kernel
theorem d7_12 : decode method_4_code 12 = .ok (.iaload, 1) := by decide +kernel
theorem d7_13 : decode method_4_code 13 = .ok (.iastore, 1) := by decide +kernel
theorem d7_14 : decode method_4_code 14 = .ok (.iload_n 1, 1) := by decide +kernel
theorem d7_15 : decode method_4_code 15 = .ok (.iconst 1, 1) := by decide +kernel
theorem d7_16 : decode method_4_code 16 = .ok (.if_icmp .gt 9, 3) := by decide +kernel
theorem d7_19 : decode method_4_code 19 = .ok (.aload_n 0, 1) := by decide +kernel
theorem d7_20 : decode method_4_code 20 = .ok (.iconst 1, 1) := by decide +kernel
theorem d7_21 : decode method_4_code 21 = .ok (.aload_n 0, 1) := by decide +kernel
theorem d7_22 : decode method_4_code 22 = .ok (.iconst 2, 1) := by decide +kernel
theorem d7_23 : decode method_4_code 23 = .ok (.iaload, 1) := by decide +kernel
theorem d7_24 : decode method_4_code 24 = .ok (.iastore, 1) := by decide +kernel
theorem d7_25 : decode method_4_code 25 = .ok (.iload_n 1, 1) := by decide +kernel
theorem d7_26 : decode method_4_code 26 = .ok (.iconst 2, 1) := by decide +kernel
theorem d7_27 : decode method_4_code 27 = .ok (.if_icmp .gt 9, 3) := by decide +kernel
theorem d7_30 : decode method_4_code 30 = .ok (.aload_n 0, 1) := by decide +kernel
theorem d7_31 : decode method_4_code 31 = .ok (.iconst 2, 1) := by decide +kernel
theorem d7_32 : decode method_4_code 32 = .ok (.aload_n 0, 1) := by decide +kernel
theorem d7_33 : decode method_4_code 33 = .ok (.iconst 3, 1) := by decide +kernel
theorem d7_34 : decode method_4_code 34 = .ok (.iaload, 1) := by decide +kernel
theorem d7_35 : decode method_4_code 35 = .ok (.iastore, 1) := by decide +kernel
theorem d7_36 : decode method_4_code 36 = .ok (.iload_n 1, 1) := by decide +kernel
theorem d7_37 : decode method_4_code 37 = .ok (.iconst 3, 1) := by decide +kernel
theorem d7_38 : decode method_4_code 38 = .ok (.if_icmp .gt 9, 3) := by decide +kernel
theorem d7_41 : decode method_4_code 41 = .ok (.aload_n 0, 1) := by decide +kernel
theorem d7_42 : decode method_4_code 42 = .ok (.iconst 3, 1) := by decide +kernel
theorem d7_43 : decode method_4_code 43 = .ok (.aload_n 0, 1) := by decide +kernel
theorem d7_44 : decode method_4_code 44 = .ok (.iconst 4, 1) := by decide +kernel
theorem d7_45 : decode method_4_code 45 = .ok (.iaload, 1) := by decide +kernel
theorem d7_46 : decode method_4_code 46 = .ok (.iastore, 1) := by decide +kernel
theorem d7_47 : decode method_4_code 47 = .ok (.iload_n 2, 1) := by decide +kernel
theorem d7_48 : decode method_4_code 48 = .ok (.ireturn, 1) := by decide +kernel
theorem d8_0 : decode prog_18_method_4_code 0 = .ok (.aload_n 0, 1) := by decide +kernel
theorem d8_1 : decode prog_18_method_4_code 1 = .ok (.iload_n 1, 1) := by decide +kernel
theorem d8_2 : decode prog_18_method_4_code 2 = .ok (.iaload, 1) := by decide +kernel
theorem d8_3 : decode prog_18_method_4_code 3 = .ok (.istore_n 3, 1) := by decide +kernel
theorem d8_4 : decode prog_18_method_4_code 4 = .ok (.aload_n 0, 1) := by decide +kernel
theorem d8_5 : decode prog_18_method_4_code 5 = .ok (.iload_n 1, 1) := by decide +kernel
theorem d8_6 : decode prog_18_method_4_code 6 = .ok (.aload_n 0, 1) := by decide +kernel
theorem d8_7 : decode prog_18_method_4_code 7 = .ok (.iload_n 2, 1) := by decide +kernel
theorem d8_8 : decode prog_18_method_4_code 8 = .ok (.iaload, 1) := by decide +kernel
theorem d8_9 : decode prog_18_method_4_code 9 = .ok (.iastore, 1) := by decide +kernel
theorem d8_10 : decode prog_18_method_4_code 10 = .ok (.aload_n 0, 1) := by decide +kernel
theorem d8_11 : decode prog_18_method_4_code 11 = .ok (.iload_n 2, 1) := by decide +kernel
theorem d8_12 : decode prog_18_method_4_code 12 = .ok (.iload_n 3, 1) := by decide +kernel
theorem d8_13 : decode prog_18_method_4_code 13 = .ok (.iastore, 1) := by decide +kernel
theorem d8_14 : decode prog_18_method_4_code 14 = .ok (.return_, 1) := by decide +kernel
def tk (F : Nat → Int32) (k : Int32) : Nat → Int32 := fun j => if j < 4 ∧ k.toInt ≤ (j : Int) then F (j + 1) else F j
def stF (F : Nat → Int32) (p2 p3 : Int32) (P4 : Prop) [Decidable P4] : Nat → Int32 := (if P4 then (if p2 < p3 then (if ((F p2.toNatClampNeg) + (1 : Int32)) < (p3 - p2) then (own_up F p2.toNatClampNeg ((F p2.toNatClampNeg) + (1 : Int32))) else (own_up F p2.toNatClampNeg (0 : Int32))) else F) else F)
def stR (F : Nat → Int32) (p2 p3 : Int32) (P4 : Prop) [Decidable P4] : Prop := (P4 ∧ (((p2 < p3) ∧ (¬ (((F p2.toNatClampNeg) + (1 : Int32)) < (p3 - p2)))) ∨ (¬ (p2 < p3) ∧ P4))) ∨ (¬ P4 ∧ P4)
instance stR_dec (F : Nat → Int32) (p2 p3 : Int32) (P4 : Prop) [Decidable P4] : Decidable (stR F p2 p3 P4) := inferInstanceAs (Decidable ((P4 ∧ (((p2 < p3) ∧ (¬ (((F p2.toNatClampNeg) + (1 : Int32)) < (p3 - p2)))) ∨ (¬ (p2 < p3) ∧ P4))) ∨ (¬ P4 ∧ P4)))
def incF (F : Nat → Int32) (p2 : Int32) : Nat → Int32 := (stF (stF (stF (stF (stF F (4 : Int32) p2 True) (3 : Int32) p2 (stR F (4 : Int32) p2 True)) (2 : Int32) p2 (stR (stF F (4 : Int32) p2 True) (3 : Int32) p2 (stR F (4 : Int32) p2 True))) (1 : Int32) p2 (stR (stF (stF F (4 : Int32) p2 True) (3 : Int32) p2 (stR F (4 : Int32) p2 True)) (2 : Int32) p2 (stR (stF F (4 : Int32) p2 True) (3 : Int32) p2 (stR F (4 : Int32) p2 True)))) (0 : Int32) p2 (stR (stF (stF (stF F (4 : Int32) p2 True) (3 : Int32) p2 (stR F (4 : Int32) p2 True)) (2 : Int32) p2 (stR (stF F (4 : Int32) p2 True) (3 : Int32) p2 (stR F (4 : Int32) p2 True))) (1 : Int32) p2 (stR (stF (stF F (4 : Int32) p2 True) (3 : Int32) p2 (stR F (4 : Int32) p2 True)) (2 : Int32) p2 (stR (stF F (4 : Int32) p2 True) (3 : Int32) p2 (stR F (4 : Int32) p2 True)))))
def incR (F : Nat → Int32) (p2 : Int32) : Prop := ¬ (stR (stF (stF (stF (stF F (4 : Int32) p2 True) (3 : Int32) p2 (stR F (4 : Int32) p2 True)) (2 : Int32) p2 (stR (stF F (4 : Int32) p2 True) (3 : Int32) p2 (stR F (4 : Int32) p2 True))) (1 : Int32) p2 (stR (stF (stF F (4 : Int32) p2 True) (3 : Int32) p2 (stR F (4 : Int32) p2 True)) (2 : Int32) p2 (stR (stF F (4 : Int32) p2 True) (3 : Int32) p2 (stR F (4 : Int32) p2 True)))) (0 : Int32) p2 (stR (stF (stF (stF F (4 : Int32) p2 True) (3 : Int32) p2 (stR F (4 : Int32) p2 True)) (2 : Int32) p2 (stR (stF F (4 : Int32) p2 True) (3 : Int32) p2 (stR F (4 : Int32) p2 True))) (1 : Int32) p2 (stR (stF (stF F (4 : Int32) p2 True) (3 : Int32) p2 (stR F (4 : Int32) p2 True)) (2 : Int32) p2 (stR (stF F (4 : Int32) p2 True) (3 : Int32) p2 (stR F (4 : Int32) p2 True)))))
instance incR_dec (F : Nat → Int32) (p2 : Int32) : Decidable (incR F p2) := inferInstanceAs (Decidable (¬ (stR (stF (stF (stF (stF F (4 : Int32) p2 True) (3 : Int32) p2 (stR F (4 : Int32) p2 True)) (2 : Int32) p2 (stR (stF F (4 : Int32) p2 True) (3 : Int32) p2 (stR F (4 : Int32) p2 True))) (1 : Int32) p2 (stR (stF (stF F (4 : Int32) p2 True) (3 : Int32) p2 (stR F (4 : Int32) p2 True)) (2 : Int32) p2 (stR (stF F (4 : Int32) p2 True) (3 : Int32) p2 (stR F (4 : Int32) p2 True)))) (0 : Int32) p2 (stR (stF (stF (stF F (4 : Int32) p2 True) (3 : Int32) p2 (stR F (4 : Int32) p2 True)) (2 : Int32) p2 (stR (stF F (4 : Int32) p2 True) (3 : Int32) p2 (stR F (4 : Int32) p2 True))) (1 : Int32) p2 (stR (stF (stF F (4 : Int32) p2 True) (3 : Int32) p2 (stR F (4 : Int32) p2 True)) (2 : Int32) p2 (stR (stF F (4 : Int32) p2 True) (3 : Int32) p2 (stR F (4 : Int32) p2 True)))))))
def bld0 (D : Nat → Int32) : Nat → Int32 := (fun _ => 0)
def bld1 (D : Nat → Int32) : Nat → Int32 := (own_up (fun _ => 0) 0 ((own_up (own_up (own_up (own_up (own_up (fun _ => 0) 0 (0 : Int32)) 1 (1 : Int32)) 2 (2 : Int32)) 3 (3 : Int32)) 4 (4 : Int32)) (D 0).toNatClampNeg))
def bld2 (D : Nat → Int32) : Nat → Int32 := (own_up (own_up (fun _ => 0) 0 ((own_up (own_up (own_up (own_up (own_up (fun _ => 0) 0 (0 : Int32)) 1 (1 : Int32)) 2 (2 : Int32)) 3 (3 : Int32)) 4 (4 : Int32)) (D 0).toNatClampNeg)) 1 ((tk (own_up (own_up (own_up (own_up (own_up (fun _ => 0) 0 (0 : Int32)) 1 (1 : Int32)) 2 (2 : Int32)) 3 (3 : Int32)) 4 (4 : Int32)) (D 0)) (D 1).toNatClampNeg))
def bld3 (D : Nat → Int32) : Nat → Int32 := (own_up (own_up (own_up (fun _ => 0) 0 ((own_up (own_up (own_up (own_up (own_up (fun _ => 0) 0 (0 : Int32)) 1 (1 : Int32)) 2 (2 : Int32)) 3 (3 : Int32)) 4 (4 : Int32)) (D 0).toNatClampNeg)) 1 ((tk (own_up (own_up (own_up (own_up (own_up (fun _ => 0) 0 (0 : Int32)) 1 (1 : Int32)) 2 (2 : Int32)) 3 (3 : Int32)) 4 (4 : Int32)) (D 0)) (D 1).toNatClampNeg)) 2 ((tk (tk (own_up (own_up (own_up (own_up (own_up (fun _ => 0) 0 (0 : Int32)) 1 (1 : Int32)) 2 (2 : Int32)) 3 (3 : Int32)) 4 (4 : Int32)) (D 0)) (D 1)) (D 2).toNatClampNeg))
def bld4 (D : Nat → Int32) : Nat → Int32 := (own_up (own_up (own_up (own_up (fun _ => 0) 0 ((own_up (own_up (own_up (own_up (own_up (fun _ => 0) 0 (0 : Int32)) 1 (1 : Int32)) 2 (2 : Int32)) 3 (3 : Int32)) 4 (4 : Int32)) (D 0).toNatClampNeg)) 1 ((tk (own_up (own_up (own_up (own_up (own_up (fun _ => 0) 0 (0 : Int32)) 1 (1 : Int32)) 2 (2 : Int32)) 3 (3 : Int32)) 4 (4 : Int32)) (D 0)) (D 1).toNatClampNeg)) 2 ((tk (tk (own_up (own_up (own_up (own_up (own_up (fun _ => 0) 0 (0 : Int32)) 1 (1 : Int32)) 2 (2 : Int32)) 3 (3 : Int32)) 4 (4 : Int32)) (D 0)) (D 1)) (D 2).toNatClampNeg)) 3 ((tk (tk (tk (own_up (own_up (own_up (own_up (own_up (fun _ => 0) 0 (0 : Int32)) 1 (1 : Int32)) 2 (2 : Int32)) 3 (3 : Int32)) 4 (4 : Int32)) (D 0)) (D 1)) (D 2)) (D 3).toNatClampNeg))
def bld5 (D : Nat → Int32) : Nat → Int32 := (own_up (own_up (own_up (own_up (own_up (fun _ => 0) 0 ((own_up (own_up (own_up (own_up (own_up (fun _ => 0) 0 (0 : Int32)) 1 (1 : Int32)) 2 (2 : Int32)) 3 (3 : Int32)) 4 (4 : Int32)) (D 0).toNatClampNeg)) 1 ((tk (own_up (own_up (own_up (own_up (own_up (fun _ => 0) 0 (0 : Int32)) 1 (1 : Int32)) 2 (2 : Int32)) 3 (3 : Int32)) 4 (4 : Int32)) (D 0)) (D 1).toNatClampNeg)) 2 ((tk (tk (own_up (own_up (own_up (own_up (own_up (fun _ => 0) 0 (0 : Int32)) 1 (1 : Int32)) 2 (2 : Int32)) 3 (3 : Int32)) 4 (4 : Int32)) (D 0)) (D 1)) (D 2).toNatClampNeg)) 3 ((tk (tk (tk (own_up (own_up (own_up (own_up (own_up (fun _ => 0) 0 (0 : Int32)) 1 (1 : Int32)) 2 (2 : Int32)) 3 (3 : Int32)) 4 (4 : Int32)) (D 0)) (D 1)) (D 2)) (D 3).toNatClampNeg)) 4 ((tk (tk (tk (tk (own_up (own_up (own_up (own_up (own_up (fun _ => 0) 0 (0 : Int32)) 1 (1 : Int32)) 2 (2 : Int32)) 3 (3 : Int32)) 4 (4 : Int32)) (D 0)) (D 1)) (D 2)) (D 3)) (D 4).toNatClampNeg))
def sw (F : Nat → Int32) (i j : Nat) : Nat → Int32 := own_up (own_up F i (F j)) j (F i)
def nx0F (F : Nat → Int32) : Nat → Int32 := F
def nx1F (F : Nat → Int32) : Nat → Int32 := F
def nx2F (F : Nat → Int32) : Nat → Int32 := (if (F 1) < (F 0) then F else (sw F (0 : Int32).toNatClampNeg (1 : Int32).toNatClampNeg))
def nx2R (F : Nat → Int32) : Prop := ¬ ((F 1) < (F 0))
instance nx2R_dec (F : Nat → Int32) : Decidable (nx2R F) := inferInstanceAs (Decidable (¬ ((F 1) < (F 0))))
def nx3F (F : Nat → Int32) : Nat → Int32 := (if (F 2) < (F 1) then (if (F 1) < (F 0) then F else (if (F 2) < (F 0) then (sw (sw F (0 : Int32).toNatClampNeg (1 : Int32).toNatClampNeg) (1 : Int32).toNatClampNeg (2 : Int32).toNatClampNeg) else (sw (sw F (0 : Int32).toNatClampNeg (2 : Int32).toNatClampNeg) (1 : Int32).toNatClampNeg (2 : Int32).toNatClampNeg))) else (sw F (1 : Int32).toNatClampNeg (2 : Int32).toNatClampNeg))
def nx3R (F : Nat → Int32) : Prop := ¬ ((F 2) < (F 1)) ∨ (¬ ((F 1) < (F 0)) ∧ (((F 2) < (F 0)) ∨ True))
instance nx3R_dec (F : Nat → Int32) : Decidable (nx3R F) := inferInstanceAs (Decidable (¬ ((F 2) < (F 1)) ∨ (¬ ((F 1) < (F 0)) ∧ (((F 2) < (F 0)) ∨ True))))
def nx4F (F : Nat → Int32) : Nat → Int32 := (if (F 3) < (F 2) then (if (F 2) < (F 1) then (if (F 1) < (F 0) then F else (if (F 3) < (F 0) then (if (F 2) < (F 0) then (sw (sw F (0 : Int32).toNatClampNeg (1 : Int32).toNatClampNeg) (1 : Int32).toNatClampNeg (3 : Int32).toNatClampNeg) else (sw (sw F (0 : Int32).toNatClampNeg (2 : Int32).toNatClampNeg) (1 : Int32).toNatClampNeg (3 : Int32).toNatClampNeg)) else (sw (sw F (0 : Int32).toNatClampNeg (3 : Int32).toNatClampNeg) (1 : Int32).toNatClampNeg (3 : Int32).toNatClampNeg))) else (if (F 3) < (F 1) then (sw (sw F (1 : Int32).toNatClampNeg (2 : Int32).toNatClampNeg) (2 : Int32).toNatClampNeg (3 : Int32).toNatClampNeg) else (sw (sw F (1 : Int32).toNatClampNeg (3 : Int32).toNatClampNeg) (2 : Int32).toNatClampNeg (3 : Int32).toNatClampNeg))) else (sw F (2 : Int32).toNatClampNeg (3 : Int32).toNatClampNeg))
def nx4R (F : Nat → Int32) : Prop := ¬ ((F 3) < (F 2)) ∨ ((((F 2) < (F 1)) ∧ (¬ ((F 1) < (F 0)) ∧ (¬ ((F 3) < (F 0)) ∨ (((F 2) < (F 0)) ∨ True)))) ∨ (¬ ((F 2) < (F 1)) ∧ (((F 3) < (F 1)) ∨ True)))
instance nx4R_dec (F : Nat → Int32) : Decidable (nx4R F) := inferInstanceAs (Decidable (¬ ((F 3) < (F 2)) ∨ ((((F 2) < (F 1)) ∧ (¬ ((F 1) < (F 0)) ∧ (¬ ((F 3) < (F 0)) ∨ (((F 2) < (F 0)) ∨ True)))) ∨ (¬ ((F 2) < (F 1)) ∧ (((F 3) < (F 1)) ∨ True)))))
def nx5F (F : Nat → Int32) : Nat → Int32 := (if (F 4) < (F 3) then (if (F 3) < (F 2) then (if (F 2) < (F 1) then (if (F 1) < (F 0) then F else (if (F 4) < (F 0) then (if (F 3) < (F 0) then (if (F 2) < (F 0) then (sw (sw (sw F (0 : Int32).toNatClampNeg (1 : Int32).toNatClampNeg) (1 : Int32).toNatClampNeg (4 : Int32).toNatClampNeg) (2 : Int32).toNatClampNeg (3 : Int32).toNatClampNeg) else (sw (sw (sw F (0 : Int32).toNatClampNeg (2 : Int32).toNatClampNeg) (1 : Int32).toNatClampNeg (4 : Int32).toNatClampNeg) (2 : Int32).toNatClampNeg (3 : Int32).toNatClampNeg)) else (sw (sw (sw F (0 : Int32).toNatClampNeg (3 : Int32).toNatClampNeg) (1 : Int32).toNatClampNeg (4 : Int32).toNatClampNeg) (2 : Int32).toNatClampNeg (3 : Int32).toNatClampNeg)) else (sw (sw (sw F (0 : Int32).toNatClampNeg (4 : Int32).toNatClampNeg) (1 : Int32).toNatClampNeg (4 : Int32).toNatClampNeg) (2 : Int32).toNatClampNeg (3 : Int32).toNatClampNeg))) else (if (F 4) < (F 1) then (if (F 3) < (F 1) then (sw (sw F (1 : Int32).toNatClampNeg (2 : Int32).toNatClampNeg) (2 : Int32).toNatClampNeg (4 : Int32).toNatClampNeg) else (sw (sw F (1 : Int32).toNatClampNeg (3 : Int32).toNatClampNeg) (2 : Int32).toNatClampNeg (4 : Int32).toNatClampNeg)) else (sw (sw F (1 : Int32).toNatClampNeg (4 : Int32).toNatClampNeg) (2 : Int32).toNatClampNeg (4 : Int32).toNatClampNeg))) else (if (F 4) < (F 2) then (sw (sw F (2 : Int32).toNatClampNeg (3 : Int32).toNatClampNeg) (3 : Int32).toNatClampNeg (4 : Int32).toNatClampNeg) else (sw (sw F (2 : Int32).toNatClampNeg (4 : Int32).toNatClampNeg) (3 : Int32).toNatClampNeg (4 : Int32).toNatClampNeg))) else (sw F (3 : Int32).toNatClampNeg (4 : Int32).toNatClampNeg))
def nx5R (F : Nat → Int32) : Prop := ¬ ((F 4) < (F 3)) ∨ ((((F 3) < (F 2)) ∧ ((((F 2) < (F 1)) ∧ (¬ ((F 1) < (F 0)) ∧ (¬ ((F 4) < (F 0)) ∨ (¬ ((F 3) < (F 0)) ∨ (((F 2) < (F 0)) ∨ True))))) ∨ (¬ ((F 2) < (F 1)) ∧ (¬ ((F 4) < (F 1)) ∨ (((F 3) < (F 1)) ∨ True))))) ∨ (¬ ((F 3) < (F 2)) ∧ (((F 4) < (F 2)) ∨ True)))
instance nx5R_dec (F : Nat → Int32) : Decidable (nx5R F) := inferInstanceAs (Decidable (¬ ((F 4) < (F 3)) ∨ ((((F 3) < (F 2)) ∧ ((((F 2) < (F 1)) ∧ (¬ ((F 1) < (F 0)) ∧ (¬ ((F 4) < (F 0)) ∨ (¬ ((F 3) < (F 0)) ∨ (((F 2) < (F 0)) ∨ True))))) ∨ (¬ ((F 2) < (F 1)) ∧ (¬ ((F 4) < (F 1)) ∨ (((F 3) < (F 1)) ∨ True))))) ∨ (¬ ((F 3) < (F 2)) ∧ (((F 4) < (F 2)) ∨ True)))))
theorem own_stB {F : Nat → Int32} (hF : ∀ j : Nat, j < 5 → 0 ≤ (F j).toInt ∧ (F j).toInt < (5 : Nat)) {i n : Int32} {C : Prop} [Decidable C] (hi : 0 ≤ i.toInt ∧ i.toInt < (5 : Nat)) (hn : 0 ≤ n.toInt ∧ n.toInt ≤ 5) : ∀ j : Nat, j < 5 → 0 ≤ (stF F i n C j).toInt ∧ (stF F i n C j).toInt < (5 : Nat) := by
  intro j hj
  have a := hF j hj
  have f := hF i.toNatClampNeg (own_ixn hi)
  unfold stF
  split
  · split
    · split
      · rename_i q
        simp only [own_up]
        split
        · have q1 := own_iaddE (F i.toNatClampNeg) 1 (by simp only [Int32.reduceToInt]; omega)
          have q2 := own_isubE n i (by omega)
          simp only [Int32.lt_iff_toInt_lt] at q
          rw [q1, q2] at q
          rw [q1]; simp only [Int32.reduceToInt] at q ⊢; omega
        · exact a
      · simp only [own_up]
        split
        · simp only [Int32.reduceToInt]; omega
        · exact a
    · exact a
  · exact a
theorem own_incB {F : Nat → Int32} (hF : ∀ j : Nat, j < 5 → 0 ≤ (F j).toInt ∧ (F j).toInt < (5 : Nat)) {n : Int32} (hn : 0 ≤ n.toInt ∧ n.toInt ≤ 5) : ∀ j : Nat, j < 5 → 0 ≤ (incF F n j).toInt ∧ (incF F n j).toInt < (5 : Nat) := by
  unfold incF
  exact own_stB (own_stB (own_stB (own_stB (own_stB hF (by decide) hn) (by decide) hn) (by decide) hn) (by decide) hn) (by decide) hn
theorem own_chB {F : Nat → Int32} (hF : ∀ j : Nat, j < 5 → 0 ≤ (F j).toInt ∧ (F j).toInt < (5 : Nat)) {i : Nat} {x : Int32} (hx : 0 ≤ x.toInt ∧ x.toInt < (5 : Nat)) : ∀ j : Nat, j < 5 → 0 ≤ (own_up F i x j).toInt ∧ (own_up F i x j).toInt < (5 : Nat) := by
  intro j hj; simp only [own_up]; split
  · exact hx
  · exact hF j hj
theorem own_n6 {x p : Int32} (h : x = (p &&& (7 : Int32)) % (6 : Int32)) : x = (0 : Int32) ∨ x = (1 : Int32) ∨ x = (2 : Int32) ∨ x = (3 : Int32) ∨ x = (4 : Int32) ∨ x = (5 : Int32) := by
  have a := own_mB p 7 3 (by decide) (by decide) 7 (by decide)
  have b := own_iremB (p &&& 7) 6 6 (by decide) (by decide) a.1
  rw [← h] at b
  simp only [← Int32.toInt_inj, Int32.reduceToInt]; omega
theorem own_toFin {x : Int32} (n : Nat) (hn : n ≤ 100) (h : 0 ≤ x.toInt ∧ x.toInt < (n : Int)) : ∃ k : Fin n, x = Int32.ofNat k.val := by
  refine ⟨⟨x.toNatClampNeg, own_ixn h⟩, ?_⟩
  apply Int32.toInt_inj.mp
  rw [Int32.toInt_ofNat_small (by have := own_ixn h; show x.toNatClampNeg < 2 ^ 31; omega)]
  simp only [Int32.toNatClampNeg]; omega
theorem own_fin1 : (incR (own_up (own_up (own_up (own_up (own_up (fun _ => 0) 0 (0 : Int32)) 1 (0 : Int32)) 2 (0 : Int32)) 3 (0 : Int32)) 4 (0 : Int32)) (0 : Int32)) → (¬ (incR (own_up (own_up (own_up (own_up (own_up (fun _ => 0) 0 (0 : Int32)) 1 (0 : Int32)) 2 (0 : Int32)) 3 (0 : Int32)) 4 (0 : Int32)) (0 : Int32))) := by decide +kernel
theorem own_fin2 : (¬ (incR (own_up (own_up (own_up (own_up (own_up (fun _ => 0) 0 (0 : Int32)) 1 (0 : Int32)) 2 (0 : Int32)) 3 (0 : Int32)) 4 (0 : Int32)) (0 : Int32))) → (¬ (incR (own_up (own_up (own_up (own_up (own_up (fun _ => 0) 0 (0 : Int32)) 1 (0 : Int32)) 2 (0 : Int32)) 3 (0 : Int32)) 4 (0 : Int32)) (0 : Int32))) := by decide +kernel
theorem own_fin3 : (incR (own_up (own_up (own_up (own_up (own_up (fun _ => 0) 0 (0 : Int32)) 1 (0 : Int32)) 2 (0 : Int32)) 3 (0 : Int32)) 4 (0 : Int32)) (1 : Int32)) → ((¬ (incR (own_up (own_up (own_up (own_up (own_up (fun _ => 0) 0 (0 : Int32)) 1 (0 : Int32)) 2 (0 : Int32)) 3 (0 : Int32)) 4 (0 : Int32)) (1 : Int32))) ∧ (((nx1F (bld1 (own_up (own_up (own_up (own_up (own_up (fun _ => 0) 0 (0 : Int32)) 1 (0 : Int32)) 2 (0 : Int32)) 3 (0 : Int32)) 4 (0 : Int32)))) 0) = ((bld1 (incF (own_up (own_up (own_up (own_up (own_up (fun _ => 0) 0 (0 : Int32)) 1 (0 : Int32)) 2 (0 : Int32)) 3 (0 : Int32)) 4 (0 : Int32)) (1 : Int32))) 0))) := by decide +kernel
theorem own_fin4 : (¬ (incR (own_up (own_up (own_up (own_up (own_up (fun _ => 0) 0 (0 : Int32)) 1 (0 : Int32)) 2 (0 : Int32)) 3 (0 : Int32)) 4 (0 : Int32)) (1 : Int32))) → ((¬ (incR (own_up (own_up (own_up (own_up (own_up (fun _ => 0) 0 (0 : Int32)) 1 (0 : Int32)) 2 (0 : Int32)) 3 (0 : Int32)) 4 (0 : Int32)) (1 : Int32))) ∧ (((nx1F (bld1 (own_up (own_up (own_up (own_up (own_up (fun _ => 0) 0 (0 : Int32)) 1 (0 : Int32)) 2 (0 : Int32)) 3 (0 : Int32)) 4 (0 : Int32)))) 0) = ((bld1 (own_up (own_up (own_up (own_up (own_up (fun _ => 0) 0 (0 : Int32)) 1 (0 : Int32)) 2 (0 : Int32)) 3 (0 : Int32)) 4 (0 : Int32))) 0))) := by decide +kernel
theorem own_fin5 : ∀ kr20 : Fin 2, (incR (own_up (own_up (own_up (own_up (own_up (fun _ => 0) 0 (Int32.ofNat kr20.val)) 1 (0 : Int32)) 2 (0 : Int32)) 3 (0 : Int32)) 4 (0 : Int32)) (2 : Int32)) → (((nx2R (bld2 (own_up (own_up (own_up (own_up (own_up (fun _ => 0) 0 (Int32.ofNat kr20.val)) 1 (0 : Int32)) 2 (0 : Int32)) 3 (0 : Int32)) 4 (0 : Int32)))) ↔ (incR (own_up (own_up (own_up (own_up (own_up (fun _ => 0) 0 (Int32.ofNat kr20.val)) 1 (0 : Int32)) 2 (0 : Int32)) 3 (0 : Int32)) 4 (0 : Int32)) (2 : Int32))) ∧ ((((nx2F (bld2 (own_up (own_up (own_up (own_up (own_up (fun _ => 0) 0 (Int32.ofNat kr20.val)) 1 (0 : Int32)) 2 (0 : Int32)) 3 (0 : Int32)) 4 (0 : Int32)))) 0) = ((bld2 (incF (own_up (own_up (own_up (own_up (own_up (fun _ => 0) 0 (Int32.ofNat kr20.val)) 1 (0 : Int32)) 2 (0 : Int32)) 3 (0 : Int32)) 4 (0 : Int32)) (2 : Int32))) 0)) ∧ (((nx2F (bld2 (own_up (own_up (own_up (own_up (own_up (fun _ => 0) 0 (Int32.ofNat kr20.val)) 1 (0 : Int32)) 2 (0 : Int32)) 3 (0 : Int32)) 4 (0 : Int32)))) 1) = ((bld2 (incF (own_up (own_up (own_up (own_up (own_up (fun _ => 0) 0 (Int32.ofNat kr20.val)) 1 (0 : Int32)) 2 (0 : Int32)) 3 (0 : Int32)) 4 (0 : Int32)) (2 : Int32))) 1)))) := by decide +kernel
theorem own_fin6 : ∀ kr20 : Fin 2, (¬ (incR (own_up (own_up (own_up (own_up (own_up (fun _ => 0) 0 (Int32.ofNat kr20.val)) 1 (0 : Int32)) 2 (0 : Int32)) 3 (0 : Int32)) 4 (0 : Int32)) (2 : Int32))) → (((nx2R (bld2 (own_up (own_up (own_up (own_up (own_up (fun _ => 0) 0 (Int32.ofNat kr20.val)) 1 (0 : Int32)) 2 (0 : Int32)) 3 (0 : Int32)) 4 (0 : Int32)))) ↔ (incR (own_up (own_up (own_up (own_up (own_up (fun _ => 0) 0 (Int32.ofNat kr20.val)) 1 (0 : Int32)) 2 (0 : Int32)) 3 (0 : Int32)) 4 (0 : Int32)) (2 : Int32))) ∧ ((((nx2F (bld2 (own_up (own_up (own_up (own_up (own_up (fun _ => 0) 0 (Int32.ofNat kr20.val)) 1 (0 : Int32)) 2 (0 : Int32)) 3 (0 : Int32)) 4 (0 : Int32)))) 0) = ((bld2 (own_up (own_up (own_up (own_up (own_up (fun _ => 0) 0 (Int32.ofNat kr20.val)) 1 (0 : Int32)) 2 (0 : Int32)) 3 (0 : Int32)) 4 (0 : Int32))) 0)) ∧ (((nx2F (bld2 (own_up (own_up (own_up (own_up (own_up (fun _ => 0) 0 (Int32.ofNat kr20.val)) 1 (0 : Int32)) 2 (0 : Int32)) 3 (0 : Int32)) 4 (0 : Int32)))) 1) = ((bld2 (own_up (own_up (own_up (own_up (own_up (fun _ => 0) 0 (Int32.ofNat kr20.val)) 1 (0 : Int32)) 2 (0 : Int32)) 3 (0 : Int32)) 4 (0 : Int32))) 1)))) := by decide +kernel
theorem own_fin7 : ∀ kr20 : Fin 3, ∀ kr32 : Fin 2, (incR (own_up (own_up (own_up (own_up (own_up (fun _ => 0) 0 (Int32.ofNat kr20.val)) 1 (Int32.ofNat kr32.val)) 2 (0 : Int32)) 3 (0 : Int32)) 4 (0 : Int32)) (3 : Int32)) → (((nx3R (bld3 (own_up (own_up (own_up (own_up (own_up (fun _ => 0) 0 (Int32.ofNat kr20.val)) 1 (Int32.ofNat kr32.val)) 2 (0 : Int32)) 3 (0 : Int32)) 4 (0 : Int32)))) ↔ (incR (own_up (own_up (own_up (own_up (own_up (fun _ => 0) 0 (Int32.ofNat kr20.val)) 1 (Int32.ofNat kr32.val)) 2 (0 : Int32)) 3 (0 : Int32)) 4 (0 : Int32)) (3 : Int32))) ∧ ((((nx3F (bld3 (own_up (own_up (own_up (own_up (own_up (fun _ => 0) 0 (Int32.ofNat kr20.val)) 1 (Int32.ofNat kr32.val)) 2 (0 : Int32)) 3 (0 : Int32)) 4 (0 : Int32)))) 0) = ((bld3 (incF (own_up (own_up (own_up (own_up (own_up (fun _ => 0) 0 (Int32.ofNat kr20.val)) 1 (Int32.ofNat kr32.val)) 2 (0 : Int32)) 3 (0 : Int32)) 4 (0 : Int32)) (3 : Int32))) 0)) ∧ ((((nx3F (bld3 (own_up (own_up (own_up (own_up (own_up (fun _ => 0) 0 (Int32.ofNat kr20.val)) 1 (Int32.ofNat kr32.val)) 2 (0 : Int32)) 3 (0 : Int32)) 4 (0 : Int32)))) 1) = ((bld3 (incF (own_up (own_up (own_up (own_up (own_up (fun _ => 0) 0 (Int32.ofNat kr20.val)) 1 (Int32.ofNat kr32.val)) 2 (0 : Int32)) 3 (0 : Int32)) 4 (0 : Int32)) (3 : Int32))) 1)) ∧ (((nx3F (bld3 (own_up (own_up (own_up (own_up (own_up (fun _ => 0) 0 (Int32.ofNat kr20.val)) 1 (Int32.ofNat kr32.val)) 2 (0 : Int32)) 3 (0 : Int32)) 4 (0 : Int32)))) 2) = ((bld3 (incF (own_up (own_up (own_up (own_up (own_up (fun _ => 0) 0 (Int32.ofNat kr20.val)) 1 (Int32.ofNat kr32.val)) 2 (0 : Int32)) 3 (0 : Int32)) 4 (0 : Int32)) (3 : Int32))) 2))))) := by decide +kernel
theorem own_fin8 : ∀ kr20 : Fin 3, ∀ kr32 : Fin 2, (¬ (incR (own_up (own_up (own_up (own_up (own_up (fun _ => 0) 0 (Int32.ofNat kr20.val)) 1 (Int32.ofNat kr32.val)) 2 (0 : Int32)) 3 (0 : Int32)) 4 (0 : Int32)) (3 : Int32))) → (((nx3R (bld3 (own_up (own_up (own_up (own_up (own_up (fun _ => 0) 0 (Int32.ofNat kr20.val)) 1 (Int32.ofNat kr32.val)) 2 (0 : Int32)) 3 (0 : Int32)) 4 (0 : Int32)))) ↔ (incR (own_up (own_up (own_up (own_up (own_up (fun _ => 0) 0 (Int32.ofNat kr20.val)) 1 (Int32.ofNat kr32.val)) 2 (0 : Int32)) 3 (0 : Int32)) 4 (0 : Int32)) (3 : Int32))) ∧ ((((nx3F (bld3 (own_up (own_up (own_up (own_up (own_up (fun _ => 0) 0 (Int32.ofNat kr20.val)) 1 (Int32.ofNat kr32.val)) 2 (0 : Int32)) 3 (0 : Int32)) 4 (0 : Int32)))) 0) = ((bld3 (own_up (own_up (own_up (own_up (own_up (fun _ => 0) 0 (Int32.ofNat kr20.val)) 1 (Int32.ofNat kr32.val)) 2 (0 : Int32)) 3 (0 : Int32)) 4 (0 : Int32))) 0)) ∧ ((((nx3F (bld3 (own_up (own_up (own_up (own_up (own_up (fun _ => 0) 0 (Int32.ofNat kr20.val)) 1 (Int32.ofNat kr32.val)) 2 (0 : Int32)) 3 (0 : Int32)) 4 (0 : Int32)))) 1) = ((bld3 (own_up (own_up (own_up (own_up (own_up (fun _ => 0) 0 (Int32.ofNat kr20.val)) 1 (Int32.ofNat kr32.val)) 2 (0 : Int32)) 3 (0 : Int32)) 4 (0 : Int32))) 1)) ∧ (((nx3F (bld3 (own_up (own_up (own_up (own_up (own_up (fun _ => 0) 0 (Int32.ofNat kr20.val)) 1 (Int32.ofNat kr32.val)) 2 (0 : Int32)) 3 (0 : Int32)) 4 (0 : Int32)))) 2) = ((bld3 (own_up (own_up (own_up (own_up (own_up (fun _ => 0) 0 (Int32.ofNat kr20.val)) 1 (Int32.ofNat kr32.val)) 2 (0 : Int32)) 3 (0 : Int32)) 4 (0 : Int32))) 2))))) := by decide +kernel
theorem own_fin9 : ∀ kr20 : Fin 4, ∀ kr32 : Fin 3, ∀ kr44 : Fin 2, (incR (own_up (own_up (own_up (own_up (own_up (fun _ => 0) 0 (Int32.ofNat kr20.val)) 1 (Int32.ofNat kr32.val)) 2 (Int32.ofNat kr44.val)) 3 (0 : Int32)) 4 (0 : Int32)) (4 : Int32)) → (((nx4R (bld4 (own_up (own_up (own_up (own_up (own_up (fun _ => 0) 0 (Int32.ofNat kr20.val)) 1 (Int32.ofNat kr32.val)) 2 (Int32.ofNat kr44.val)) 3 (0 : Int32)) 4 (0 : Int32)))) ↔ (incR (own_up (own_up (own_up (own_up (own_up (fun _ => 0) 0 (Int32.ofNat kr20.val)) 1 (Int32.ofNat kr32.val)) 2 (Int32.ofNat kr44.val)) 3 (0 : Int32)) 4 (0 : Int32)) (4 : Int32))) ∧ ((((nx4F (bld4 (own_up (own_up (own_up (own_up (own_up (fun _ => 0) 0 (Int32.ofNat kr20.val)) 1 (Int32.ofNat kr32.val)) 2 (Int32.ofNat kr44.val)) 3 (0 : Int32)) 4 (0 : Int32)))) 0) = ((bld4 (incF (own_up (own_up (own_up (own_up (own_up (fun _ => 0) 0 (Int32.ofNat kr20.val)) 1 (Int32.ofNat kr32.val)) 2 (Int32.ofNat kr44.val)) 3 (0 : Int32)) 4 (0 : Int32)) (4 : Int32))) 0)) ∧ ((((nx4F (bld4 (own_up (own_up (own_up (own_up (own_up (fun _ => 0) 0 (Int32.ofNat kr20.val)) 1 (Int32.ofNat kr32.val)) 2 (Int32.ofNat kr44.val)) 3 (0 : Int32)) 4 (0 : Int32)))) 1) = ((bld4 (incF (own_up (own_up (own_up (own_up (own_up (fun _ => 0) 0 (Int32.ofNat kr20.val)) 1 (Int32.ofNat kr32.val)) 2 (Int32.ofNat kr44.val)) 3 (0 : Int32)) 4 (0 : Int32)) (4 : Int32))) 1)) ∧ ((((nx4F (bld4 (own_up (own_up (own_up (own_up (own_up (fun _ => 0) 0 (Int32.ofNat kr20.val)) 1 (Int32.ofNat kr32.val)) 2 (Int32.ofNat kr44.val)) 3 (0 : Int32)) 4 (0 : Int32)))) 2) = ((bld4 (incF (own_up (own_up (own_up (own_up (own_up (fun _ => 0) 0 (Int32.ofNat kr20.val)) 1 (Int32.ofNat kr32.val)) 2 (Int32.ofNat kr44.val)) 3 (0 : Int32)) 4 (0 : Int32)) (4 : Int32))) 2)) ∧ (((nx4F (bld4 (own_up (own_up (own_up (own_up (own_up (fun _ => 0) 0 (Int32.ofNat kr20.val)) 1 (Int32.ofNat kr32.val)) 2 (Int32.ofNat kr44.val)) 3 (0 : Int32)) 4 (0 : Int32)))) 3) = ((bld4 (incF (own_up (own_up (own_up (own_up (own_up (fun _ => 0) 0 (Int32.ofNat kr20.val)) 1 (Int32.ofNat kr32.val)) 2 (Int32.ofNat kr44.val)) 3 (0 : Int32)) 4 (0 : Int32)) (4 : Int32))) 3)))))) := by decide +kernel
theorem own_fin10 : ∀ kr20 : Fin 4, ∀ kr32 : Fin 3, ∀ kr44 : Fin 2, (¬ (incR (own_up (own_up (own_up (own_up (own_up (fun _ => 0) 0 (Int32.ofNat kr20.val)) 1 (Int32.ofNat kr32.val)) 2 (Int32.ofNat kr44.val)) 3 (0 : Int32)) 4 (0 : Int32)) (4 : Int32))) → (((nx4R (bld4 (own_up (own_up (own_up (own_up (own_up (fun _ => 0) 0 (Int32.ofNat kr20.val)) 1 (Int32.ofNat kr32.val)) 2 (Int32.ofNat kr44.val)) 3 (0 : Int32)) 4 (0 : Int32)))) ↔ (incR (own_up (own_up (own_up (own_up (own_up (fun _ => 0) 0 (Int32.ofNat kr20.val)) 1 (Int32.ofNat kr32.val)) 2 (Int32.ofNat kr44.val)) 3 (0 : Int32)) 4 (0 : Int32)) (4 : Int32))) ∧ ((((nx4F (bld4 (own_up (own_up (own_up (own_up (own_up (fun _ => 0) 0 (Int32.ofNat kr20.val)) 1 (Int32.ofNat kr32.val)) 2 (Int32.ofNat kr44.val)) 3 (0 : Int32)) 4 (0 : Int32)))) 0) = ((bld4 (own_up (own_up (own_up (own_up (own_up (fun _ => 0) 0 (Int32.ofNat kr20.val)) 1 (Int32.ofNat kr32.val)) 2 (Int32.ofNat kr44.val)) 3 (0 : Int32)) 4 (0 : Int32))) 0)) ∧ ((((nx4F (bld4 (own_up (own_up (own_up (own_up (own_up (fun _ => 0) 0 (Int32.ofNat kr20.val)) 1 (Int32.ofNat kr32.val)) 2 (Int32.ofNat kr44.val)) 3 (0 : Int32)) 4 (0 : Int32)))) 1) = ((bld4 (own_up (own_up (own_up (own_up (own_up (fun _ => 0) 0 (Int32.ofNat kr20.val)) 1 (Int32.ofNat kr32.val)) 2 (Int32.ofNat kr44.val)) 3 (0 : Int32)) 4 (0 : Int32))) 1)) ∧ ((((nx4F (bld4 (own_up (own_up (own_up (own_up (own_up (fun _ => 0) 0 (Int32.ofNat kr20.val)) 1 (Int32.ofNat kr32.val)) 2 (Int32.ofNat kr44.val)) 3 (0 : Int32)) 4 (0 : Int32)))) 2) = ((bld4 (own_up (own_up (own_up (own_up (own_up (fun _ => 0) 0 (Int32.ofNat kr20.val)) 1 (Int32.ofNat kr32.val)) 2 (Int32.ofNat kr44.val)) 3 (0 : Int32)) 4 (0 : Int32))) 2)) ∧ (((nx4F (bld4 (own_up (own_up (own_up (own_up (own_up (fun _ => 0) 0 (Int32.ofNat kr20.val)) 1 (Int32.ofNat kr32.val)) 2 (Int32.ofNat kr44.val)) 3 (0 : Int32)) 4 (0 : Int32)))) 3) = ((bld4 (own_up (own_up (own_up (own_up (own_up (fun _ => 0) 0 (Int32.ofNat kr20.val)) 1 (Int32.ofNat kr32.val)) 2 (Int32.ofNat kr44.val)) 3 (0 : Int32)) 4 (0 : Int32))) 3)))))) := by decide +kernel
theorem own_fin11 : ∀ kr20 : Fin 5, ∀ kr32 : Fin 4, ∀ kr44 : Fin 3, ∀ kr57 : Fin 2, (incR (own_up (own_up (own_up (own_up (own_up (fun _ => 0) 0 (Int32.ofNat kr20.val)) 1 (Int32.ofNat kr32.val)) 2 (Int32.ofNat kr44.val)) 3 (Int32.ofNat kr57.val)) 4 (0 : Int32)) (5 : Int32)) → (((nx5R (bld5 (own_up (own_up (own_up (own_up (own_up (fun _ => 0) 0 (Int32.ofNat kr20.val)) 1 (Int32.ofNat kr32.val)) 2 (Int32.ofNat kr44.val)) 3 (Int32.ofNat kr57.val)) 4 (0 : Int32)))) ↔ (incR (own_up (own_up (own_up (own_up (own_up (fun _ => 0) 0 (Int32.ofNat kr20.val)) 1 (Int32.ofNat kr32.val)) 2 (Int32.ofNat kr44.val)) 3 (Int32.ofNat kr57.val)) 4 (0 : Int32)) (5 : Int32))) ∧ ((((nx5F (bld5 (own_up (own_up (own_up (own_up (own_up (fun _ => 0) 0 (Int32.ofNat kr20.val)) 1 (Int32.ofNat kr32.val)) 2 (Int32.ofNat kr44.val)) 3 (Int32.ofNat kr57.val)) 4 (0 : Int32)))) 0) = ((bld5 (incF (own_up (own_up (own_up (own_up (own_up (fun _ => 0) 0 (Int32.ofNat kr20.val)) 1 (Int32.ofNat kr32.val)) 2 (Int32.ofNat kr44.val)) 3 (Int32.ofNat kr57.val)) 4 (0 : Int32)) (5 : Int32))) 0)) ∧ ((((nx5F (bld5 (own_up (own_up (own_up (own_up (own_up (fun _ => 0) 0 (Int32.ofNat kr20.val)) 1 (Int32.ofNat kr32.val)) 2 (Int32.ofNat kr44.val)) 3 (Int32.ofNat kr57.val)) 4 (0 : Int32)))) 1) = ((bld5 (incF (own_up (own_up (own_up (own_up (own_up (fun _ => 0) 0 (Int32.ofNat kr20.val)) 1 (Int32.ofNat kr32.val)) 2 (Int32.ofNat kr44.val)) 3 (Int32.ofNat kr57.val)) 4 (0 : Int32)) (5 : Int32))) 1)) ∧ ((((nx5F (bld5 (own_up (own_up (own_up (own_up (own_up (fun _ => 0) 0 (Int32.ofNat kr20.val)) 1 (Int32.ofNat kr32.val)) 2 (Int32.ofNat kr44.val)) 3 (Int32.ofNat kr57.val)) 4 (0 : Int32)))) 2) = ((bld5 (incF (own_up (own_up (own_up (own_up (own_up (fun _ => 0) 0 (Int32.ofNat kr20.val)) 1 (Int32.ofNat kr32.val)) 2 (Int32.ofNat kr44.val)) 3 (Int32.ofNat kr57.val)) 4 (0 : Int32)) (5 : Int32))) 2)) ∧ ((((nx5F (bld5 (own_up (own_up (own_up (own_up (own_up (fun _ => 0) 0 (Int32.ofNat kr20.val)) 1 (Int32.ofNat kr32.val)) 2 (Int32.ofNat kr44.val)) 3 (Int32.ofNat kr57.val)) 4 (0 : Int32)))) 3) = ((bld5 (incF (own_up (own_up (own_up (own_up (own_up (fun _ => 0) 0 (Int32.ofNat kr20.val)) 1 (Int32.ofNat kr32.val)) 2 (Int32.ofNat kr44.val)) 3 (Int32.ofNat kr57.val)) 4 (0 : Int32)) (5 : Int32))) 3)) ∧ (((nx5F (bld5 (own_up (own_up (own_up (own_up (own_up (fun _ => 0) 0 (Int32.ofNat kr20.val)) 1 (Int32.ofNat kr32.val)) 2 (Int32.ofNat kr44.val)) 3 (Int32.ofNat kr57.val)) 4 (0 : Int32)))) 4) = ((bld5 (incF (own_up (own_up (own_up (own_up (own_up (fun _ => 0) 0 (Int32.ofNat kr20.val)) 1 (Int32.ofNat kr32.val)) 2 (Int32.ofNat kr44.val)) 3 (Int32.ofNat kr57.val)) 4 (0 : Int32)) (5 : Int32))) 4))))))) := by decide +kernel
theorem own_fin12 : ∀ kr20 : Fin 5, ∀ kr32 : Fin 4, ∀ kr44 : Fin 3, ∀ kr57 : Fin 2, (¬ (incR (own_up (own_up (own_up (own_up (own_up (fun _ => 0) 0 (Int32.ofNat kr20.val)) 1 (Int32.ofNat kr32.val)) 2 (Int32.ofNat kr44.val)) 3 (Int32.ofNat kr57.val)) 4 (0 : Int32)) (5 : Int32))) → (((nx5R (bld5 (own_up (own_up (own_up (own_up (own_up (fun _ => 0) 0 (Int32.ofNat kr20.val)) 1 (Int32.ofNat kr32.val)) 2 (Int32.ofNat kr44.val)) 3 (Int32.ofNat kr57.val)) 4 (0 : Int32)))) ↔ (incR (own_up (own_up (own_up (own_up (own_up (fun _ => 0) 0 (Int32.ofNat kr20.val)) 1 (Int32.ofNat kr32.val)) 2 (Int32.ofNat kr44.val)) 3 (Int32.ofNat kr57.val)) 4 (0 : Int32)) (5 : Int32))) ∧ ((((nx5F (bld5 (own_up (own_up (own_up (own_up (own_up (fun _ => 0) 0 (Int32.ofNat kr20.val)) 1 (Int32.ofNat kr32.val)) 2 (Int32.ofNat kr44.val)) 3 (Int32.ofNat kr57.val)) 4 (0 : Int32)))) 0) = ((bld5 (own_up (own_up (own_up (own_up (own_up (fun _ => 0) 0 (Int32.ofNat kr20.val)) 1 (Int32.ofNat kr32.val)) 2 (Int32.ofNat kr44.val)) 3 (Int32.ofNat kr57.val)) 4 (0 : Int32))) 0)) ∧ ((((nx5F (bld5 (own_up (own_up (own_up (own_up (own_up (fun _ => 0) 0 (Int32.ofNat kr20.val)) 1 (Int32.ofNat kr32.val)) 2 (Int32.ofNat kr44.val)) 3 (Int32.ofNat kr57.val)) 4 (0 : Int32)))) 1) = ((bld5 (own_up (own_up (own_up (own_up (own_up (fun _ => 0) 0 (Int32.ofNat kr20.val)) 1 (Int32.ofNat kr32.val)) 2 (Int32.ofNat kr44.val)) 3 (Int32.ofNat kr57.val)) 4 (0 : Int32))) 1)) ∧ ((((nx5F (bld5 (own_up (own_up (own_up (own_up (own_up (fun _ => 0) 0 (Int32.ofNat kr20.val)) 1 (Int32.ofNat kr32.val)) 2 (Int32.ofNat kr44.val)) 3 (Int32.ofNat kr57.val)) 4 (0 : Int32)))) 2) = ((bld5 (own_up (own_up (own_up (own_up (own_up (fun _ => 0) 0 (Int32.ofNat kr20.val)) 1 (Int32.ofNat kr32.val)) 2 (Int32.ofNat kr44.val)) 3 (Int32.ofNat kr57.val)) 4 (0 : Int32))) 2)) ∧ ((((nx5F (bld5 (own_up (own_up (own_up (own_up (own_up (fun _ => 0) 0 (Int32.ofNat kr20.val)) 1 (Int32.ofNat kr32.val)) 2 (Int32.ofNat kr44.val)) 3 (Int32.ofNat kr57.val)) 4 (0 : Int32)))) 3) = ((bld5 (own_up (own_up (own_up (own_up (own_up (fun _ => 0) 0 (Int32.ofNat kr20.val)) 1 (Int32.ofNat kr32.val)) 2 (Int32.ofNat kr44.val)) 3 (Int32.ofNat kr57.val)) 4 (0 : Int32))) 3)) ∧ (((nx5F (bld5 (own_up (own_up (own_up (own_up (own_up (fun _ => 0) 0 (Int32.ofNat kr20.val)) 1 (Int32.ofNat kr32.val)) 2 (Int32.ofNat kr44.val)) 3 (Int32.ofNat kr57.val)) 4 (0 : Int32)))) 4) = ((bld5 (own_up (own_up (own_up (own_up (own_up (fun _ => 0) 0 (Int32.ofNat kr20.val)) 1 (Int32.ofNat kr32.val)) 2 (Int32.ofNat kr44.val)) 3 (Int32.ofNat kr57.val)) 4 (0 : Int32))) 4))))))) := by decide +kernel
theorem pn1_rm5 : plainName "com/example/eulay/eulay/generation/PermutationsNextPinLaw" = true := by first | (simp [plainName, overriddenIn]; done) | decide +kernel
theorem ef1_rm5 (m : MethodId) (x0 : Int32) (x1 : Int32) : entryFrame m #[(.int x0), (.int x1)] 2 = mkF m 0 #[.val (.int x0), .val (.int x1)] [] := by first | (simp [entryFrame, mkF, argsToLocals, Value.category]; done) | rfl
set_option maxRecDepth 65536 in
set_option maxHeartbeats 40000000 in
theorem rm1_rm5 (l : Launch) (Z : State) (a0 : Array Value) (hw : ∀ d ∈ tables_1, d.before a0 Z = true) (ws : List Jvm.Cond) (p1 : Int32) (h0 : Heap) (n0 : Nat) (Z0 : n0 ≤ h0.size) :
    Met l Z (⟨"com/example/eulay/eulay/generation/PermutationsNextPinLaw", "digit", "(II)I"⟩ : MethodName) method_3_code 2 (some .int) ({ frames := 0, cells := 0, slots := 0, locals := 0 } : Room) ws n0 #[(.int p1), (.int (-5 : Int32))] h0 (fun v h' => v = some (.int (0 : Int32)) ∧ h0 = h') := by
  refine Met.intro (plainFor_of_name pn1_rm5) Z0 ?_
  intro p e s m below meth c T X
  refine g_cast (ef1_rm5 m p1 (-5 : Int32)) ?_
  refine g_iloadN X d1_0 rfl (q := 1) rfl ?_
  refine g_iconst X d1_1 rfl (q := 2) (v := 1) rfl ?_
  refine g_jT0 X (J := 15) (L := #[.val (.int p1), .val (.int (-5 : Int32))]) (S := [(.int (0 : Int32))]) ?_ ?_
  · intro T X
    exact g_retI X d1_15 (by decide) (by decide) ⟨rfl, rfl⟩
  · intro J15_0
    refine g_icmpB X d1_2 (Or.inr (Or.inl rfl)) (q := 5) rfl (by decide) (t := 14) rfl (fun (c1 : (1 : Int32) < (-5 : Int32)) => ?_) (fun (c1 : ¬ ((1 : Int32) < (-5 : Int32))) => ?_)
    · skip
      exact absurd c1 (by decide)
    · skip
      refine g_iconst X d1_14 rfl (q := 15) (v := 0) rfl ?_
      exact J15_0 T X
theorem pn1_rm4 : plainName "com/example/eulay/eulay/generation/PermutationsNextPinLaw" = true := by first | (simp [plainName, overriddenIn]; done) | decide +kernel
theorem ef1_rm4 (m : MethodId) (x0 : Int32) (x1 : Int32) : entryFrame m #[(.int x0), (.int x1)] 2 = mkF m 0 #[.val (.int x0), .val (.int x1)] [] := by first | (simp [entryFrame, mkF, argsToLocals, Value.category]; done) | rfl
set_option maxRecDepth 65536 in
set_option maxHeartbeats 40000000 in
theorem rm1_rm4 (l : Launch) (Z : State) (a0 : Array Value) (hw : ∀ d ∈ tables_1, d.before a0 Z = true) (ws : List Jvm.Cond) (p1 : Int32) (h0 : Heap) (n0 : Nat) (Z0 : n0 ≤ h0.size) :
    Met l Z (⟨"com/example/eulay/eulay/generation/PermutationsNextPinLaw", "digit", "(II)I"⟩ : MethodName) method_3_code 2 (some .int) ({ frames := 0, cells := 0, slots := 0, locals := 0 } : Room) ws n0 #[(.int p1), (.int (-4 : Int32))] h0 (fun v h' => v = some (.int (0 : Int32)) ∧ h0 = h') := by
  refine Met.intro (plainFor_of_name pn1_rm4) Z0 ?_
  intro p e s m below meth c T X
  refine g_cast (ef1_rm4 m p1 (-4 : Int32)) ?_
  refine g_iloadN X d1_0 rfl (q := 1) rfl ?_
  refine g_iconst X d1_1 rfl (q := 2) (v := 1) rfl ?_
  refine g_jT0 X (J := 15) (L := #[.val (.int p1), .val (.int (-4 : Int32))]) (S := [(.int (0 : Int32))]) ?_ ?_
  · intro T X
    exact g_retI X d1_15 (by decide) (by decide) ⟨rfl, rfl⟩
  · intro J15_0
    refine g_icmpB X d1_2 (Or.inr (Or.inl rfl)) (q := 5) rfl (by decide) (t := 14) rfl (fun (c1 : (1 : Int32) < (-4 : Int32)) => ?_) (fun (c1 : ¬ ((1 : Int32) < (-4 : Int32))) => ?_)
    · skip
      exact absurd c1 (by decide)
    · skip
      refine g_iconst X d1_14 rfl (q := 15) (v := 0) rfl ?_
      exact J15_0 T X
theorem pn1_rm3 : plainName "com/example/eulay/eulay/generation/PermutationsNextPinLaw" = true := by first | (simp [plainName, overriddenIn]; done) | decide +kernel
theorem ef1_rm3 (m : MethodId) (x0 : Int32) (x1 : Int32) : entryFrame m #[(.int x0), (.int x1)] 2 = mkF m 0 #[.val (.int x0), .val (.int x1)] [] := by first | (simp [entryFrame, mkF, argsToLocals, Value.category]; done) | rfl
set_option maxRecDepth 65536 in
set_option maxHeartbeats 40000000 in
theorem rm1_rm3 (l : Launch) (Z : State) (a0 : Array Value) (hw : ∀ d ∈ tables_1, d.before a0 Z = true) (ws : List Jvm.Cond) (p1 : Int32) (h0 : Heap) (n0 : Nat) (Z0 : n0 ≤ h0.size) :
    Met l Z (⟨"com/example/eulay/eulay/generation/PermutationsNextPinLaw", "digit", "(II)I"⟩ : MethodName) method_3_code 2 (some .int) ({ frames := 0, cells := 0, slots := 0, locals := 0 } : Room) ws n0 #[(.int p1), (.int (-3 : Int32))] h0 (fun v h' => v = some (.int (0 : Int32)) ∧ h0 = h') := by
  refine Met.intro (plainFor_of_name pn1_rm3) Z0 ?_
  intro p e s m below meth c T X
  refine g_cast (ef1_rm3 m p1 (-3 : Int32)) ?_
  refine g_iloadN X d1_0 rfl (q := 1) rfl ?_
  refine g_iconst X d1_1 rfl (q := 2) (v := 1) rfl ?_
  refine g_jT0 X (J := 15) (L := #[.val (.int p1), .val (.int (-3 : Int32))]) (S := [(.int (0 : Int32))]) ?_ ?_
  · intro T X
    exact g_retI X d1_15 (by decide) (by decide) ⟨rfl, rfl⟩
  · intro J15_0
    refine g_icmpB X d1_2 (Or.inr (Or.inl rfl)) (q := 5) rfl (by decide) (t := 14) rfl (fun (c1 : (1 : Int32) < (-3 : Int32)) => ?_) (fun (c1 : ¬ ((1 : Int32) < (-3 : Int32))) => ?_)
    · skip
      exact absurd c1 (by decide)
    · skip
      refine g_iconst X d1_14 rfl (q := 15) (v := 0) rfl ?_
      exact J15_0 T X
theorem pn1_rm2 : plainName "com/example/eulay/eulay/generation/PermutationsNextPinLaw" = true := by first | (simp [plainName, overriddenIn]; done) | decide +kernel
theorem ef1_rm2 (m : MethodId) (x0 : Int32) (x1 : Int32) : entryFrame m #[(.int x0), (.int x1)] 2 = mkF m 0 #[.val (.int x0), .val (.int x1)] [] := by first | (simp [entryFrame, mkF, argsToLocals, Value.category]; done) | rfl
set_option maxRecDepth 65536 in
set_option maxHeartbeats 40000000 in
theorem rm1_rm2 (l : Launch) (Z : State) (a0 : Array Value) (hw : ∀ d ∈ tables_1, d.before a0 Z = true) (ws : List Jvm.Cond) (p1 : Int32) (h0 : Heap) (n0 : Nat) (Z0 : n0 ≤ h0.size) :
    Met l Z (⟨"com/example/eulay/eulay/generation/PermutationsNextPinLaw", "digit", "(II)I"⟩ : MethodName) method_3_code 2 (some .int) ({ frames := 0, cells := 0, slots := 0, locals := 0 } : Room) ws n0 #[(.int p1), (.int (-2 : Int32))] h0 (fun v h' => v = some (.int (0 : Int32)) ∧ h0 = h') := by
  refine Met.intro (plainFor_of_name pn1_rm2) Z0 ?_
  intro p e s m below meth c T X
  refine g_cast (ef1_rm2 m p1 (-2 : Int32)) ?_
  refine g_iloadN X d1_0 rfl (q := 1) rfl ?_
  refine g_iconst X d1_1 rfl (q := 2) (v := 1) rfl ?_
  refine g_jT0 X (J := 15) (L := #[.val (.int p1), .val (.int (-2 : Int32))]) (S := [(.int (0 : Int32))]) ?_ ?_
  · intro T X
    exact g_retI X d1_15 (by decide) (by decide) ⟨rfl, rfl⟩
  · intro J15_0
    refine g_icmpB X d1_2 (Or.inr (Or.inl rfl)) (q := 5) rfl (by decide) (t := 14) rfl (fun (c1 : (1 : Int32) < (-2 : Int32)) => ?_) (fun (c1 : ¬ ((1 : Int32) < (-2 : Int32))) => ?_)
    · skip
      exact absurd c1 (by decide)
    · skip
      refine g_iconst X d1_14 rfl (q := 15) (v := 0) rfl ?_
      exact J15_0 T X
theorem pn1_rm1 : plainName "com/example/eulay/eulay/generation/PermutationsNextPinLaw" = true := by first | (simp [plainName, overriddenIn]; done) | decide +kernel
theorem ef1_rm1 (m : MethodId) (x0 : Int32) (x1 : Int32) : entryFrame m #[(.int x0), (.int x1)] 2 = mkF m 0 #[.val (.int x0), .val (.int x1)] [] := by first | (simp [entryFrame, mkF, argsToLocals, Value.category]; done) | rfl
set_option maxRecDepth 65536 in
set_option maxHeartbeats 40000000 in
theorem rm1_rm1 (l : Launch) (Z : State) (a0 : Array Value) (hw : ∀ d ∈ tables_1, d.before a0 Z = true) (ws : List Jvm.Cond) (p1 : Int32) (h0 : Heap) (n0 : Nat) (Z0 : n0 ≤ h0.size) :
    Met l Z (⟨"com/example/eulay/eulay/generation/PermutationsNextPinLaw", "digit", "(II)I"⟩ : MethodName) method_3_code 2 (some .int) ({ frames := 0, cells := 0, slots := 0, locals := 0 } : Room) ws n0 #[(.int p1), (.int (-1 : Int32))] h0 (fun v h' => v = some (.int (0 : Int32)) ∧ h0 = h') := by
  refine Met.intro (plainFor_of_name pn1_rm1) Z0 ?_
  intro p e s m below meth c T X
  refine g_cast (ef1_rm1 m p1 (-1 : Int32)) ?_
  refine g_iloadN X d1_0 rfl (q := 1) rfl ?_
  refine g_iconst X d1_1 rfl (q := 2) (v := 1) rfl ?_
  refine g_jT0 X (J := 15) (L := #[.val (.int p1), .val (.int (-1 : Int32))]) (S := [(.int (0 : Int32))]) ?_ ?_
  · intro T X
    exact g_retI X d1_15 (by decide) (by decide) ⟨rfl, rfl⟩
  · intro J15_0
    refine g_icmpB X d1_2 (Or.inr (Or.inl rfl)) (q := 5) rfl (by decide) (t := 14) rfl (fun (c1 : (1 : Int32) < (-1 : Int32)) => ?_) (fun (c1 : ¬ ((1 : Int32) < (-1 : Int32))) => ?_)
    · skip
      exact absurd c1 (by decide)
    · skip
      refine g_iconst X d1_14 rfl (q := 15) (v := 0) rfl ?_
      exact J15_0 T X
theorem pn1_r0 : plainName "com/example/eulay/eulay/generation/PermutationsNextPinLaw" = true := by first | (simp [plainName, overriddenIn]; done) | decide +kernel
theorem ef1_r0 (m : MethodId) (x0 : Int32) (x1 : Int32) : entryFrame m #[(.int x0), (.int x1)] 2 = mkF m 0 #[.val (.int x0), .val (.int x1)] [] := by first | (simp [entryFrame, mkF, argsToLocals, Value.category]; done) | rfl
set_option maxRecDepth 65536 in
set_option maxHeartbeats 40000000 in
theorem rm1_r0 (l : Launch) (Z : State) (a0 : Array Value) (hw : ∀ d ∈ tables_1, d.before a0 Z = true) (ws : List Jvm.Cond) (p1 : Int32) (h0 : Heap) (n0 : Nat) (Z0 : n0 ≤ h0.size) :
    Met l Z (⟨"com/example/eulay/eulay/generation/PermutationsNextPinLaw", "digit", "(II)I"⟩ : MethodName) method_3_code 2 (some .int) ({ frames := 0, cells := 0, slots := 0, locals := 0 } : Room) ws n0 #[(.int p1), (.int (0 : Int32))] h0 (fun v h' => v = some (.int (0 : Int32)) ∧ h0 = h') := by
  refine Met.intro (plainFor_of_name pn1_r0) Z0 ?_
  intro p e s m below meth c T X
  refine g_cast (ef1_r0 m p1 (0 : Int32)) ?_
  refine g_iloadN X d1_0 rfl (q := 1) rfl ?_
  refine g_iconst X d1_1 rfl (q := 2) (v := 1) rfl ?_
  refine g_jT0 X (J := 15) (L := #[.val (.int p1), .val (.int (0 : Int32))]) (S := [(.int (0 : Int32))]) ?_ ?_
  · intro T X
    exact g_retI X d1_15 (by decide) (by decide) ⟨rfl, rfl⟩
  · intro J15_0
    refine g_icmpB X d1_2 (Or.inr (Or.inl rfl)) (q := 5) rfl (by decide) (t := 14) rfl (fun (c1 : (1 : Int32) < (0 : Int32)) => ?_) (fun (c1 : ¬ ((1 : Int32) < (0 : Int32))) => ?_)
    · skip
      exact absurd c1 (by decide)
    · skip
      refine g_iconst X d1_14 rfl (q := 15) (v := 0) rfl ?_
      exact J15_0 T X
theorem pn1_r1 : plainName "com/example/eulay/eulay/generation/PermutationsNextPinLaw" = true := by first | (simp [plainName, overriddenIn]; done) | decide +kernel
theorem ef1_r1 (m : MethodId) (x0 : Int32) (x1 : Int32) : entryFrame m #[(.int x0), (.int x1)] 2 = mkF m 0 #[.val (.int x0), .val (.int x1)] [] := by first | (simp [entryFrame, mkF, argsToLocals, Value.category]; done) | rfl
set_option maxRecDepth 65536 in
set_option maxHeartbeats 40000000 in
theorem rm1_r1 (l : Launch) (Z : State) (a0 : Array Value) (hw : ∀ d ∈ tables_1, d.before a0 Z = true) (ws : List Jvm.Cond) (p1 : Int32) (h0 : Heap) (n0 : Nat) (Z0 : n0 ≤ h0.size) :
    Met l Z (⟨"com/example/eulay/eulay/generation/PermutationsNextPinLaw", "digit", "(II)I"⟩ : MethodName) method_3_code 2 (some .int) ({ frames := 0, cells := 0, slots := 0, locals := 0 } : Room) ws n0 #[(.int p1), (.int (1 : Int32))] h0 (fun v h' => v = some (.int (0 : Int32)) ∧ h0 = h') := by
  refine Met.intro (plainFor_of_name pn1_r1) Z0 ?_
  intro p e s m below meth c T X
  refine g_cast (ef1_r1 m p1 (1 : Int32)) ?_
  refine g_iloadN X d1_0 rfl (q := 1) rfl ?_
  refine g_iconst X d1_1 rfl (q := 2) (v := 1) rfl ?_
  refine g_jT0 X (J := 15) (L := #[.val (.int p1), .val (.int (1 : Int32))]) (S := [(.int (0 : Int32))]) ?_ ?_
  · intro T X
    exact g_retI X d1_15 (by decide) (by decide) ⟨rfl, rfl⟩
  · intro J15_0
    refine g_icmpB X d1_2 (Or.inr (Or.inl rfl)) (q := 5) rfl (by decide) (t := 14) rfl (fun (c1 : (1 : Int32) < (1 : Int32)) => ?_) (fun (c1 : ¬ ((1 : Int32) < (1 : Int32))) => ?_)
    · skip
      exact absurd c1 (by decide)
    · skip
      refine g_iconst X d1_14 rfl (q := 15) (v := 0) rfl ?_
      exact J15_0 T X
theorem pn1_r2 : plainName "com/example/eulay/eulay/generation/PermutationsNextPinLaw" = true := by first | (simp [plainName, overriddenIn]; done) | decide +kernel
theorem ef1_r2 (m : MethodId) (x0 : Int32) (x1 : Int32) : entryFrame m #[(.int x0), (.int x1)] 2 = mkF m 0 #[.val (.int x0), .val (.int x1)] [] := by first | (simp [entryFrame, mkF, argsToLocals, Value.category]; done) | rfl
set_option maxRecDepth 65536 in
set_option maxHeartbeats 40000000 in
theorem rm1_r2 (l : Launch) (Z : State) (a0 : Array Value) (hw : ∀ d ∈ tables_1, d.before a0 Z = true) (ws : List Jvm.Cond) (p1 : Int32) (h0 : Heap) (n0 : Nat) (Z0 : n0 ≤ h0.size) :
    Met l Z (⟨"com/example/eulay/eulay/generation/PermutationsNextPinLaw", "digit", "(II)I"⟩ : MethodName) method_3_code 2 (some .int) ({ frames := 0, cells := 0, slots := 0, locals := 0 } : Room) ws n0 #[(.int p1), (.int (2 : Int32))] h0 (fun v h' => v = some (.int ((p1 &&& (2147483647 : Int32)) % (2 : Int32))) ∧ h0 = h') := by
  refine Met.intro (plainFor_of_name pn1_r2) Z0 ?_
  intro p e s m below meth c T X
  refine g_cast (ef1_r2 m p1 (2 : Int32)) ?_
  refine g_iloadN X d1_0 rfl (q := 1) rfl ?_
  refine g_iconst X d1_1 rfl (q := 2) (v := 1) rfl ?_
  refine g_jT0 X (J := 15) (L := #[.val (.int p1), .val (.int (2 : Int32))]) (S := [(.int ((p1 &&& (2147483647 : Int32)) % (2 : Int32)))]) ?_ ?_
  · intro T X
    exact g_retI X d1_15 (by decide) (by decide) ⟨rfl, rfl⟩
  · intro J15_0
    refine g_icmpB X d1_2 (Or.inr (Or.inl rfl)) (q := 5) rfl (by decide) (t := 14) rfl (fun (c1 : (1 : Int32) < (2 : Int32)) => ?_) (fun (c1 : ¬ ((1 : Int32) < (2 : Int32))) => ?_)
    · skip
      refine g_iloadN X d1_5 rfl (q := 6) rfl ?_
      refine g_ldc X (tw21 hw) d1_6 (q := 8) rfl ?_
      refine g_iand X d1_8 rfl (q := 9) ?_
      refine g_iloadN X d1_9 rfl (q := 10) rfl ?_
      refine g_irem X d1_10 rfl (q := 11) (by decide) ?_
      refine g_goto X d1_11 (by decide) (q := 15) rfl ?_
      exact J15_0 T X
    · skip
      exact absurd c1 (by decide)
theorem pn1_r3 : plainName "com/example/eulay/eulay/generation/PermutationsNextPinLaw" = true := by first | (simp [plainName, overriddenIn]; done) | decide +kernel
theorem ef1_r3 (m : MethodId) (x0 : Int32) (x1 : Int32) : entryFrame m #[(.int x0), (.int x1)] 2 = mkF m 0 #[.val (.int x0), .val (.int x1)] [] := by first | (simp [entryFrame, mkF, argsToLocals, Value.category]; done) | rfl
set_option maxRecDepth 65536 in
set_option maxHeartbeats 40000000 in
theorem rm1_r3 (l : Launch) (Z : State) (a0 : Array Value) (hw : ∀ d ∈ tables_1, d.before a0 Z = true) (ws : List Jvm.Cond) (p1 : Int32) (h0 : Heap) (n0 : Nat) (Z0 : n0 ≤ h0.size) :
    Met l Z (⟨"com/example/eulay/eulay/generation/PermutationsNextPinLaw", "digit", "(II)I"⟩ : MethodName) method_3_code 2 (some .int) ({ frames := 0, cells := 0, slots := 0, locals := 0 } : Room) ws n0 #[(.int p1), (.int (3 : Int32))] h0 (fun v h' => v = some (.int ((p1 &&& (2147483647 : Int32)) % (3 : Int32))) ∧ h0 = h') := by
  refine Met.intro (plainFor_of_name pn1_r3) Z0 ?_
  intro p e s m below meth c T X
  refine g_cast (ef1_r3 m p1 (3 : Int32)) ?_
  refine g_iloadN X d1_0 rfl (q := 1) rfl ?_
  refine g_iconst X d1_1 rfl (q := 2) (v := 1) rfl ?_
  refine g_jT0 X (J := 15) (L := #[.val (.int p1), .val (.int (3 : Int32))]) (S := [(.int ((p1 &&& (2147483647 : Int32)) % (3 : Int32)))]) ?_ ?_
  · intro T X
    exact g_retI X d1_15 (by decide) (by decide) ⟨rfl, rfl⟩
  · intro J15_0
    refine g_icmpB X d1_2 (Or.inr (Or.inl rfl)) (q := 5) rfl (by decide) (t := 14) rfl (fun (c1 : (1 : Int32) < (3 : Int32)) => ?_) (fun (c1 : ¬ ((1 : Int32) < (3 : Int32))) => ?_)
    · skip
      refine g_iloadN X d1_5 rfl (q := 6) rfl ?_
      refine g_ldc X (tw21 hw) d1_6 (q := 8) rfl ?_
      refine g_iand X d1_8 rfl (q := 9) ?_
      refine g_iloadN X d1_9 rfl (q := 10) rfl ?_
      refine g_irem X d1_10 rfl (q := 11) (by decide) ?_
      refine g_goto X d1_11 (by decide) (q := 15) rfl ?_
      exact J15_0 T X
    · skip
      exact absurd c1 (by decide)
theorem pn1_r4 : plainName "com/example/eulay/eulay/generation/PermutationsNextPinLaw" = true := by first | (simp [plainName, overriddenIn]; done) | decide +kernel
theorem ef1_r4 (m : MethodId) (x0 : Int32) (x1 : Int32) : entryFrame m #[(.int x0), (.int x1)] 2 = mkF m 0 #[.val (.int x0), .val (.int x1)] [] := by first | (simp [entryFrame, mkF, argsToLocals, Value.category]; done) | rfl
set_option maxRecDepth 65536 in
set_option maxHeartbeats 40000000 in
theorem rm1_r4 (l : Launch) (Z : State) (a0 : Array Value) (hw : ∀ d ∈ tables_1, d.before a0 Z = true) (ws : List Jvm.Cond) (p1 : Int32) (h0 : Heap) (n0 : Nat) (Z0 : n0 ≤ h0.size) :
    Met l Z (⟨"com/example/eulay/eulay/generation/PermutationsNextPinLaw", "digit", "(II)I"⟩ : MethodName) method_3_code 2 (some .int) ({ frames := 0, cells := 0, slots := 0, locals := 0 } : Room) ws n0 #[(.int p1), (.int (4 : Int32))] h0 (fun v h' => v = some (.int ((p1 &&& (2147483647 : Int32)) % (4 : Int32))) ∧ h0 = h') := by
  refine Met.intro (plainFor_of_name pn1_r4) Z0 ?_
  intro p e s m below meth c T X
  refine g_cast (ef1_r4 m p1 (4 : Int32)) ?_
  refine g_iloadN X d1_0 rfl (q := 1) rfl ?_
  refine g_iconst X d1_1 rfl (q := 2) (v := 1) rfl ?_
  refine g_jT0 X (J := 15) (L := #[.val (.int p1), .val (.int (4 : Int32))]) (S := [(.int ((p1 &&& (2147483647 : Int32)) % (4 : Int32)))]) ?_ ?_
  · intro T X
    exact g_retI X d1_15 (by decide) (by decide) ⟨rfl, rfl⟩
  · intro J15_0
    refine g_icmpB X d1_2 (Or.inr (Or.inl rfl)) (q := 5) rfl (by decide) (t := 14) rfl (fun (c1 : (1 : Int32) < (4 : Int32)) => ?_) (fun (c1 : ¬ ((1 : Int32) < (4 : Int32))) => ?_)
    · skip
      refine g_iloadN X d1_5 rfl (q := 6) rfl ?_
      refine g_ldc X (tw21 hw) d1_6 (q := 8) rfl ?_
      refine g_iand X d1_8 rfl (q := 9) ?_
      refine g_iloadN X d1_9 rfl (q := 10) rfl ?_
      refine g_irem X d1_10 rfl (q := 11) (by decide) ?_
      refine g_goto X d1_11 (by decide) (q := 15) rfl ?_
      exact J15_0 T X
    · skip
      exact absurd c1 (by decide)
theorem pn1_r5 : plainName "com/example/eulay/eulay/generation/PermutationsNextPinLaw" = true := by first | (simp [plainName, overriddenIn]; done) | decide +kernel
theorem ef1_r5 (m : MethodId) (x0 : Int32) (x1 : Int32) : entryFrame m #[(.int x0), (.int x1)] 2 = mkF m 0 #[.val (.int x0), .val (.int x1)] [] := by first | (simp [entryFrame, mkF, argsToLocals, Value.category]; done) | rfl
set_option maxRecDepth 65536 in
set_option maxHeartbeats 40000000 in
theorem rm1_r5 (l : Launch) (Z : State) (a0 : Array Value) (hw : ∀ d ∈ tables_1, d.before a0 Z = true) (ws : List Jvm.Cond) (p1 : Int32) (h0 : Heap) (n0 : Nat) (Z0 : n0 ≤ h0.size) :
    Met l Z (⟨"com/example/eulay/eulay/generation/PermutationsNextPinLaw", "digit", "(II)I"⟩ : MethodName) method_3_code 2 (some .int) ({ frames := 0, cells := 0, slots := 0, locals := 0 } : Room) ws n0 #[(.int p1), (.int (5 : Int32))] h0 (fun v h' => v = some (.int ((p1 &&& (2147483647 : Int32)) % (5 : Int32))) ∧ h0 = h') := by
  refine Met.intro (plainFor_of_name pn1_r5) Z0 ?_
  intro p e s m below meth c T X
  refine g_cast (ef1_r5 m p1 (5 : Int32)) ?_
  refine g_iloadN X d1_0 rfl (q := 1) rfl ?_
  refine g_iconst X d1_1 rfl (q := 2) (v := 1) rfl ?_
  refine g_jT0 X (J := 15) (L := #[.val (.int p1), .val (.int (5 : Int32))]) (S := [(.int ((p1 &&& (2147483647 : Int32)) % (5 : Int32)))]) ?_ ?_
  · intro T X
    exact g_retI X d1_15 (by decide) (by decide) ⟨rfl, rfl⟩
  · intro J15_0
    refine g_icmpB X d1_2 (Or.inr (Or.inl rfl)) (q := 5) rfl (by decide) (t := 14) rfl (fun (c1 : (1 : Int32) < (5 : Int32)) => ?_) (fun (c1 : ¬ ((1 : Int32) < (5 : Int32))) => ?_)
    · skip
      refine g_iloadN X d1_5 rfl (q := 6) rfl ?_
      refine g_ldc X (tw21 hw) d1_6 (q := 8) rfl ?_
      refine g_iand X d1_8 rfl (q := 9) ?_
      refine g_iloadN X d1_9 rfl (q := 10) rfl ?_
      refine g_irem X d1_10 rfl (q := 11) (by decide) ?_
      refine g_goto X d1_11 (by decide) (q := 15) rfl ?_
      exact J15_0 T X
    · skip
      exact absurd c1 (by decide)
theorem pn7 : plainName "com/example/eulay/eulay/generation/PermutationsNextPinLaw" = true := by first | (simp [plainName, overriddenIn]; done) | decide +kernel
theorem ef7 (m : MethodId) (x0 : Addr) (x1 : Int32) : entryFrame m #[(.ref x0), (.int x1)] 3 = mkF m 0 #[.val (.ref x0), .val (.int x1), .unset] [] := by first | (simp [entryFrame, mkF, argsToLocals, Value.category]; done) | rfl
set_option maxRecDepth 65536 in
set_option maxHeartbeats 40000000 in
theorem rm7 (l : Launch) (Z : State) (a0 : Array Value) (hw : ∀ d ∈ tables_1, d.before a0 Z = true) (ws : List Jvm.Cond) (a1 : Addr) (p2 : Int32) (F : Nat → Int32) (h0 : Heap) (n0 : Nat) (Z0 : n0 ≤ h0.size) (A_a1 : AI Z h0 a1 .int 5 F) (g_a1 : n0 ≤ a1) (k1 : 0 ≤ p2.toInt ∧ p2.toInt < (5 : Nat)) :
    Met l Z (⟨"com/example/eulay/eulay/generation/PermutationsNextPinLaw", "take", "([II)I"⟩ : MethodName) method_4_code 3 (some .int) ({ frames := 0, cells := 0, slots := 0, locals := 0 } : Room) ws n0 #[(.ref a1), (.int p2)] h0 (fun v h' => v = some (.int (F p2.toNatClampNeg)) ∧ Keep h0 h' [a1] ∧ AI Z h' a1 .int 5 (tk F p2)) := by
  refine Met.intro (plainFor_of_name pn7) Z0 ?_
  intro p e s m below meth c T X
  refine g_cast (ef7 m a1 p2) ?_
  have K : Keep h0 h0 [a1] := Keep.refl h0 _
  refine g_aloadN X d7_0 rfl (q := 1) rfl rfl ?_
  refine g_iloadN X d7_1 rfl (q := 2) rfl ?_
  refine g_iaload X A_a1 k1 d7_2 (q := 3) rfl ?_
  refine g_istoreN X d7_3 rfl (q := 4) (L' := #[.val (.ref a1), .val (.int p2), .val (.int (F p2.toNatClampNeg))]) rfl ?_
  refine g_iloadN X d7_4 rfl (q := 5) rfl ?_
  refine g_ifA X d7_5 (Or.inr (Or.inl rfl)) (q := 8) rfl (by decide) (t := 14) rfl (fun (c1 : (0 : Int32) < p2) => ?_) (fun (c1 : ¬ ((0 : Int32) < p2)) => ?_)
  · skip
    have b_p2 : (1 : Int) ≤ p2.toInt ∧ p2.toInt ≤ 2147483647 := by have z0 := c1; (try simp only [Int64.lt_iff_toInt_lt, Int32.lt_iff_toInt_lt, Int64.le_iff_toInt_le, Int32.le_iff_toInt_le, ← Int64.toInt_inj, ← Int32.toInt_inj, apply_ite Int64.toInt, apply_ite Int32.toInt, Int64.reduceToInt, Int32.reduceToInt, ne_eq] at z0); have z1 := rng32 p2; omega
    refine g_iloadN X d7_14 rfl (q := 15) rfl ?_
    refine g_iconst X d7_15 rfl (q := 16) (v := 1) rfl ?_
    refine g_icmpA X d7_16 (Or.inr (Or.inl rfl)) (q := 19) rfl (by decide) (t := 25) rfl (fun (c2 : (1 : Int32) < p2) => ?_) (fun (c2 : ¬ ((1 : Int32) < p2)) => ?_)
    · skip
      have b_p2 : (2 : Int) ≤ p2.toInt ∧ p2.toInt ≤ 2147483647 := by have z0 := c2; (try simp only [Int64.lt_iff_toInt_lt, Int32.lt_iff_toInt_lt, Int64.le_iff_toInt_le, Int32.le_iff_toInt_le, ← Int64.toInt_inj, ← Int32.toInt_inj, apply_ite Int64.toInt, apply_ite Int32.toInt, Int64.reduceToInt, Int32.reduceToInt, ne_eq] at z0); have z1 := rng32 p2; omega
      refine g_iloadN X d7_25 rfl (q := 26) rfl ?_
      refine g_iconst X d7_26 rfl (q := 27) (v := 2) rfl ?_
      refine g_icmpA X d7_27 (Or.inr (Or.inl rfl)) (q := 30) rfl (by decide) (t := 36) rfl (fun (c3 : (2 : Int32) < p2) => ?_) (fun (c3 : ¬ ((2 : Int32) < p2)) => ?_)
      · skip
        have b_p2 : (3 : Int) ≤ p2.toInt ∧ p2.toInt ≤ 2147483647 := by have z0 := c3; (try simp only [Int64.lt_iff_toInt_lt, Int32.lt_iff_toInt_lt, Int64.le_iff_toInt_le, Int32.le_iff_toInt_le, ← Int64.toInt_inj, ← Int32.toInt_inj, apply_ite Int64.toInt, apply_ite Int32.toInt, Int64.reduceToInt, Int32.reduceToInt, ne_eq] at z0); have z1 := rng32 p2; omega
        refine g_iloadN X d7_36 rfl (q := 37) rfl ?_
        refine g_iconst X d7_37 rfl (q := 38) (v := 3) rfl ?_
        refine g_icmpA X d7_38 (Or.inr (Or.inl rfl)) (q := 41) rfl (by decide) (t := 47) rfl (fun (c4 : (3 : Int32) < p2) => ?_) (fun (c4 : ¬ ((3 : Int32) < p2)) => ?_)
        · skip
          have b_p2 : (4 : Int) ≤ p2.toInt ∧ p2.toInt ≤ 2147483647 := by have z0 := c4; (try simp only [Int64.lt_iff_toInt_lt, Int32.lt_iff_toInt_lt, Int64.le_iff_toInt_le, Int32.le_iff_toInt_le, ← Int64.toInt_inj, ← Int32.toInt_inj, apply_ite Int64.toInt, apply_ite Int32.toInt, Int64.reduceToInt, Int32.reduceToInt, ne_eq] at z0); have z1 := rng32 p2; omega
          refine g_iloadN X d7_47 rfl (q := 48) rfl ?_
          have AQ : AI Z _ a1 .int 5 (tk F p2) := A_a1.to (by
            intro j hj; simp only [Int32.lt_iff_toInt_lt, Int32.reduceToInt] at c1 c2 c3 c4
            rcases (show j = 0 ∨ j = 1 ∨ j = 2 ∨ j = 3 ∨ j = 4 by omega) with rfl | rfl | rfl | rfl | rfl <;> simp [own_up, tk] <;> intros <;> exfalso <;> omega)
          exact g_retI X d7_48 (by decide) (by decide) ⟨rfl, K, AQ⟩
        · skip
          have b_p2 : (3 : Int) ≤ p2.toInt ∧ p2.toInt ≤ 3 := by have z0 := c4; (try simp only [Int64.lt_iff_toInt_lt, Int32.lt_iff_toInt_lt, Int64.le_iff_toInt_le, Int32.le_iff_toInt_le, ← Int64.toInt_inj, ← Int32.toInt_inj, apply_ite Int64.toInt, apply_ite Int32.toInt, Int64.reduceToInt, Int32.reduceToInt, ne_eq] at z0); have z1 := rng32 p2; omega
          refine g_aloadN X d7_41 rfl (q := 42) rfl rfl ?_
          refine g_iconst X d7_42 rfl (q := 43) (v := 3) rfl ?_
          refine g_aloadN X d7_43 rfl (q := 44) rfl rfl ?_
          refine g_iconst X d7_44 rfl (q := 45) (v := 4) rfl ?_
          refine g_iaload X A_a1 ⟨by decide, by decide⟩ d7_45 (q := 46) rfl ?_
          refine g_iastore X A_a1 ⟨by decide, by decide⟩ g_a1 d7_46 (q := 47) rfl (fun T h X W => ?_)
          have A_a1 : AI Z h a1 .int 5 (own_up F 3 (F 4)) := A_a1.set W
          have K := K.wr W (Or.inl (List.mem_of_getElem? (i := 0) rfl))
          refine g_iloadN X d7_47 rfl (q := 48) rfl ?_
          have AQ : AI Z _ a1 .int 5 (tk F p2) := A_a1.to (by
            intro j hj; simp only [Int32.lt_iff_toInt_lt, Int32.reduceToInt] at c1 c2 c3 c4
            rcases (show j = 0 ∨ j = 1 ∨ j = 2 ∨ j = 3 ∨ j = 4 by omega) with rfl | rfl | rfl | rfl | rfl <;> simp [own_up, tk] <;> intros <;> exfalso <;> omega)
          exact g_retI X d7_48 (by decide) (by decide) ⟨rfl, K, AQ⟩
      · skip
        have b_p2 : (2 : Int) ≤ p2.toInt ∧ p2.toInt ≤ 2 := by have z0 := c3; (try simp only [Int64.lt_iff_toInt_lt, Int32.lt_iff_toInt_lt, Int64.le_iff_toInt_le, Int32.le_iff_toInt_le, ← Int64.toInt_inj, ← Int32.toInt_inj, apply_ite Int64.toInt, apply_ite Int32.toInt, Int64.reduceToInt, Int32.reduceToInt, ne_eq] at z0); have z1 := rng32 p2; omega
        refine g_aloadN X d7_30 rfl (q := 31) rfl rfl ?_
        refine g_iconst X d7_31 rfl (q := 32) (v := 2) rfl ?_
        refine g_aloadN X d7_32 rfl (q := 33) rfl rfl ?_
        refine g_iconst X d7_33 rfl (q := 34) (v := 3) rfl ?_
        refine g_iaload X A_a1 ⟨by decide, by decide⟩ d7_34 (q := 35) rfl ?_
        refine g_iastore X A_a1 ⟨by decide, by decide⟩ g_a1 d7_35 (q := 36) rfl (fun T h X W => ?_)
        have A_a1 : AI Z h a1 .int 5 (own_up F 2 (F 3)) := A_a1.set W
        have K := K.wr W (Or.inl (List.mem_of_getElem? (i := 0) rfl))
        refine g_iloadN X d7_36 rfl (q := 37) rfl ?_
        refine g_iconst X d7_37 rfl (q := 38) (v := 3) rfl ?_
        refine g_icmpA X d7_38 (Or.inr (Or.inl rfl)) (q := 41) rfl (by decide) (t := 47) rfl (fun (c5 : (3 : Int32) < p2) => ?_) (fun (c5 : ¬ ((3 : Int32) < p2)) => ?_)
        · skip
          have b_p2 : (4 : Int) ≤ p2.toInt ∧ p2.toInt ≤ 2 := by have z0 := c5; (try simp only [Int64.lt_iff_toInt_lt, Int32.lt_iff_toInt_lt, Int64.le_iff_toInt_le, Int32.le_iff_toInt_le, ← Int64.toInt_inj, ← Int32.toInt_inj, apply_ite Int64.toInt, apply_ite Int32.toInt, Int64.reduceToInt, Int32.reduceToInt, ne_eq] at z0); have z1 := rng32 p2; omega
          refine g_iloadN X d7_47 rfl (q := 48) rfl ?_
          have AQ : AI Z _ a1 .int 5 (tk F p2) := A_a1.to (by
            intro j hj; simp only [Int32.lt_iff_toInt_lt, Int32.reduceToInt] at c1 c2 c3 c5
            rcases (show j = 0 ∨ j = 1 ∨ j = 2 ∨ j = 3 ∨ j = 4 by omega) with rfl | rfl | rfl | rfl | rfl <;> simp [own_up, tk] <;> intros <;> exfalso <;> omega)
          exact g_retI X d7_48 (by decide) (by decide) ⟨rfl, K, AQ⟩
        · skip
          refine g_aloadN X d7_41 rfl (q := 42) rfl rfl ?_
          refine g_iconst X d7_42 rfl (q := 43) (v := 3) rfl ?_
          refine g_aloadN X d7_43 rfl (q := 44) rfl rfl ?_
          refine g_iconst X d7_44 rfl (q := 45) (v := 4) rfl ?_
          refine g_iaload X A_a1 ⟨by decide, by decide⟩ d7_45 (q := 46) rfl ?_
          refine g_iastore X A_a1 ⟨by decide, by decide⟩ g_a1 d7_46 (q := 47) rfl (fun T h X W => ?_)
          have A_a1 : AI Z h a1 .int 5 (own_up (own_up F 2 (F 3)) 3 ((own_up F 2 (F 3)) 4)) := A_a1.set W
          have K := K.wr W (Or.inl (List.mem_of_getElem? (i := 0) rfl))
          refine g_iloadN X d7_47 rfl (q := 48) rfl ?_
          have AQ : AI Z _ a1 .int 5 (tk F p2) := A_a1.to (by
            intro j hj; simp only [Int32.lt_iff_toInt_lt, Int32.reduceToInt] at c1 c2 c3 c5
            rcases (show j = 0 ∨ j = 1 ∨ j = 2 ∨ j = 3 ∨ j = 4 by omega) with rfl | rfl | rfl | rfl | rfl <;> simp [own_up, tk] <;> intros <;> exfalso <;> omega)
          exact g_retI X d7_48 (by decide) (by decide) ⟨rfl, K, AQ⟩
    · skip
      have b_p2 : (1 : Int) ≤ p2.toInt ∧ p2.toInt ≤ 1 := by have z0 := c2; (try simp only [Int64.lt_iff_toInt_lt, Int32.lt_iff_toInt_lt, Int64.le_iff_toInt_le, Int32.le_iff_toInt_le, ← Int64.toInt_inj, ← Int32.toInt_inj, apply_ite Int64.toInt, apply_ite Int32.toInt, Int64.reduceToInt, Int32.reduceToInt, ne_eq] at z0); have z1 := rng32 p2; omega
      refine g_aloadN X d7_19 rfl (q := 20) rfl rfl ?_
      refine g_iconst X d7_20 rfl (q := 21) (v := 1) rfl ?_
      refine g_aloadN X d7_21 rfl (q := 22) rfl rfl ?_
      refine g_iconst X d7_22 rfl (q := 23) (v := 2) rfl ?_
      refine g_iaload X A_a1 ⟨by decide, by decide⟩ d7_23 (q := 24) rfl ?_
      refine g_iastore X A_a1 ⟨by decide, by decide⟩ g_a1 d7_24 (q := 25) rfl (fun T h X W => ?_)
      have A_a1 : AI Z h a1 .int 5 (own_up F 1 (F 2)) := A_a1.set W
      have K := K.wr W (Or.inl (List.mem_of_getElem? (i := 0) rfl))
      refine g_iloadN X d7_25 rfl (q := 26) rfl ?_
      refine g_iconst X d7_26 rfl (q := 27) (v := 2) rfl ?_
      refine g_icmpA X d7_27 (Or.inr (Or.inl rfl)) (q := 30) rfl (by decide) (t := 36) rfl (fun (c6 : (2 : Int32) < p2) => ?_) (fun (c6 : ¬ ((2 : Int32) < p2)) => ?_)
      · skip
        have b_p2 : (3 : Int) ≤ p2.toInt ∧ p2.toInt ≤ 1 := by have z0 := c6; (try simp only [Int64.lt_iff_toInt_lt, Int32.lt_iff_toInt_lt, Int64.le_iff_toInt_le, Int32.le_iff_toInt_le, ← Int64.toInt_inj, ← Int32.toInt_inj, apply_ite Int64.toInt, apply_ite Int32.toInt, Int64.reduceToInt, Int32.reduceToInt, ne_eq] at z0); have z1 := rng32 p2; omega
        refine g_iloadN X d7_36 rfl (q := 37) rfl ?_
        refine g_iconst X d7_37 rfl (q := 38) (v := 3) rfl ?_
        refine g_icmpA X d7_38 (Or.inr (Or.inl rfl)) (q := 41) rfl (by decide) (t := 47) rfl (fun (c7 : (3 : Int32) < p2) => ?_) (fun (c7 : ¬ ((3 : Int32) < p2)) => ?_)
        · skip
          have b_p2 : (4 : Int) ≤ p2.toInt ∧ p2.toInt ≤ 1 := by have z0 := c7; (try simp only [Int64.lt_iff_toInt_lt, Int32.lt_iff_toInt_lt, Int64.le_iff_toInt_le, Int32.le_iff_toInt_le, ← Int64.toInt_inj, ← Int32.toInt_inj, apply_ite Int64.toInt, apply_ite Int32.toInt, Int64.reduceToInt, Int32.reduceToInt, ne_eq] at z0); have z1 := rng32 p2; omega
          refine g_iloadN X d7_47 rfl (q := 48) rfl ?_
          have AQ : AI Z _ a1 .int 5 (tk F p2) := A_a1.to (by
            intro j hj; simp only [Int32.lt_iff_toInt_lt, Int32.reduceToInt] at c1 c2 c6 c7
            rcases (show j = 0 ∨ j = 1 ∨ j = 2 ∨ j = 3 ∨ j = 4 by omega) with rfl | rfl | rfl | rfl | rfl <;> simp [own_up, tk] <;> intros <;> exfalso <;> omega)
          exact g_retI X d7_48 (by decide) (by decide) ⟨rfl, K, AQ⟩
        · skip
          refine g_aloadN X d7_41 rfl (q := 42) rfl rfl ?_
          refine g_iconst X d7_42 rfl (q := 43) (v := 3) rfl ?_
          refine g_aloadN X d7_43 rfl (q := 44) rfl rfl ?_
          refine g_iconst X d7_44 rfl (q := 45) (v := 4) rfl ?_
          refine g_iaload X A_a1 ⟨by decide, by decide⟩ d7_45 (q := 46) rfl ?_
          refine g_iastore X A_a1 ⟨by decide, by decide⟩ g_a1 d7_46 (q := 47) rfl (fun T h X W => ?_)
          have A_a1 : AI Z h a1 .int 5 (own_up (own_up F 1 (F 2)) 3 ((own_up F 1 (F 2)) 4)) := A_a1.set W
          have K := K.wr W (Or.inl (List.mem_of_getElem? (i := 0) rfl))
          refine g_iloadN X d7_47 rfl (q := 48) rfl ?_
          have AQ : AI Z _ a1 .int 5 (tk F p2) := A_a1.to (by
            intro j hj; simp only [Int32.lt_iff_toInt_lt, Int32.reduceToInt] at c1 c2 c6 c7
            rcases (show j = 0 ∨ j = 1 ∨ j = 2 ∨ j = 3 ∨ j = 4 by omega) with rfl | rfl | rfl | rfl | rfl <;> simp [own_up, tk] <;> intros <;> exfalso <;> omega)
          exact g_retI X d7_48 (by decide) (by decide) ⟨rfl, K, AQ⟩
      · skip
        refine g_aloadN X d7_30 rfl (q := 31) rfl rfl ?_
        refine g_iconst X d7_31 rfl (q := 32) (v := 2) rfl ?_
        refine g_aloadN X d7_32 rfl (q := 33) rfl rfl ?_
        refine g_iconst X d7_33 rfl (q := 34) (v := 3) rfl ?_
        refine g_iaload X A_a1 ⟨by decide, by decide⟩ d7_34 (q := 35) rfl ?_
        refine g_iastore X A_a1 ⟨by decide, by decide⟩ g_a1 d7_35 (q := 36) rfl (fun T h X W => ?_)
        have A_a1 : AI Z h a1 .int 5 (own_up (own_up F 1 (F 2)) 2 ((own_up F 1 (F 2)) 3)) := A_a1.set W
        have K := K.wr W (Or.inl (List.mem_of_getElem? (i := 0) rfl))
        refine g_iloadN X d7_36 rfl (q := 37) rfl ?_
        refine g_iconst X d7_37 rfl (q := 38) (v := 3) rfl ?_
        refine g_icmpA X d7_38 (Or.inr (Or.inl rfl)) (q := 41) rfl (by decide) (t := 47) rfl (fun (c8 : (3 : Int32) < p2) => ?_) (fun (c8 : ¬ ((3 : Int32) < p2)) => ?_)
        · skip
          have b_p2 : (4 : Int) ≤ p2.toInt ∧ p2.toInt ≤ 1 := by have z0 := c8; (try simp only [Int64.lt_iff_toInt_lt, Int32.lt_iff_toInt_lt, Int64.le_iff_toInt_le, Int32.le_iff_toInt_le, ← Int64.toInt_inj, ← Int32.toInt_inj, apply_ite Int64.toInt, apply_ite Int32.toInt, Int64.reduceToInt, Int32.reduceToInt, ne_eq] at z0); have z1 := rng32 p2; omega
          refine g_iloadN X d7_47 rfl (q := 48) rfl ?_
          have AQ : AI Z _ a1 .int 5 (tk F p2) := A_a1.to (by
            intro j hj; simp only [Int32.lt_iff_toInt_lt, Int32.reduceToInt] at c1 c2 c6 c8
            rcases (show j = 0 ∨ j = 1 ∨ j = 2 ∨ j = 3 ∨ j = 4 by omega) with rfl | rfl | rfl | rfl | rfl <;> simp [own_up, tk] <;> intros <;> exfalso <;> omega)
          exact g_retI X d7_48 (by decide) (by decide) ⟨rfl, K, AQ⟩
        · skip
          refine g_aloadN X d7_41 rfl (q := 42) rfl rfl ?_
          refine g_iconst X d7_42 rfl (q := 43) (v := 3) rfl ?_
          refine g_aloadN X d7_43 rfl (q := 44) rfl rfl ?_
          refine g_iconst X d7_44 rfl (q := 45) (v := 4) rfl ?_
          refine g_iaload X A_a1 ⟨by decide, by decide⟩ d7_45 (q := 46) rfl ?_
          refine g_iastore X A_a1 ⟨by decide, by decide⟩ g_a1 d7_46 (q := 47) rfl (fun T h X W => ?_)
          have A_a1 : AI Z h a1 .int 5 (own_up (own_up (own_up F 1 (F 2)) 2 ((own_up F 1 (F 2)) 3)) 3 ((own_up (own_up F 1 (F 2)) 2 ((own_up F 1 (F 2)) 3)) 4)) := A_a1.set W
          have K := K.wr W (Or.inl (List.mem_of_getElem? (i := 0) rfl))
          refine g_iloadN X d7_47 rfl (q := 48) rfl ?_
          have AQ : AI Z _ a1 .int 5 (tk F p2) := A_a1.to (by
            intro j hj; simp only [Int32.lt_iff_toInt_lt, Int32.reduceToInt] at c1 c2 c6 c8
            rcases (show j = 0 ∨ j = 1 ∨ j = 2 ∨ j = 3 ∨ j = 4 by omega) with rfl | rfl | rfl | rfl | rfl <;> simp [own_up, tk] <;> intros <;> exfalso <;> omega)
          exact g_retI X d7_48 (by decide) (by decide) ⟨rfl, K, AQ⟩
  · skip
    have b_p2 : (-2147483648 : Int) ≤ p2.toInt ∧ p2.toInt ≤ 0 := by have z0 := c1; (try simp only [Int64.lt_iff_toInt_lt, Int32.lt_iff_toInt_lt, Int64.le_iff_toInt_le, Int32.le_iff_toInt_le, ← Int64.toInt_inj, ← Int32.toInt_inj, apply_ite Int64.toInt, apply_ite Int32.toInt, Int64.reduceToInt, Int32.reduceToInt, ne_eq] at z0); have z1 := rng32 p2; omega
    refine g_aloadN X d7_8 rfl (q := 9) rfl rfl ?_
    refine g_iconst X d7_9 rfl (q := 10) (v := 0) rfl ?_
    refine g_aloadN X d7_10 rfl (q := 11) rfl rfl ?_
    refine g_iconst X d7_11 rfl (q := 12) (v := 1) rfl ?_
    refine g_iaload X A_a1 ⟨by decide, by decide⟩ d7_12 (q := 13) rfl ?_
    refine g_iastore X A_a1 ⟨by decide, by decide⟩ g_a1 d7_13 (q := 14) rfl (fun T h X W => ?_)
    have A_a1 : AI Z h a1 .int 5 (own_up F 0 (F 1)) := A_a1.set W
    have K := K.wr W (Or.inl (List.mem_of_getElem? (i := 0) rfl))
    refine g_iloadN X d7_14 rfl (q := 15) rfl ?_
    refine g_iconst X d7_15 rfl (q := 16) (v := 1) rfl ?_
    refine g_icmpA X d7_16 (Or.inr (Or.inl rfl)) (q := 19) rfl (by decide) (t := 25) rfl (fun (c9 : (1 : Int32) < p2) => ?_) (fun (c9 : ¬ ((1 : Int32) < p2)) => ?_)
    · skip
      have b_p2 : (2 : Int) ≤ p2.toInt ∧ p2.toInt ≤ 0 := by have z0 := c9; (try simp only [Int64.lt_iff_toInt_lt, Int32.lt_iff_toInt_lt, Int64.le_iff_toInt_le, Int32.le_iff_toInt_le, ← Int64.toInt_inj, ← Int32.toInt_inj, apply_ite Int64.toInt, apply_ite Int32.toInt, Int64.reduceToInt, Int32.reduceToInt, ne_eq] at z0); have z1 := rng32 p2; omega
      refine g_iloadN X d7_25 rfl (q := 26) rfl ?_
      refine g_iconst X d7_26 rfl (q := 27) (v := 2) rfl ?_
      refine g_icmpA X d7_27 (Or.inr (Or.inl rfl)) (q := 30) rfl (by decide) (t := 36) rfl (fun (c10 : (2 : Int32) < p2) => ?_) (fun (c10 : ¬ ((2 : Int32) < p2)) => ?_)
      · skip
        have b_p2 : (3 : Int) ≤ p2.toInt ∧ p2.toInt ≤ 0 := by have z0 := c10; (try simp only [Int64.lt_iff_toInt_lt, Int32.lt_iff_toInt_lt, Int64.le_iff_toInt_le, Int32.le_iff_toInt_le, ← Int64.toInt_inj, ← Int32.toInt_inj, apply_ite Int64.toInt, apply_ite Int32.toInt, Int64.reduceToInt, Int32.reduceToInt, ne_eq] at z0); have z1 := rng32 p2; omega
        refine g_iloadN X d7_36 rfl (q := 37) rfl ?_
        refine g_iconst X d7_37 rfl (q := 38) (v := 3) rfl ?_
        refine g_icmpA X d7_38 (Or.inr (Or.inl rfl)) (q := 41) rfl (by decide) (t := 47) rfl (fun (c11 : (3 : Int32) < p2) => ?_) (fun (c11 : ¬ ((3 : Int32) < p2)) => ?_)
        · skip
          have b_p2 : (4 : Int) ≤ p2.toInt ∧ p2.toInt ≤ 0 := by have z0 := c11; (try simp only [Int64.lt_iff_toInt_lt, Int32.lt_iff_toInt_lt, Int64.le_iff_toInt_le, Int32.le_iff_toInt_le, ← Int64.toInt_inj, ← Int32.toInt_inj, apply_ite Int64.toInt, apply_ite Int32.toInt, Int64.reduceToInt, Int32.reduceToInt, ne_eq] at z0); have z1 := rng32 p2; omega
          refine g_iloadN X d7_47 rfl (q := 48) rfl ?_
          have AQ : AI Z _ a1 .int 5 (tk F p2) := A_a1.to (by
            intro j hj; simp only [Int32.lt_iff_toInt_lt, Int32.reduceToInt] at c1 c9 c10 c11
            rcases (show j = 0 ∨ j = 1 ∨ j = 2 ∨ j = 3 ∨ j = 4 by omega) with rfl | rfl | rfl | rfl | rfl <;> simp [own_up, tk] <;> intros <;> exfalso <;> omega)
          exact g_retI X d7_48 (by decide) (by decide) ⟨rfl, K, AQ⟩
        · skip
          refine g_aloadN X d7_41 rfl (q := 42) rfl rfl ?_
          refine g_iconst X d7_42 rfl (q := 43) (v := 3) rfl ?_
          refine g_aloadN X d7_43 rfl (q := 44) rfl rfl ?_
          refine g_iconst X d7_44 rfl (q := 45) (v := 4) rfl ?_
          refine g_iaload X A_a1 ⟨by decide, by decide⟩ d7_45 (q := 46) rfl ?_
          refine g_iastore X A_a1 ⟨by decide, by decide⟩ g_a1 d7_46 (q := 47) rfl (fun T h X W => ?_)
          have A_a1 : AI Z h a1 .int 5 (own_up (own_up F 0 (F 1)) 3 ((own_up F 0 (F 1)) 4)) := A_a1.set W
          have K := K.wr W (Or.inl (List.mem_of_getElem? (i := 0) rfl))
          refine g_iloadN X d7_47 rfl (q := 48) rfl ?_
          have AQ : AI Z _ a1 .int 5 (tk F p2) := A_a1.to (by
            intro j hj; simp only [Int32.lt_iff_toInt_lt, Int32.reduceToInt] at c1 c9 c10 c11
            rcases (show j = 0 ∨ j = 1 ∨ j = 2 ∨ j = 3 ∨ j = 4 by omega) with rfl | rfl | rfl | rfl | rfl <;> simp [own_up, tk] <;> intros <;> exfalso <;> omega)
          exact g_retI X d7_48 (by decide) (by decide) ⟨rfl, K, AQ⟩
      · skip
        refine g_aloadN X d7_30 rfl (q := 31) rfl rfl ?_
        refine g_iconst X d7_31 rfl (q := 32) (v := 2) rfl ?_
        refine g_aloadN X d7_32 rfl (q := 33) rfl rfl ?_
        refine g_iconst X d7_33 rfl (q := 34) (v := 3) rfl ?_
        refine g_iaload X A_a1 ⟨by decide, by decide⟩ d7_34 (q := 35) rfl ?_
        refine g_iastore X A_a1 ⟨by decide, by decide⟩ g_a1 d7_35 (q := 36) rfl (fun T h X W => ?_)
        have A_a1 : AI Z h a1 .int 5 (own_up (own_up F 0 (F 1)) 2 ((own_up F 0 (F 1)) 3)) := A_a1.set W
        have K := K.wr W (Or.inl (List.mem_of_getElem? (i := 0) rfl))
        refine g_iloadN X d7_36 rfl (q := 37) rfl ?_
        refine g_iconst X d7_37 rfl (q := 38) (v := 3) rfl ?_
        refine g_icmpA X d7_38 (Or.inr (Or.inl rfl)) (q := 41) rfl (by decide) (t := 47) rfl (fun (c12 : (3 : Int32) < p2) => ?_) (fun (c12 : ¬ ((3 : Int32) < p2)) => ?_)
        · skip
          have b_p2 : (4 : Int) ≤ p2.toInt ∧ p2.toInt ≤ 0 := by have z0 := c12; (try simp only [Int64.lt_iff_toInt_lt, Int32.lt_iff_toInt_lt, Int64.le_iff_toInt_le, Int32.le_iff_toInt_le, ← Int64.toInt_inj, ← Int32.toInt_inj, apply_ite Int64.toInt, apply_ite Int32.toInt, Int64.reduceToInt, Int32.reduceToInt, ne_eq] at z0); have z1 := rng32 p2; omega
          refine g_iloadN X d7_47 rfl (q := 48) rfl ?_
          have AQ : AI Z _ a1 .int 5 (tk F p2) := A_a1.to (by
            intro j hj; simp only [Int32.lt_iff_toInt_lt, Int32.reduceToInt] at c1 c9 c10 c12
            rcases (show j = 0 ∨ j = 1 ∨ j = 2 ∨ j = 3 ∨ j = 4 by omega) with rfl | rfl | rfl | rfl | rfl <;> simp [own_up, tk] <;> intros <;> exfalso <;> omega)
          exact g_retI X d7_48 (by decide) (by decide) ⟨rfl, K, AQ⟩
        · skip
          refine g_aloadN X d7_41 rfl (q := 42) rfl rfl ?_
          refine g_iconst X d7_42 rfl (q := 43) (v := 3) rfl ?_
          refine g_aloadN X d7_43 rfl (q := 44) rfl rfl ?_
          refine g_iconst X d7_44 rfl (q := 45) (v := 4) rfl ?_
          refine g_iaload X A_a1 ⟨by decide, by decide⟩ d7_45 (q := 46) rfl ?_
          refine g_iastore X A_a1 ⟨by decide, by decide⟩ g_a1 d7_46 (q := 47) rfl (fun T h X W => ?_)
          have A_a1 : AI Z h a1 .int 5 (own_up (own_up (own_up F 0 (F 1)) 2 ((own_up F 0 (F 1)) 3)) 3 ((own_up (own_up F 0 (F 1)) 2 ((own_up F 0 (F 1)) 3)) 4)) := A_a1.set W
          have K := K.wr W (Or.inl (List.mem_of_getElem? (i := 0) rfl))
          refine g_iloadN X d7_47 rfl (q := 48) rfl ?_
          have AQ : AI Z _ a1 .int 5 (tk F p2) := A_a1.to (by
            intro j hj; simp only [Int32.lt_iff_toInt_lt, Int32.reduceToInt] at c1 c9 c10 c12
            rcases (show j = 0 ∨ j = 1 ∨ j = 2 ∨ j = 3 ∨ j = 4 by omega) with rfl | rfl | rfl | rfl | rfl <;> simp [own_up, tk] <;> intros <;> exfalso <;> omega)
          exact g_retI X d7_48 (by decide) (by decide) ⟨rfl, K, AQ⟩
    · skip
      refine g_aloadN X d7_19 rfl (q := 20) rfl rfl ?_
      refine g_iconst X d7_20 rfl (q := 21) (v := 1) rfl ?_
      refine g_aloadN X d7_21 rfl (q := 22) rfl rfl ?_
      refine g_iconst X d7_22 rfl (q := 23) (v := 2) rfl ?_
      refine g_iaload X A_a1 ⟨by decide, by decide⟩ d7_23 (q := 24) rfl ?_
      refine g_iastore X A_a1 ⟨by decide, by decide⟩ g_a1 d7_24 (q := 25) rfl (fun T h X W => ?_)
      have A_a1 : AI Z h a1 .int 5 (own_up (own_up F 0 (F 1)) 1 ((own_up F 0 (F 1)) 2)) := A_a1.set W
      have K := K.wr W (Or.inl (List.mem_of_getElem? (i := 0) rfl))
      refine g_iloadN X d7_25 rfl (q := 26) rfl ?_
      refine g_iconst X d7_26 rfl (q := 27) (v := 2) rfl ?_
      refine g_icmpA X d7_27 (Or.inr (Or.inl rfl)) (q := 30) rfl (by decide) (t := 36) rfl (fun (c13 : (2 : Int32) < p2) => ?_) (fun (c13 : ¬ ((2 : Int32) < p2)) => ?_)
      · skip
        have b_p2 : (3 : Int) ≤ p2.toInt ∧ p2.toInt ≤ 0 := by have z0 := c13; (try simp only [Int64.lt_iff_toInt_lt, Int32.lt_iff_toInt_lt, Int64.le_iff_toInt_le, Int32.le_iff_toInt_le, ← Int64.toInt_inj, ← Int32.toInt_inj, apply_ite Int64.toInt, apply_ite Int32.toInt, Int64.reduceToInt, Int32.reduceToInt, ne_eq] at z0); have z1 := rng32 p2; omega
        refine g_iloadN X d7_36 rfl (q := 37) rfl ?_
        refine g_iconst X d7_37 rfl (q := 38) (v := 3) rfl ?_
        refine g_icmpA X d7_38 (Or.inr (Or.inl rfl)) (q := 41) rfl (by decide) (t := 47) rfl (fun (c14 : (3 : Int32) < p2) => ?_) (fun (c14 : ¬ ((3 : Int32) < p2)) => ?_)
        · skip
          have b_p2 : (4 : Int) ≤ p2.toInt ∧ p2.toInt ≤ 0 := by have z0 := c14; (try simp only [Int64.lt_iff_toInt_lt, Int32.lt_iff_toInt_lt, Int64.le_iff_toInt_le, Int32.le_iff_toInt_le, ← Int64.toInt_inj, ← Int32.toInt_inj, apply_ite Int64.toInt, apply_ite Int32.toInt, Int64.reduceToInt, Int32.reduceToInt, ne_eq] at z0); have z1 := rng32 p2; omega
          refine g_iloadN X d7_47 rfl (q := 48) rfl ?_
          have AQ : AI Z _ a1 .int 5 (tk F p2) := A_a1.to (by
            intro j hj; simp only [Int32.lt_iff_toInt_lt, Int32.reduceToInt] at c1 c9 c13 c14
            rcases (show j = 0 ∨ j = 1 ∨ j = 2 ∨ j = 3 ∨ j = 4 by omega) with rfl | rfl | rfl | rfl | rfl <;> simp [own_up, tk] <;> intros <;> exfalso <;> omega)
          exact g_retI X d7_48 (by decide) (by decide) ⟨rfl, K, AQ⟩
        · skip
          refine g_aloadN X d7_41 rfl (q := 42) rfl rfl ?_
          refine g_iconst X d7_42 rfl (q := 43) (v := 3) rfl ?_
          refine g_aloadN X d7_43 rfl (q := 44) rfl rfl ?_
          refine g_iconst X d7_44 rfl (q := 45) (v := 4) rfl ?_
          refine g_iaload X A_a1 ⟨by decide, by decide⟩ d7_45 (q := 46) rfl ?_
          refine g_iastore X A_a1 ⟨by decide, by decide⟩ g_a1 d7_46 (q := 47) rfl (fun T h X W => ?_)
          have A_a1 : AI Z h a1 .int 5 (own_up (own_up (own_up F 0 (F 1)) 1 ((own_up F 0 (F 1)) 2)) 3 ((own_up (own_up F 0 (F 1)) 1 ((own_up F 0 (F 1)) 2)) 4)) := A_a1.set W
          have K := K.wr W (Or.inl (List.mem_of_getElem? (i := 0) rfl))
          refine g_iloadN X d7_47 rfl (q := 48) rfl ?_
          have AQ : AI Z _ a1 .int 5 (tk F p2) := A_a1.to (by
            intro j hj; simp only [Int32.lt_iff_toInt_lt, Int32.reduceToInt] at c1 c9 c13 c14
            rcases (show j = 0 ∨ j = 1 ∨ j = 2 ∨ j = 3 ∨ j = 4 by omega) with rfl | rfl | rfl | rfl | rfl <;> simp [own_up, tk] <;> intros <;> exfalso <;> omega)
          exact g_retI X d7_48 (by decide) (by decide) ⟨rfl, K, AQ⟩
      · skip
        refine g_aloadN X d7_30 rfl (q := 31) rfl rfl ?_
        refine g_iconst X d7_31 rfl (q := 32) (v := 2) rfl ?_
        refine g_aloadN X d7_32 rfl (q := 33) rfl rfl ?_
        refine g_iconst X d7_33 rfl (q := 34) (v := 3) rfl ?_
        refine g_iaload X A_a1 ⟨by decide, by decide⟩ d7_34 (q := 35) rfl ?_
        refine g_iastore X A_a1 ⟨by decide, by decide⟩ g_a1 d7_35 (q := 36) rfl (fun T h X W => ?_)
        have A_a1 : AI Z h a1 .int 5 (own_up (own_up (own_up F 0 (F 1)) 1 ((own_up F 0 (F 1)) 2)) 2 ((own_up (own_up F 0 (F 1)) 1 ((own_up F 0 (F 1)) 2)) 3)) := A_a1.set W
        have K := K.wr W (Or.inl (List.mem_of_getElem? (i := 0) rfl))
        refine g_iloadN X d7_36 rfl (q := 37) rfl ?_
        refine g_iconst X d7_37 rfl (q := 38) (v := 3) rfl ?_
        refine g_icmpA X d7_38 (Or.inr (Or.inl rfl)) (q := 41) rfl (by decide) (t := 47) rfl (fun (c15 : (3 : Int32) < p2) => ?_) (fun (c15 : ¬ ((3 : Int32) < p2)) => ?_)
        · skip
          have b_p2 : (4 : Int) ≤ p2.toInt ∧ p2.toInt ≤ 0 := by have z0 := c15; (try simp only [Int64.lt_iff_toInt_lt, Int32.lt_iff_toInt_lt, Int64.le_iff_toInt_le, Int32.le_iff_toInt_le, ← Int64.toInt_inj, ← Int32.toInt_inj, apply_ite Int64.toInt, apply_ite Int32.toInt, Int64.reduceToInt, Int32.reduceToInt, ne_eq] at z0); have z1 := rng32 p2; omega
          refine g_iloadN X d7_47 rfl (q := 48) rfl ?_
          have AQ : AI Z _ a1 .int 5 (tk F p2) := A_a1.to (by
            intro j hj; simp only [Int32.lt_iff_toInt_lt, Int32.reduceToInt] at c1 c9 c13 c15
            rcases (show j = 0 ∨ j = 1 ∨ j = 2 ∨ j = 3 ∨ j = 4 by omega) with rfl | rfl | rfl | rfl | rfl <;> simp [own_up, tk] <;> intros <;> exfalso <;> omega)
          exact g_retI X d7_48 (by decide) (by decide) ⟨rfl, K, AQ⟩
        · skip
          refine g_aloadN X d7_41 rfl (q := 42) rfl rfl ?_
          refine g_iconst X d7_42 rfl (q := 43) (v := 3) rfl ?_
          refine g_aloadN X d7_43 rfl (q := 44) rfl rfl ?_
          refine g_iconst X d7_44 rfl (q := 45) (v := 4) rfl ?_
          refine g_iaload X A_a1 ⟨by decide, by decide⟩ d7_45 (q := 46) rfl ?_
          refine g_iastore X A_a1 ⟨by decide, by decide⟩ g_a1 d7_46 (q := 47) rfl (fun T h X W => ?_)
          have A_a1 : AI Z h a1 .int 5 (own_up (own_up (own_up (own_up F 0 (F 1)) 1 ((own_up F 0 (F 1)) 2)) 2 ((own_up (own_up F 0 (F 1)) 1 ((own_up F 0 (F 1)) 2)) 3)) 3 ((own_up (own_up (own_up F 0 (F 1)) 1 ((own_up F 0 (F 1)) 2)) 2 ((own_up (own_up F 0 (F 1)) 1 ((own_up F 0 (F 1)) 2)) 3)) 4)) := A_a1.set W
          have K := K.wr W (Or.inl (List.mem_of_getElem? (i := 0) rfl))
          refine g_iloadN X d7_47 rfl (q := 48) rfl ?_
          have AQ : AI Z _ a1 .int 5 (tk F p2) := A_a1.to (by
            intro j hj; simp only [Int32.lt_iff_toInt_lt, Int32.reduceToInt] at c1 c9 c13 c15
            rcases (show j = 0 ∨ j = 1 ∨ j = 2 ∨ j = 3 ∨ j = 4 by omega) with rfl | rfl | rfl | rfl | rfl <;> simp [own_up, tk] <;> intros <;> exfalso <;> omega)
          exact g_retI X d7_48 (by decide) (by decide) ⟨rfl, K, AQ⟩
theorem pn3 : plainName "com/example/eulay/eulay/generation/PermutationsNextPinLaw" = true := by first | (simp [plainName, overriddenIn]; done) | decide +kernel
theorem ef3 (m : MethodId) (x0 : Addr) (x1 : Int32) (x2 : Int32) (x3 : Int32) : entryFrame m #[(.ref x0), (.int x1), (.int x2), (.int x3)] 4 = mkF m 0 #[.val (.ref x0), .val (.int x1), .val (.int x2), .val (.int x3)] [] := by first | (simp [entryFrame, mkF, argsToLocals, Value.category]; done) | rfl
set_option maxRecDepth 65536 in
set_option maxHeartbeats 40000000 in
theorem rm3 (l : Launch) (Z : State) (a0 : Array Value) (hw : ∀ d ∈ tables_1, d.before a0 Z = true) (ws : List Jvm.Cond) (a1 : Addr) (p2 : Int32) (p3 : Int32) (P4 : Prop) [Decidable P4] (F : Nat → Int32) (h0 : Heap) (n0 : Nat) (Z0 : n0 ≤ h0.size) (A_a1 : AI Z h0 a1 .int 5 F) (g_a1 : n0 ≤ a1) (k1 : 0 ≤ p2.toInt ∧ p2.toInt < (5 : Nat)) :
    Met l Z (⟨"com/example/eulay/eulay/generation/PermutationsNextPinLaw", "step", "([IIIZ)Z"⟩ : MethodName) method_6_code 4 (some .boolean) ({ frames := 0, cells := 0, slots := 0, locals := 0 } : Room) ws n0 #[(.ref a1), (.int p2), (.int p3), (.int (bI P4))] h0 (fun v h' => v = some (.int (bI ((P4 ∧ (((p2 < p3) ∧ (¬ (((F p2.toNatClampNeg) + (1 : Int32)) < (p3 - p2)))) ∨ (¬ (p2 < p3) ∧ P4))) ∨ (¬ P4 ∧ P4)))) ∧ Keep h0 h' [a1] ∧ AI Z h' a1 .int 5 (if P4 then (if p2 < p3 then (if ((F p2.toNatClampNeg) + (1 : Int32)) < (p3 - p2) then (own_up F p2.toNatClampNeg ((F p2.toNatClampNeg) + (1 : Int32))) else (own_up F p2.toNatClampNeg (0 : Int32))) else F) else F)) := by
  refine Met.intro (plainFor_of_name pn3) Z0 ?_
  intro p e s m below meth c T X
  refine g_cast (ef3 m a1 p2 p3 (bI P4)) ?_
  have K : Keep h0 h0 [a1] := Keep.refl h0 _
  refine g_iloadN X d3_0 rfl (q := 1) rfl ?_
  refine g_beq X d3_1 (q := 4) rfl (by decide) (t := 9) rfl (fun (c1 : P4) => ?_) (fun (c1 : ¬ P4) => ?_)
  · skip
    refine g_iloadN X d3_4 rfl (q := 5) rfl ?_
    refine g_iloadN X d3_5 rfl (q := 6) rfl ?_
    refine g_icmpA X d3_6 (Or.inl rfl) (q := 9) rfl (by decide) (t := 11) rfl (fun (c2 : p2 < p3) => ?_) (fun (c2 : ¬ (p2 < p3)) => ?_)
    · skip
      refine g_aloadN X d3_11 rfl (q := 12) rfl rfl ?_
      refine g_iloadN X d3_12 rfl (q := 13) rfl ?_
      refine g_iaload X A_a1 k1 d3_13 (q := 14) rfl ?_
      refine g_iconst X d3_14 rfl (q := 15) (v := 1) rfl ?_
      refine g_iadd X d3_15 rfl (q := 16) ?_
      refine g_iloadN X d3_16 rfl (q := 17) rfl ?_
      refine g_iloadN X d3_17 rfl (q := 18) rfl ?_
      refine g_isub X d3_18 rfl (q := 19) ?_
      refine g_icmpB X d3_19 (Or.inl rfl) (q := 22) rfl (by decide) (t := 32) rfl (fun (c3 : ((F p2.toNatClampNeg) + (1 : Int32)) < (p3 - p2)) => ?_) (fun (c3 : ¬ (((F p2.toNatClampNeg) + (1 : Int32)) < (p3 - p2))) => ?_)
      · skip
        refine g_aloadN X d3_22 rfl (q := 23) rfl rfl ?_
        refine g_iloadN X d3_23 rfl (q := 24) rfl ?_
        refine g_aloadN X d3_24 rfl (q := 25) rfl rfl ?_
        refine g_iloadN X d3_25 rfl (q := 26) rfl ?_
        refine g_iaload X A_a1 k1 d3_26 (q := 27) rfl ?_
        refine g_iconst X d3_27 rfl (q := 28) (v := 1) rfl ?_
        refine g_iadd X d3_28 rfl (q := 29) ?_
        refine g_iastore X A_a1 k1 g_a1 d3_29 (q := 30) rfl (fun T h X W => ?_)
        have A_a1 : AI Z h a1 .int 5 (own_up F p2.toNatClampNeg ((F p2.toNatClampNeg) + (1 : Int32))) := A_a1.set W
        have K := K.wr W (Or.inl (List.mem_of_getElem? (i := 0) rfl))
        refine g_iconst X d3_30 rfl (q := 31) (v := 0) rfl ?_
        exact g_retZ X d3_31 (by decide) (by decide) (by decide) ⟨congrArg (fun z => some (Value.int z)) (bI_f (fun z => z.elim (fun w => (fun z => z.elim (fun w => (fun z => z c3) w.2) (fun w => w.1 c2)) w.2) (fun w => w.1 c1))), K, (by first | exact A_a1 | (simp only [if_pos c1, if_pos c2, if_pos c3]; exact A_a1) | (simp only [bI, if_pos c1, if_pos c2, if_pos c3]; simpa [c1, c2, c3] using A_a1))⟩
      · skip
        refine g_aloadN X d3_32 rfl (q := 33) rfl rfl ?_
        refine g_iloadN X d3_33 rfl (q := 34) rfl ?_
        refine g_iconst X d3_34 rfl (q := 35) (v := 0) rfl ?_
        refine g_iastore X A_a1 k1 g_a1 d3_35 (q := 36) rfl (fun T h X W => ?_)
        have A_a1 : AI Z h a1 .int 5 (own_up F p2.toNatClampNeg (0 : Int32)) := A_a1.set W
        have K := K.wr W (Or.inl (List.mem_of_getElem? (i := 0) rfl))
        refine g_iconst X d3_36 rfl (q := 37) (v := 1) rfl ?_
        exact g_retZ X d3_37 (by decide) (by decide) (by decide) ⟨congrArg (fun z => some (Value.int z)) (bI_t (Or.inl ⟨c1, (Or.inl ⟨c2, c3⟩)⟩)), K, (by first | exact A_a1 | (simp only [if_pos c1, if_pos c2, if_neg c3]; exact A_a1) | (simp only [bI, if_pos c1, if_pos c2, if_neg c3]; simpa [c1, c2, c3] using A_a1))⟩
    · skip
      refine g_iloadN X d3_9 rfl (q := 10) rfl ?_
      exact g_retZ X d3_10 (by decide) (by decide) (bI_01 _) ⟨congrArg (fun z => some (Value.int z)) (bI_cong (by simp [c1, c2])), K, (by first | exact A_a1 | (simp only [if_pos c1, if_neg c2]; exact A_a1) | (simp only [bI, if_pos c1, if_neg c2]; simpa [c1, c2] using A_a1))⟩
  · skip
    refine g_iloadN X d3_9 rfl (q := 10) rfl ?_
    exact g_retZ X d3_10 (by decide) (by decide) (bI_01 _) ⟨congrArg (fun z => some (Value.int z)) (bI_cong (by simp [c1])), K, (by first | exact A_a1 | (simp only [if_neg c1]; exact A_a1) | (simp only [bI, if_neg c1]; simpa [c1] using A_a1))⟩
theorem pn2 : plainName "com/example/eulay/eulay/generation/PermutationsNextPinLaw" = true := by first | (simp [plainName, overriddenIn]; done) | decide +kernel
theorem ef2 (m : MethodId) (x0 : Addr) (x1 : Int32) : entryFrame m #[(.ref x0), (.int x1)] 3 = mkF m 0 #[.val (.ref x0), .val (.int x1), .unset] [] := by first | (simp [entryFrame, mkF, argsToLocals, Value.category]; done) | rfl
set_option maxRecDepth 65536 in
set_option maxHeartbeats 40000000 in
theorem rm2 (l : Launch) (Z : State) (a0 : Array Value) (hw : ∀ d ∈ tables_1, d.before a0 Z = true) (ws : List Jvm.Cond) (a1 : Addr) (p2 : Int32) (F : Nat → Int32) (h0 : Heap) (n0 : Nat) (Z0 : n0 ≤ h0.size) (A_a1 : AI Z h0 a1 .int 5 F) (g_a1 : n0 ≤ a1) :
    Met l Z (⟨"com/example/eulay/eulay/generation/PermutationsNextPinLaw", "increment", "([II)Z"⟩ : MethodName) method_7_code 3 (some .boolean) ({ frames := 1, cells := 0, slots := 0, locals := 15 } : Room) ws n0 #[(.ref a1), (.int p2)] h0 (fun v h' => v = some (.int (bI (¬ (stR (stF (stF (stF (stF F (4 : Int32) p2 True) (3 : Int32) p2 (stR F (4 : Int32) p2 True)) (2 : Int32) p2 (stR (stF F (4 : Int32) p2 True) (3 : Int32) p2 (stR F (4 : Int32) p2 True))) (1 : Int32) p2 (stR (stF (stF F (4 : Int32) p2 True) (3 : Int32) p2 (stR F (4 : Int32) p2 True)) (2 : Int32) p2 (stR (stF F (4 : Int32) p2 True) (3 : Int32) p2 (stR F (4 : Int32) p2 True)))) (0 : Int32) p2 (stR (stF (stF (stF F (4 : Int32) p2 True) (3 : Int32) p2 (stR F (4 : Int32) p2 True)) (2 : Int32) p2 (stR (stF F (4 : Int32) p2 True) (3 : Int32) p2 (stR F (4 : Int32) p2 True))) (1 : Int32) p2 (stR (stF (stF F (4 : Int32) p2 True) (3 : Int32) p2 (stR F (4 : Int32) p2 True)) (2 : Int32) p2 (stR (stF F (4 : Int32) p2 True) (3 : Int32) p2 (stR F (4 : Int32) p2 True)))))))) ∧ Keep h0 h' [a1] ∧ AI Z h' a1 .int 5 (stF (stF (stF (stF (stF F (4 : Int32) p2 True) (3 : Int32) p2 (stR F (4 : Int32) p2 True)) (2 : Int32) p2 (stR (stF F (4 : Int32) p2 True) (3 : Int32) p2 (stR F (4 : Int32) p2 True))) (1 : Int32) p2 (stR (stF (stF F (4 : Int32) p2 True) (3 : Int32) p2 (stR F (4 : Int32) p2 True)) (2 : Int32) p2 (stR (stF F (4 : Int32) p2 True) (3 : Int32) p2 (stR F (4 : Int32) p2 True)))) (0 : Int32) p2 (stR (stF (stF (stF F (4 : Int32) p2 True) (3 : Int32) p2 (stR F (4 : Int32) p2 True)) (2 : Int32) p2 (stR (stF F (4 : Int32) p2 True) (3 : Int32) p2 (stR F (4 : Int32) p2 True))) (1 : Int32) p2 (stR (stF (stF F (4 : Int32) p2 True) (3 : Int32) p2 (stR F (4 : Int32) p2 True)) (2 : Int32) p2 (stR (stF F (4 : Int32) p2 True) (3 : Int32) p2 (stR F (4 : Int32) p2 True)))))) := by
  refine Met.intro (plainFor_of_name pn2) Z0 ?_
  intro p e s m below meth c T X
  refine g_cast (ef2 m a1 p2) ?_
  have K : Keep h0 h0 [a1] := Keep.refl h0 _
  refine g_iconst X d2_0 rfl (q := 1) (v := 1) rfl ?_
  refine g_istoreN X d2_1 rfl (q := 2) (L' := #[.val (.ref a1), .val (.int p2), .val (.int (1 : Int32))]) rfl ?_
  refine g_aloadN X d2_2 rfl (q := 3) rfl rfl ?_
  refine g_iconst X d2_3 rfl (q := 4) (v := 4) rfl ?_
  refine g_iloadN X d2_4 rfl (q := 5) rfl ?_
  refine g_iloadN X d2_5 rfl (q := 6) rfl ?_
  refine g_callS X [(.ref a1), (.int (4 : Int32)), (.int p2), (.int (1 : Int32))] [] (tw8 hw) (tw9 hw) (tw3 hw) (tw10 hw) (by decide) (rm3 l Z a0 hw [] a1 (4 : Int32) p2 True F _ n0 X.size A_a1 g_a1 ⟨by decide, by decide⟩) pd0 rfl rfl rfl d2_6 (q := 9) rfl (W := 0) rfl (by decide) (by decide) (c2 := 0) (s2 := 0) rfl rfl (by decide) (by decide) (fun v T h' X hQ => ?_)
  obtain ⟨rfl, Kc, A_a1'⟩ := hQ
  have A_a1 : AI Z h' a1 .int 5 (stF F (4 : Int32) p2 True) := A_a1'
  have K := K.trans Kc (allS (Or.inl (List.mem_of_getElem? (i := 0) rfl)) all0)
  show Goes p e below s _ n0 _ (T.setTop (mkF m 9 #[.val (.ref a1), .val (.int p2), .val (.int (1 : Int32))] [(.int (bI (stR F (4 : Int32) p2 True)))]))
  refine g_istoreN X d2_9 rfl (q := 10) (L' := #[.val (.ref a1), .val (.int p2), .val (.int (bI (stR F (4 : Int32) p2 True)))]) rfl ?_
  refine g_aloadN X d2_10 rfl (q := 11) rfl rfl ?_
  refine g_iconst X d2_11 rfl (q := 12) (v := 3) rfl ?_
  refine g_iloadN X d2_12 rfl (q := 13) rfl ?_
  refine g_iloadN X d2_13 rfl (q := 14) rfl ?_
  refine g_callS X [(.ref a1), (.int (3 : Int32)), (.int p2), (.int (bI (stR F (4 : Int32) p2 True)))] [] (tw8 hw) (tw9 hw) (tw3 hw) (tw10 hw) (by decide) (rm3 l Z a0 hw [] a1 (3 : Int32) p2 (stR F (4 : Int32) p2 True) (stF F (4 : Int32) p2 True) _ n0 X.size A_a1 g_a1 ⟨by decide, by decide⟩) pd0 rfl rfl rfl d2_14 (q := 17) rfl (W := 0) rfl (by decide) (by decide) (c2 := 0) (s2 := 0) rfl rfl (by decide) (by decide) (fun v T h' X hQ => ?_)
  obtain ⟨rfl, Kc, A_a1'⟩ := hQ
  have A_a1 : AI Z h' a1 .int 5 (stF (stF F (4 : Int32) p2 True) (3 : Int32) p2 (stR F (4 : Int32) p2 True)) := A_a1'
  have K := K.trans Kc (allS (Or.inl (List.mem_of_getElem? (i := 0) rfl)) all0)
  show Goes p e below s _ n0 _ (T.setTop (mkF m 17 #[.val (.ref a1), .val (.int p2), .val (.int (bI (stR F (4 : Int32) p2 True)))] [(.int (bI (stR (stF F (4 : Int32) p2 True) (3 : Int32) p2 (stR F (4 : Int32) p2 True))))]))
  refine g_istoreN X d2_17 rfl (q := 18) (L' := #[.val (.ref a1), .val (.int p2), .val (.int (bI (stR (stF F (4 : Int32) p2 True) (3 : Int32) p2 (stR F (4 : Int32) p2 True))))]) rfl ?_
  refine g_aloadN X d2_18 rfl (q := 19) rfl rfl ?_
  refine g_iconst X d2_19 rfl (q := 20) (v := 2) rfl ?_
  refine g_iloadN X d2_20 rfl (q := 21) rfl ?_
  refine g_iloadN X d2_21 rfl (q := 22) rfl ?_
  refine g_callS X [(.ref a1), (.int (2 : Int32)), (.int p2), (.int (bI (stR (stF F (4 : Int32) p2 True) (3 : Int32) p2 (stR F (4 : Int32) p2 True))))] [] (tw8 hw) (tw9 hw) (tw3 hw) (tw10 hw) (by decide) (rm3 l Z a0 hw [] a1 (2 : Int32) p2 (stR (stF F (4 : Int32) p2 True) (3 : Int32) p2 (stR F (4 : Int32) p2 True)) (stF (stF F (4 : Int32) p2 True) (3 : Int32) p2 (stR F (4 : Int32) p2 True)) _ n0 X.size A_a1 g_a1 ⟨by decide, by decide⟩) pd0 rfl rfl rfl d2_22 (q := 25) rfl (W := 0) rfl (by decide) (by decide) (c2 := 0) (s2 := 0) rfl rfl (by decide) (by decide) (fun v T h' X hQ => ?_)
  obtain ⟨rfl, Kc, A_a1'⟩ := hQ
  have A_a1 : AI Z h' a1 .int 5 (stF (stF (stF F (4 : Int32) p2 True) (3 : Int32) p2 (stR F (4 : Int32) p2 True)) (2 : Int32) p2 (stR (stF F (4 : Int32) p2 True) (3 : Int32) p2 (stR F (4 : Int32) p2 True))) := A_a1'
  have K := K.trans Kc (allS (Or.inl (List.mem_of_getElem? (i := 0) rfl)) all0)
  show Goes p e below s _ n0 _ (T.setTop (mkF m 25 #[.val (.ref a1), .val (.int p2), .val (.int (bI (stR (stF F (4 : Int32) p2 True) (3 : Int32) p2 (stR F (4 : Int32) p2 True))))] [(.int (bI (stR (stF (stF F (4 : Int32) p2 True) (3 : Int32) p2 (stR F (4 : Int32) p2 True)) (2 : Int32) p2 (stR (stF F (4 : Int32) p2 True) (3 : Int32) p2 (stR F (4 : Int32) p2 True)))))]))
  refine g_istoreN X d2_25 rfl (q := 26) (L' := #[.val (.ref a1), .val (.int p2), .val (.int (bI (stR (stF (stF F (4 : Int32) p2 True) (3 : Int32) p2 (stR F (4 : Int32) p2 True)) (2 : Int32) p2 (stR (stF F (4 : Int32) p2 True) (3 : Int32) p2 (stR F (4 : Int32) p2 True)))))]) rfl ?_
  refine g_aloadN X d2_26 rfl (q := 27) rfl rfl ?_
  refine g_iconst X d2_27 rfl (q := 28) (v := 1) rfl ?_
  refine g_iloadN X d2_28 rfl (q := 29) rfl ?_
  refine g_iloadN X d2_29 rfl (q := 30) rfl ?_
  refine g_callS X [(.ref a1), (.int (1 : Int32)), (.int p2), (.int (bI (stR (stF (stF F (4 : Int32) p2 True) (3 : Int32) p2 (stR F (4 : Int32) p2 True)) (2 : Int32) p2 (stR (stF F (4 : Int32) p2 True) (3 : Int32) p2 (stR F (4 : Int32) p2 True)))))] [] (tw8 hw) (tw9 hw) (tw3 hw) (tw10 hw) (by decide) (rm3 l Z a0 hw [] a1 (1 : Int32) p2 (stR (stF (stF F (4 : Int32) p2 True) (3 : Int32) p2 (stR F (4 : Int32) p2 True)) (2 : Int32) p2 (stR (stF F (4 : Int32) p2 True) (3 : Int32) p2 (stR F (4 : Int32) p2 True))) (stF (stF (stF F (4 : Int32) p2 True) (3 : Int32) p2 (stR F (4 : Int32) p2 True)) (2 : Int32) p2 (stR (stF F (4 : Int32) p2 True) (3 : Int32) p2 (stR F (4 : Int32) p2 True))) _ n0 X.size A_a1 g_a1 ⟨by decide, by decide⟩) pd0 rfl rfl rfl d2_30 (q := 33) rfl (W := 0) rfl (by decide) (by decide) (c2 := 0) (s2 := 0) rfl rfl (by decide) (by decide) (fun v T h' X hQ => ?_)
  obtain ⟨rfl, Kc, A_a1'⟩ := hQ
  have A_a1 : AI Z h' a1 .int 5 (stF (stF (stF (stF F (4 : Int32) p2 True) (3 : Int32) p2 (stR F (4 : Int32) p2 True)) (2 : Int32) p2 (stR (stF F (4 : Int32) p2 True) (3 : Int32) p2 (stR F (4 : Int32) p2 True))) (1 : Int32) p2 (stR (stF (stF F (4 : Int32) p2 True) (3 : Int32) p2 (stR F (4 : Int32) p2 True)) (2 : Int32) p2 (stR (stF F (4 : Int32) p2 True) (3 : Int32) p2 (stR F (4 : Int32) p2 True)))) := A_a1'
  have K := K.trans Kc (allS (Or.inl (List.mem_of_getElem? (i := 0) rfl)) all0)
  show Goes p e below s _ n0 _ (T.setTop (mkF m 33 #[.val (.ref a1), .val (.int p2), .val (.int (bI (stR (stF (stF F (4 : Int32) p2 True) (3 : Int32) p2 (stR F (4 : Int32) p2 True)) (2 : Int32) p2 (stR (stF F (4 : Int32) p2 True) (3 : Int32) p2 (stR F (4 : Int32) p2 True)))))] [(.int (bI (stR (stF (stF (stF F (4 : Int32) p2 True) (3 : Int32) p2 (stR F (4 : Int32) p2 True)) (2 : Int32) p2 (stR (stF F (4 : Int32) p2 True) (3 : Int32) p2 (stR F (4 : Int32) p2 True))) (1 : Int32) p2 (stR (stF (stF F (4 : Int32) p2 True) (3 : Int32) p2 (stR F (4 : Int32) p2 True)) (2 : Int32) p2 (stR (stF F (4 : Int32) p2 True) (3 : Int32) p2 (stR F (4 : Int32) p2 True))))))]))
  refine g_istoreN X d2_33 rfl (q := 34) (L' := #[.val (.ref a1), .val (.int p2), .val (.int (bI (stR (stF (stF (stF F (4 : Int32) p2 True) (3 : Int32) p2 (stR F (4 : Int32) p2 True)) (2 : Int32) p2 (stR (stF F (4 : Int32) p2 True) (3 : Int32) p2 (stR F (4 : Int32) p2 True))) (1 : Int32) p2 (stR (stF (stF F (4 : Int32) p2 True) (3 : Int32) p2 (stR F (4 : Int32) p2 True)) (2 : Int32) p2 (stR (stF F (4 : Int32) p2 True) (3 : Int32) p2 (stR F (4 : Int32) p2 True))))))]) rfl ?_
  refine g_aloadN X d2_34 rfl (q := 35) rfl rfl ?_
  refine g_iconst X d2_35 rfl (q := 36) (v := 0) rfl ?_
  refine g_iloadN X d2_36 rfl (q := 37) rfl ?_
  refine g_iloadN X d2_37 rfl (q := 38) rfl ?_
  refine g_callS X [(.ref a1), (.int (0 : Int32)), (.int p2), (.int (bI (stR (stF (stF (stF F (4 : Int32) p2 True) (3 : Int32) p2 (stR F (4 : Int32) p2 True)) (2 : Int32) p2 (stR (stF F (4 : Int32) p2 True) (3 : Int32) p2 (stR F (4 : Int32) p2 True))) (1 : Int32) p2 (stR (stF (stF F (4 : Int32) p2 True) (3 : Int32) p2 (stR F (4 : Int32) p2 True)) (2 : Int32) p2 (stR (stF F (4 : Int32) p2 True) (3 : Int32) p2 (stR F (4 : Int32) p2 True))))))] [] (tw8 hw) (tw9 hw) (tw3 hw) (tw10 hw) (by decide) (rm3 l Z a0 hw [] a1 (0 : Int32) p2 (stR (stF (stF (stF F (4 : Int32) p2 True) (3 : Int32) p2 (stR F (4 : Int32) p2 True)) (2 : Int32) p2 (stR (stF F (4 : Int32) p2 True) (3 : Int32) p2 (stR F (4 : Int32) p2 True))) (1 : Int32) p2 (stR (stF (stF F (4 : Int32) p2 True) (3 : Int32) p2 (stR F (4 : Int32) p2 True)) (2 : Int32) p2 (stR (stF F (4 : Int32) p2 True) (3 : Int32) p2 (stR F (4 : Int32) p2 True)))) (stF (stF (stF (stF F (4 : Int32) p2 True) (3 : Int32) p2 (stR F (4 : Int32) p2 True)) (2 : Int32) p2 (stR (stF F (4 : Int32) p2 True) (3 : Int32) p2 (stR F (4 : Int32) p2 True))) (1 : Int32) p2 (stR (stF (stF F (4 : Int32) p2 True) (3 : Int32) p2 (stR F (4 : Int32) p2 True)) (2 : Int32) p2 (stR (stF F (4 : Int32) p2 True) (3 : Int32) p2 (stR F (4 : Int32) p2 True)))) _ n0 X.size A_a1 g_a1 ⟨by decide, by decide⟩) pd0 rfl rfl rfl d2_38 (q := 41) rfl (W := 0) rfl (by decide) (by decide) (c2 := 0) (s2 := 0) rfl rfl (by decide) (by decide) (fun v T h' X hQ => ?_)
  obtain ⟨rfl, Kc, A_a1'⟩ := hQ
  have A_a1 : AI Z h' a1 .int 5 (stF (stF (stF (stF (stF F (4 : Int32) p2 True) (3 : Int32) p2 (stR F (4 : Int32) p2 True)) (2 : Int32) p2 (stR (stF F (4 : Int32) p2 True) (3 : Int32) p2 (stR F (4 : Int32) p2 True))) (1 : Int32) p2 (stR (stF (stF F (4 : Int32) p2 True) (3 : Int32) p2 (stR F (4 : Int32) p2 True)) (2 : Int32) p2 (stR (stF F (4 : Int32) p2 True) (3 : Int32) p2 (stR F (4 : Int32) p2 True)))) (0 : Int32) p2 (stR (stF (stF (stF F (4 : Int32) p2 True) (3 : Int32) p2 (stR F (4 : Int32) p2 True)) (2 : Int32) p2 (stR (stF F (4 : Int32) p2 True) (3 : Int32) p2 (stR F (4 : Int32) p2 True))) (1 : Int32) p2 (stR (stF (stF F (4 : Int32) p2 True) (3 : Int32) p2 (stR F (4 : Int32) p2 True)) (2 : Int32) p2 (stR (stF F (4 : Int32) p2 True) (3 : Int32) p2 (stR F (4 : Int32) p2 True))))) := A_a1'
  have K := K.trans Kc (allS (Or.inl (List.mem_of_getElem? (i := 0) rfl)) all0)
  show Goes p e below s _ n0 _ (T.setTop (mkF m 41 #[.val (.ref a1), .val (.int p2), .val (.int (bI (stR (stF (stF (stF F (4 : Int32) p2 True) (3 : Int32) p2 (stR F (4 : Int32) p2 True)) (2 : Int32) p2 (stR (stF F (4 : Int32) p2 True) (3 : Int32) p2 (stR F (4 : Int32) p2 True))) (1 : Int32) p2 (stR (stF (stF F (4 : Int32) p2 True) (3 : Int32) p2 (stR F (4 : Int32) p2 True)) (2 : Int32) p2 (stR (stF F (4 : Int32) p2 True) (3 : Int32) p2 (stR F (4 : Int32) p2 True))))))] [(.int (bI (stR (stF (stF (stF (stF F (4 : Int32) p2 True) (3 : Int32) p2 (stR F (4 : Int32) p2 True)) (2 : Int32) p2 (stR (stF F (4 : Int32) p2 True) (3 : Int32) p2 (stR F (4 : Int32) p2 True))) (1 : Int32) p2 (stR (stF (stF F (4 : Int32) p2 True) (3 : Int32) p2 (stR F (4 : Int32) p2 True)) (2 : Int32) p2 (stR (stF F (4 : Int32) p2 True) (3 : Int32) p2 (stR F (4 : Int32) p2 True)))) (0 : Int32) p2 (stR (stF (stF (stF F (4 : Int32) p2 True) (3 : Int32) p2 (stR F (4 : Int32) p2 True)) (2 : Int32) p2 (stR (stF F (4 : Int32) p2 True) (3 : Int32) p2 (stR F (4 : Int32) p2 True))) (1 : Int32) p2 (stR (stF (stF F (4 : Int32) p2 True) (3 : Int32) p2 (stR F (4 : Int32) p2 True)) (2 : Int32) p2 (stR (stF F (4 : Int32) p2 True) (3 : Int32) p2 (stR F (4 : Int32) p2 True)))))))]))
  refine g_istoreN X d2_41 rfl (q := 42) (L' := #[.val (.ref a1), .val (.int p2), .val (.int (bI (stR (stF (stF (stF (stF F (4 : Int32) p2 True) (3 : Int32) p2 (stR F (4 : Int32) p2 True)) (2 : Int32) p2 (stR (stF F (4 : Int32) p2 True) (3 : Int32) p2 (stR F (4 : Int32) p2 True))) (1 : Int32) p2 (stR (stF (stF F (4 : Int32) p2 True) (3 : Int32) p2 (stR F (4 : Int32) p2 True)) (2 : Int32) p2 (stR (stF F (4 : Int32) p2 True) (3 : Int32) p2 (stR F (4 : Int32) p2 True)))) (0 : Int32) p2 (stR (stF (stF (stF F (4 : Int32) p2 True) (3 : Int32) p2 (stR F (4 : Int32) p2 True)) (2 : Int32) p2 (stR (stF F (4 : Int32) p2 True) (3 : Int32) p2 (stR F (4 : Int32) p2 True))) (1 : Int32) p2 (stR (stF (stF F (4 : Int32) p2 True) (3 : Int32) p2 (stR F (4 : Int32) p2 True)) (2 : Int32) p2 (stR (stF F (4 : Int32) p2 True) (3 : Int32) p2 (stR F (4 : Int32) p2 True)))))))]) rfl ?_
  refine g_iloadN X d2_42 rfl (q := 43) rfl ?_
  refine g_jT1 X (J := 51) (P := fun (s0_51 : Int32) => s0_51 = (bI (¬ (stR (stF (stF (stF (stF F (4 : Int32) p2 True) (3 : Int32) p2 (stR F (4 : Int32) p2 True)) (2 : Int32) p2 (stR (stF F (4 : Int32) p2 True) (3 : Int32) p2 (stR F (4 : Int32) p2 True))) (1 : Int32) p2 (stR (stF (stF F (4 : Int32) p2 True) (3 : Int32) p2 (stR F (4 : Int32) p2 True)) (2 : Int32) p2 (stR (stF F (4 : Int32) p2 True) (3 : Int32) p2 (stR F (4 : Int32) p2 True)))) (0 : Int32) p2 (stR (stF (stF (stF F (4 : Int32) p2 True) (3 : Int32) p2 (stR F (4 : Int32) p2 True)) (2 : Int32) p2 (stR (stF F (4 : Int32) p2 True) (3 : Int32) p2 (stR F (4 : Int32) p2 True))) (1 : Int32) p2 (stR (stF (stF F (4 : Int32) p2 True) (3 : Int32) p2 (stR F (4 : Int32) p2 True)) (2 : Int32) p2 (stR (stF F (4 : Int32) p2 True) (3 : Int32) p2 (stR F (4 : Int32) p2 True)))))))) (L := fun s0_51 => #[.val (.ref a1), .val (.int p2), .val (.int (bI (stR (stF (stF (stF (stF F (4 : Int32) p2 True) (3 : Int32) p2 (stR F (4 : Int32) p2 True)) (2 : Int32) p2 (stR (stF F (4 : Int32) p2 True) (3 : Int32) p2 (stR F (4 : Int32) p2 True))) (1 : Int32) p2 (stR (stF (stF F (4 : Int32) p2 True) (3 : Int32) p2 (stR F (4 : Int32) p2 True)) (2 : Int32) p2 (stR (stF F (4 : Int32) p2 True) (3 : Int32) p2 (stR F (4 : Int32) p2 True)))) (0 : Int32) p2 (stR (stF (stF (stF F (4 : Int32) p2 True) (3 : Int32) p2 (stR F (4 : Int32) p2 True)) (2 : Int32) p2 (stR (stF F (4 : Int32) p2 True) (3 : Int32) p2 (stR F (4 : Int32) p2 True))) (1 : Int32) p2 (stR (stF (stF F (4 : Int32) p2 True) (3 : Int32) p2 (stR F (4 : Int32) p2 True)) (2 : Int32) p2 (stR (stF F (4 : Int32) p2 True) (3 : Int32) p2 (stR F (4 : Int32) p2 True)))))))]) (S := fun s0_51 => [(.int s0_51)]) ?_ ?_
  · intro T X s0_51 hs0_51
    replace hs0_51 : s0_51 = (bI (¬ (stR (stF (stF (stF (stF F (4 : Int32) p2 True) (3 : Int32) p2 (stR F (4 : Int32) p2 True)) (2 : Int32) p2 (stR (stF F (4 : Int32) p2 True) (3 : Int32) p2 (stR F (4 : Int32) p2 True))) (1 : Int32) p2 (stR (stF (stF F (4 : Int32) p2 True) (3 : Int32) p2 (stR F (4 : Int32) p2 True)) (2 : Int32) p2 (stR (stF F (4 : Int32) p2 True) (3 : Int32) p2 (stR F (4 : Int32) p2 True)))) (0 : Int32) p2 (stR (stF (stF (stF F (4 : Int32) p2 True) (3 : Int32) p2 (stR F (4 : Int32) p2 True)) (2 : Int32) p2 (stR (stF F (4 : Int32) p2 True) (3 : Int32) p2 (stR F (4 : Int32) p2 True))) (1 : Int32) p2 (stR (stF (stF F (4 : Int32) p2 True) (3 : Int32) p2 (stR F (4 : Int32) p2 True)) (2 : Int32) p2 (stR (stF F (4 : Int32) p2 True) (3 : Int32) p2 (stR F (4 : Int32) p2 True))))))) := hs0_51
    subst hs0_51
    show Goes p e below s _ n0 _ (T.setTop (mkF m 51 #[.val (.ref a1), .val (.int p2), .val (.int (bI (stR (stF (stF (stF (stF F (4 : Int32) p2 True) (3 : Int32) p2 (stR F (4 : Int32) p2 True)) (2 : Int32) p2 (stR (stF F (4 : Int32) p2 True) (3 : Int32) p2 (stR F (4 : Int32) p2 True))) (1 : Int32) p2 (stR (stF (stF F (4 : Int32) p2 True) (3 : Int32) p2 (stR F (4 : Int32) p2 True)) (2 : Int32) p2 (stR (stF F (4 : Int32) p2 True) (3 : Int32) p2 (stR F (4 : Int32) p2 True)))) (0 : Int32) p2 (stR (stF (stF (stF F (4 : Int32) p2 True) (3 : Int32) p2 (stR F (4 : Int32) p2 True)) (2 : Int32) p2 (stR (stF F (4 : Int32) p2 True) (3 : Int32) p2 (stR F (4 : Int32) p2 True))) (1 : Int32) p2 (stR (stF (stF F (4 : Int32) p2 True) (3 : Int32) p2 (stR F (4 : Int32) p2 True)) (2 : Int32) p2 (stR (stF F (4 : Int32) p2 True) (3 : Int32) p2 (stR F (4 : Int32) p2 True)))))))] [(.int (bI (¬ (stR (stF (stF (stF (stF F (4 : Int32) p2 True) (3 : Int32) p2 (stR F (4 : Int32) p2 True)) (2 : Int32) p2 (stR (stF F (4 : Int32) p2 True) (3 : Int32) p2 (stR F (4 : Int32) p2 True))) (1 : Int32) p2 (stR (stF (stF F (4 : Int32) p2 True) (3 : Int32) p2 (stR F (4 : Int32) p2 True)) (2 : Int32) p2 (stR (stF F (4 : Int32) p2 True) (3 : Int32) p2 (stR F (4 : Int32) p2 True)))) (0 : Int32) p2 (stR (stF (stF (stF F (4 : Int32) p2 True) (3 : Int32) p2 (stR F (4 : Int32) p2 True)) (2 : Int32) p2 (stR (stF F (4 : Int32) p2 True) (3 : Int32) p2 (stR F (4 : Int32) p2 True))) (1 : Int32) p2 (stR (stF (stF F (4 : Int32) p2 True) (3 : Int32) p2 (stR F (4 : Int32) p2 True)) (2 : Int32) p2 (stR (stF F (4 : Int32) p2 True) (3 : Int32) p2 (stR F (4 : Int32) p2 True))))))))]))
    exact g_retZ X d2_51 (by decide) (by decide) (bI_01 _) ⟨rfl, K, A_a1⟩
  · intro J51_0
    refine g_bne X d2_43 (q := 46) rfl (by decide) (t := 50) rfl (fun (c1 : stR (stF (stF (stF (stF F (4 : Int32) p2 True) (3 : Int32) p2 (stR F (4 : Int32) p2 True)) (2 : Int32) p2 (stR (stF F (4 : Int32) p2 True) (3 : Int32) p2 (stR F (4 : Int32) p2 True))) (1 : Int32) p2 (stR (stF (stF F (4 : Int32) p2 True) (3 : Int32) p2 (stR F (4 : Int32) p2 True)) (2 : Int32) p2 (stR (stF F (4 : Int32) p2 True) (3 : Int32) p2 (stR F (4 : Int32) p2 True)))) (0 : Int32) p2 (stR (stF (stF (stF F (4 : Int32) p2 True) (3 : Int32) p2 (stR F (4 : Int32) p2 True)) (2 : Int32) p2 (stR (stF F (4 : Int32) p2 True) (3 : Int32) p2 (stR F (4 : Int32) p2 True))) (1 : Int32) p2 (stR (stF (stF F (4 : Int32) p2 True) (3 : Int32) p2 (stR F (4 : Int32) p2 True)) (2 : Int32) p2 (stR (stF F (4 : Int32) p2 True) (3 : Int32) p2 (stR F (4 : Int32) p2 True))))) => ?_) (fun (c1 : ¬ (stR (stF (stF (stF (stF F (4 : Int32) p2 True) (3 : Int32) p2 (stR F (4 : Int32) p2 True)) (2 : Int32) p2 (stR (stF F (4 : Int32) p2 True) (3 : Int32) p2 (stR F (4 : Int32) p2 True))) (1 : Int32) p2 (stR (stF (stF F (4 : Int32) p2 True) (3 : Int32) p2 (stR F (4 : Int32) p2 True)) (2 : Int32) p2 (stR (stF F (4 : Int32) p2 True) (3 : Int32) p2 (stR F (4 : Int32) p2 True)))) (0 : Int32) p2 (stR (stF (stF (stF F (4 : Int32) p2 True) (3 : Int32) p2 (stR F (4 : Int32) p2 True)) (2 : Int32) p2 (stR (stF F (4 : Int32) p2 True) (3 : Int32) p2 (stR F (4 : Int32) p2 True))) (1 : Int32) p2 (stR (stF (stF F (4 : Int32) p2 True) (3 : Int32) p2 (stR F (4 : Int32) p2 True)) (2 : Int32) p2 (stR (stF F (4 : Int32) p2 True) (3 : Int32) p2 (stR F (4 : Int32) p2 True)))))) => ?_)
    · skip
      refine g_iconst X d2_50 rfl (q := 51) (v := 0) rfl ?_
      exact J51_0 T X _ (bI_f (fun z => z c1))
    · skip
      refine g_iconst X d2_46 rfl (q := 47) (v := 1) rfl ?_
      refine g_goto X d2_47 (by decide) (q := 51) rfl ?_
      exact J51_0 T X _ (bI_t c1)
theorem pn4_n0 : plainName "com/example/eulay/eulay/generation/PermutationsNextPinLaw" = true := by first | (simp [plainName, overriddenIn]; done) | decide +kernel
theorem ef4_n0 (m : MethodId) (x0 : Addr) (x1 : Int32) : entryFrame m #[(.ref x0), (.int x1)] 4 = mkF m 0 #[.val (.ref x0), .val (.int x1), .unset, .unset] [] := by first | (simp [entryFrame, mkF, argsToLocals, Value.category]; done) | rfl
set_option maxRecDepth 65536 in
set_option maxHeartbeats 40000000 in
theorem rm4_n0 (l : Launch) (Z : State) (a0 : Array Value) (hw : ∀ d ∈ tables_1, d.before a0 Z = true) (ws : List Jvm.Cond) (a1 : Addr) (D : Nat → Int32) (h0 : Heap) (n0 : Nat) (Z0 : n0 ≤ h0.size) (A_a1 : AI Z h0 a1 .int 5 D) (hD : ∀ j : Nat, j < 5 → 0 ≤ (D j).toInt ∧ (D j).toInt < (5 : Nat)) :
    Met l Z (⟨"com/example/eulay/eulay/generation/PermutationsNextPinLaw", "build", "([II)[I"⟩ : MethodName) method_5_code 4 (some (.array .int)) ({ frames := 0, cells := 2, slots := 5, locals := 0 } : Room) ws n0 #[(.ref a1), (.int (0 : Int32))] h0 (fun v h' => ∃ b2 : Addr, v = some (.ref b2) ∧ n0 ≤ b2 ∧ h0.size ≤ b2 ∧ Keep h0 h' [] ∧ AI Z h' b2 .int 0 (fun _ => 0)) := by
  refine Met.intro (plainFor_of_name pn4_n0) Z0 ?_
  intro p e s m below meth c T X
  refine g_cast (ef4_n0 m a1 (0 : Int32)) ?_
  have K : Keep h0 h0 [] := Keep.refl h0 _
  refine g_iconst X d4_0 rfl (q := 1) (v := 5) rfl ?_
  refine g_newarrI X (aty := .int) rfl (tw0 hw) d4_1 (q := 3) rfl (by decide) (cap := 5) (by decide) (by decide) (c2 := 1) (s2 := 5) rfl rfl (by decide) (by decide) (fun T h' b1 X gz_b1 g_b1 E A_new => ?_)
  have ne_a1_b1 := own_new gz_b1 A_a1.lt
  have ne_b1_a1 := own_apS ne_a1_b1
  have sz_b1 := own_sz gz_b1 K
  have K := K.ext E
  have A_a1 := A_a1.ext E
  have A_b1 : AI Z h' b1 .int 5 (fun _ => 0) := A_new
  refine g_dup X d4_3 rfl (q := 4) rfl ?_
  refine g_iconst X d4_4 rfl (q := 5) (v := 0) rfl ?_
  refine g_iconst X d4_5 rfl (q := 6) (v := 0) rfl ?_
  refine g_iastore X A_b1 ⟨by decide, by decide⟩ g_b1 d4_6 (q := 7) rfl (fun T h X W => ?_)
  have A_a1 := A_a1.other W ne_a1_b1
  have A_b1 : AI Z h b1 .int 5 (own_up (fun _ => 0) 0 (0 : Int32)) := A_b1.set W
  have K := K.wr W (Or.inr sz_b1)
  refine g_dup X d4_7 rfl (q := 8) rfl ?_
  refine g_iconst X d4_8 rfl (q := 9) (v := 1) rfl ?_
  refine g_iconst X d4_9 rfl (q := 10) (v := 1) rfl ?_
  refine g_iastore X A_b1 ⟨by decide, by decide⟩ g_b1 d4_10 (q := 11) rfl (fun T h X W => ?_)
  have A_a1 := A_a1.other W ne_a1_b1
  have A_b1 : AI Z h b1 .int 5 (own_up (own_up (fun _ => 0) 0 (0 : Int32)) 1 (1 : Int32)) := A_b1.set W
  have K := K.wr W (Or.inr sz_b1)
  refine g_dup X d4_11 rfl (q := 12) rfl ?_
  refine g_iconst X d4_12 rfl (q := 13) (v := 2) rfl ?_
  refine g_iconst X d4_13 rfl (q := 14) (v := 2) rfl ?_
  refine g_iastore X A_b1 ⟨by decide, by decide⟩ g_b1 d4_14 (q := 15) rfl (fun T h X W => ?_)
  have A_a1 := A_a1.other W ne_a1_b1
  have A_b1 : AI Z h b1 .int 5 (own_up (own_up (own_up (fun _ => 0) 0 (0 : Int32)) 1 (1 : Int32)) 2 (2 : Int32)) := A_b1.set W
  have K := K.wr W (Or.inr sz_b1)
  refine g_dup X d4_15 rfl (q := 16) rfl ?_
  refine g_iconst X d4_16 rfl (q := 17) (v := 3) rfl ?_
  refine g_iconst X d4_17 rfl (q := 18) (v := 3) rfl ?_
  refine g_iastore X A_b1 ⟨by decide, by decide⟩ g_b1 d4_18 (q := 19) rfl (fun T h X W => ?_)
  have A_a1 := A_a1.other W ne_a1_b1
  have A_b1 : AI Z h b1 .int 5 (own_up (own_up (own_up (own_up (fun _ => 0) 0 (0 : Int32)) 1 (1 : Int32)) 2 (2 : Int32)) 3 (3 : Int32)) := A_b1.set W
  have K := K.wr W (Or.inr sz_b1)
  refine g_dup X d4_19 rfl (q := 20) rfl ?_
  refine g_iconst X d4_20 rfl (q := 21) (v := 4) rfl ?_
  refine g_iconst X d4_21 rfl (q := 22) (v := 4) rfl ?_
  refine g_iastore X A_b1 ⟨by decide, by decide⟩ g_b1 d4_22 (q := 23) rfl (fun T h X W => ?_)
  have A_a1 := A_a1.other W ne_a1_b1
  have A_b1 : AI Z h b1 .int 5 (own_up (own_up (own_up (own_up (own_up (fun _ => 0) 0 (0 : Int32)) 1 (1 : Int32)) 2 (2 : Int32)) 3 (3 : Int32)) 4 (4 : Int32)) := A_b1.set W
  have K := K.wr W (Or.inr sz_b1)
  refine g_astoreN X d4_23 rfl (q := 24) (L' := #[.val (.ref a1), .val (.int (0 : Int32)), .val (.ref b1), .unset]) rfl rfl ?_
  refine g_iloadN X d4_24 rfl (q := 25) rfl ?_
  refine g_newarrI X (aty := .int) rfl (tw0 hw) d4_25 (q := 27) rfl (by decide) (cap := 0) (by decide) (by decide) (c2 := 2) (s2 := 5) rfl rfl (by decide) (by decide) (fun T h' b2 X gz_b2 g_b2 E A_new => ?_)
  have ne_a1_b2 := own_new gz_b2 A_a1.lt
  have ne_b2_a1 := own_apS ne_a1_b2
  have ne_b1_b2 := own_new gz_b2 A_b1.lt
  have ne_b2_b1 := own_apS ne_b1_b2
  have sz_b2 := own_sz gz_b2 K
  have K := K.ext E
  have A_a1 := A_a1.ext E
  have A_b1 := A_b1.ext E
  have A_b2 : AI Z h' b2 .int 0 (fun _ => 0) := A_new
  refine g_astoreN X d4_27 rfl (q := 28) (L' := #[.val (.ref a1), .val (.int (0 : Int32)), .val (.ref b1), .val (.ref b2)]) rfl rfl ?_
  refine g_iloadN X d4_28 rfl (q := 29) rfl ?_
  refine g_jT0 X (J := 42) (L := #[.val (.ref a1), .val (.int (0 : Int32)), .val (.ref b1), .val (.ref b2)]) (S := []) ?_ ?_
  · intro T X
    refine g_iloadN X d4_42 rfl (q := 43) rfl ?_
    refine g_iconst X d4_43 rfl (q := 44) (v := 1) rfl ?_
    refine g_jT0 X (J := 57) (L := #[.val (.ref a1), .val (.int (0 : Int32)), .val (.ref b1), .val (.ref b2)]) (S := []) ?_ ?_
    · intro T X
      refine g_iloadN X d4_57 rfl (q := 58) rfl ?_
      refine g_iconst X d4_58 rfl (q := 59) (v := 2) rfl ?_
      refine g_jT0 X (J := 72) (L := #[.val (.ref a1), .val (.int (0 : Int32)), .val (.ref b1), .val (.ref b2)]) (S := []) ?_ ?_
      · intro T X
        refine g_iloadN X d4_72 rfl (q := 73) rfl ?_
        refine g_iconst X d4_73 rfl (q := 74) (v := 3) rfl ?_
        refine g_jT0 X (J := 87) (L := #[.val (.ref a1), .val (.int (0 : Int32)), .val (.ref b1), .val (.ref b2)]) (S := []) ?_ ?_
        · intro T X
          refine g_iloadN X d4_87 rfl (q := 88) rfl ?_
          refine g_iconst X d4_88 rfl (q := 89) (v := 4) rfl ?_
          refine g_jT0 X (J := 102) (L := #[.val (.ref a1), .val (.int (0 : Int32)), .val (.ref b1), .val (.ref b2)]) (S := []) ?_ ?_
          · intro T X
            refine g_aloadN X d4_102 rfl (q := 103) rfl rfl ?_
            exact g_retA X rfl rfl d4_103 (by decide) (by decide) ⟨b2, rfl, g_b2, sz_b2, K, A_b2⟩
          · intro J102_0
            refine g_icmpB X d4_89 (Or.inr (Or.inl rfl)) (q := 92) rfl (by decide) (t := 102) rfl (fun (c1 : (4 : Int32) < (0 : Int32)) => ?_) (fun (c1 : ¬ ((4 : Int32) < (0 : Int32))) => ?_)
            · skip
              exact absurd c1 (by decide)
            · skip
              exact J102_0 T X
        · intro J87_1
          refine g_icmpB X d4_74 (Or.inr (Or.inl rfl)) (q := 77) rfl (by decide) (t := 87) rfl (fun (c2 : (3 : Int32) < (0 : Int32)) => ?_) (fun (c2 : ¬ ((3 : Int32) < (0 : Int32))) => ?_)
          · skip
            exact absurd c2 (by decide)
          · skip
            exact J87_1 T X
      · intro J72_2
        refine g_icmpB X d4_59 (Or.inr (Or.inl rfl)) (q := 62) rfl (by decide) (t := 72) rfl (fun (c3 : (2 : Int32) < (0 : Int32)) => ?_) (fun (c3 : ¬ ((2 : Int32) < (0 : Int32))) => ?_)
        · skip
          exact absurd c3 (by decide)
        · skip
          exact J72_2 T X
    · intro J57_3
      refine g_icmpB X d4_44 (Or.inr (Or.inl rfl)) (q := 47) rfl (by decide) (t := 57) rfl (fun (c4 : (1 : Int32) < (0 : Int32)) => ?_) (fun (c4 : ¬ ((1 : Int32) < (0 : Int32))) => ?_)
      · skip
        exact absurd c4 (by decide)
      · skip
        exact J57_3 T X
  · intro J42_4
    refine g_ifB X d4_29 (Or.inr (Or.inl rfl)) (q := 32) rfl (by decide) (t := 42) rfl (fun (c5 : (0 : Int32) < (0 : Int32)) => ?_) (fun (c5 : ¬ ((0 : Int32) < (0 : Int32))) => ?_)
    · skip
      exact absurd c5 (by decide)
    · skip
      exact J42_4 T X
theorem pn4_n1 : plainName "com/example/eulay/eulay/generation/PermutationsNextPinLaw" = true := by first | (simp [plainName, overriddenIn]; done) | decide +kernel
theorem ef4_n1 (m : MethodId) (x0 : Addr) (x1 : Int32) : entryFrame m #[(.ref x0), (.int x1)] 4 = mkF m 0 #[.val (.ref x0), .val (.int x1), .unset, .unset] [] := by first | (simp [entryFrame, mkF, argsToLocals, Value.category]; done) | rfl
set_option maxRecDepth 65536 in
set_option maxHeartbeats 40000000 in
theorem rm4_n1 (l : Launch) (Z : State) (a0 : Array Value) (hw : ∀ d ∈ tables_1, d.before a0 Z = true) (ws : List Jvm.Cond) (a1 : Addr) (D : Nat → Int32) (h0 : Heap) (n0 : Nat) (Z0 : n0 ≤ h0.size) (A_a1 : AI Z h0 a1 .int 5 D) (hD : ∀ j : Nat, j < 5 → 0 ≤ (D j).toInt ∧ (D j).toInt < (5 : Nat)) :
    Met l Z (⟨"com/example/eulay/eulay/generation/PermutationsNextPinLaw", "build", "([II)[I"⟩ : MethodName) method_5_code 4 (some (.array .int)) ({ frames := 1, cells := 2, slots := 6, locals := 16 } : Room) ws n0 #[(.ref a1), (.int (1 : Int32))] h0 (fun v h' => ∃ b4 : Addr, v = some (.ref b4) ∧ n0 ≤ b4 ∧ h0.size ≤ b4 ∧ Keep h0 h' [] ∧ AI Z h' b4 .int 1 (own_up (fun _ => 0) 0 ((own_up (own_up (own_up (own_up (own_up (fun _ => 0) 0 (0 : Int32)) 1 (1 : Int32)) 2 (2 : Int32)) 3 (3 : Int32)) 4 (4 : Int32)) (D 0).toNatClampNeg))) := by
  refine Met.intro (plainFor_of_name pn4_n1) Z0 ?_
  intro p e s m below meth c T X
  refine g_cast (ef4_n1 m a1 (1 : Int32)) ?_
  have K : Keep h0 h0 [] := Keep.refl h0 _
  refine g_iconst X d4_0 rfl (q := 1) (v := 5) rfl ?_
  refine g_newarrI X (aty := .int) rfl (tw0 hw) d4_1 (q := 3) rfl (by decide) (cap := 5) (by decide) (by decide) (c2 := 1) (s2 := 5) rfl rfl (by decide) (by decide) (fun T h' b3 X gz_b3 g_b3 E A_new => ?_)
  have ne_a1_b3 := own_new gz_b3 A_a1.lt
  have ne_b3_a1 := own_apS ne_a1_b3
  have sz_b3 := own_sz gz_b3 K
  have K := K.ext E
  have A_a1 := A_a1.ext E
  have A_b3 : AI Z h' b3 .int 5 (fun _ => 0) := A_new
  refine g_dup X d4_3 rfl (q := 4) rfl ?_
  refine g_iconst X d4_4 rfl (q := 5) (v := 0) rfl ?_
  refine g_iconst X d4_5 rfl (q := 6) (v := 0) rfl ?_
  refine g_iastore X A_b3 ⟨by decide, by decide⟩ g_b3 d4_6 (q := 7) rfl (fun T h X W => ?_)
  have A_a1 := A_a1.other W ne_a1_b3
  have A_b3 : AI Z h b3 .int 5 (own_up (fun _ => 0) 0 (0 : Int32)) := A_b3.set W
  have K := K.wr W (Or.inr sz_b3)
  refine g_dup X d4_7 rfl (q := 8) rfl ?_
  refine g_iconst X d4_8 rfl (q := 9) (v := 1) rfl ?_
  refine g_iconst X d4_9 rfl (q := 10) (v := 1) rfl ?_
  refine g_iastore X A_b3 ⟨by decide, by decide⟩ g_b3 d4_10 (q := 11) rfl (fun T h X W => ?_)
  have A_a1 := A_a1.other W ne_a1_b3
  have A_b3 : AI Z h b3 .int 5 (own_up (own_up (fun _ => 0) 0 (0 : Int32)) 1 (1 : Int32)) := A_b3.set W
  have K := K.wr W (Or.inr sz_b3)
  refine g_dup X d4_11 rfl (q := 12) rfl ?_
  refine g_iconst X d4_12 rfl (q := 13) (v := 2) rfl ?_
  refine g_iconst X d4_13 rfl (q := 14) (v := 2) rfl ?_
  refine g_iastore X A_b3 ⟨by decide, by decide⟩ g_b3 d4_14 (q := 15) rfl (fun T h X W => ?_)
  have A_a1 := A_a1.other W ne_a1_b3
  have A_b3 : AI Z h b3 .int 5 (own_up (own_up (own_up (fun _ => 0) 0 (0 : Int32)) 1 (1 : Int32)) 2 (2 : Int32)) := A_b3.set W
  have K := K.wr W (Or.inr sz_b3)
  refine g_dup X d4_15 rfl (q := 16) rfl ?_
  refine g_iconst X d4_16 rfl (q := 17) (v := 3) rfl ?_
  refine g_iconst X d4_17 rfl (q := 18) (v := 3) rfl ?_
  refine g_iastore X A_b3 ⟨by decide, by decide⟩ g_b3 d4_18 (q := 19) rfl (fun T h X W => ?_)
  have A_a1 := A_a1.other W ne_a1_b3
  have A_b3 : AI Z h b3 .int 5 (own_up (own_up (own_up (own_up (fun _ => 0) 0 (0 : Int32)) 1 (1 : Int32)) 2 (2 : Int32)) 3 (3 : Int32)) := A_b3.set W
  have K := K.wr W (Or.inr sz_b3)
  refine g_dup X d4_19 rfl (q := 20) rfl ?_
  refine g_iconst X d4_20 rfl (q := 21) (v := 4) rfl ?_
  refine g_iconst X d4_21 rfl (q := 22) (v := 4) rfl ?_
  refine g_iastore X A_b3 ⟨by decide, by decide⟩ g_b3 d4_22 (q := 23) rfl (fun T h X W => ?_)
  have A_a1 := A_a1.other W ne_a1_b3
  have A_b3 : AI Z h b3 .int 5 (own_up (own_up (own_up (own_up (own_up (fun _ => 0) 0 (0 : Int32)) 1 (1 : Int32)) 2 (2 : Int32)) 3 (3 : Int32)) 4 (4 : Int32)) := A_b3.set W
  have K := K.wr W (Or.inr sz_b3)
  refine g_astoreN X d4_23 rfl (q := 24) (L' := #[.val (.ref a1), .val (.int (1 : Int32)), .val (.ref b3), .unset]) rfl rfl ?_
  refine g_iloadN X d4_24 rfl (q := 25) rfl ?_
  refine g_newarrI X (aty := .int) rfl (tw0 hw) d4_25 (q := 27) rfl (by decide) (cap := 1) (by decide) (by decide) (c2 := 2) (s2 := 6) rfl rfl (by decide) (by decide) (fun T h' b4 X gz_b4 g_b4 E A_new => ?_)
  have ne_a1_b4 := own_new gz_b4 A_a1.lt
  have ne_b4_a1 := own_apS ne_a1_b4
  have ne_b3_b4 := own_new gz_b4 A_b3.lt
  have ne_b4_b3 := own_apS ne_b3_b4
  have sz_b4 := own_sz gz_b4 K
  have K := K.ext E
  have A_a1 := A_a1.ext E
  have A_b3 := A_b3.ext E
  have A_b4 : AI Z h' b4 .int 1 (fun _ => 0) := A_new
  refine g_astoreN X d4_27 rfl (q := 28) (L' := #[.val (.ref a1), .val (.int (1 : Int32)), .val (.ref b3), .val (.ref b4)]) rfl rfl ?_
  refine g_iloadN X d4_28 rfl (q := 29) rfl ?_
  refine g_ifB X d4_29 (Or.inr (Or.inl rfl)) (q := 32) rfl (by decide) (t := 42) rfl (fun (c1 : (0 : Int32) < (1 : Int32)) => ?_) (fun (c1 : ¬ ((0 : Int32) < (1 : Int32))) => ?_)
  · skip
    refine g_aloadN X d4_32 rfl (q := 33) rfl rfl ?_
    refine g_iconst X d4_33 rfl (q := 34) (v := 0) rfl ?_
    refine g_aloadN X d4_34 rfl (q := 35) rfl rfl ?_
    refine g_aloadN X d4_35 rfl (q := 36) rfl rfl ?_
    refine g_iconst X d4_36 rfl (q := 37) (v := 0) rfl ?_
    refine g_iaload X A_a1 ⟨by decide, by decide⟩ d4_37 (q := 38) rfl ?_
    refine g_callS X [(.ref b3), (.int (D 0))] [(.int (0 : Int32)), (.ref b4)] (tw22 hw) (tw23 hw) (tw3 hw) (tw24 hw) (by decide) (rm7 l Z a0 hw [] b3 (D 0) (own_up (own_up (own_up (own_up (own_up (fun _ => 0) 0 (0 : Int32)) 1 (1 : Int32)) 2 (2 : Int32)) 3 (3 : Int32)) 4 (4 : Int32)) _ n0 X.size A_b3 g_b3 (hD 0 (by decide))) pd1 rfl rfl rfl d4_38 (q := 41) rfl (W := 2) rfl (by decide) (by decide) (c2 := 2) (s2 := 6) rfl rfl (by decide) (by decide) (fun v T h' X hQ => ?_)
    obtain ⟨rfl, Kc, A_b3'⟩ := hQ
    have A_a1 := A_a1.keep Kc (ninS ne_a1_b3 nin0)
    have A_b4 := A_b4.keep Kc (ninS ne_b4_b3 nin0)
    have A_b3 : AI Z h' b3 .int 5 (tk (own_up (own_up (own_up (own_up (own_up (fun _ => 0) 0 (0 : Int32)) 1 (1 : Int32)) 2 (2 : Int32)) 3 (3 : Int32)) 4 (4 : Int32)) (D 0)) := A_b3'
    have K := K.trans Kc (allS (Or.inr sz_b3) all0)
    show Goes p e below s _ n0 _ (T.setTop (mkF m 41 #[.val (.ref a1), .val (.int (1 : Int32)), .val (.ref b3), .val (.ref b4)] [(.int ((own_up (own_up (own_up (own_up (own_up (fun _ => 0) 0 (0 : Int32)) 1 (1 : Int32)) 2 (2 : Int32)) 3 (3 : Int32)) 4 (4 : Int32)) (D 0).toNatClampNeg)), (.int (0 : Int32)), (.ref b4)]))
    refine g_iastore X A_b4 ⟨by decide, by decide⟩ g_b4 d4_41 (q := 42) rfl (fun T h X W => ?_)
    have A_a1 := A_a1.other W ne_a1_b4
    have A_b3 := A_b3.other W ne_b3_b4
    have A_b4 : AI Z h b4 .int 1 (own_up (fun _ => 0) 0 ((own_up (own_up (own_up (own_up (own_up (fun _ => 0) 0 (0 : Int32)) 1 (1 : Int32)) 2 (2 : Int32)) 3 (3 : Int32)) 4 (4 : Int32)) (D 0).toNatClampNeg)) := A_b4.set W
    have K := K.wr W (Or.inr sz_b4)
    refine g_iloadN X d4_42 rfl (q := 43) rfl ?_
    refine g_iconst X d4_43 rfl (q := 44) (v := 1) rfl ?_
    refine g_jT0 X (J := 57) (L := #[.val (.ref a1), .val (.int (1 : Int32)), .val (.ref b3), .val (.ref b4)]) (S := []) ?_ ?_
    · intro T X
      refine g_iloadN X d4_57 rfl (q := 58) rfl ?_
      refine g_iconst X d4_58 rfl (q := 59) (v := 2) rfl ?_
      refine g_jT0 X (J := 72) (L := #[.val (.ref a1), .val (.int (1 : Int32)), .val (.ref b3), .val (.ref b4)]) (S := []) ?_ ?_
      · intro T X
        refine g_iloadN X d4_72 rfl (q := 73) rfl ?_
        refine g_iconst X d4_73 rfl (q := 74) (v := 3) rfl ?_
        refine g_jT0 X (J := 87) (L := #[.val (.ref a1), .val (.int (1 : Int32)), .val (.ref b3), .val (.ref b4)]) (S := []) ?_ ?_
        · intro T X
          refine g_iloadN X d4_87 rfl (q := 88) rfl ?_
          refine g_iconst X d4_88 rfl (q := 89) (v := 4) rfl ?_
          refine g_jT0 X (J := 102) (L := #[.val (.ref a1), .val (.int (1 : Int32)), .val (.ref b3), .val (.ref b4)]) (S := []) ?_ ?_
          · intro T X
            refine g_aloadN X d4_102 rfl (q := 103) rfl rfl ?_
            exact g_retA X rfl rfl d4_103 (by decide) (by decide) ⟨b4, rfl, g_b4, sz_b4, K, A_b4⟩
          · intro J102_1
            refine g_icmpB X d4_89 (Or.inr (Or.inl rfl)) (q := 92) rfl (by decide) (t := 102) rfl (fun (c2 : (4 : Int32) < (1 : Int32)) => ?_) (fun (c2 : ¬ ((4 : Int32) < (1 : Int32))) => ?_)
            · skip
              exact absurd c2 (by decide)
            · skip
              exact J102_1 T X
        · intro J87_2
          refine g_icmpB X d4_74 (Or.inr (Or.inl rfl)) (q := 77) rfl (by decide) (t := 87) rfl (fun (c3 : (3 : Int32) < (1 : Int32)) => ?_) (fun (c3 : ¬ ((3 : Int32) < (1 : Int32))) => ?_)
          · skip
            exact absurd c3 (by decide)
          · skip
            exact J87_2 T X
      · intro J72_3
        refine g_icmpB X d4_59 (Or.inr (Or.inl rfl)) (q := 62) rfl (by decide) (t := 72) rfl (fun (c4 : (2 : Int32) < (1 : Int32)) => ?_) (fun (c4 : ¬ ((2 : Int32) < (1 : Int32))) => ?_)
        · skip
          exact absurd c4 (by decide)
        · skip
          exact J72_3 T X
    · intro J57_4
      refine g_icmpB X d4_44 (Or.inr (Or.inl rfl)) (q := 47) rfl (by decide) (t := 57) rfl (fun (c5 : (1 : Int32) < (1 : Int32)) => ?_) (fun (c5 : ¬ ((1 : Int32) < (1 : Int32))) => ?_)
      · skip
        exact absurd c5 (by decide)
      · skip
        exact J57_4 T X
  · skip
    exact absurd c1 (by decide)
theorem pn4_n2 : plainName "com/example/eulay/eulay/generation/PermutationsNextPinLaw" = true := by first | (simp [plainName, overriddenIn]; done) | decide +kernel
theorem ef4_n2 (m : MethodId) (x0 : Addr) (x1 : Int32) : entryFrame m #[(.ref x0), (.int x1)] 4 = mkF m 0 #[.val (.ref x0), .val (.int x1), .unset, .unset] [] := by first | (simp [entryFrame, mkF, argsToLocals, Value.category]; done) | rfl
set_option maxRecDepth 65536 in
set_option maxHeartbeats 40000000 in
theorem rm4_n2 (l : Launch) (Z : State) (a0 : Array Value) (hw : ∀ d ∈ tables_1, d.before a0 Z = true) (ws : List Jvm.Cond) (a1 : Addr) (D : Nat → Int32) (h0 : Heap) (n0 : Nat) (Z0 : n0 ≤ h0.size) (A_a1 : AI Z h0 a1 .int 5 D) (hD : ∀ j : Nat, j < 5 → 0 ≤ (D j).toInt ∧ (D j).toInt < (5 : Nat)) :
    Met l Z (⟨"com/example/eulay/eulay/generation/PermutationsNextPinLaw", "build", "([II)[I"⟩ : MethodName) method_5_code 4 (some (.array .int)) ({ frames := 1, cells := 2, slots := 7, locals := 16 } : Room) ws n0 #[(.ref a1), (.int (2 : Int32))] h0 (fun v h' => ∃ b6 : Addr, v = some (.ref b6) ∧ n0 ≤ b6 ∧ h0.size ≤ b6 ∧ Keep h0 h' [] ∧ AI Z h' b6 .int 2 (own_up (own_up (fun _ => 0) 0 ((own_up (own_up (own_up (own_up (own_up (fun _ => 0) 0 (0 : Int32)) 1 (1 : Int32)) 2 (2 : Int32)) 3 (3 : Int32)) 4 (4 : Int32)) (D 0).toNatClampNeg)) 1 ((tk (own_up (own_up (own_up (own_up (own_up (fun _ => 0) 0 (0 : Int32)) 1 (1 : Int32)) 2 (2 : Int32)) 3 (3 : Int32)) 4 (4 : Int32)) (D 0)) (D 1).toNatClampNeg))) := by
  refine Met.intro (plainFor_of_name pn4_n2) Z0 ?_
  intro p e s m below meth c T X
  refine g_cast (ef4_n2 m a1 (2 : Int32)) ?_
  have K : Keep h0 h0 [] := Keep.refl h0 _
  refine g_iconst X d4_0 rfl (q := 1) (v := 5) rfl ?_
  refine g_newarrI X (aty := .int) rfl (tw0 hw) d4_1 (q := 3) rfl (by decide) (cap := 5) (by decide) (by decide) (c2 := 1) (s2 := 5) rfl rfl (by decide) (by decide) (fun T h' b5 X gz_b5 g_b5 E A_new => ?_)
  have ne_a1_b5 := own_new gz_b5 A_a1.lt
  have ne_b5_a1 := own_apS ne_a1_b5
  have sz_b5 := own_sz gz_b5 K
  have K := K.ext E
  have A_a1 := A_a1.ext E
  have A_b5 : AI Z h' b5 .int 5 (fun _ => 0) := A_new
  refine g_dup X d4_3 rfl (q := 4) rfl ?_
  refine g_iconst X d4_4 rfl (q := 5) (v := 0) rfl ?_
  refine g_iconst X d4_5 rfl (q := 6) (v := 0) rfl ?_
  refine g_iastore X A_b5 ⟨by decide, by decide⟩ g_b5 d4_6 (q := 7) rfl (fun T h X W => ?_)
  have A_a1 := A_a1.other W ne_a1_b5
  have A_b5 : AI Z h b5 .int 5 (own_up (fun _ => 0) 0 (0 : Int32)) := A_b5.set W
  have K := K.wr W (Or.inr sz_b5)
  refine g_dup X d4_7 rfl (q := 8) rfl ?_
  refine g_iconst X d4_8 rfl (q := 9) (v := 1) rfl ?_
  refine g_iconst X d4_9 rfl (q := 10) (v := 1) rfl ?_
  refine g_iastore X A_b5 ⟨by decide, by decide⟩ g_b5 d4_10 (q := 11) rfl (fun T h X W => ?_)
  have A_a1 := A_a1.other W ne_a1_b5
  have A_b5 : AI Z h b5 .int 5 (own_up (own_up (fun _ => 0) 0 (0 : Int32)) 1 (1 : Int32)) := A_b5.set W
  have K := K.wr W (Or.inr sz_b5)
  refine g_dup X d4_11 rfl (q := 12) rfl ?_
  refine g_iconst X d4_12 rfl (q := 13) (v := 2) rfl ?_
  refine g_iconst X d4_13 rfl (q := 14) (v := 2) rfl ?_
  refine g_iastore X A_b5 ⟨by decide, by decide⟩ g_b5 d4_14 (q := 15) rfl (fun T h X W => ?_)
  have A_a1 := A_a1.other W ne_a1_b5
  have A_b5 : AI Z h b5 .int 5 (own_up (own_up (own_up (fun _ => 0) 0 (0 : Int32)) 1 (1 : Int32)) 2 (2 : Int32)) := A_b5.set W
  have K := K.wr W (Or.inr sz_b5)
  refine g_dup X d4_15 rfl (q := 16) rfl ?_
  refine g_iconst X d4_16 rfl (q := 17) (v := 3) rfl ?_
  refine g_iconst X d4_17 rfl (q := 18) (v := 3) rfl ?_
  refine g_iastore X A_b5 ⟨by decide, by decide⟩ g_b5 d4_18 (q := 19) rfl (fun T h X W => ?_)
  have A_a1 := A_a1.other W ne_a1_b5
  have A_b5 : AI Z h b5 .int 5 (own_up (own_up (own_up (own_up (fun _ => 0) 0 (0 : Int32)) 1 (1 : Int32)) 2 (2 : Int32)) 3 (3 : Int32)) := A_b5.set W
  have K := K.wr W (Or.inr sz_b5)
  refine g_dup X d4_19 rfl (q := 20) rfl ?_
  refine g_iconst X d4_20 rfl (q := 21) (v := 4) rfl ?_
  refine g_iconst X d4_21 rfl (q := 22) (v := 4) rfl ?_
  refine g_iastore X A_b5 ⟨by decide, by decide⟩ g_b5 d4_22 (q := 23) rfl (fun T h X W => ?_)
  have A_a1 := A_a1.other W ne_a1_b5
  have A_b5 : AI Z h b5 .int 5 (own_up (own_up (own_up (own_up (own_up (fun _ => 0) 0 (0 : Int32)) 1 (1 : Int32)) 2 (2 : Int32)) 3 (3 : Int32)) 4 (4 : Int32)) := A_b5.set W
  have K := K.wr W (Or.inr sz_b5)
  refine g_astoreN X d4_23 rfl (q := 24) (L' := #[.val (.ref a1), .val (.int (2 : Int32)), .val (.ref b5), .unset]) rfl rfl ?_
  refine g_iloadN X d4_24 rfl (q := 25) rfl ?_
  refine g_newarrI X (aty := .int) rfl (tw0 hw) d4_25 (q := 27) rfl (by decide) (cap := 2) (by decide) (by decide) (c2 := 2) (s2 := 7) rfl rfl (by decide) (by decide) (fun T h' b6 X gz_b6 g_b6 E A_new => ?_)
  have ne_a1_b6 := own_new gz_b6 A_a1.lt
  have ne_b6_a1 := own_apS ne_a1_b6
  have ne_b5_b6 := own_new gz_b6 A_b5.lt
  have ne_b6_b5 := own_apS ne_b5_b6
  have sz_b6 := own_sz gz_b6 K
  have K := K.ext E
  have A_a1 := A_a1.ext E
  have A_b5 := A_b5.ext E
  have A_b6 : AI Z h' b6 .int 2 (fun _ => 0) := A_new
  refine g_astoreN X d4_27 rfl (q := 28) (L' := #[.val (.ref a1), .val (.int (2 : Int32)), .val (.ref b5), .val (.ref b6)]) rfl rfl ?_
  refine g_iloadN X d4_28 rfl (q := 29) rfl ?_
  refine g_ifB X d4_29 (Or.inr (Or.inl rfl)) (q := 32) rfl (by decide) (t := 42) rfl (fun (c1 : (0 : Int32) < (2 : Int32)) => ?_) (fun (c1 : ¬ ((0 : Int32) < (2 : Int32))) => ?_)
  · skip
    refine g_aloadN X d4_32 rfl (q := 33) rfl rfl ?_
    refine g_iconst X d4_33 rfl (q := 34) (v := 0) rfl ?_
    refine g_aloadN X d4_34 rfl (q := 35) rfl rfl ?_
    refine g_aloadN X d4_35 rfl (q := 36) rfl rfl ?_
    refine g_iconst X d4_36 rfl (q := 37) (v := 0) rfl ?_
    refine g_iaload X A_a1 ⟨by decide, by decide⟩ d4_37 (q := 38) rfl ?_
    refine g_callS X [(.ref b5), (.int (D 0))] [(.int (0 : Int32)), (.ref b6)] (tw22 hw) (tw23 hw) (tw3 hw) (tw24 hw) (by decide) (rm7 l Z a0 hw [] b5 (D 0) (own_up (own_up (own_up (own_up (own_up (fun _ => 0) 0 (0 : Int32)) 1 (1 : Int32)) 2 (2 : Int32)) 3 (3 : Int32)) 4 (4 : Int32)) _ n0 X.size A_b5 g_b5 (hD 0 (by decide))) pd1 rfl rfl rfl d4_38 (q := 41) rfl (W := 2) rfl (by decide) (by decide) (c2 := 2) (s2 := 7) rfl rfl (by decide) (by decide) (fun v T h' X hQ => ?_)
    obtain ⟨rfl, Kc, A_b5'⟩ := hQ
    have A_a1 := A_a1.keep Kc (ninS ne_a1_b5 nin0)
    have A_b6 := A_b6.keep Kc (ninS ne_b6_b5 nin0)
    have A_b5 : AI Z h' b5 .int 5 (tk (own_up (own_up (own_up (own_up (own_up (fun _ => 0) 0 (0 : Int32)) 1 (1 : Int32)) 2 (2 : Int32)) 3 (3 : Int32)) 4 (4 : Int32)) (D 0)) := A_b5'
    have K := K.trans Kc (allS (Or.inr sz_b5) all0)
    show Goes p e below s _ n0 _ (T.setTop (mkF m 41 #[.val (.ref a1), .val (.int (2 : Int32)), .val (.ref b5), .val (.ref b6)] [(.int ((own_up (own_up (own_up (own_up (own_up (fun _ => 0) 0 (0 : Int32)) 1 (1 : Int32)) 2 (2 : Int32)) 3 (3 : Int32)) 4 (4 : Int32)) (D 0).toNatClampNeg)), (.int (0 : Int32)), (.ref b6)]))
    refine g_iastore X A_b6 ⟨by decide, by decide⟩ g_b6 d4_41 (q := 42) rfl (fun T h X W => ?_)
    have A_a1 := A_a1.other W ne_a1_b6
    have A_b5 := A_b5.other W ne_b5_b6
    have A_b6 : AI Z h b6 .int 2 (own_up (fun _ => 0) 0 ((own_up (own_up (own_up (own_up (own_up (fun _ => 0) 0 (0 : Int32)) 1 (1 : Int32)) 2 (2 : Int32)) 3 (3 : Int32)) 4 (4 : Int32)) (D 0).toNatClampNeg)) := A_b6.set W
    have K := K.wr W (Or.inr sz_b6)
    refine g_iloadN X d4_42 rfl (q := 43) rfl ?_
    refine g_iconst X d4_43 rfl (q := 44) (v := 1) rfl ?_
    refine g_icmpB X d4_44 (Or.inr (Or.inl rfl)) (q := 47) rfl (by decide) (t := 57) rfl (fun (c2 : (1 : Int32) < (2 : Int32)) => ?_) (fun (c2 : ¬ ((1 : Int32) < (2 : Int32))) => ?_)
    · skip
      refine g_aloadN X d4_47 rfl (q := 48) rfl rfl ?_
      refine g_iconst X d4_48 rfl (q := 49) (v := 1) rfl ?_
      refine g_aloadN X d4_49 rfl (q := 50) rfl rfl ?_
      refine g_aloadN X d4_50 rfl (q := 51) rfl rfl ?_
      refine g_iconst X d4_51 rfl (q := 52) (v := 1) rfl ?_
      refine g_iaload X A_a1 ⟨by decide, by decide⟩ d4_52 (q := 53) rfl ?_
      refine g_callS X [(.ref b5), (.int (D 1))] [(.int (1 : Int32)), (.ref b6)] (tw22 hw) (tw23 hw) (tw3 hw) (tw24 hw) (by decide) (rm7 l Z a0 hw [] b5 (D 1) (tk (own_up (own_up (own_up (own_up (own_up (fun _ => 0) 0 (0 : Int32)) 1 (1 : Int32)) 2 (2 : Int32)) 3 (3 : Int32)) 4 (4 : Int32)) (D 0)) _ n0 X.size A_b5 g_b5 (hD 1 (by decide))) pd1 rfl rfl rfl d4_53 (q := 56) rfl (W := 2) rfl (by decide) (by decide) (c2 := 2) (s2 := 7) rfl rfl (by decide) (by decide) (fun v T h' X hQ => ?_)
      obtain ⟨rfl, Kc, A_b5'⟩ := hQ
      have A_a1 := A_a1.keep Kc (ninS ne_a1_b5 nin0)
      have A_b6 := A_b6.keep Kc (ninS ne_b6_b5 nin0)
      have A_b5 : AI Z h' b5 .int 5 (tk (tk (own_up (own_up (own_up (own_up (own_up (fun _ => 0) 0 (0 : Int32)) 1 (1 : Int32)) 2 (2 : Int32)) 3 (3 : Int32)) 4 (4 : Int32)) (D 0)) (D 1)) := A_b5'
      have K := K.trans Kc (allS (Or.inr sz_b5) all0)
      show Goes p e below s _ n0 _ (T.setTop (mkF m 56 #[.val (.ref a1), .val (.int (2 : Int32)), .val (.ref b5), .val (.ref b6)] [(.int ((tk (own_up (own_up (own_up (own_up (own_up (fun _ => 0) 0 (0 : Int32)) 1 (1 : Int32)) 2 (2 : Int32)) 3 (3 : Int32)) 4 (4 : Int32)) (D 0)) (D 1).toNatClampNeg)), (.int (1 : Int32)), (.ref b6)]))
      refine g_iastore X A_b6 ⟨by decide, by decide⟩ g_b6 d4_56 (q := 57) rfl (fun T h X W => ?_)
      have A_a1 := A_a1.other W ne_a1_b6
      have A_b5 := A_b5.other W ne_b5_b6
      have A_b6 : AI Z h b6 .int 2 (own_up (own_up (fun _ => 0) 0 ((own_up (own_up (own_up (own_up (own_up (fun _ => 0) 0 (0 : Int32)) 1 (1 : Int32)) 2 (2 : Int32)) 3 (3 : Int32)) 4 (4 : Int32)) (D 0).toNatClampNeg)) 1 ((tk (own_up (own_up (own_up (own_up (own_up (fun _ => 0) 0 (0 : Int32)) 1 (1 : Int32)) 2 (2 : Int32)) 3 (3 : Int32)) 4 (4 : Int32)) (D 0)) (D 1).toNatClampNeg)) := A_b6.set W
      have K := K.wr W (Or.inr sz_b6)
      refine g_iloadN X d4_57 rfl (q := 58) rfl ?_
      refine g_iconst X d4_58 rfl (q := 59) (v := 2) rfl ?_
      refine g_jT0 X (J := 72) (L := #[.val (.ref a1), .val (.int (2 : Int32)), .val (.ref b5), .val (.ref b6)]) (S := []) ?_ ?_
      · intro T X
        refine g_iloadN X d4_72 rfl (q := 73) rfl ?_
        refine g_iconst X d4_73 rfl (q := 74) (v := 3) rfl ?_
        refine g_jT0 X (J := 87) (L := #[.val (.ref a1), .val (.int (2 : Int32)), .val (.ref b5), .val (.ref b6)]) (S := []) ?_ ?_
        · intro T X
          refine g_iloadN X d4_87 rfl (q := 88) rfl ?_
          refine g_iconst X d4_88 rfl (q := 89) (v := 4) rfl ?_
          refine g_jT0 X (J := 102) (L := #[.val (.ref a1), .val (.int (2 : Int32)), .val (.ref b5), .val (.ref b6)]) (S := []) ?_ ?_
          · intro T X
            refine g_aloadN X d4_102 rfl (q := 103) rfl rfl ?_
            exact g_retA X rfl rfl d4_103 (by decide) (by decide) ⟨b6, rfl, g_b6, sz_b6, K, A_b6⟩
          · intro J102_2
            refine g_icmpB X d4_89 (Or.inr (Or.inl rfl)) (q := 92) rfl (by decide) (t := 102) rfl (fun (c3 : (4 : Int32) < (2 : Int32)) => ?_) (fun (c3 : ¬ ((4 : Int32) < (2 : Int32))) => ?_)
            · skip
              exact absurd c3 (by decide)
            · skip
              exact J102_2 T X
        · intro J87_3
          refine g_icmpB X d4_74 (Or.inr (Or.inl rfl)) (q := 77) rfl (by decide) (t := 87) rfl (fun (c4 : (3 : Int32) < (2 : Int32)) => ?_) (fun (c4 : ¬ ((3 : Int32) < (2 : Int32))) => ?_)
          · skip
            exact absurd c4 (by decide)
          · skip
            exact J87_3 T X
      · intro J72_4
        refine g_icmpB X d4_59 (Or.inr (Or.inl rfl)) (q := 62) rfl (by decide) (t := 72) rfl (fun (c5 : (2 : Int32) < (2 : Int32)) => ?_) (fun (c5 : ¬ ((2 : Int32) < (2 : Int32))) => ?_)
        · skip
          exact absurd c5 (by decide)
        · skip
          exact J72_4 T X
    · skip
      exact absurd c2 (by decide)
  · skip
    exact absurd c1 (by decide)
theorem pn4_n3 : plainName "com/example/eulay/eulay/generation/PermutationsNextPinLaw" = true := by first | (simp [plainName, overriddenIn]; done) | decide +kernel
theorem ef4_n3 (m : MethodId) (x0 : Addr) (x1 : Int32) : entryFrame m #[(.ref x0), (.int x1)] 4 = mkF m 0 #[.val (.ref x0), .val (.int x1), .unset, .unset] [] := by first | (simp [entryFrame, mkF, argsToLocals, Value.category]; done) | rfl
set_option maxRecDepth 65536 in
set_option maxHeartbeats 40000000 in
theorem rm4_n3 (l : Launch) (Z : State) (a0 : Array Value) (hw : ∀ d ∈ tables_1, d.before a0 Z = true) (ws : List Jvm.Cond) (a1 : Addr) (D : Nat → Int32) (h0 : Heap) (n0 : Nat) (Z0 : n0 ≤ h0.size) (A_a1 : AI Z h0 a1 .int 5 D) (hD : ∀ j : Nat, j < 5 → 0 ≤ (D j).toInt ∧ (D j).toInt < (5 : Nat)) :
    Met l Z (⟨"com/example/eulay/eulay/generation/PermutationsNextPinLaw", "build", "([II)[I"⟩ : MethodName) method_5_code 4 (some (.array .int)) ({ frames := 1, cells := 2, slots := 8, locals := 16 } : Room) ws n0 #[(.ref a1), (.int (3 : Int32))] h0 (fun v h' => ∃ b8 : Addr, v = some (.ref b8) ∧ n0 ≤ b8 ∧ h0.size ≤ b8 ∧ Keep h0 h' [] ∧ AI Z h' b8 .int 3 (own_up (own_up (own_up (fun _ => 0) 0 ((own_up (own_up (own_up (own_up (own_up (fun _ => 0) 0 (0 : Int32)) 1 (1 : Int32)) 2 (2 : Int32)) 3 (3 : Int32)) 4 (4 : Int32)) (D 0).toNatClampNeg)) 1 ((tk (own_up (own_up (own_up (own_up (own_up (fun _ => 0) 0 (0 : Int32)) 1 (1 : Int32)) 2 (2 : Int32)) 3 (3 : Int32)) 4 (4 : Int32)) (D 0)) (D 1).toNatClampNeg)) 2 ((tk (tk (own_up (own_up (own_up (own_up (own_up (fun _ => 0) 0 (0 : Int32)) 1 (1 : Int32)) 2 (2 : Int32)) 3 (3 : Int32)) 4 (4 : Int32)) (D 0)) (D 1)) (D 2).toNatClampNeg))) := by
  refine Met.intro (plainFor_of_name pn4_n3) Z0 ?_
  intro p e s m below meth c T X
  refine g_cast (ef4_n3 m a1 (3 : Int32)) ?_
  have K : Keep h0 h0 [] := Keep.refl h0 _
  refine g_iconst X d4_0 rfl (q := 1) (v := 5) rfl ?_
  refine g_newarrI X (aty := .int) rfl (tw0 hw) d4_1 (q := 3) rfl (by decide) (cap := 5) (by decide) (by decide) (c2 := 1) (s2 := 5) rfl rfl (by decide) (by decide) (fun T h' b7 X gz_b7 g_b7 E A_new => ?_)
  have ne_a1_b7 := own_new gz_b7 A_a1.lt
  have ne_b7_a1 := own_apS ne_a1_b7
  have sz_b7 := own_sz gz_b7 K
  have K := K.ext E
  have A_a1 := A_a1.ext E
  have A_b7 : AI Z h' b7 .int 5 (fun _ => 0) := A_new
  refine g_dup X d4_3 rfl (q := 4) rfl ?_
  refine g_iconst X d4_4 rfl (q := 5) (v := 0) rfl ?_
  refine g_iconst X d4_5 rfl (q := 6) (v := 0) rfl ?_
  refine g_iastore X A_b7 ⟨by decide, by decide⟩ g_b7 d4_6 (q := 7) rfl (fun T h X W => ?_)
  have A_a1 := A_a1.other W ne_a1_b7
  have A_b7 : AI Z h b7 .int 5 (own_up (fun _ => 0) 0 (0 : Int32)) := A_b7.set W
  have K := K.wr W (Or.inr sz_b7)
  refine g_dup X d4_7 rfl (q := 8) rfl ?_
  refine g_iconst X d4_8 rfl (q := 9) (v := 1) rfl ?_
  refine g_iconst X d4_9 rfl (q := 10) (v := 1) rfl ?_
  refine g_iastore X A_b7 ⟨by decide, by decide⟩ g_b7 d4_10 (q := 11) rfl (fun T h X W => ?_)
  have A_a1 := A_a1.other W ne_a1_b7
  have A_b7 : AI Z h b7 .int 5 (own_up (own_up (fun _ => 0) 0 (0 : Int32)) 1 (1 : Int32)) := A_b7.set W
  have K := K.wr W (Or.inr sz_b7)
  refine g_dup X d4_11 rfl (q := 12) rfl ?_
  refine g_iconst X d4_12 rfl (q := 13) (v := 2) rfl ?_
  refine g_iconst X d4_13 rfl (q := 14) (v := 2) rfl ?_
  refine g_iastore X A_b7 ⟨by decide, by decide⟩ g_b7 d4_14 (q := 15) rfl (fun T h X W => ?_)
  have A_a1 := A_a1.other W ne_a1_b7
  have A_b7 : AI Z h b7 .int 5 (own_up (own_up (own_up (fun _ => 0) 0 (0 : Int32)) 1 (1 : Int32)) 2 (2 : Int32)) := A_b7.set W
  have K := K.wr W (Or.inr sz_b7)
  refine g_dup X d4_15 rfl (q := 16) rfl ?_
  refine g_iconst X d4_16 rfl (q := 17) (v := 3) rfl ?_
  refine g_iconst X d4_17 rfl (q := 18) (v := 3) rfl ?_
  refine g_iastore X A_b7 ⟨by decide, by decide⟩ g_b7 d4_18 (q := 19) rfl (fun T h X W => ?_)
  have A_a1 := A_a1.other W ne_a1_b7
  have A_b7 : AI Z h b7 .int 5 (own_up (own_up (own_up (own_up (fun _ => 0) 0 (0 : Int32)) 1 (1 : Int32)) 2 (2 : Int32)) 3 (3 : Int32)) := A_b7.set W
  have K := K.wr W (Or.inr sz_b7)
  refine g_dup X d4_19 rfl (q := 20) rfl ?_
  refine g_iconst X d4_20 rfl (q := 21) (v := 4) rfl ?_
  refine g_iconst X d4_21 rfl (q := 22) (v := 4) rfl ?_
  refine g_iastore X A_b7 ⟨by decide, by decide⟩ g_b7 d4_22 (q := 23) rfl (fun T h X W => ?_)
  have A_a1 := A_a1.other W ne_a1_b7
  have A_b7 : AI Z h b7 .int 5 (own_up (own_up (own_up (own_up (own_up (fun _ => 0) 0 (0 : Int32)) 1 (1 : Int32)) 2 (2 : Int32)) 3 (3 : Int32)) 4 (4 : Int32)) := A_b7.set W
  have K := K.wr W (Or.inr sz_b7)
  refine g_astoreN X d4_23 rfl (q := 24) (L' := #[.val (.ref a1), .val (.int (3 : Int32)), .val (.ref b7), .unset]) rfl rfl ?_
  refine g_iloadN X d4_24 rfl (q := 25) rfl ?_
  refine g_newarrI X (aty := .int) rfl (tw0 hw) d4_25 (q := 27) rfl (by decide) (cap := 3) (by decide) (by decide) (c2 := 2) (s2 := 8) rfl rfl (by decide) (by decide) (fun T h' b8 X gz_b8 g_b8 E A_new => ?_)
  have ne_a1_b8 := own_new gz_b8 A_a1.lt
  have ne_b8_a1 := own_apS ne_a1_b8
  have ne_b7_b8 := own_new gz_b8 A_b7.lt
  have ne_b8_b7 := own_apS ne_b7_b8
  have sz_b8 := own_sz gz_b8 K
  have K := K.ext E
  have A_a1 := A_a1.ext E
  have A_b7 := A_b7.ext E
  have A_b8 : AI Z h' b8 .int 3 (fun _ => 0) := A_new
  refine g_astoreN X d4_27 rfl (q := 28) (L' := #[.val (.ref a1), .val (.int (3 : Int32)), .val (.ref b7), .val (.ref b8)]) rfl rfl ?_
  refine g_iloadN X d4_28 rfl (q := 29) rfl ?_
  refine g_ifB X d4_29 (Or.inr (Or.inl rfl)) (q := 32) rfl (by decide) (t := 42) rfl (fun (c1 : (0 : Int32) < (3 : Int32)) => ?_) (fun (c1 : ¬ ((0 : Int32) < (3 : Int32))) => ?_)
  · skip
    refine g_aloadN X d4_32 rfl (q := 33) rfl rfl ?_
    refine g_iconst X d4_33 rfl (q := 34) (v := 0) rfl ?_
    refine g_aloadN X d4_34 rfl (q := 35) rfl rfl ?_
    refine g_aloadN X d4_35 rfl (q := 36) rfl rfl ?_
    refine g_iconst X d4_36 rfl (q := 37) (v := 0) rfl ?_
    refine g_iaload X A_a1 ⟨by decide, by decide⟩ d4_37 (q := 38) rfl ?_
    refine g_callS X [(.ref b7), (.int (D 0))] [(.int (0 : Int32)), (.ref b8)] (tw22 hw) (tw23 hw) (tw3 hw) (tw24 hw) (by decide) (rm7 l Z a0 hw [] b7 (D 0) (own_up (own_up (own_up (own_up (own_up (fun _ => 0) 0 (0 : Int32)) 1 (1 : Int32)) 2 (2 : Int32)) 3 (3 : Int32)) 4 (4 : Int32)) _ n0 X.size A_b7 g_b7 (hD 0 (by decide))) pd1 rfl rfl rfl d4_38 (q := 41) rfl (W := 2) rfl (by decide) (by decide) (c2 := 2) (s2 := 8) rfl rfl (by decide) (by decide) (fun v T h' X hQ => ?_)
    obtain ⟨rfl, Kc, A_b7'⟩ := hQ
    have A_a1 := A_a1.keep Kc (ninS ne_a1_b7 nin0)
    have A_b8 := A_b8.keep Kc (ninS ne_b8_b7 nin0)
    have A_b7 : AI Z h' b7 .int 5 (tk (own_up (own_up (own_up (own_up (own_up (fun _ => 0) 0 (0 : Int32)) 1 (1 : Int32)) 2 (2 : Int32)) 3 (3 : Int32)) 4 (4 : Int32)) (D 0)) := A_b7'
    have K := K.trans Kc (allS (Or.inr sz_b7) all0)
    show Goes p e below s _ n0 _ (T.setTop (mkF m 41 #[.val (.ref a1), .val (.int (3 : Int32)), .val (.ref b7), .val (.ref b8)] [(.int ((own_up (own_up (own_up (own_up (own_up (fun _ => 0) 0 (0 : Int32)) 1 (1 : Int32)) 2 (2 : Int32)) 3 (3 : Int32)) 4 (4 : Int32)) (D 0).toNatClampNeg)), (.int (0 : Int32)), (.ref b8)]))
    refine g_iastore X A_b8 ⟨by decide, by decide⟩ g_b8 d4_41 (q := 42) rfl (fun T h X W => ?_)
    have A_a1 := A_a1.other W ne_a1_b8
    have A_b7 := A_b7.other W ne_b7_b8
    have A_b8 : AI Z h b8 .int 3 (own_up (fun _ => 0) 0 ((own_up (own_up (own_up (own_up (own_up (fun _ => 0) 0 (0 : Int32)) 1 (1 : Int32)) 2 (2 : Int32)) 3 (3 : Int32)) 4 (4 : Int32)) (D 0).toNatClampNeg)) := A_b8.set W
    have K := K.wr W (Or.inr sz_b8)
    refine g_iloadN X d4_42 rfl (q := 43) rfl ?_
    refine g_iconst X d4_43 rfl (q := 44) (v := 1) rfl ?_
    refine g_icmpB X d4_44 (Or.inr (Or.inl rfl)) (q := 47) rfl (by decide) (t := 57) rfl (fun (c2 : (1 : Int32) < (3 : Int32)) => ?_) (fun (c2 : ¬ ((1 : Int32) < (3 : Int32))) => ?_)
    · skip
      refine g_aloadN X d4_47 rfl (q := 48) rfl rfl ?_
      refine g_iconst X d4_48 rfl (q := 49) (v := 1) rfl ?_
      refine g_aloadN X d4_49 rfl (q := 50) rfl rfl ?_
      refine g_aloadN X d4_50 rfl (q := 51) rfl rfl ?_
      refine g_iconst X d4_51 rfl (q := 52) (v := 1) rfl ?_
      refine g_iaload X A_a1 ⟨by decide, by decide⟩ d4_52 (q := 53) rfl ?_
      refine g_callS X [(.ref b7), (.int (D 1))] [(.int (1 : Int32)), (.ref b8)] (tw22 hw) (tw23 hw) (tw3 hw) (tw24 hw) (by decide) (rm7 l Z a0 hw [] b7 (D 1) (tk (own_up (own_up (own_up (own_up (own_up (fun _ => 0) 0 (0 : Int32)) 1 (1 : Int32)) 2 (2 : Int32)) 3 (3 : Int32)) 4 (4 : Int32)) (D 0)) _ n0 X.size A_b7 g_b7 (hD 1 (by decide))) pd1 rfl rfl rfl d4_53 (q := 56) rfl (W := 2) rfl (by decide) (by decide) (c2 := 2) (s2 := 8) rfl rfl (by decide) (by decide) (fun v T h' X hQ => ?_)
      obtain ⟨rfl, Kc, A_b7'⟩ := hQ
      have A_a1 := A_a1.keep Kc (ninS ne_a1_b7 nin0)
      have A_b8 := A_b8.keep Kc (ninS ne_b8_b7 nin0)
      have A_b7 : AI Z h' b7 .int 5 (tk (tk (own_up (own_up (own_up (own_up (own_up (fun _ => 0) 0 (0 : Int32)) 1 (1 : Int32)) 2 (2 : Int32)) 3 (3 : Int32)) 4 (4 : Int32)) (D 0)) (D 1)) := A_b7'
      have K := K.trans Kc (allS (Or.inr sz_b7) all0)
      show Goes p e below s _ n0 _ (T.setTop (mkF m 56 #[.val (.ref a1), .val (.int (3 : Int32)), .val (.ref b7), .val (.ref b8)] [(.int ((tk (own_up (own_up (own_up (own_up (own_up (fun _ => 0) 0 (0 : Int32)) 1 (1 : Int32)) 2 (2 : Int32)) 3 (3 : Int32)) 4 (4 : Int32)) (D 0)) (D 1).toNatClampNeg)), (.int (1 : Int32)), (.ref b8)]))
      refine g_iastore X A_b8 ⟨by decide, by decide⟩ g_b8 d4_56 (q := 57) rfl (fun T h X W => ?_)
      have A_a1 := A_a1.other W ne_a1_b8
      have A_b7 := A_b7.other W ne_b7_b8
      have A_b8 : AI Z h b8 .int 3 (own_up (own_up (fun _ => 0) 0 ((own_up (own_up (own_up (own_up (own_up (fun _ => 0) 0 (0 : Int32)) 1 (1 : Int32)) 2 (2 : Int32)) 3 (3 : Int32)) 4 (4 : Int32)) (D 0).toNatClampNeg)) 1 ((tk (own_up (own_up (own_up (own_up (own_up (fun _ => 0) 0 (0 : Int32)) 1 (1 : Int32)) 2 (2 : Int32)) 3 (3 : Int32)) 4 (4 : Int32)) (D 0)) (D 1).toNatClampNeg)) := A_b8.set W
      have K := K.wr W (Or.inr sz_b8)
      refine g_iloadN X d4_57 rfl (q := 58) rfl ?_
      refine g_iconst X d4_58 rfl (q := 59) (v := 2) rfl ?_
      refine g_icmpB X d4_59 (Or.inr (Or.inl rfl)) (q := 62) rfl (by decide) (t := 72) rfl (fun (c3 : (2 : Int32) < (3 : Int32)) => ?_) (fun (c3 : ¬ ((2 : Int32) < (3 : Int32))) => ?_)
      · skip
        refine g_aloadN X d4_62 rfl (q := 63) rfl rfl ?_
        refine g_iconst X d4_63 rfl (q := 64) (v := 2) rfl ?_
        refine g_aloadN X d4_64 rfl (q := 65) rfl rfl ?_
        refine g_aloadN X d4_65 rfl (q := 66) rfl rfl ?_
        refine g_iconst X d4_66 rfl (q := 67) (v := 2) rfl ?_
        refine g_iaload X A_a1 ⟨by decide, by decide⟩ d4_67 (q := 68) rfl ?_
        refine g_callS X [(.ref b7), (.int (D 2))] [(.int (2 : Int32)), (.ref b8)] (tw22 hw) (tw23 hw) (tw3 hw) (tw24 hw) (by decide) (rm7 l Z a0 hw [] b7 (D 2) (tk (tk (own_up (own_up (own_up (own_up (own_up (fun _ => 0) 0 (0 : Int32)) 1 (1 : Int32)) 2 (2 : Int32)) 3 (3 : Int32)) 4 (4 : Int32)) (D 0)) (D 1)) _ n0 X.size A_b7 g_b7 (hD 2 (by decide))) pd1 rfl rfl rfl d4_68 (q := 71) rfl (W := 2) rfl (by decide) (by decide) (c2 := 2) (s2 := 8) rfl rfl (by decide) (by decide) (fun v T h' X hQ => ?_)
        obtain ⟨rfl, Kc, A_b7'⟩ := hQ
        have A_a1 := A_a1.keep Kc (ninS ne_a1_b7 nin0)
        have A_b8 := A_b8.keep Kc (ninS ne_b8_b7 nin0)
        have A_b7 : AI Z h' b7 .int 5 (tk (tk (tk (own_up (own_up (own_up (own_up (own_up (fun _ => 0) 0 (0 : Int32)) 1 (1 : Int32)) 2 (2 : Int32)) 3 (3 : Int32)) 4 (4 : Int32)) (D 0)) (D 1)) (D 2)) := A_b7'
        have K := K.trans Kc (allS (Or.inr sz_b7) all0)
        show Goes p e below s _ n0 _ (T.setTop (mkF m 71 #[.val (.ref a1), .val (.int (3 : Int32)), .val (.ref b7), .val (.ref b8)] [(.int ((tk (tk (own_up (own_up (own_up (own_up (own_up (fun _ => 0) 0 (0 : Int32)) 1 (1 : Int32)) 2 (2 : Int32)) 3 (3 : Int32)) 4 (4 : Int32)) (D 0)) (D 1)) (D 2).toNatClampNeg)), (.int (2 : Int32)), (.ref b8)]))
        refine g_iastore X A_b8 ⟨by decide, by decide⟩ g_b8 d4_71 (q := 72) rfl (fun T h X W => ?_)
        have A_a1 := A_a1.other W ne_a1_b8
        have A_b7 := A_b7.other W ne_b7_b8
        have A_b8 : AI Z h b8 .int 3 (own_up (own_up (own_up (fun _ => 0) 0 ((own_up (own_up (own_up (own_up (own_up (fun _ => 0) 0 (0 : Int32)) 1 (1 : Int32)) 2 (2 : Int32)) 3 (3 : Int32)) 4 (4 : Int32)) (D 0).toNatClampNeg)) 1 ((tk (own_up (own_up (own_up (own_up (own_up (fun _ => 0) 0 (0 : Int32)) 1 (1 : Int32)) 2 (2 : Int32)) 3 (3 : Int32)) 4 (4 : Int32)) (D 0)) (D 1).toNatClampNeg)) 2 ((tk (tk (own_up (own_up (own_up (own_up (own_up (fun _ => 0) 0 (0 : Int32)) 1 (1 : Int32)) 2 (2 : Int32)) 3 (3 : Int32)) 4 (4 : Int32)) (D 0)) (D 1)) (D 2).toNatClampNeg)) := A_b8.set W
        have K := K.wr W (Or.inr sz_b8)
        refine g_iloadN X d4_72 rfl (q := 73) rfl ?_
        refine g_iconst X d4_73 rfl (q := 74) (v := 3) rfl ?_
        refine g_jT0 X (J := 87) (L := #[.val (.ref a1), .val (.int (3 : Int32)), .val (.ref b7), .val (.ref b8)]) (S := []) ?_ ?_
        · intro T X
          refine g_iloadN X d4_87 rfl (q := 88) rfl ?_
          refine g_iconst X d4_88 rfl (q := 89) (v := 4) rfl ?_
          refine g_jT0 X (J := 102) (L := #[.val (.ref a1), .val (.int (3 : Int32)), .val (.ref b7), .val (.ref b8)]) (S := []) ?_ ?_
          · intro T X
            refine g_aloadN X d4_102 rfl (q := 103) rfl rfl ?_
            exact g_retA X rfl rfl d4_103 (by decide) (by decide) ⟨b8, rfl, g_b8, sz_b8, K, A_b8⟩
          · intro J102_3
            refine g_icmpB X d4_89 (Or.inr (Or.inl rfl)) (q := 92) rfl (by decide) (t := 102) rfl (fun (c4 : (4 : Int32) < (3 : Int32)) => ?_) (fun (c4 : ¬ ((4 : Int32) < (3 : Int32))) => ?_)
            · skip
              exact absurd c4 (by decide)
            · skip
              exact J102_3 T X
        · intro J87_4
          refine g_icmpB X d4_74 (Or.inr (Or.inl rfl)) (q := 77) rfl (by decide) (t := 87) rfl (fun (c5 : (3 : Int32) < (3 : Int32)) => ?_) (fun (c5 : ¬ ((3 : Int32) < (3 : Int32))) => ?_)
          · skip
            exact absurd c5 (by decide)
          · skip
            exact J87_4 T X
      · skip
        exact absurd c3 (by decide)
    · skip
      exact absurd c2 (by decide)
  · skip
    exact absurd c1 (by decide)
theorem pn4_n4 : plainName "com/example/eulay/eulay/generation/PermutationsNextPinLaw" = true := by first | (simp [plainName, overriddenIn]; done) | decide +kernel
theorem ef4_n4 (m : MethodId) (x0 : Addr) (x1 : Int32) : entryFrame m #[(.ref x0), (.int x1)] 4 = mkF m 0 #[.val (.ref x0), .val (.int x1), .unset, .unset] [] := by first | (simp [entryFrame, mkF, argsToLocals, Value.category]; done) | rfl
set_option maxRecDepth 65536 in
set_option maxHeartbeats 40000000 in
theorem rm4_n4 (l : Launch) (Z : State) (a0 : Array Value) (hw : ∀ d ∈ tables_1, d.before a0 Z = true) (ws : List Jvm.Cond) (a1 : Addr) (D : Nat → Int32) (h0 : Heap) (n0 : Nat) (Z0 : n0 ≤ h0.size) (A_a1 : AI Z h0 a1 .int 5 D) (hD : ∀ j : Nat, j < 5 → 0 ≤ (D j).toInt ∧ (D j).toInt < (5 : Nat)) :
    Met l Z (⟨"com/example/eulay/eulay/generation/PermutationsNextPinLaw", "build", "([II)[I"⟩ : MethodName) method_5_code 4 (some (.array .int)) ({ frames := 1, cells := 2, slots := 9, locals := 16 } : Room) ws n0 #[(.ref a1), (.int (4 : Int32))] h0 (fun v h' => ∃ b10 : Addr, v = some (.ref b10) ∧ n0 ≤ b10 ∧ h0.size ≤ b10 ∧ Keep h0 h' [] ∧ AI Z h' b10 .int 4 (own_up (own_up (own_up (own_up (fun _ => 0) 0 ((own_up (own_up (own_up (own_up (own_up (fun _ => 0) 0 (0 : Int32)) 1 (1 : Int32)) 2 (2 : Int32)) 3 (3 : Int32)) 4 (4 : Int32)) (D 0).toNatClampNeg)) 1 ((tk (own_up (own_up (own_up (own_up (own_up (fun _ => 0) 0 (0 : Int32)) 1 (1 : Int32)) 2 (2 : Int32)) 3 (3 : Int32)) 4 (4 : Int32)) (D 0)) (D 1).toNatClampNeg)) 2 ((tk (tk (own_up (own_up (own_up (own_up (own_up (fun _ => 0) 0 (0 : Int32)) 1 (1 : Int32)) 2 (2 : Int32)) 3 (3 : Int32)) 4 (4 : Int32)) (D 0)) (D 1)) (D 2).toNatClampNeg)) 3 ((tk (tk (tk (own_up (own_up (own_up (own_up (own_up (fun _ => 0) 0 (0 : Int32)) 1 (1 : Int32)) 2 (2 : Int32)) 3 (3 : Int32)) 4 (4 : Int32)) (D 0)) (D 1)) (D 2)) (D 3).toNatClampNeg))) := by
  refine Met.intro (plainFor_of_name pn4_n4) Z0 ?_
  intro p e s m below meth c T X
  refine g_cast (ef4_n4 m a1 (4 : Int32)) ?_
  have K : Keep h0 h0 [] := Keep.refl h0 _
  refine g_iconst X d4_0 rfl (q := 1) (v := 5) rfl ?_
  refine g_newarrI X (aty := .int) rfl (tw0 hw) d4_1 (q := 3) rfl (by decide) (cap := 5) (by decide) (by decide) (c2 := 1) (s2 := 5) rfl rfl (by decide) (by decide) (fun T h' b9 X gz_b9 g_b9 E A_new => ?_)
  have ne_a1_b9 := own_new gz_b9 A_a1.lt
  have ne_b9_a1 := own_apS ne_a1_b9
  have sz_b9 := own_sz gz_b9 K
  have K := K.ext E
  have A_a1 := A_a1.ext E
  have A_b9 : AI Z h' b9 .int 5 (fun _ => 0) := A_new
  refine g_dup X d4_3 rfl (q := 4) rfl ?_
  refine g_iconst X d4_4 rfl (q := 5) (v := 0) rfl ?_
  refine g_iconst X d4_5 rfl (q := 6) (v := 0) rfl ?_
  refine g_iastore X A_b9 ⟨by decide, by decide⟩ g_b9 d4_6 (q := 7) rfl (fun T h X W => ?_)
  have A_a1 := A_a1.other W ne_a1_b9
  have A_b9 : AI Z h b9 .int 5 (own_up (fun _ => 0) 0 (0 : Int32)) := A_b9.set W
  have K := K.wr W (Or.inr sz_b9)
  refine g_dup X d4_7 rfl (q := 8) rfl ?_
  refine g_iconst X d4_8 rfl (q := 9) (v := 1) rfl ?_
  refine g_iconst X d4_9 rfl (q := 10) (v := 1) rfl ?_
  refine g_iastore X A_b9 ⟨by decide, by decide⟩ g_b9 d4_10 (q := 11) rfl (fun T h X W => ?_)
  have A_a1 := A_a1.other W ne_a1_b9
  have A_b9 : AI Z h b9 .int 5 (own_up (own_up (fun _ => 0) 0 (0 : Int32)) 1 (1 : Int32)) := A_b9.set W
  have K := K.wr W (Or.inr sz_b9)
  refine g_dup X d4_11 rfl (q := 12) rfl ?_
  refine g_iconst X d4_12 rfl (q := 13) (v := 2) rfl ?_
  refine g_iconst X d4_13 rfl (q := 14) (v := 2) rfl ?_
  refine g_iastore X A_b9 ⟨by decide, by decide⟩ g_b9 d4_14 (q := 15) rfl (fun T h X W => ?_)
  have A_a1 := A_a1.other W ne_a1_b9
  have A_b9 : AI Z h b9 .int 5 (own_up (own_up (own_up (fun _ => 0) 0 (0 : Int32)) 1 (1 : Int32)) 2 (2 : Int32)) := A_b9.set W
  have K := K.wr W (Or.inr sz_b9)
  refine g_dup X d4_15 rfl (q := 16) rfl ?_
  refine g_iconst X d4_16 rfl (q := 17) (v := 3) rfl ?_
  refine g_iconst X d4_17 rfl (q := 18) (v := 3) rfl ?_
  refine g_iastore X A_b9 ⟨by decide, by decide⟩ g_b9 d4_18 (q := 19) rfl (fun T h X W => ?_)
  have A_a1 := A_a1.other W ne_a1_b9
  have A_b9 : AI Z h b9 .int 5 (own_up (own_up (own_up (own_up (fun _ => 0) 0 (0 : Int32)) 1 (1 : Int32)) 2 (2 : Int32)) 3 (3 : Int32)) := A_b9.set W
  have K := K.wr W (Or.inr sz_b9)
  refine g_dup X d4_19 rfl (q := 20) rfl ?_
  refine g_iconst X d4_20 rfl (q := 21) (v := 4) rfl ?_
  refine g_iconst X d4_21 rfl (q := 22) (v := 4) rfl ?_
  refine g_iastore X A_b9 ⟨by decide, by decide⟩ g_b9 d4_22 (q := 23) rfl (fun T h X W => ?_)
  have A_a1 := A_a1.other W ne_a1_b9
  have A_b9 : AI Z h b9 .int 5 (own_up (own_up (own_up (own_up (own_up (fun _ => 0) 0 (0 : Int32)) 1 (1 : Int32)) 2 (2 : Int32)) 3 (3 : Int32)) 4 (4 : Int32)) := A_b9.set W
  have K := K.wr W (Or.inr sz_b9)
  refine g_astoreN X d4_23 rfl (q := 24) (L' := #[.val (.ref a1), .val (.int (4 : Int32)), .val (.ref b9), .unset]) rfl rfl ?_
  refine g_iloadN X d4_24 rfl (q := 25) rfl ?_
  refine g_newarrI X (aty := .int) rfl (tw0 hw) d4_25 (q := 27) rfl (by decide) (cap := 4) (by decide) (by decide) (c2 := 2) (s2 := 9) rfl rfl (by decide) (by decide) (fun T h' b10 X gz_b10 g_b10 E A_new => ?_)
  have ne_a1_b10 := own_new gz_b10 A_a1.lt
  have ne_b10_a1 := own_apS ne_a1_b10
  have ne_b9_b10 := own_new gz_b10 A_b9.lt
  have ne_b10_b9 := own_apS ne_b9_b10
  have sz_b10 := own_sz gz_b10 K
  have K := K.ext E
  have A_a1 := A_a1.ext E
  have A_b9 := A_b9.ext E
  have A_b10 : AI Z h' b10 .int 4 (fun _ => 0) := A_new
  refine g_astoreN X d4_27 rfl (q := 28) (L' := #[.val (.ref a1), .val (.int (4 : Int32)), .val (.ref b9), .val (.ref b10)]) rfl rfl ?_
  refine g_iloadN X d4_28 rfl (q := 29) rfl ?_
  refine g_ifB X d4_29 (Or.inr (Or.inl rfl)) (q := 32) rfl (by decide) (t := 42) rfl (fun (c1 : (0 : Int32) < (4 : Int32)) => ?_) (fun (c1 : ¬ ((0 : Int32) < (4 : Int32))) => ?_)
  · skip
    refine g_aloadN X d4_32 rfl (q := 33) rfl rfl ?_
    refine g_iconst X d4_33 rfl (q := 34) (v := 0) rfl ?_
    refine g_aloadN X d4_34 rfl (q := 35) rfl rfl ?_
    refine g_aloadN X d4_35 rfl (q := 36) rfl rfl ?_
    refine g_iconst X d4_36 rfl (q := 37) (v := 0) rfl ?_
    refine g_iaload X A_a1 ⟨by decide, by decide⟩ d4_37 (q := 38) rfl ?_
    refine g_callS X [(.ref b9), (.int (D 0))] [(.int (0 : Int32)), (.ref b10)] (tw22 hw) (tw23 hw) (tw3 hw) (tw24 hw) (by decide) (rm7 l Z a0 hw [] b9 (D 0) (own_up (own_up (own_up (own_up (own_up (fun _ => 0) 0 (0 : Int32)) 1 (1 : Int32)) 2 (2 : Int32)) 3 (3 : Int32)) 4 (4 : Int32)) _ n0 X.size A_b9 g_b9 (hD 0 (by decide))) pd1 rfl rfl rfl d4_38 (q := 41) rfl (W := 2) rfl (by decide) (by decide) (c2 := 2) (s2 := 9) rfl rfl (by decide) (by decide) (fun v T h' X hQ => ?_)
    obtain ⟨rfl, Kc, A_b9'⟩ := hQ
    have A_a1 := A_a1.keep Kc (ninS ne_a1_b9 nin0)
    have A_b10 := A_b10.keep Kc (ninS ne_b10_b9 nin0)
    have A_b9 : AI Z h' b9 .int 5 (tk (own_up (own_up (own_up (own_up (own_up (fun _ => 0) 0 (0 : Int32)) 1 (1 : Int32)) 2 (2 : Int32)) 3 (3 : Int32)) 4 (4 : Int32)) (D 0)) := A_b9'
    have K := K.trans Kc (allS (Or.inr sz_b9) all0)
    show Goes p e below s _ n0 _ (T.setTop (mkF m 41 #[.val (.ref a1), .val (.int (4 : Int32)), .val (.ref b9), .val (.ref b10)] [(.int ((own_up (own_up (own_up (own_up (own_up (fun _ => 0) 0 (0 : Int32)) 1 (1 : Int32)) 2 (2 : Int32)) 3 (3 : Int32)) 4 (4 : Int32)) (D 0).toNatClampNeg)), (.int (0 : Int32)), (.ref b10)]))
    refine g_iastore X A_b10 ⟨by decide, by decide⟩ g_b10 d4_41 (q := 42) rfl (fun T h X W => ?_)
    have A_a1 := A_a1.other W ne_a1_b10
    have A_b9 := A_b9.other W ne_b9_b10
    have A_b10 : AI Z h b10 .int 4 (own_up (fun _ => 0) 0 ((own_up (own_up (own_up (own_up (own_up (fun _ => 0) 0 (0 : Int32)) 1 (1 : Int32)) 2 (2 : Int32)) 3 (3 : Int32)) 4 (4 : Int32)) (D 0).toNatClampNeg)) := A_b10.set W
    have K := K.wr W (Or.inr sz_b10)
    refine g_iloadN X d4_42 rfl (q := 43) rfl ?_
    refine g_iconst X d4_43 rfl (q := 44) (v := 1) rfl ?_
    refine g_icmpB X d4_44 (Or.inr (Or.inl rfl)) (q := 47) rfl (by decide) (t := 57) rfl (fun (c2 : (1 : Int32) < (4 : Int32)) => ?_) (fun (c2 : ¬ ((1 : Int32) < (4 : Int32))) => ?_)
    · skip
      refine g_aloadN X d4_47 rfl (q := 48) rfl rfl ?_
      refine g_iconst X d4_48 rfl (q := 49) (v := 1) rfl ?_
      refine g_aloadN X d4_49 rfl (q := 50) rfl rfl ?_
      refine g_aloadN X d4_50 rfl (q := 51) rfl rfl ?_
      refine g_iconst X d4_51 rfl (q := 52) (v := 1) rfl ?_
      refine g_iaload X A_a1 ⟨by decide, by decide⟩ d4_52 (q := 53) rfl ?_
      refine g_callS X [(.ref b9), (.int (D 1))] [(.int (1 : Int32)), (.ref b10)] (tw22 hw) (tw23 hw) (tw3 hw) (tw24 hw) (by decide) (rm7 l Z a0 hw [] b9 (D 1) (tk (own_up (own_up (own_up (own_up (own_up (fun _ => 0) 0 (0 : Int32)) 1 (1 : Int32)) 2 (2 : Int32)) 3 (3 : Int32)) 4 (4 : Int32)) (D 0)) _ n0 X.size A_b9 g_b9 (hD 1 (by decide))) pd1 rfl rfl rfl d4_53 (q := 56) rfl (W := 2) rfl (by decide) (by decide) (c2 := 2) (s2 := 9) rfl rfl (by decide) (by decide) (fun v T h' X hQ => ?_)
      obtain ⟨rfl, Kc, A_b9'⟩ := hQ
      have A_a1 := A_a1.keep Kc (ninS ne_a1_b9 nin0)
      have A_b10 := A_b10.keep Kc (ninS ne_b10_b9 nin0)
      have A_b9 : AI Z h' b9 .int 5 (tk (tk (own_up (own_up (own_up (own_up (own_up (fun _ => 0) 0 (0 : Int32)) 1 (1 : Int32)) 2 (2 : Int32)) 3 (3 : Int32)) 4 (4 : Int32)) (D 0)) (D 1)) := A_b9'
      have K := K.trans Kc (allS (Or.inr sz_b9) all0)
      show Goes p e below s _ n0 _ (T.setTop (mkF m 56 #[.val (.ref a1), .val (.int (4 : Int32)), .val (.ref b9), .val (.ref b10)] [(.int ((tk (own_up (own_up (own_up (own_up (own_up (fun _ => 0) 0 (0 : Int32)) 1 (1 : Int32)) 2 (2 : Int32)) 3 (3 : Int32)) 4 (4 : Int32)) (D 0)) (D 1).toNatClampNeg)), (.int (1 : Int32)), (.ref b10)]))
      refine g_iastore X A_b10 ⟨by decide, by decide⟩ g_b10 d4_56 (q := 57) rfl (fun T h X W => ?_)
      have A_a1 := A_a1.other W ne_a1_b10
      have A_b9 := A_b9.other W ne_b9_b10
      have A_b10 : AI Z h b10 .int 4 (own_up (own_up (fun _ => 0) 0 ((own_up (own_up (own_up (own_up (own_up (fun _ => 0) 0 (0 : Int32)) 1 (1 : Int32)) 2 (2 : Int32)) 3 (3 : Int32)) 4 (4 : Int32)) (D 0).toNatClampNeg)) 1 ((tk (own_up (own_up (own_up (own_up (own_up (fun _ => 0) 0 (0 : Int32)) 1 (1 : Int32)) 2 (2 : Int32)) 3 (3 : Int32)) 4 (4 : Int32)) (D 0)) (D 1).toNatClampNeg)) := A_b10.set W
      have K := K.wr W (Or.inr sz_b10)
      refine g_iloadN X d4_57 rfl (q := 58) rfl ?_
      refine g_iconst X d4_58 rfl (q := 59) (v := 2) rfl ?_
      refine g_icmpB X d4_59 (Or.inr (Or.inl rfl)) (q := 62) rfl (by decide) (t := 72) rfl (fun (c3 : (2 : Int32) < (4 : Int32)) => ?_) (fun (c3 : ¬ ((2 : Int32) < (4 : Int32))) => ?_)
      · skip
        refine g_aloadN X d4_62 rfl (q := 63) rfl rfl ?_
        refine g_iconst X d4_63 rfl (q := 64) (v := 2) rfl ?_
        refine g_aloadN X d4_64 rfl (q := 65) rfl rfl ?_
        refine g_aloadN X d4_65 rfl (q := 66) rfl rfl ?_
        refine g_iconst X d4_66 rfl (q := 67) (v := 2) rfl ?_
        refine g_iaload X A_a1 ⟨by decide, by decide⟩ d4_67 (q := 68) rfl ?_
        refine g_callS X [(.ref b9), (.int (D 2))] [(.int (2 : Int32)), (.ref b10)] (tw22 hw) (tw23 hw) (tw3 hw) (tw24 hw) (by decide) (rm7 l Z a0 hw [] b9 (D 2) (tk (tk (own_up (own_up (own_up (own_up (own_up (fun _ => 0) 0 (0 : Int32)) 1 (1 : Int32)) 2 (2 : Int32)) 3 (3 : Int32)) 4 (4 : Int32)) (D 0)) (D 1)) _ n0 X.size A_b9 g_b9 (hD 2 (by decide))) pd1 rfl rfl rfl d4_68 (q := 71) rfl (W := 2) rfl (by decide) (by decide) (c2 := 2) (s2 := 9) rfl rfl (by decide) (by decide) (fun v T h' X hQ => ?_)
        obtain ⟨rfl, Kc, A_b9'⟩ := hQ
        have A_a1 := A_a1.keep Kc (ninS ne_a1_b9 nin0)
        have A_b10 := A_b10.keep Kc (ninS ne_b10_b9 nin0)
        have A_b9 : AI Z h' b9 .int 5 (tk (tk (tk (own_up (own_up (own_up (own_up (own_up (fun _ => 0) 0 (0 : Int32)) 1 (1 : Int32)) 2 (2 : Int32)) 3 (3 : Int32)) 4 (4 : Int32)) (D 0)) (D 1)) (D 2)) := A_b9'
        have K := K.trans Kc (allS (Or.inr sz_b9) all0)
        show Goes p e below s _ n0 _ (T.setTop (mkF m 71 #[.val (.ref a1), .val (.int (4 : Int32)), .val (.ref b9), .val (.ref b10)] [(.int ((tk (tk (own_up (own_up (own_up (own_up (own_up (fun _ => 0) 0 (0 : Int32)) 1 (1 : Int32)) 2 (2 : Int32)) 3 (3 : Int32)) 4 (4 : Int32)) (D 0)) (D 1)) (D 2).toNatClampNeg)), (.int (2 : Int32)), (.ref b10)]))
        refine g_iastore X A_b10 ⟨by decide, by decide⟩ g_b10 d4_71 (q := 72) rfl (fun T h X W => ?_)
        have A_a1 := A_a1.other W ne_a1_b10
        have A_b9 := A_b9.other W ne_b9_b10
        have A_b10 : AI Z h b10 .int 4 (own_up (own_up (own_up (fun _ => 0) 0 ((own_up (own_up (own_up (own_up (own_up (fun _ => 0) 0 (0 : Int32)) 1 (1 : Int32)) 2 (2 : Int32)) 3 (3 : Int32)) 4 (4 : Int32)) (D 0).toNatClampNeg)) 1 ((tk (own_up (own_up (own_up (own_up (own_up (fun _ => 0) 0 (0 : Int32)) 1 (1 : Int32)) 2 (2 : Int32)) 3 (3 : Int32)) 4 (4 : Int32)) (D 0)) (D 1).toNatClampNeg)) 2 ((tk (tk (own_up (own_up (own_up (own_up (own_up (fun _ => 0) 0 (0 : Int32)) 1 (1 : Int32)) 2 (2 : Int32)) 3 (3 : Int32)) 4 (4 : Int32)) (D 0)) (D 1)) (D 2).toNatClampNeg)) := A_b10.set W
        have K := K.wr W (Or.inr sz_b10)
        refine g_iloadN X d4_72 rfl (q := 73) rfl ?_
        refine g_iconst X d4_73 rfl (q := 74) (v := 3) rfl ?_
        refine g_icmpB X d4_74 (Or.inr (Or.inl rfl)) (q := 77) rfl (by decide) (t := 87) rfl (fun (c4 : (3 : Int32) < (4 : Int32)) => ?_) (fun (c4 : ¬ ((3 : Int32) < (4 : Int32))) => ?_)
        · skip
          refine g_aloadN X d4_77 rfl (q := 78) rfl rfl ?_
          refine g_iconst X d4_78 rfl (q := 79) (v := 3) rfl ?_
          refine g_aloadN X d4_79 rfl (q := 80) rfl rfl ?_
          refine g_aloadN X d4_80 rfl (q := 81) rfl rfl ?_
          refine g_iconst X d4_81 rfl (q := 82) (v := 3) rfl ?_
          refine g_iaload X A_a1 ⟨by decide, by decide⟩ d4_82 (q := 83) rfl ?_
          refine g_callS X [(.ref b9), (.int (D 3))] [(.int (3 : Int32)), (.ref b10)] (tw22 hw) (tw23 hw) (tw3 hw) (tw24 hw) (by decide) (rm7 l Z a0 hw [] b9 (D 3) (tk (tk (tk (own_up (own_up (own_up (own_up (own_up (fun _ => 0) 0 (0 : Int32)) 1 (1 : Int32)) 2 (2 : Int32)) 3 (3 : Int32)) 4 (4 : Int32)) (D 0)) (D 1)) (D 2)) _ n0 X.size A_b9 g_b9 (hD 3 (by decide))) pd1 rfl rfl rfl d4_83 (q := 86) rfl (W := 2) rfl (by decide) (by decide) (c2 := 2) (s2 := 9) rfl rfl (by decide) (by decide) (fun v T h' X hQ => ?_)
          obtain ⟨rfl, Kc, A_b9'⟩ := hQ
          have A_a1 := A_a1.keep Kc (ninS ne_a1_b9 nin0)
          have A_b10 := A_b10.keep Kc (ninS ne_b10_b9 nin0)
          have A_b9 : AI Z h' b9 .int 5 (tk (tk (tk (tk (own_up (own_up (own_up (own_up (own_up (fun _ => 0) 0 (0 : Int32)) 1 (1 : Int32)) 2 (2 : Int32)) 3 (3 : Int32)) 4 (4 : Int32)) (D 0)) (D 1)) (D 2)) (D 3)) := A_b9'
          have K := K.trans Kc (allS (Or.inr sz_b9) all0)
          show Goes p e below s _ n0 _ (T.setTop (mkF m 86 #[.val (.ref a1), .val (.int (4 : Int32)), .val (.ref b9), .val (.ref b10)] [(.int ((tk (tk (tk (own_up (own_up (own_up (own_up (own_up (fun _ => 0) 0 (0 : Int32)) 1 (1 : Int32)) 2 (2 : Int32)) 3 (3 : Int32)) 4 (4 : Int32)) (D 0)) (D 1)) (D 2)) (D 3).toNatClampNeg)), (.int (3 : Int32)), (.ref b10)]))
          refine g_iastore X A_b10 ⟨by decide, by decide⟩ g_b10 d4_86 (q := 87) rfl (fun T h X W => ?_)
          have A_a1 := A_a1.other W ne_a1_b10
          have A_b9 := A_b9.other W ne_b9_b10
          have A_b10 : AI Z h b10 .int 4 (own_up (own_up (own_up (own_up (fun _ => 0) 0 ((own_up (own_up (own_up (own_up (own_up (fun _ => 0) 0 (0 : Int32)) 1 (1 : Int32)) 2 (2 : Int32)) 3 (3 : Int32)) 4 (4 : Int32)) (D 0).toNatClampNeg)) 1 ((tk (own_up (own_up (own_up (own_up (own_up (fun _ => 0) 0 (0 : Int32)) 1 (1 : Int32)) 2 (2 : Int32)) 3 (3 : Int32)) 4 (4 : Int32)) (D 0)) (D 1).toNatClampNeg)) 2 ((tk (tk (own_up (own_up (own_up (own_up (own_up (fun _ => 0) 0 (0 : Int32)) 1 (1 : Int32)) 2 (2 : Int32)) 3 (3 : Int32)) 4 (4 : Int32)) (D 0)) (D 1)) (D 2).toNatClampNeg)) 3 ((tk (tk (tk (own_up (own_up (own_up (own_up (own_up (fun _ => 0) 0 (0 : Int32)) 1 (1 : Int32)) 2 (2 : Int32)) 3 (3 : Int32)) 4 (4 : Int32)) (D 0)) (D 1)) (D 2)) (D 3).toNatClampNeg)) := A_b10.set W
          have K := K.wr W (Or.inr sz_b10)
          refine g_iloadN X d4_87 rfl (q := 88) rfl ?_
          refine g_iconst X d4_88 rfl (q := 89) (v := 4) rfl ?_
          refine g_jT0 X (J := 102) (L := #[.val (.ref a1), .val (.int (4 : Int32)), .val (.ref b9), .val (.ref b10)]) (S := []) ?_ ?_
          · intro T X
            refine g_aloadN X d4_102 rfl (q := 103) rfl rfl ?_
            exact g_retA X rfl rfl d4_103 (by decide) (by decide) ⟨b10, rfl, g_b10, sz_b10, K, A_b10⟩
          · intro J102_4
            refine g_icmpB X d4_89 (Or.inr (Or.inl rfl)) (q := 92) rfl (by decide) (t := 102) rfl (fun (c5 : (4 : Int32) < (4 : Int32)) => ?_) (fun (c5 : ¬ ((4 : Int32) < (4 : Int32))) => ?_)
            · skip
              exact absurd c5 (by decide)
            · skip
              exact J102_4 T X
        · skip
          exact absurd c4 (by decide)
      · skip
        exact absurd c3 (by decide)
    · skip
      exact absurd c2 (by decide)
  · skip
    exact absurd c1 (by decide)
theorem pn4_n5 : plainName "com/example/eulay/eulay/generation/PermutationsNextPinLaw" = true := by first | (simp [plainName, overriddenIn]; done) | decide +kernel
theorem ef4_n5 (m : MethodId) (x0 : Addr) (x1 : Int32) : entryFrame m #[(.ref x0), (.int x1)] 4 = mkF m 0 #[.val (.ref x0), .val (.int x1), .unset, .unset] [] := by first | (simp [entryFrame, mkF, argsToLocals, Value.category]; done) | rfl
set_option maxRecDepth 65536 in
set_option maxHeartbeats 40000000 in
theorem rm4_n5 (l : Launch) (Z : State) (a0 : Array Value) (hw : ∀ d ∈ tables_1, d.before a0 Z = true) (ws : List Jvm.Cond) (a1 : Addr) (D : Nat → Int32) (h0 : Heap) (n0 : Nat) (Z0 : n0 ≤ h0.size) (A_a1 : AI Z h0 a1 .int 5 D) (hD : ∀ j : Nat, j < 5 → 0 ≤ (D j).toInt ∧ (D j).toInt < (5 : Nat)) :
    Met l Z (⟨"com/example/eulay/eulay/generation/PermutationsNextPinLaw", "build", "([II)[I"⟩ : MethodName) method_5_code 4 (some (.array .int)) ({ frames := 1, cells := 2, slots := 10, locals := 16 } : Room) ws n0 #[(.ref a1), (.int (5 : Int32))] h0 (fun v h' => ∃ b12 : Addr, v = some (.ref b12) ∧ n0 ≤ b12 ∧ h0.size ≤ b12 ∧ Keep h0 h' [] ∧ AI Z h' b12 .int 5 (own_up (own_up (own_up (own_up (own_up (fun _ => 0) 0 ((own_up (own_up (own_up (own_up (own_up (fun _ => 0) 0 (0 : Int32)) 1 (1 : Int32)) 2 (2 : Int32)) 3 (3 : Int32)) 4 (4 : Int32)) (D 0).toNatClampNeg)) 1 ((tk (own_up (own_up (own_up (own_up (own_up (fun _ => 0) 0 (0 : Int32)) 1 (1 : Int32)) 2 (2 : Int32)) 3 (3 : Int32)) 4 (4 : Int32)) (D 0)) (D 1).toNatClampNeg)) 2 ((tk (tk (own_up (own_up (own_up (own_up (own_up (fun _ => 0) 0 (0 : Int32)) 1 (1 : Int32)) 2 (2 : Int32)) 3 (3 : Int32)) 4 (4 : Int32)) (D 0)) (D 1)) (D 2).toNatClampNeg)) 3 ((tk (tk (tk (own_up (own_up (own_up (own_up (own_up (fun _ => 0) 0 (0 : Int32)) 1 (1 : Int32)) 2 (2 : Int32)) 3 (3 : Int32)) 4 (4 : Int32)) (D 0)) (D 1)) (D 2)) (D 3).toNatClampNeg)) 4 ((tk (tk (tk (tk (own_up (own_up (own_up (own_up (own_up (fun _ => 0) 0 (0 : Int32)) 1 (1 : Int32)) 2 (2 : Int32)) 3 (3 : Int32)) 4 (4 : Int32)) (D 0)) (D 1)) (D 2)) (D 3)) (D 4).toNatClampNeg))) := by
  refine Met.intro (plainFor_of_name pn4_n5) Z0 ?_
  intro p e s m below meth c T X
  refine g_cast (ef4_n5 m a1 (5 : Int32)) ?_
  have K : Keep h0 h0 [] := Keep.refl h0 _
  refine g_iconst X d4_0 rfl (q := 1) (v := 5) rfl ?_
  refine g_newarrI X (aty := .int) rfl (tw0 hw) d4_1 (q := 3) rfl (by decide) (cap := 5) (by decide) (by decide) (c2 := 1) (s2 := 5) rfl rfl (by decide) (by decide) (fun T h' b11 X gz_b11 g_b11 E A_new => ?_)
  have ne_a1_b11 := own_new gz_b11 A_a1.lt
  have ne_b11_a1 := own_apS ne_a1_b11
  have sz_b11 := own_sz gz_b11 K
  have K := K.ext E
  have A_a1 := A_a1.ext E
  have A_b11 : AI Z h' b11 .int 5 (fun _ => 0) := A_new
  refine g_dup X d4_3 rfl (q := 4) rfl ?_
  refine g_iconst X d4_4 rfl (q := 5) (v := 0) rfl ?_
  refine g_iconst X d4_5 rfl (q := 6) (v := 0) rfl ?_
  refine g_iastore X A_b11 ⟨by decide, by decide⟩ g_b11 d4_6 (q := 7) rfl (fun T h X W => ?_)
  have A_a1 := A_a1.other W ne_a1_b11
  have A_b11 : AI Z h b11 .int 5 (own_up (fun _ => 0) 0 (0 : Int32)) := A_b11.set W
  have K := K.wr W (Or.inr sz_b11)
  refine g_dup X d4_7 rfl (q := 8) rfl ?_
  refine g_iconst X d4_8 rfl (q := 9) (v := 1) rfl ?_
  refine g_iconst X d4_9 rfl (q := 10) (v := 1) rfl ?_
  refine g_iastore X A_b11 ⟨by decide, by decide⟩ g_b11 d4_10 (q := 11) rfl (fun T h X W => ?_)
  have A_a1 := A_a1.other W ne_a1_b11
  have A_b11 : AI Z h b11 .int 5 (own_up (own_up (fun _ => 0) 0 (0 : Int32)) 1 (1 : Int32)) := A_b11.set W
  have K := K.wr W (Or.inr sz_b11)
  refine g_dup X d4_11 rfl (q := 12) rfl ?_
  refine g_iconst X d4_12 rfl (q := 13) (v := 2) rfl ?_
  refine g_iconst X d4_13 rfl (q := 14) (v := 2) rfl ?_
  refine g_iastore X A_b11 ⟨by decide, by decide⟩ g_b11 d4_14 (q := 15) rfl (fun T h X W => ?_)
  have A_a1 := A_a1.other W ne_a1_b11
  have A_b11 : AI Z h b11 .int 5 (own_up (own_up (own_up (fun _ => 0) 0 (0 : Int32)) 1 (1 : Int32)) 2 (2 : Int32)) := A_b11.set W
  have K := K.wr W (Or.inr sz_b11)
  refine g_dup X d4_15 rfl (q := 16) rfl ?_
  refine g_iconst X d4_16 rfl (q := 17) (v := 3) rfl ?_
  refine g_iconst X d4_17 rfl (q := 18) (v := 3) rfl ?_
  refine g_iastore X A_b11 ⟨by decide, by decide⟩ g_b11 d4_18 (q := 19) rfl (fun T h X W => ?_)
  have A_a1 := A_a1.other W ne_a1_b11
  have A_b11 : AI Z h b11 .int 5 (own_up (own_up (own_up (own_up (fun _ => 0) 0 (0 : Int32)) 1 (1 : Int32)) 2 (2 : Int32)) 3 (3 : Int32)) := A_b11.set W
  have K := K.wr W (Or.inr sz_b11)
  refine g_dup X d4_19 rfl (q := 20) rfl ?_
  refine g_iconst X d4_20 rfl (q := 21) (v := 4) rfl ?_
  refine g_iconst X d4_21 rfl (q := 22) (v := 4) rfl ?_
  refine g_iastore X A_b11 ⟨by decide, by decide⟩ g_b11 d4_22 (q := 23) rfl (fun T h X W => ?_)
  have A_a1 := A_a1.other W ne_a1_b11
  have A_b11 : AI Z h b11 .int 5 (own_up (own_up (own_up (own_up (own_up (fun _ => 0) 0 (0 : Int32)) 1 (1 : Int32)) 2 (2 : Int32)) 3 (3 : Int32)) 4 (4 : Int32)) := A_b11.set W
  have K := K.wr W (Or.inr sz_b11)
  refine g_astoreN X d4_23 rfl (q := 24) (L' := #[.val (.ref a1), .val (.int (5 : Int32)), .val (.ref b11), .unset]) rfl rfl ?_
  refine g_iloadN X d4_24 rfl (q := 25) rfl ?_
  refine g_newarrI X (aty := .int) rfl (tw0 hw) d4_25 (q := 27) rfl (by decide) (cap := 5) (by decide) (by decide) (c2 := 2) (s2 := 10) rfl rfl (by decide) (by decide) (fun T h' b12 X gz_b12 g_b12 E A_new => ?_)
  have ne_a1_b12 := own_new gz_b12 A_a1.lt
  have ne_b12_a1 := own_apS ne_a1_b12
  have ne_b11_b12 := own_new gz_b12 A_b11.lt
  have ne_b12_b11 := own_apS ne_b11_b12
  have sz_b12 := own_sz gz_b12 K
  have K := K.ext E
  have A_a1 := A_a1.ext E
  have A_b11 := A_b11.ext E
  have A_b12 : AI Z h' b12 .int 5 (fun _ => 0) := A_new
  refine g_astoreN X d4_27 rfl (q := 28) (L' := #[.val (.ref a1), .val (.int (5 : Int32)), .val (.ref b11), .val (.ref b12)]) rfl rfl ?_
  refine g_iloadN X d4_28 rfl (q := 29) rfl ?_
  refine g_ifB X d4_29 (Or.inr (Or.inl rfl)) (q := 32) rfl (by decide) (t := 42) rfl (fun (c1 : (0 : Int32) < (5 : Int32)) => ?_) (fun (c1 : ¬ ((0 : Int32) < (5 : Int32))) => ?_)
  · skip
    refine g_aloadN X d4_32 rfl (q := 33) rfl rfl ?_
    refine g_iconst X d4_33 rfl (q := 34) (v := 0) rfl ?_
    refine g_aloadN X d4_34 rfl (q := 35) rfl rfl ?_
    refine g_aloadN X d4_35 rfl (q := 36) rfl rfl ?_
    refine g_iconst X d4_36 rfl (q := 37) (v := 0) rfl ?_
    refine g_iaload X A_a1 ⟨by decide, by decide⟩ d4_37 (q := 38) rfl ?_
    refine g_callS X [(.ref b11), (.int (D 0))] [(.int (0 : Int32)), (.ref b12)] (tw22 hw) (tw23 hw) (tw3 hw) (tw24 hw) (by decide) (rm7 l Z a0 hw [] b11 (D 0) (own_up (own_up (own_up (own_up (own_up (fun _ => 0) 0 (0 : Int32)) 1 (1 : Int32)) 2 (2 : Int32)) 3 (3 : Int32)) 4 (4 : Int32)) _ n0 X.size A_b11 g_b11 (hD 0 (by decide))) pd1 rfl rfl rfl d4_38 (q := 41) rfl (W := 2) rfl (by decide) (by decide) (c2 := 2) (s2 := 10) rfl rfl (by decide) (by decide) (fun v T h' X hQ => ?_)
    obtain ⟨rfl, Kc, A_b11'⟩ := hQ
    have A_a1 := A_a1.keep Kc (ninS ne_a1_b11 nin0)
    have A_b12 := A_b12.keep Kc (ninS ne_b12_b11 nin0)
    have A_b11 : AI Z h' b11 .int 5 (tk (own_up (own_up (own_up (own_up (own_up (fun _ => 0) 0 (0 : Int32)) 1 (1 : Int32)) 2 (2 : Int32)) 3 (3 : Int32)) 4 (4 : Int32)) (D 0)) := A_b11'
    have K := K.trans Kc (allS (Or.inr sz_b11) all0)
    show Goes p e below s _ n0 _ (T.setTop (mkF m 41 #[.val (.ref a1), .val (.int (5 : Int32)), .val (.ref b11), .val (.ref b12)] [(.int ((own_up (own_up (own_up (own_up (own_up (fun _ => 0) 0 (0 : Int32)) 1 (1 : Int32)) 2 (2 : Int32)) 3 (3 : Int32)) 4 (4 : Int32)) (D 0).toNatClampNeg)), (.int (0 : Int32)), (.ref b12)]))
    refine g_iastore X A_b12 ⟨by decide, by decide⟩ g_b12 d4_41 (q := 42) rfl (fun T h X W => ?_)
    have A_a1 := A_a1.other W ne_a1_b12
    have A_b11 := A_b11.other W ne_b11_b12
    have A_b12 : AI Z h b12 .int 5 (own_up (fun _ => 0) 0 ((own_up (own_up (own_up (own_up (own_up (fun _ => 0) 0 (0 : Int32)) 1 (1 : Int32)) 2 (2 : Int32)) 3 (3 : Int32)) 4 (4 : Int32)) (D 0).toNatClampNeg)) := A_b12.set W
    have K := K.wr W (Or.inr sz_b12)
    refine g_iloadN X d4_42 rfl (q := 43) rfl ?_
    refine g_iconst X d4_43 rfl (q := 44) (v := 1) rfl ?_
    refine g_icmpB X d4_44 (Or.inr (Or.inl rfl)) (q := 47) rfl (by decide) (t := 57) rfl (fun (c2 : (1 : Int32) < (5 : Int32)) => ?_) (fun (c2 : ¬ ((1 : Int32) < (5 : Int32))) => ?_)
    · skip
      refine g_aloadN X d4_47 rfl (q := 48) rfl rfl ?_
      refine g_iconst X d4_48 rfl (q := 49) (v := 1) rfl ?_
      refine g_aloadN X d4_49 rfl (q := 50) rfl rfl ?_
      refine g_aloadN X d4_50 rfl (q := 51) rfl rfl ?_
      refine g_iconst X d4_51 rfl (q := 52) (v := 1) rfl ?_
      refine g_iaload X A_a1 ⟨by decide, by decide⟩ d4_52 (q := 53) rfl ?_
      refine g_callS X [(.ref b11), (.int (D 1))] [(.int (1 : Int32)), (.ref b12)] (tw22 hw) (tw23 hw) (tw3 hw) (tw24 hw) (by decide) (rm7 l Z a0 hw [] b11 (D 1) (tk (own_up (own_up (own_up (own_up (own_up (fun _ => 0) 0 (0 : Int32)) 1 (1 : Int32)) 2 (2 : Int32)) 3 (3 : Int32)) 4 (4 : Int32)) (D 0)) _ n0 X.size A_b11 g_b11 (hD 1 (by decide))) pd1 rfl rfl rfl d4_53 (q := 56) rfl (W := 2) rfl (by decide) (by decide) (c2 := 2) (s2 := 10) rfl rfl (by decide) (by decide) (fun v T h' X hQ => ?_)
      obtain ⟨rfl, Kc, A_b11'⟩ := hQ
      have A_a1 := A_a1.keep Kc (ninS ne_a1_b11 nin0)
      have A_b12 := A_b12.keep Kc (ninS ne_b12_b11 nin0)
      have A_b11 : AI Z h' b11 .int 5 (tk (tk (own_up (own_up (own_up (own_up (own_up (fun _ => 0) 0 (0 : Int32)) 1 (1 : Int32)) 2 (2 : Int32)) 3 (3 : Int32)) 4 (4 : Int32)) (D 0)) (D 1)) := A_b11'
      have K := K.trans Kc (allS (Or.inr sz_b11) all0)
      show Goes p e below s _ n0 _ (T.setTop (mkF m 56 #[.val (.ref a1), .val (.int (5 : Int32)), .val (.ref b11), .val (.ref b12)] [(.int ((tk (own_up (own_up (own_up (own_up (own_up (fun _ => 0) 0 (0 : Int32)) 1 (1 : Int32)) 2 (2 : Int32)) 3 (3 : Int32)) 4 (4 : Int32)) (D 0)) (D 1).toNatClampNeg)), (.int (1 : Int32)), (.ref b12)]))
      refine g_iastore X A_b12 ⟨by decide, by decide⟩ g_b12 d4_56 (q := 57) rfl (fun T h X W => ?_)
      have A_a1 := A_a1.other W ne_a1_b12
      have A_b11 := A_b11.other W ne_b11_b12
      have A_b12 : AI Z h b12 .int 5 (own_up (own_up (fun _ => 0) 0 ((own_up (own_up (own_up (own_up (own_up (fun _ => 0) 0 (0 : Int32)) 1 (1 : Int32)) 2 (2 : Int32)) 3 (3 : Int32)) 4 (4 : Int32)) (D 0).toNatClampNeg)) 1 ((tk (own_up (own_up (own_up (own_up (own_up (fun _ => 0) 0 (0 : Int32)) 1 (1 : Int32)) 2 (2 : Int32)) 3 (3 : Int32)) 4 (4 : Int32)) (D 0)) (D 1).toNatClampNeg)) := A_b12.set W
      have K := K.wr W (Or.inr sz_b12)
      refine g_iloadN X d4_57 rfl (q := 58) rfl ?_
      refine g_iconst X d4_58 rfl (q := 59) (v := 2) rfl ?_
      refine g_icmpB X d4_59 (Or.inr (Or.inl rfl)) (q := 62) rfl (by decide) (t := 72) rfl (fun (c3 : (2 : Int32) < (5 : Int32)) => ?_) (fun (c3 : ¬ ((2 : Int32) < (5 : Int32))) => ?_)
      · skip
        refine g_aloadN X d4_62 rfl (q := 63) rfl rfl ?_
        refine g_iconst X d4_63 rfl (q := 64) (v := 2) rfl ?_
        refine g_aloadN X d4_64 rfl (q := 65) rfl rfl ?_
        refine g_aloadN X d4_65 rfl (q := 66) rfl rfl ?_
        refine g_iconst X d4_66 rfl (q := 67) (v := 2) rfl ?_
        refine g_iaload X A_a1 ⟨by decide, by decide⟩ d4_67 (q := 68) rfl ?_
        refine g_callS X [(.ref b11), (.int (D 2))] [(.int (2 : Int32)), (.ref b12)] (tw22 hw) (tw23 hw) (tw3 hw) (tw24 hw) (by decide) (rm7 l Z a0 hw [] b11 (D 2) (tk (tk (own_up (own_up (own_up (own_up (own_up (fun _ => 0) 0 (0 : Int32)) 1 (1 : Int32)) 2 (2 : Int32)) 3 (3 : Int32)) 4 (4 : Int32)) (D 0)) (D 1)) _ n0 X.size A_b11 g_b11 (hD 2 (by decide))) pd1 rfl rfl rfl d4_68 (q := 71) rfl (W := 2) rfl (by decide) (by decide) (c2 := 2) (s2 := 10) rfl rfl (by decide) (by decide) (fun v T h' X hQ => ?_)
        obtain ⟨rfl, Kc, A_b11'⟩ := hQ
        have A_a1 := A_a1.keep Kc (ninS ne_a1_b11 nin0)
        have A_b12 := A_b12.keep Kc (ninS ne_b12_b11 nin0)
        have A_b11 : AI Z h' b11 .int 5 (tk (tk (tk (own_up (own_up (own_up (own_up (own_up (fun _ => 0) 0 (0 : Int32)) 1 (1 : Int32)) 2 (2 : Int32)) 3 (3 : Int32)) 4 (4 : Int32)) (D 0)) (D 1)) (D 2)) := A_b11'
        have K := K.trans Kc (allS (Or.inr sz_b11) all0)
        show Goes p e below s _ n0 _ (T.setTop (mkF m 71 #[.val (.ref a1), .val (.int (5 : Int32)), .val (.ref b11), .val (.ref b12)] [(.int ((tk (tk (own_up (own_up (own_up (own_up (own_up (fun _ => 0) 0 (0 : Int32)) 1 (1 : Int32)) 2 (2 : Int32)) 3 (3 : Int32)) 4 (4 : Int32)) (D 0)) (D 1)) (D 2).toNatClampNeg)), (.int (2 : Int32)), (.ref b12)]))
        refine g_iastore X A_b12 ⟨by decide, by decide⟩ g_b12 d4_71 (q := 72) rfl (fun T h X W => ?_)
        have A_a1 := A_a1.other W ne_a1_b12
        have A_b11 := A_b11.other W ne_b11_b12
        have A_b12 : AI Z h b12 .int 5 (own_up (own_up (own_up (fun _ => 0) 0 ((own_up (own_up (own_up (own_up (own_up (fun _ => 0) 0 (0 : Int32)) 1 (1 : Int32)) 2 (2 : Int32)) 3 (3 : Int32)) 4 (4 : Int32)) (D 0).toNatClampNeg)) 1 ((tk (own_up (own_up (own_up (own_up (own_up (fun _ => 0) 0 (0 : Int32)) 1 (1 : Int32)) 2 (2 : Int32)) 3 (3 : Int32)) 4 (4 : Int32)) (D 0)) (D 1).toNatClampNeg)) 2 ((tk (tk (own_up (own_up (own_up (own_up (own_up (fun _ => 0) 0 (0 : Int32)) 1 (1 : Int32)) 2 (2 : Int32)) 3 (3 : Int32)) 4 (4 : Int32)) (D 0)) (D 1)) (D 2).toNatClampNeg)) := A_b12.set W
        have K := K.wr W (Or.inr sz_b12)
        refine g_iloadN X d4_72 rfl (q := 73) rfl ?_
        refine g_iconst X d4_73 rfl (q := 74) (v := 3) rfl ?_
        refine g_icmpB X d4_74 (Or.inr (Or.inl rfl)) (q := 77) rfl (by decide) (t := 87) rfl (fun (c4 : (3 : Int32) < (5 : Int32)) => ?_) (fun (c4 : ¬ ((3 : Int32) < (5 : Int32))) => ?_)
        · skip
          refine g_aloadN X d4_77 rfl (q := 78) rfl rfl ?_
          refine g_iconst X d4_78 rfl (q := 79) (v := 3) rfl ?_
          refine g_aloadN X d4_79 rfl (q := 80) rfl rfl ?_
          refine g_aloadN X d4_80 rfl (q := 81) rfl rfl ?_
          refine g_iconst X d4_81 rfl (q := 82) (v := 3) rfl ?_
          refine g_iaload X A_a1 ⟨by decide, by decide⟩ d4_82 (q := 83) rfl ?_
          refine g_callS X [(.ref b11), (.int (D 3))] [(.int (3 : Int32)), (.ref b12)] (tw22 hw) (tw23 hw) (tw3 hw) (tw24 hw) (by decide) (rm7 l Z a0 hw [] b11 (D 3) (tk (tk (tk (own_up (own_up (own_up (own_up (own_up (fun _ => 0) 0 (0 : Int32)) 1 (1 : Int32)) 2 (2 : Int32)) 3 (3 : Int32)) 4 (4 : Int32)) (D 0)) (D 1)) (D 2)) _ n0 X.size A_b11 g_b11 (hD 3 (by decide))) pd1 rfl rfl rfl d4_83 (q := 86) rfl (W := 2) rfl (by decide) (by decide) (c2 := 2) (s2 := 10) rfl rfl (by decide) (by decide) (fun v T h' X hQ => ?_)
          obtain ⟨rfl, Kc, A_b11'⟩ := hQ
          have A_a1 := A_a1.keep Kc (ninS ne_a1_b11 nin0)
          have A_b12 := A_b12.keep Kc (ninS ne_b12_b11 nin0)
          have A_b11 : AI Z h' b11 .int 5 (tk (tk (tk (tk (own_up (own_up (own_up (own_up (own_up (fun _ => 0) 0 (0 : Int32)) 1 (1 : Int32)) 2 (2 : Int32)) 3 (3 : Int32)) 4 (4 : Int32)) (D 0)) (D 1)) (D 2)) (D 3)) := A_b11'
          have K := K.trans Kc (allS (Or.inr sz_b11) all0)
          show Goes p e below s _ n0 _ (T.setTop (mkF m 86 #[.val (.ref a1), .val (.int (5 : Int32)), .val (.ref b11), .val (.ref b12)] [(.int ((tk (tk (tk (own_up (own_up (own_up (own_up (own_up (fun _ => 0) 0 (0 : Int32)) 1 (1 : Int32)) 2 (2 : Int32)) 3 (3 : Int32)) 4 (4 : Int32)) (D 0)) (D 1)) (D 2)) (D 3).toNatClampNeg)), (.int (3 : Int32)), (.ref b12)]))
          refine g_iastore X A_b12 ⟨by decide, by decide⟩ g_b12 d4_86 (q := 87) rfl (fun T h X W => ?_)
          have A_a1 := A_a1.other W ne_a1_b12
          have A_b11 := A_b11.other W ne_b11_b12
          have A_b12 : AI Z h b12 .int 5 (own_up (own_up (own_up (own_up (fun _ => 0) 0 ((own_up (own_up (own_up (own_up (own_up (fun _ => 0) 0 (0 : Int32)) 1 (1 : Int32)) 2 (2 : Int32)) 3 (3 : Int32)) 4 (4 : Int32)) (D 0).toNatClampNeg)) 1 ((tk (own_up (own_up (own_up (own_up (own_up (fun _ => 0) 0 (0 : Int32)) 1 (1 : Int32)) 2 (2 : Int32)) 3 (3 : Int32)) 4 (4 : Int32)) (D 0)) (D 1).toNatClampNeg)) 2 ((tk (tk (own_up (own_up (own_up (own_up (own_up (fun _ => 0) 0 (0 : Int32)) 1 (1 : Int32)) 2 (2 : Int32)) 3 (3 : Int32)) 4 (4 : Int32)) (D 0)) (D 1)) (D 2).toNatClampNeg)) 3 ((tk (tk (tk (own_up (own_up (own_up (own_up (own_up (fun _ => 0) 0 (0 : Int32)) 1 (1 : Int32)) 2 (2 : Int32)) 3 (3 : Int32)) 4 (4 : Int32)) (D 0)) (D 1)) (D 2)) (D 3).toNatClampNeg)) := A_b12.set W
          have K := K.wr W (Or.inr sz_b12)
          refine g_iloadN X d4_87 rfl (q := 88) rfl ?_
          refine g_iconst X d4_88 rfl (q := 89) (v := 4) rfl ?_
          refine g_icmpB X d4_89 (Or.inr (Or.inl rfl)) (q := 92) rfl (by decide) (t := 102) rfl (fun (c5 : (4 : Int32) < (5 : Int32)) => ?_) (fun (c5 : ¬ ((4 : Int32) < (5 : Int32))) => ?_)
          · skip
            refine g_aloadN X d4_92 rfl (q := 93) rfl rfl ?_
            refine g_iconst X d4_93 rfl (q := 94) (v := 4) rfl ?_
            refine g_aloadN X d4_94 rfl (q := 95) rfl rfl ?_
            refine g_aloadN X d4_95 rfl (q := 96) rfl rfl ?_
            refine g_iconst X d4_96 rfl (q := 97) (v := 4) rfl ?_
            refine g_iaload X A_a1 ⟨by decide, by decide⟩ d4_97 (q := 98) rfl ?_
            refine g_callS X [(.ref b11), (.int (D 4))] [(.int (4 : Int32)), (.ref b12)] (tw22 hw) (tw23 hw) (tw3 hw) (tw24 hw) (by decide) (rm7 l Z a0 hw [] b11 (D 4) (tk (tk (tk (tk (own_up (own_up (own_up (own_up (own_up (fun _ => 0) 0 (0 : Int32)) 1 (1 : Int32)) 2 (2 : Int32)) 3 (3 : Int32)) 4 (4 : Int32)) (D 0)) (D 1)) (D 2)) (D 3)) _ n0 X.size A_b11 g_b11 (hD 4 (by decide))) pd1 rfl rfl rfl d4_98 (q := 101) rfl (W := 2) rfl (by decide) (by decide) (c2 := 2) (s2 := 10) rfl rfl (by decide) (by decide) (fun v T h' X hQ => ?_)
            obtain ⟨rfl, Kc, A_b11'⟩ := hQ
            have A_a1 := A_a1.keep Kc (ninS ne_a1_b11 nin0)
            have A_b12 := A_b12.keep Kc (ninS ne_b12_b11 nin0)
            have A_b11 : AI Z h' b11 .int 5 (tk (tk (tk (tk (tk (own_up (own_up (own_up (own_up (own_up (fun _ => 0) 0 (0 : Int32)) 1 (1 : Int32)) 2 (2 : Int32)) 3 (3 : Int32)) 4 (4 : Int32)) (D 0)) (D 1)) (D 2)) (D 3)) (D 4)) := A_b11'
            have K := K.trans Kc (allS (Or.inr sz_b11) all0)
            show Goes p e below s _ n0 _ (T.setTop (mkF m 101 #[.val (.ref a1), .val (.int (5 : Int32)), .val (.ref b11), .val (.ref b12)] [(.int ((tk (tk (tk (tk (own_up (own_up (own_up (own_up (own_up (fun _ => 0) 0 (0 : Int32)) 1 (1 : Int32)) 2 (2 : Int32)) 3 (3 : Int32)) 4 (4 : Int32)) (D 0)) (D 1)) (D 2)) (D 3)) (D 4).toNatClampNeg)), (.int (4 : Int32)), (.ref b12)]))
            refine g_iastore X A_b12 ⟨by decide, by decide⟩ g_b12 d4_101 (q := 102) rfl (fun T h X W => ?_)
            have A_a1 := A_a1.other W ne_a1_b12
            have A_b11 := A_b11.other W ne_b11_b12
            have A_b12 : AI Z h b12 .int 5 (own_up (own_up (own_up (own_up (own_up (fun _ => 0) 0 ((own_up (own_up (own_up (own_up (own_up (fun _ => 0) 0 (0 : Int32)) 1 (1 : Int32)) 2 (2 : Int32)) 3 (3 : Int32)) 4 (4 : Int32)) (D 0).toNatClampNeg)) 1 ((tk (own_up (own_up (own_up (own_up (own_up (fun _ => 0) 0 (0 : Int32)) 1 (1 : Int32)) 2 (2 : Int32)) 3 (3 : Int32)) 4 (4 : Int32)) (D 0)) (D 1).toNatClampNeg)) 2 ((tk (tk (own_up (own_up (own_up (own_up (own_up (fun _ => 0) 0 (0 : Int32)) 1 (1 : Int32)) 2 (2 : Int32)) 3 (3 : Int32)) 4 (4 : Int32)) (D 0)) (D 1)) (D 2).toNatClampNeg)) 3 ((tk (tk (tk (own_up (own_up (own_up (own_up (own_up (fun _ => 0) 0 (0 : Int32)) 1 (1 : Int32)) 2 (2 : Int32)) 3 (3 : Int32)) 4 (4 : Int32)) (D 0)) (D 1)) (D 2)) (D 3).toNatClampNeg)) 4 ((tk (tk (tk (tk (own_up (own_up (own_up (own_up (own_up (fun _ => 0) 0 (0 : Int32)) 1 (1 : Int32)) 2 (2 : Int32)) 3 (3 : Int32)) 4 (4 : Int32)) (D 0)) (D 1)) (D 2)) (D 3)) (D 4).toNatClampNeg)) := A_b12.set W
            have K := K.wr W (Or.inr sz_b12)
            refine g_aloadN X d4_102 rfl (q := 103) rfl rfl ?_
            exact g_retA X rfl rfl d4_103 (by decide) (by decide) ⟨b12, rfl, g_b12, sz_b12, K, A_b12⟩
          · skip
            exact absurd c5 (by decide)
        · skip
          exact absurd c4 (by decide)
      · skip
        exact absurd c3 (by decide)
    · skip
      exact absurd c2 (by decide)
  · skip
    exact absurd c1 (by decide)
theorem pn8 : plainName "com/example/eulay/eulay/generation/Permutations" = true := by first | (simp [plainName, overriddenIn]; done) | decide +kernel
theorem ef8 (m : MethodId) (x0 : Addr) (x1 : Int32) (x2 : Int32) : entryFrame m #[(.ref x0), (.int x1), (.int x2)] 4 = mkF m 0 #[.val (.ref x0), .val (.int x1), .val (.int x2), .unset] [] := by first | (simp [entryFrame, mkF, argsToLocals, Value.category]; done) | rfl
set_option maxRecDepth 65536 in
set_option maxHeartbeats 40000000 in
theorem rm8 (l : Launch) (Z : State) (a0 : Array Value) (hw : ∀ d ∈ tables_1, d.before a0 Z = true) (ws : List Jvm.Cond) (a1 : Addr) (p2 : Int32) (p3 : Int32) (n : Nat) (F : Nat → Int32) (h0 : Heap) (n0 : Nat) (Z0 : n0 ≤ h0.size) (A_a1 : AI Z h0 a1 .int n F) (g_a1 : n0 ≤ a1) (k1 : 0 ≤ p2.toInt ∧ p2.toInt < (n : Int)) (k2 : 0 ≤ p3.toInt ∧ p3.toInt < (n : Int)) :
    Met l Z (⟨"com/example/eulay/eulay/generation/Permutations", "swap", "([III)V"⟩ : MethodName) prog_18_method_4_code 4 none ({ frames := 0, cells := 0, slots := 0, locals := 0 } : Room) ws n0 #[(.ref a1), (.int p2), (.int p3)] h0 (fun v h' => v = none ∧ Keep h0 h' [a1] ∧ AI Z h' a1 .int n (sw F p2.toNatClampNeg p3.toNatClampNeg)) := by
  refine Met.intro (plainFor_of_name pn8) Z0 ?_
  intro p e s m below meth c T X
  refine g_cast (ef8 m a1 p2 p3) ?_
  have K : Keep h0 h0 [a1] := Keep.refl h0 _
  refine g_aloadN X d8_0 rfl (q := 1) rfl rfl ?_
  refine g_iloadN X d8_1 rfl (q := 2) rfl ?_
  refine g_iaload X A_a1 k1 d8_2 (q := 3) rfl ?_
  refine g_istoreN X d8_3 rfl (q := 4) (L' := #[.val (.ref a1), .val (.int p2), .val (.int p3), .val (.int (F p2.toNatClampNeg))]) rfl ?_
  refine g_aloadN X d8_4 rfl (q := 5) rfl rfl ?_
  refine g_iloadN X d8_5 rfl (q := 6) rfl ?_
  refine g_aloadN X d8_6 rfl (q := 7) rfl rfl ?_
  refine g_iloadN X d8_7 rfl (q := 8) rfl ?_
  refine g_iaload X A_a1 k2 d8_8 (q := 9) rfl ?_
  refine g_iastore X A_a1 k1 g_a1 d8_9 (q := 10) rfl (fun T h X W => ?_)
  have A_a1 : AI Z h a1 .int n (own_up F p2.toNatClampNeg (F p3.toNatClampNeg)) := A_a1.set W
  have K := K.wr W (Or.inl (List.mem_of_getElem? (i := 0) rfl))
  refine g_aloadN X d8_10 rfl (q := 11) rfl rfl ?_
  refine g_iloadN X d8_11 rfl (q := 12) rfl ?_
  refine g_iloadN X d8_12 rfl (q := 13) rfl ?_
  refine g_iastore X A_a1 k2 g_a1 d8_13 (q := 14) rfl (fun T h X W => ?_)
  have A_a1 : AI Z h a1 .int n (own_up (own_up F p2.toNatClampNeg (F p3.toNatClampNeg)) p3.toNatClampNeg (F p2.toNatClampNeg)) := A_a1.set W
  have K := K.wr W (Or.inl (List.mem_of_getElem? (i := 0) rfl))
  exact g_ret0 X d8_14 (by decide) (by decide) ⟨rfl, K, A_a1⟩
theorem pn5_n0 : plainName "com/example/eulay/eulay/generation/Permutations" = true := by first | (simp [plainName, overriddenIn]; done) | decide +kernel
theorem ef5_n0 (m : MethodId) (x0 : Addr) : entryFrame m #[(.ref x0)] 5 = mkF m 0 #[.val (.ref x0), .unset, .unset, .unset, .unset] [] := by first | (simp [entryFrame, mkF, argsToLocals, Value.category]; done) | rfl
set_option maxRecDepth 65536 in
set_option maxHeartbeats 40000000 in
theorem rm5_n0 (l : Launch) (Z : State) (a0 : Array Value) (hw : ∀ d ∈ tables_1, d.before a0 Z = true) (ws : List Jvm.Cond) (a1 : Addr) (F : Nat → Int32) (h0 : Heap) (n0 : Nat) (Z0 : n0 ≤ h0.size) (A_a1 : AI Z h0 a1 .int 0 F) (g_a1 : n0 ≤ a1) :
    Met l Z (⟨"com/example/eulay/eulay/generation/Permutations", "next", "([I)Z"⟩ : MethodName) prog_18_method_3_code 5 (some .boolean) ({ frames := 0, cells := 0, slots := 0, locals := 0 } : Room) ws n0 #[(.ref a1)] h0 (fun v h' => v = some (.int (0 : Int32)) ∧ Keep h0 h' [a1] ∧ AI Z h' a1 .int 0 F) := by
  refine Met.intro (plainFor_of_name pn5_n0) Z0 ?_
  intro p e s m below meth c T X
  refine g_cast (ef5_n0 m a1) ?_
  have K : Keep h0 h0 [a1] := Keep.refl h0 _
  refine g_aloadN X d5_0 rfl (q := 1) rfl rfl ?_
  refine g_alenI X A_a1 d5_1 (q := 2) rfl ?_
  show Goes p e below s _ n0 _ (T.setTop (mkF m 2 #[.val (.ref a1), .unset, .unset, .unset, .unset] [(.int (0 : Int32))]))
  refine g_iconst X d5_2 rfl (q := 3) (v := 2) rfl ?_
  refine g_isub X d5_3 rfl (q := 4) ?_
  refine g_eqI (y := (-2 : Int32)) (by decide) ?_
  refine g_istoreN X d5_4 rfl (q := 5) (L' := #[.val (.ref a1), .val (.int (-2 : Int32)), .unset, .unset, .unset]) rfl ?_
  refine g_iloadN X d5_5 rfl (q := 6) rfl ?_
  refine g_ifA X d5_6 (Or.inl rfl) (q := 9) rfl (by decide) (t := 26) rfl (fun (c1 : (-2 : Int32) < (0 : Int32)) => ?_) (fun (c1 : ¬ ((-2 : Int32) < (0 : Int32))) => ?_)
  · skip
    refine g_iloadN X d5_26 rfl (q := 27) rfl ?_
    refine g_ifB X d5_27 (Or.inl rfl) (q := 30) rfl (by decide) (t := 32) rfl (fun (c2 : (-2 : Int32) < (0 : Int32)) => ?_) (fun (c2 : ¬ ((-2 : Int32) < (0 : Int32))) => ?_)
    · skip
      refine g_iconst X d5_30 rfl (q := 31) (v := 0) rfl ?_
      exact g_retZ X d5_31 (by decide) (by decide) (by decide) ⟨rfl, K, (by first | exact A_a1 | (simp only [if_pos c1, if_pos c2]; exact A_a1) | (simp only [bI, if_pos c1, if_pos c2]; simpa [c1, c2] using A_a1))⟩
    · skip
      exact absurd c2 (by decide)
  · skip
    exact absurd c1 (by decide)
theorem pn5_n1 : plainName "com/example/eulay/eulay/generation/Permutations" = true := by first | (simp [plainName, overriddenIn]; done) | decide +kernel
theorem ef5_n1 (m : MethodId) (x0 : Addr) : entryFrame m #[(.ref x0)] 5 = mkF m 0 #[.val (.ref x0), .unset, .unset, .unset, .unset] [] := by first | (simp [entryFrame, mkF, argsToLocals, Value.category]; done) | rfl
set_option maxRecDepth 65536 in
set_option maxHeartbeats 40000000 in
theorem rm5_n1 (l : Launch) (Z : State) (a0 : Array Value) (hw : ∀ d ∈ tables_1, d.before a0 Z = true) (ws : List Jvm.Cond) (a1 : Addr) (F : Nat → Int32) (h0 : Heap) (n0 : Nat) (Z0 : n0 ≤ h0.size) (A_a1 : AI Z h0 a1 .int 1 F) (g_a1 : n0 ≤ a1) :
    Met l Z (⟨"com/example/eulay/eulay/generation/Permutations", "next", "([I)Z"⟩ : MethodName) prog_18_method_3_code 5 (some .boolean) ({ frames := 0, cells := 0, slots := 0, locals := 0 } : Room) ws n0 #[(.ref a1)] h0 (fun v h' => v = some (.int (0 : Int32)) ∧ Keep h0 h' [a1] ∧ AI Z h' a1 .int 1 F) := by
  refine Met.intro (plainFor_of_name pn5_n1) Z0 ?_
  intro p e s m below meth c T X
  refine g_cast (ef5_n1 m a1) ?_
  have K : Keep h0 h0 [a1] := Keep.refl h0 _
  refine g_aloadN X d5_0 rfl (q := 1) rfl rfl ?_
  refine g_alenI X A_a1 d5_1 (q := 2) rfl ?_
  show Goes p e below s _ n0 _ (T.setTop (mkF m 2 #[.val (.ref a1), .unset, .unset, .unset, .unset] [(.int (1 : Int32))]))
  refine g_iconst X d5_2 rfl (q := 3) (v := 2) rfl ?_
  refine g_isub X d5_3 rfl (q := 4) ?_
  refine g_eqI (y := (-1 : Int32)) (by decide) ?_
  refine g_istoreN X d5_4 rfl (q := 5) (L' := #[.val (.ref a1), .val (.int (-1 : Int32)), .unset, .unset, .unset]) rfl ?_
  refine g_iloadN X d5_5 rfl (q := 6) rfl ?_
  refine g_ifA X d5_6 (Or.inl rfl) (q := 9) rfl (by decide) (t := 26) rfl (fun (c1 : (-1 : Int32) < (0 : Int32)) => ?_) (fun (c1 : ¬ ((-1 : Int32) < (0 : Int32))) => ?_)
  · skip
    refine g_iloadN X d5_26 rfl (q := 27) rfl ?_
    refine g_ifB X d5_27 (Or.inl rfl) (q := 30) rfl (by decide) (t := 32) rfl (fun (c2 : (-1 : Int32) < (0 : Int32)) => ?_) (fun (c2 : ¬ ((-1 : Int32) < (0 : Int32))) => ?_)
    · skip
      refine g_iconst X d5_30 rfl (q := 31) (v := 0) rfl ?_
      exact g_retZ X d5_31 (by decide) (by decide) (by decide) ⟨rfl, K, (by first | exact A_a1 | (simp only [if_pos c1, if_pos c2]; exact A_a1) | (simp only [bI, if_pos c1, if_pos c2]; simpa [c1, c2] using A_a1))⟩
    · skip
      exact absurd c2 (by decide)
  · skip
    exact absurd c1 (by decide)
theorem pn5_n2 : plainName "com/example/eulay/eulay/generation/Permutations" = true := by first | (simp [plainName, overriddenIn]; done) | decide +kernel
theorem ef5_n2 (m : MethodId) (x0 : Addr) : entryFrame m #[(.ref x0)] 5 = mkF m 0 #[.val (.ref x0), .unset, .unset, .unset, .unset] [] := by first | (simp [entryFrame, mkF, argsToLocals, Value.category]; done) | rfl
set_option maxRecDepth 65536 in
set_option maxHeartbeats 40000000 in
theorem rm5_n2 (l : Launch) (Z : State) (a0 : Array Value) (hw : ∀ d ∈ tables_1, d.before a0 Z = true) (ws : List Jvm.Cond) (a1 : Addr) (F : Nat → Int32) (h0 : Heap) (n0 : Nat) (Z0 : n0 ≤ h0.size) (A_a1 : AI Z h0 a1 .int 2 F) (g_a1 : n0 ≤ a1) :
    Met l Z (⟨"com/example/eulay/eulay/generation/Permutations", "next", "([I)Z"⟩ : MethodName) prog_18_method_3_code 5 (some .boolean) ({ frames := 1, cells := 0, slots := 0, locals := 15 } : Room) ws n0 #[(.ref a1)] h0 (fun v h' => v = some (.int (bI (¬ ((F 1) < (F 0))))) ∧ Keep h0 h' [a1] ∧ AI Z h' a1 .int 2 (if (F 1) < (F 0) then F else (sw F (0 : Int32).toNatClampNeg (1 : Int32).toNatClampNeg))) := by
  refine Met.intro (plainFor_of_name pn5_n2) Z0 ?_
  intro p e s m below meth c T X
  refine g_cast (ef5_n2 m a1) ?_
  have K : Keep h0 h0 [a1] := Keep.refl h0 _
  refine g_aloadN X d5_0 rfl (q := 1) rfl rfl ?_
  refine g_alenI X A_a1 d5_1 (q := 2) rfl ?_
  show Goes p e below s _ n0 _ (T.setTop (mkF m 2 #[.val (.ref a1), .unset, .unset, .unset, .unset] [(.int (2 : Int32))]))
  refine g_iconst X d5_2 rfl (q := 3) (v := 2) rfl ?_
  refine g_isub X d5_3 rfl (q := 4) ?_
  refine g_eqI (y := (0 : Int32)) (by decide) ?_
  refine g_istoreN X d5_4 rfl (q := 5) (L' := #[.val (.ref a1), .val (.int (0 : Int32)), .unset, .unset, .unset]) rfl ?_
  refine g_iloadN X d5_5 rfl (q := 6) rfl ?_
  refine g_ifA X d5_6 (Or.inl rfl) (q := 9) rfl (by decide) (t := 26) rfl (fun (c1 : (0 : Int32) < (0 : Int32)) => ?_) (fun (c1 : ¬ ((0 : Int32) < (0 : Int32))) => ?_)
  · skip
    exact absurd c1 (by decide)
  · skip
    refine g_aloadN X d5_9 rfl (q := 10) rfl rfl ?_
    refine g_iloadN X d5_10 rfl (q := 11) rfl ?_
    refine g_iaload X A_a1 ⟨by decide, by decide⟩ d5_11 (q := 12) rfl ?_
    refine g_aloadN X d5_12 rfl (q := 13) rfl rfl ?_
    refine g_iloadN X d5_13 rfl (q := 14) rfl ?_
    refine g_iconst X d5_14 rfl (q := 15) (v := 1) rfl ?_
    refine g_iadd X d5_15 rfl (q := 16) ?_
    refine g_eqI (y := (1 : Int32)) (by decide) ?_
    refine g_iaload X A_a1 ⟨by decide, by decide⟩ d5_16 (q := 17) rfl ?_
    refine g_icmpB X d5_17 (Or.inr (Or.inl rfl)) (q := 20) rfl (by decide) (t := 26) rfl (fun (c2 : (F 1) < (F 0)) => ?_) (fun (c2 : ¬ ((F 1) < (F 0))) => ?_)
    · skip
      refine g_iinc X d5_20 (q := 23) rfl rfl (d := -1) rfl (L' := #[.val (.ref a1), .val (.int (-1 : Int32)), .unset, .unset, .unset]) rfl ?_
      refine g_goto X d5_23 (by decide) (q := 5) rfl ?_
      refine g_iloadN X d5_5 rfl (q := 6) rfl ?_
      refine g_ifA X d5_6 (Or.inl rfl) (q := 9) rfl (by decide) (t := 26) rfl (fun (c3 : (-1 : Int32) < (0 : Int32)) => ?_) (fun (c3 : ¬ ((-1 : Int32) < (0 : Int32))) => ?_)
      · skip
        refine g_iloadN X d5_26 rfl (q := 27) rfl ?_
        refine g_ifB X d5_27 (Or.inl rfl) (q := 30) rfl (by decide) (t := 32) rfl (fun (c4 : (-1 : Int32) < (0 : Int32)) => ?_) (fun (c4 : ¬ ((-1 : Int32) < (0 : Int32))) => ?_)
        · skip
          refine g_iconst X d5_30 rfl (q := 31) (v := 0) rfl ?_
          exact g_retZ X d5_31 (by decide) (by decide) (by decide) ⟨congrArg (fun z => some (Value.int z)) (bI_f (fun z => z c2)), K, (by first | exact A_a1 | (simp only [if_neg c1, if_pos c2, if_pos c3, if_pos c4]; exact A_a1) | (simp only [bI, if_neg c1, if_pos c2, if_pos c3, if_pos c4]; simpa [c1, c2, c3, c4] using A_a1))⟩
        · skip
          exact absurd c4 (by decide)
      · skip
        exact absurd c3 (by decide)
    · skip
      refine g_iloadN X d5_26 rfl (q := 27) rfl ?_
      refine g_ifB X d5_27 (Or.inl rfl) (q := 30) rfl (by decide) (t := 32) rfl (fun (c5 : (0 : Int32) < (0 : Int32)) => ?_) (fun (c5 : ¬ ((0 : Int32) < (0 : Int32))) => ?_)
      · skip
        exact absurd c5 (by decide)
      · skip
        refine g_aloadN X d5_32 rfl (q := 33) rfl rfl ?_
        refine g_alenI X A_a1 d5_33 (q := 34) rfl ?_
        show Goes p e below s _ n0 _ (T.setTop (mkF m 34 #[.val (.ref a1), .val (.int (0 : Int32)), .unset, .unset, .unset] [(.int (2 : Int32))]))
        refine g_iconst X d5_34 rfl (q := 35) (v := 1) rfl ?_
        refine g_isub X d5_35 rfl (q := 36) ?_
        refine g_eqI (y := (1 : Int32)) (by decide) ?_
        refine g_istoreN X d5_36 rfl (q := 37) (L' := #[.val (.ref a1), .val (.int (0 : Int32)), .val (.int (1 : Int32)), .unset, .unset]) rfl ?_
        refine g_aloadN X d5_37 rfl (q := 38) rfl rfl ?_
        refine g_iloadN X d5_38 rfl (q := 39) rfl ?_
        refine g_iaload X A_a1 ⟨by decide, by decide⟩ d5_39 (q := 40) rfl ?_
        refine g_aloadN X d5_40 rfl (q := 41) rfl rfl ?_
        refine g_iloadN X d5_41 rfl (q := 42) rfl ?_
        refine g_iaload X A_a1 ⟨by decide, by decide⟩ d5_42 (q := 43) rfl ?_
        refine g_icmpB X d5_43 (Or.inl rfl) (q := 46) rfl (by decide) (t := 52) rfl (fun (c6 : (F 1) < (F 0)) => ?_) (fun (c6 : ¬ ((F 1) < (F 0))) => ?_)
        · skip
          exact absurd c6 c2
        · skip
          refine g_aloadN X d5_52 rfl (q := 53) rfl rfl ?_
          refine g_iloadN X d5_53 rfl (q := 54) rfl ?_
          refine g_iloadN X d5_54 rfl (q := 55) rfl ?_
          refine g_callS X [(.ref a1), (.int (0 : Int32)), (.int (1 : Int32))] [] (tw25 hw) (tw26 hw) (tw16 hw) (tw27 hw) (by decide) (rm8 l Z a0 hw [] a1 (0 : Int32) (1 : Int32) 2 F _ n0 X.size A_a1 g_a1 ⟨by decide, by decide⟩ ⟨by decide, by decide⟩) pd2 rfl rfl rfl d5_55 (q := 58) rfl (W := 0) rfl (by decide) (by decide) (c2 := 0) (s2 := 0) rfl rfl (by decide) (by decide) (fun v T h' X hQ => ?_)
          obtain ⟨rfl, Kc, A_a1'⟩ := hQ
          have A_a1 : AI Z h' a1 .int 2 (sw F (0 : Int32).toNatClampNeg (1 : Int32).toNatClampNeg) := A_a1'
          have K := K.trans Kc (allS (Or.inl (List.mem_of_getElem? (i := 0) rfl)) all0)
          show Goes p e below s _ n0 _ (T.setTop (mkF m 58 #[.val (.ref a1), .val (.int (0 : Int32)), .val (.int (1 : Int32)), .unset, .unset] []))
          refine g_iloadN X d5_58 rfl (q := 59) rfl ?_
          refine g_iconst X d5_59 rfl (q := 60) (v := 1) rfl ?_
          refine g_iadd X d5_60 rfl (q := 61) ?_
          refine g_eqI (y := (1 : Int32)) (by decide) ?_
          refine g_istoreN X d5_61 rfl (q := 62) (L' := #[.val (.ref a1), .val (.int (0 : Int32)), .val (.int (1 : Int32)), .val (.int (1 : Int32)), .unset]) rfl ?_
          refine g_aloadN X d5_62 rfl (q := 63) rfl rfl ?_
          refine g_alenI X A_a1 d5_63 (q := 64) rfl ?_
          show Goes p e below s _ n0 _ (T.setTop (mkF m 64 #[.val (.ref a1), .val (.int (0 : Int32)), .val (.int (1 : Int32)), .val (.int (1 : Int32)), .unset] [(.int (2 : Int32))]))
          refine g_iconst X d5_64 rfl (q := 65) (v := 1) rfl ?_
          refine g_isub X d5_65 rfl (q := 66) ?_
          refine g_eqI (y := (1 : Int32)) (by decide) ?_
          refine g_istore X d5_66 rfl (q := 68) (L' := #[.val (.ref a1), .val (.int (0 : Int32)), .val (.int (1 : Int32)), .val (.int (1 : Int32)), .val (.int (1 : Int32))]) rfl ?_
          refine g_iloadN X d5_68 rfl (q := 69) rfl ?_
          refine g_iload X d5_69 rfl (q := 71) rfl ?_
          refine g_icmpB X d5_71 (Or.inl rfl) (q := 74) rfl (by decide) (t := 90) rfl (fun (c7 : (1 : Int32) < (1 : Int32)) => ?_) (fun (c7 : ¬ ((1 : Int32) < (1 : Int32))) => ?_)
          · skip
            exact absurd c7 (by decide)
          · skip
            refine g_iconst X d5_90 rfl (q := 91) (v := 1) rfl ?_
            exact g_retZ X d5_91 (by decide) (by decide) (by decide) ⟨congrArg (fun z => some (Value.int z)) (bI_t c2), K, (by first | exact A_a1 | (simp only [if_neg c1, if_neg c2, if_neg c5, if_neg c6, if_neg c7]; exact A_a1) | (simp only [bI, if_neg c1, if_neg c2, if_neg c5, if_neg c6, if_neg c7]; simpa [c1, c2, c5, c6, c7] using A_a1))⟩
theorem pn5_n3 : plainName "com/example/eulay/eulay/generation/Permutations" = true := by first | (simp [plainName, overriddenIn]; done) | decide +kernel
theorem ef5_n3 (m : MethodId) (x0 : Addr) : entryFrame m #[(.ref x0)] 5 = mkF m 0 #[.val (.ref x0), .unset, .unset, .unset, .unset] [] := by first | (simp [entryFrame, mkF, argsToLocals, Value.category]; done) | rfl
set_option maxRecDepth 65536 in
set_option maxHeartbeats 40000000 in
theorem rm5_n3 (l : Launch) (Z : State) (a0 : Array Value) (hw : ∀ d ∈ tables_1, d.before a0 Z = true) (ws : List Jvm.Cond) (a1 : Addr) (F : Nat → Int32) (h0 : Heap) (n0 : Nat) (Z0 : n0 ≤ h0.size) (A_a1 : AI Z h0 a1 .int 3 F) (g_a1 : n0 ≤ a1) :
    Met l Z (⟨"com/example/eulay/eulay/generation/Permutations", "next", "([I)Z"⟩ : MethodName) prog_18_method_3_code 5 (some .boolean) ({ frames := 1, cells := 0, slots := 0, locals := 15 } : Room) ws n0 #[(.ref a1)] h0 (fun v h' => v = some (.int (bI (¬ ((F 2) < (F 1)) ∨ (¬ ((F 1) < (F 0)) ∧ (((F 2) < (F 0)) ∨ True))))) ∧ Keep h0 h' [a1] ∧ AI Z h' a1 .int 3 (if (F 2) < (F 1) then (if (F 1) < (F 0) then F else (if (F 2) < (F 0) then (sw (sw F (0 : Int32).toNatClampNeg (1 : Int32).toNatClampNeg) (1 : Int32).toNatClampNeg (2 : Int32).toNatClampNeg) else (sw (sw F (0 : Int32).toNatClampNeg (2 : Int32).toNatClampNeg) (1 : Int32).toNatClampNeg (2 : Int32).toNatClampNeg))) else (sw F (1 : Int32).toNatClampNeg (2 : Int32).toNatClampNeg))) := by
  refine Met.intro (plainFor_of_name pn5_n3) Z0 ?_
  intro p e s m below meth c T X
  refine g_cast (ef5_n3 m a1) ?_
  have K : Keep h0 h0 [a1] := Keep.refl h0 _
  refine g_aloadN X d5_0 rfl (q := 1) rfl rfl ?_
  refine g_alenI X A_a1 d5_1 (q := 2) rfl ?_
  show Goes p e below s _ n0 _ (T.setTop (mkF m 2 #[.val (.ref a1), .unset, .unset, .unset, .unset] [(.int (3 : Int32))]))
  refine g_iconst X d5_2 rfl (q := 3) (v := 2) rfl ?_
  refine g_isub X d5_3 rfl (q := 4) ?_
  refine g_eqI (y := (1 : Int32)) (by decide) ?_
  refine g_istoreN X d5_4 rfl (q := 5) (L' := #[.val (.ref a1), .val (.int (1 : Int32)), .unset, .unset, .unset]) rfl ?_
  refine g_iloadN X d5_5 rfl (q := 6) rfl ?_
  refine g_ifA X d5_6 (Or.inl rfl) (q := 9) rfl (by decide) (t := 26) rfl (fun (c1 : (1 : Int32) < (0 : Int32)) => ?_) (fun (c1 : ¬ ((1 : Int32) < (0 : Int32))) => ?_)
  · skip
    exact absurd c1 (by decide)
  · skip
    refine g_aloadN X d5_9 rfl (q := 10) rfl rfl ?_
    refine g_iloadN X d5_10 rfl (q := 11) rfl ?_
    refine g_iaload X A_a1 ⟨by decide, by decide⟩ d5_11 (q := 12) rfl ?_
    refine g_aloadN X d5_12 rfl (q := 13) rfl rfl ?_
    refine g_iloadN X d5_13 rfl (q := 14) rfl ?_
    refine g_iconst X d5_14 rfl (q := 15) (v := 1) rfl ?_
    refine g_iadd X d5_15 rfl (q := 16) ?_
    refine g_eqI (y := (2 : Int32)) (by decide) ?_
    refine g_iaload X A_a1 ⟨by decide, by decide⟩ d5_16 (q := 17) rfl ?_
    refine g_icmpB X d5_17 (Or.inr (Or.inl rfl)) (q := 20) rfl (by decide) (t := 26) rfl (fun (c2 : (F 2) < (F 1)) => ?_) (fun (c2 : ¬ ((F 2) < (F 1))) => ?_)
    · skip
      refine g_iinc X d5_20 (q := 23) rfl rfl (d := -1) rfl (L' := #[.val (.ref a1), .val (.int (0 : Int32)), .unset, .unset, .unset]) rfl ?_
      refine g_goto X d5_23 (by decide) (q := 5) rfl ?_
      refine g_iloadN X d5_5 rfl (q := 6) rfl ?_
      refine g_ifA X d5_6 (Or.inl rfl) (q := 9) rfl (by decide) (t := 26) rfl (fun (c3 : (0 : Int32) < (0 : Int32)) => ?_) (fun (c3 : ¬ ((0 : Int32) < (0 : Int32))) => ?_)
      · skip
        exact absurd c3 (by decide)
      · skip
        refine g_aloadN X d5_9 rfl (q := 10) rfl rfl ?_
        refine g_iloadN X d5_10 rfl (q := 11) rfl ?_
        refine g_iaload X A_a1 ⟨by decide, by decide⟩ d5_11 (q := 12) rfl ?_
        refine g_aloadN X d5_12 rfl (q := 13) rfl rfl ?_
        refine g_iloadN X d5_13 rfl (q := 14) rfl ?_
        refine g_iconst X d5_14 rfl (q := 15) (v := 1) rfl ?_
        refine g_iadd X d5_15 rfl (q := 16) ?_
        refine g_eqI (y := (1 : Int32)) (by decide) ?_
        refine g_iaload X A_a1 ⟨by decide, by decide⟩ d5_16 (q := 17) rfl ?_
        refine g_icmpB X d5_17 (Or.inr (Or.inl rfl)) (q := 20) rfl (by decide) (t := 26) rfl (fun (c4 : (F 1) < (F 0)) => ?_) (fun (c4 : ¬ ((F 1) < (F 0))) => ?_)
        · skip
          refine g_iinc X d5_20 (q := 23) rfl rfl (d := -1) rfl (L' := #[.val (.ref a1), .val (.int (-1 : Int32)), .unset, .unset, .unset]) rfl ?_
          refine g_goto X d5_23 (by decide) (q := 5) rfl ?_
          refine g_iloadN X d5_5 rfl (q := 6) rfl ?_
          refine g_ifA X d5_6 (Or.inl rfl) (q := 9) rfl (by decide) (t := 26) rfl (fun (c5 : (-1 : Int32) < (0 : Int32)) => ?_) (fun (c5 : ¬ ((-1 : Int32) < (0 : Int32))) => ?_)
          · skip
            refine g_iloadN X d5_26 rfl (q := 27) rfl ?_
            refine g_ifB X d5_27 (Or.inl rfl) (q := 30) rfl (by decide) (t := 32) rfl (fun (c6 : (-1 : Int32) < (0 : Int32)) => ?_) (fun (c6 : ¬ ((-1 : Int32) < (0 : Int32))) => ?_)
            · skip
              refine g_iconst X d5_30 rfl (q := 31) (v := 0) rfl ?_
              exact g_retZ X d5_31 (by decide) (by decide) (by decide) ⟨congrArg (fun z => some (Value.int z)) (bI_f (fun z => z.elim (fun w => w c2) (fun z => z.1 c4))), K, (by first | exact A_a1 | (simp only [if_neg c1, if_pos c2, if_neg c3, if_pos c4, if_pos c5, if_pos c6]; exact A_a1) | (simp only [bI, if_neg c1, if_pos c2, if_neg c3, if_pos c4, if_pos c5, if_pos c6]; simpa [c1, c2, c3, c4, c5, c6] using A_a1))⟩
            · skip
              exact absurd c6 (by decide)
          · skip
            exact absurd c5 (by decide)
        · skip
          refine g_iloadN X d5_26 rfl (q := 27) rfl ?_
          refine g_ifB X d5_27 (Or.inl rfl) (q := 30) rfl (by decide) (t := 32) rfl (fun (c7 : (0 : Int32) < (0 : Int32)) => ?_) (fun (c7 : ¬ ((0 : Int32) < (0 : Int32))) => ?_)
          · skip
            exact absurd c7 (by decide)
          · skip
            refine g_aloadN X d5_32 rfl (q := 33) rfl rfl ?_
            refine g_alenI X A_a1 d5_33 (q := 34) rfl ?_
            show Goes p e below s _ n0 _ (T.setTop (mkF m 34 #[.val (.ref a1), .val (.int (0 : Int32)), .unset, .unset, .unset] [(.int (3 : Int32))]))
            refine g_iconst X d5_34 rfl (q := 35) (v := 1) rfl ?_
            refine g_isub X d5_35 rfl (q := 36) ?_
            refine g_eqI (y := (2 : Int32)) (by decide) ?_
            refine g_istoreN X d5_36 rfl (q := 37) (L' := #[.val (.ref a1), .val (.int (0 : Int32)), .val (.int (2 : Int32)), .unset, .unset]) rfl ?_
            refine g_aloadN X d5_37 rfl (q := 38) rfl rfl ?_
            refine g_iloadN X d5_38 rfl (q := 39) rfl ?_
            refine g_iaload X A_a1 ⟨by decide, by decide⟩ d5_39 (q := 40) rfl ?_
            refine g_aloadN X d5_40 rfl (q := 41) rfl rfl ?_
            refine g_iloadN X d5_41 rfl (q := 42) rfl ?_
            refine g_iaload X A_a1 ⟨by decide, by decide⟩ d5_42 (q := 43) rfl ?_
            refine g_icmpB X d5_43 (Or.inl rfl) (q := 46) rfl (by decide) (t := 52) rfl (fun (c8 : (F 2) < (F 0)) => ?_) (fun (c8 : ¬ ((F 2) < (F 0))) => ?_)
            · skip
              refine g_iinc X d5_46 (q := 49) rfl rfl (d := -1) rfl (L' := #[.val (.ref a1), .val (.int (0 : Int32)), .val (.int (1 : Int32)), .unset, .unset]) rfl ?_
              refine g_goto X d5_49 (by decide) (q := 37) rfl ?_
              refine g_aloadN X d5_37 rfl (q := 38) rfl rfl ?_
              refine g_iloadN X d5_38 rfl (q := 39) rfl ?_
              refine g_iaload X A_a1 ⟨by decide, by decide⟩ d5_39 (q := 40) rfl ?_
              refine g_aloadN X d5_40 rfl (q := 41) rfl rfl ?_
              refine g_iloadN X d5_41 rfl (q := 42) rfl ?_
              refine g_iaload X A_a1 ⟨by decide, by decide⟩ d5_42 (q := 43) rfl ?_
              refine g_icmpB X d5_43 (Or.inl rfl) (q := 46) rfl (by decide) (t := 52) rfl (fun (c9 : (F 1) < (F 0)) => ?_) (fun (c9 : ¬ ((F 1) < (F 0))) => ?_)
              · skip
                exact absurd c9 c4
              · skip
                refine g_aloadN X d5_52 rfl (q := 53) rfl rfl ?_
                refine g_iloadN X d5_53 rfl (q := 54) rfl ?_
                refine g_iloadN X d5_54 rfl (q := 55) rfl ?_
                refine g_callS X [(.ref a1), (.int (0 : Int32)), (.int (1 : Int32))] [] (tw25 hw) (tw26 hw) (tw16 hw) (tw27 hw) (by decide) (rm8 l Z a0 hw [] a1 (0 : Int32) (1 : Int32) 3 F _ n0 X.size A_a1 g_a1 ⟨by decide, by decide⟩ ⟨by decide, by decide⟩) pd2 rfl rfl rfl d5_55 (q := 58) rfl (W := 0) rfl (by decide) (by decide) (c2 := 0) (s2 := 0) rfl rfl (by decide) (by decide) (fun v T h' X hQ => ?_)
                obtain ⟨rfl, Kc, A_a1'⟩ := hQ
                have A_a1 : AI Z h' a1 .int 3 (sw F (0 : Int32).toNatClampNeg (1 : Int32).toNatClampNeg) := A_a1'
                have K := K.trans Kc (allS (Or.inl (List.mem_of_getElem? (i := 0) rfl)) all0)
                show Goes p e below s _ n0 _ (T.setTop (mkF m 58 #[.val (.ref a1), .val (.int (0 : Int32)), .val (.int (1 : Int32)), .unset, .unset] []))
                refine g_iloadN X d5_58 rfl (q := 59) rfl ?_
                refine g_iconst X d5_59 rfl (q := 60) (v := 1) rfl ?_
                refine g_iadd X d5_60 rfl (q := 61) ?_
                refine g_eqI (y := (1 : Int32)) (by decide) ?_
                refine g_istoreN X d5_61 rfl (q := 62) (L' := #[.val (.ref a1), .val (.int (0 : Int32)), .val (.int (1 : Int32)), .val (.int (1 : Int32)), .unset]) rfl ?_
                refine g_aloadN X d5_62 rfl (q := 63) rfl rfl ?_
                refine g_alenI X A_a1 d5_63 (q := 64) rfl ?_
                show Goes p e below s _ n0 _ (T.setTop (mkF m 64 #[.val (.ref a1), .val (.int (0 : Int32)), .val (.int (1 : Int32)), .val (.int (1 : Int32)), .unset] [(.int (3 : Int32))]))
                refine g_iconst X d5_64 rfl (q := 65) (v := 1) rfl ?_
                refine g_isub X d5_65 rfl (q := 66) ?_
                refine g_eqI (y := (2 : Int32)) (by decide) ?_
                refine g_istore X d5_66 rfl (q := 68) (L' := #[.val (.ref a1), .val (.int (0 : Int32)), .val (.int (1 : Int32)), .val (.int (1 : Int32)), .val (.int (2 : Int32))]) rfl ?_
                refine g_iloadN X d5_68 rfl (q := 69) rfl ?_
                refine g_iload X d5_69 rfl (q := 71) rfl ?_
                refine g_icmpB X d5_71 (Or.inl rfl) (q := 74) rfl (by decide) (t := 90) rfl (fun (c10 : (1 : Int32) < (2 : Int32)) => ?_) (fun (c10 : ¬ ((1 : Int32) < (2 : Int32))) => ?_)
                · skip
                  refine g_aloadN X d5_74 rfl (q := 75) rfl rfl ?_
                  refine g_iloadN X d5_75 rfl (q := 76) rfl ?_
                  refine g_iload X d5_76 rfl (q := 78) rfl ?_
                  refine g_callS X [(.ref a1), (.int (1 : Int32)), (.int (2 : Int32))] [] (tw25 hw) (tw26 hw) (tw16 hw) (tw27 hw) (by decide) (rm8 l Z a0 hw [] a1 (1 : Int32) (2 : Int32) 3 (sw F (0 : Int32).toNatClampNeg (1 : Int32).toNatClampNeg) _ n0 X.size A_a1 g_a1 ⟨by decide, by decide⟩ ⟨by decide, by decide⟩) pd2 rfl rfl rfl d5_78 (q := 81) rfl (W := 0) rfl (by decide) (by decide) (c2 := 0) (s2 := 0) rfl rfl (by decide) (by decide) (fun v T h' X hQ => ?_)
                  obtain ⟨rfl, Kc, A_a1'⟩ := hQ
                  have A_a1 : AI Z h' a1 .int 3 (sw (sw F (0 : Int32).toNatClampNeg (1 : Int32).toNatClampNeg) (1 : Int32).toNatClampNeg (2 : Int32).toNatClampNeg) := A_a1'
                  have K := K.trans Kc (allS (Or.inl (List.mem_of_getElem? (i := 0) rfl)) all0)
                  show Goes p e below s _ n0 _ (T.setTop (mkF m 81 #[.val (.ref a1), .val (.int (0 : Int32)), .val (.int (1 : Int32)), .val (.int (1 : Int32)), .val (.int (2 : Int32))] []))
                  refine g_iinc X d5_81 (q := 84) rfl rfl (d := 1) rfl (L' := #[.val (.ref a1), .val (.int (0 : Int32)), .val (.int (1 : Int32)), .val (.int (2 : Int32)), .val (.int (2 : Int32))]) rfl ?_
                  refine g_iinc X d5_84 (q := 87) rfl rfl (d := -1) rfl (L' := #[.val (.ref a1), .val (.int (0 : Int32)), .val (.int (1 : Int32)), .val (.int (2 : Int32)), .val (.int (1 : Int32))]) rfl ?_
                  refine g_goto X d5_87 (by decide) (q := 68) rfl ?_
                  refine g_iloadN X d5_68 rfl (q := 69) rfl ?_
                  refine g_iload X d5_69 rfl (q := 71) rfl ?_
                  refine g_icmpB X d5_71 (Or.inl rfl) (q := 74) rfl (by decide) (t := 90) rfl (fun (c11 : (2 : Int32) < (1 : Int32)) => ?_) (fun (c11 : ¬ ((2 : Int32) < (1 : Int32))) => ?_)
                  · skip
                    exact absurd c11 (by decide)
                  · skip
                    refine g_iconst X d5_90 rfl (q := 91) (v := 1) rfl ?_
                    exact g_retZ X d5_91 (by decide) (by decide) (by decide) ⟨congrArg (fun z => some (Value.int z)) (bI_t (Or.inr ⟨c4, (Or.inl c8)⟩)), K, (by first | exact A_a1 | (simp only [if_neg c1, if_pos c2, if_neg c3, if_neg c4, if_neg c7, if_pos c8, if_neg c9, if_pos c10, if_neg c11]; exact A_a1) | (simp only [bI, if_neg c1, if_pos c2, if_neg c3, if_neg c4, if_neg c7, if_pos c8, if_neg c9, if_pos c10, if_neg c11]; simpa [c1, c2, c3, c4, c7, c8, c9, c10, c11] using A_a1))⟩
                · skip
                  exact absurd c10 (by decide)
            · skip
              refine g_aloadN X d5_52 rfl (q := 53) rfl rfl ?_
              refine g_iloadN X d5_53 rfl (q := 54) rfl ?_
              refine g_iloadN X d5_54 rfl (q := 55) rfl ?_
              refine g_callS X [(.ref a1), (.int (0 : Int32)), (.int (2 : Int32))] [] (tw25 hw) (tw26 hw) (tw16 hw) (tw27 hw) (by decide) (rm8 l Z a0 hw [] a1 (0 : Int32) (2 : Int32) 3 F _ n0 X.size A_a1 g_a1 ⟨by decide, by decide⟩ ⟨by decide, by decide⟩) pd2 rfl rfl rfl d5_55 (q := 58) rfl (W := 0) rfl (by decide) (by decide) (c2 := 0) (s2 := 0) rfl rfl (by decide) (by decide) (fun v T h' X hQ => ?_)
              obtain ⟨rfl, Kc, A_a1'⟩ := hQ
              have A_a1 : AI Z h' a1 .int 3 (sw F (0 : Int32).toNatClampNeg (2 : Int32).toNatClampNeg) := A_a1'
              have K := K.trans Kc (allS (Or.inl (List.mem_of_getElem? (i := 0) rfl)) all0)
              show Goes p e below s _ n0 _ (T.setTop (mkF m 58 #[.val (.ref a1), .val (.int (0 : Int32)), .val (.int (2 : Int32)), .unset, .unset] []))
              refine g_iloadN X d5_58 rfl (q := 59) rfl ?_
              refine g_iconst X d5_59 rfl (q := 60) (v := 1) rfl ?_
              refine g_iadd X d5_60 rfl (q := 61) ?_
              refine g_eqI (y := (1 : Int32)) (by decide) ?_
              refine g_istoreN X d5_61 rfl (q := 62) (L' := #[.val (.ref a1), .val (.int (0 : Int32)), .val (.int (2 : Int32)), .val (.int (1 : Int32)), .unset]) rfl ?_
              refine g_aloadN X d5_62 rfl (q := 63) rfl rfl ?_
              refine g_alenI X A_a1 d5_63 (q := 64) rfl ?_
              show Goes p e below s _ n0 _ (T.setTop (mkF m 64 #[.val (.ref a1), .val (.int (0 : Int32)), .val (.int (2 : Int32)), .val (.int (1 : Int32)), .unset] [(.int (3 : Int32))]))
              refine g_iconst X d5_64 rfl (q := 65) (v := 1) rfl ?_
              refine g_isub X d5_65 rfl (q := 66) ?_
              refine g_eqI (y := (2 : Int32)) (by decide) ?_
              refine g_istore X d5_66 rfl (q := 68) (L' := #[.val (.ref a1), .val (.int (0 : Int32)), .val (.int (2 : Int32)), .val (.int (1 : Int32)), .val (.int (2 : Int32))]) rfl ?_
              refine g_iloadN X d5_68 rfl (q := 69) rfl ?_
              refine g_iload X d5_69 rfl (q := 71) rfl ?_
              refine g_icmpB X d5_71 (Or.inl rfl) (q := 74) rfl (by decide) (t := 90) rfl (fun (c12 : (1 : Int32) < (2 : Int32)) => ?_) (fun (c12 : ¬ ((1 : Int32) < (2 : Int32))) => ?_)
              · skip
                refine g_aloadN X d5_74 rfl (q := 75) rfl rfl ?_
                refine g_iloadN X d5_75 rfl (q := 76) rfl ?_
                refine g_iload X d5_76 rfl (q := 78) rfl ?_
                refine g_callS X [(.ref a1), (.int (1 : Int32)), (.int (2 : Int32))] [] (tw25 hw) (tw26 hw) (tw16 hw) (tw27 hw) (by decide) (rm8 l Z a0 hw [] a1 (1 : Int32) (2 : Int32) 3 (sw F (0 : Int32).toNatClampNeg (2 : Int32).toNatClampNeg) _ n0 X.size A_a1 g_a1 ⟨by decide, by decide⟩ ⟨by decide, by decide⟩) pd2 rfl rfl rfl d5_78 (q := 81) rfl (W := 0) rfl (by decide) (by decide) (c2 := 0) (s2 := 0) rfl rfl (by decide) (by decide) (fun v T h' X hQ => ?_)
                obtain ⟨rfl, Kc, A_a1'⟩ := hQ
                have A_a1 : AI Z h' a1 .int 3 (sw (sw F (0 : Int32).toNatClampNeg (2 : Int32).toNatClampNeg) (1 : Int32).toNatClampNeg (2 : Int32).toNatClampNeg) := A_a1'
                have K := K.trans Kc (allS (Or.inl (List.mem_of_getElem? (i := 0) rfl)) all0)
                show Goes p e below s _ n0 _ (T.setTop (mkF m 81 #[.val (.ref a1), .val (.int (0 : Int32)), .val (.int (2 : Int32)), .val (.int (1 : Int32)), .val (.int (2 : Int32))] []))
                refine g_iinc X d5_81 (q := 84) rfl rfl (d := 1) rfl (L' := #[.val (.ref a1), .val (.int (0 : Int32)), .val (.int (2 : Int32)), .val (.int (2 : Int32)), .val (.int (2 : Int32))]) rfl ?_
                refine g_iinc X d5_84 (q := 87) rfl rfl (d := -1) rfl (L' := #[.val (.ref a1), .val (.int (0 : Int32)), .val (.int (2 : Int32)), .val (.int (2 : Int32)), .val (.int (1 : Int32))]) rfl ?_
                refine g_goto X d5_87 (by decide) (q := 68) rfl ?_
                refine g_iloadN X d5_68 rfl (q := 69) rfl ?_
                refine g_iload X d5_69 rfl (q := 71) rfl ?_
                refine g_icmpB X d5_71 (Or.inl rfl) (q := 74) rfl (by decide) (t := 90) rfl (fun (c13 : (2 : Int32) < (1 : Int32)) => ?_) (fun (c13 : ¬ ((2 : Int32) < (1 : Int32))) => ?_)
                · skip
                  exact absurd c13 (by decide)
                · skip
                  refine g_iconst X d5_90 rfl (q := 91) (v := 1) rfl ?_
                  exact g_retZ X d5_91 (by decide) (by decide) (by decide) ⟨congrArg (fun z => some (Value.int z)) (bI_t (Or.inr ⟨c4, (Or.inr trivial)⟩)), K, (by first | exact A_a1 | (simp only [if_neg c1, if_pos c2, if_neg c3, if_neg c4, if_neg c7, if_neg c8, if_pos c12, if_neg c13]; exact A_a1) | (simp only [bI, if_neg c1, if_pos c2, if_neg c3, if_neg c4, if_neg c7, if_neg c8, if_pos c12, if_neg c13]; simpa [c1, c2, c3, c4, c7, c8, c12, c13] using A_a1))⟩
              · skip
                exact absurd c12 (by decide)
    · skip
      refine g_iloadN X d5_26 rfl (q := 27) rfl ?_
      refine g_ifB X d5_27 (Or.inl rfl) (q := 30) rfl (by decide) (t := 32) rfl (fun (c14 : (1 : Int32) < (0 : Int32)) => ?_) (fun (c14 : ¬ ((1 : Int32) < (0 : Int32))) => ?_)
      · skip
        exact absurd c14 (by decide)
      · skip
        refine g_aloadN X d5_32 rfl (q := 33) rfl rfl ?_
        refine g_alenI X A_a1 d5_33 (q := 34) rfl ?_
        show Goes p e below s _ n0 _ (T.setTop (mkF m 34 #[.val (.ref a1), .val (.int (1 : Int32)), .unset, .unset, .unset] [(.int (3 : Int32))]))
        refine g_iconst X d5_34 rfl (q := 35) (v := 1) rfl ?_
        refine g_isub X d5_35 rfl (q := 36) ?_
        refine g_eqI (y := (2 : Int32)) (by decide) ?_
        refine g_istoreN X d5_36 rfl (q := 37) (L' := #[.val (.ref a1), .val (.int (1 : Int32)), .val (.int (2 : Int32)), .unset, .unset]) rfl ?_
        refine g_aloadN X d5_37 rfl (q := 38) rfl rfl ?_
        refine g_iloadN X d5_38 rfl (q := 39) rfl ?_
        refine g_iaload X A_a1 ⟨by decide, by decide⟩ d5_39 (q := 40) rfl ?_
        refine g_aloadN X d5_40 rfl (q := 41) rfl rfl ?_
        refine g_iloadN X d5_41 rfl (q := 42) rfl ?_
        refine g_iaload X A_a1 ⟨by decide, by decide⟩ d5_42 (q := 43) rfl ?_
        refine g_icmpB X d5_43 (Or.inl rfl) (q := 46) rfl (by decide) (t := 52) rfl (fun (c15 : (F 2) < (F 1)) => ?_) (fun (c15 : ¬ ((F 2) < (F 1))) => ?_)
        · skip
          exact absurd c15 c2
        · skip
          refine g_aloadN X d5_52 rfl (q := 53) rfl rfl ?_
          refine g_iloadN X d5_53 rfl (q := 54) rfl ?_
          refine g_iloadN X d5_54 rfl (q := 55) rfl ?_
          refine g_callS X [(.ref a1), (.int (1 : Int32)), (.int (2 : Int32))] [] (tw25 hw) (tw26 hw) (tw16 hw) (tw27 hw) (by decide) (rm8 l Z a0 hw [] a1 (1 : Int32) (2 : Int32) 3 F _ n0 X.size A_a1 g_a1 ⟨by decide, by decide⟩ ⟨by decide, by decide⟩) pd2 rfl rfl rfl d5_55 (q := 58) rfl (W := 0) rfl (by decide) (by decide) (c2 := 0) (s2 := 0) rfl rfl (by decide) (by decide) (fun v T h' X hQ => ?_)
          obtain ⟨rfl, Kc, A_a1'⟩ := hQ
          have A_a1 : AI Z h' a1 .int 3 (sw F (1 : Int32).toNatClampNeg (2 : Int32).toNatClampNeg) := A_a1'
          have K := K.trans Kc (allS (Or.inl (List.mem_of_getElem? (i := 0) rfl)) all0)
          show Goes p e below s _ n0 _ (T.setTop (mkF m 58 #[.val (.ref a1), .val (.int (1 : Int32)), .val (.int (2 : Int32)), .unset, .unset] []))
          refine g_iloadN X d5_58 rfl (q := 59) rfl ?_
          refine g_iconst X d5_59 rfl (q := 60) (v := 1) rfl ?_
          refine g_iadd X d5_60 rfl (q := 61) ?_
          refine g_eqI (y := (2 : Int32)) (by decide) ?_
          refine g_istoreN X d5_61 rfl (q := 62) (L' := #[.val (.ref a1), .val (.int (1 : Int32)), .val (.int (2 : Int32)), .val (.int (2 : Int32)), .unset]) rfl ?_
          refine g_aloadN X d5_62 rfl (q := 63) rfl rfl ?_
          refine g_alenI X A_a1 d5_63 (q := 64) rfl ?_
          show Goes p e below s _ n0 _ (T.setTop (mkF m 64 #[.val (.ref a1), .val (.int (1 : Int32)), .val (.int (2 : Int32)), .val (.int (2 : Int32)), .unset] [(.int (3 : Int32))]))
          refine g_iconst X d5_64 rfl (q := 65) (v := 1) rfl ?_
          refine g_isub X d5_65 rfl (q := 66) ?_
          refine g_eqI (y := (2 : Int32)) (by decide) ?_
          refine g_istore X d5_66 rfl (q := 68) (L' := #[.val (.ref a1), .val (.int (1 : Int32)), .val (.int (2 : Int32)), .val (.int (2 : Int32)), .val (.int (2 : Int32))]) rfl ?_
          refine g_iloadN X d5_68 rfl (q := 69) rfl ?_
          refine g_iload X d5_69 rfl (q := 71) rfl ?_
          refine g_icmpB X d5_71 (Or.inl rfl) (q := 74) rfl (by decide) (t := 90) rfl (fun (c16 : (2 : Int32) < (2 : Int32)) => ?_) (fun (c16 : ¬ ((2 : Int32) < (2 : Int32))) => ?_)
          · skip
            exact absurd c16 (by decide)
          · skip
            refine g_iconst X d5_90 rfl (q := 91) (v := 1) rfl ?_
            exact g_retZ X d5_91 (by decide) (by decide) (by decide) ⟨congrArg (fun z => some (Value.int z)) (bI_t (Or.inl c2)), K, (by first | exact A_a1 | (simp only [if_neg c1, if_neg c2, if_neg c14, if_neg c15, if_neg c16]; exact A_a1) | (simp only [bI, if_neg c1, if_neg c2, if_neg c14, if_neg c15, if_neg c16]; simpa [c1, c2, c14, c15, c16] using A_a1))⟩
theorem pn5_n4 : plainName "com/example/eulay/eulay/generation/Permutations" = true := by first | (simp [plainName, overriddenIn]; done) | decide +kernel
theorem ef5_n4 (m : MethodId) (x0 : Addr) : entryFrame m #[(.ref x0)] 5 = mkF m 0 #[.val (.ref x0), .unset, .unset, .unset, .unset] [] := by first | (simp [entryFrame, mkF, argsToLocals, Value.category]; done) | rfl
set_option maxRecDepth 65536 in
set_option maxHeartbeats 40000000 in
theorem rm5_n4 (l : Launch) (Z : State) (a0 : Array Value) (hw : ∀ d ∈ tables_1, d.before a0 Z = true) (ws : List Jvm.Cond) (a1 : Addr) (F : Nat → Int32) (h0 : Heap) (n0 : Nat) (Z0 : n0 ≤ h0.size) (A_a1 : AI Z h0 a1 .int 4 F) (g_a1 : n0 ≤ a1) :
    Met l Z (⟨"com/example/eulay/eulay/generation/Permutations", "next", "([I)Z"⟩ : MethodName) prog_18_method_3_code 5 (some .boolean) ({ frames := 1, cells := 0, slots := 0, locals := 15 } : Room) ws n0 #[(.ref a1)] h0 (fun v h' => v = some (.int (bI (¬ ((F 3) < (F 2)) ∨ ((((F 2) < (F 1)) ∧ (¬ ((F 1) < (F 0)) ∧ (¬ ((F 3) < (F 0)) ∨ (((F 2) < (F 0)) ∨ True)))) ∨ (¬ ((F 2) < (F 1)) ∧ (((F 3) < (F 1)) ∨ True)))))) ∧ Keep h0 h' [a1] ∧ AI Z h' a1 .int 4 (if (F 3) < (F 2) then (if (F 2) < (F 1) then (if (F 1) < (F 0) then F else (if (F 3) < (F 0) then (if (F 2) < (F 0) then (sw (sw F (0 : Int32).toNatClampNeg (1 : Int32).toNatClampNeg) (1 : Int32).toNatClampNeg (3 : Int32).toNatClampNeg) else (sw (sw F (0 : Int32).toNatClampNeg (2 : Int32).toNatClampNeg) (1 : Int32).toNatClampNeg (3 : Int32).toNatClampNeg)) else (sw (sw F (0 : Int32).toNatClampNeg (3 : Int32).toNatClampNeg) (1 : Int32).toNatClampNeg (3 : Int32).toNatClampNeg))) else (if (F 3) < (F 1) then (sw (sw F (1 : Int32).toNatClampNeg (2 : Int32).toNatClampNeg) (2 : Int32).toNatClampNeg (3 : Int32).toNatClampNeg) else (sw (sw F (1 : Int32).toNatClampNeg (3 : Int32).toNatClampNeg) (2 : Int32).toNatClampNeg (3 : Int32).toNatClampNeg))) else (sw F (2 : Int32).toNatClampNeg (3 : Int32).toNatClampNeg))) := by
  refine Met.intro (plainFor_of_name pn5_n4) Z0 ?_
  intro p e s m below meth c T X
  refine g_cast (ef5_n4 m a1) ?_
  have K : Keep h0 h0 [a1] := Keep.refl h0 _
  refine g_aloadN X d5_0 rfl (q := 1) rfl rfl ?_
  refine g_alenI X A_a1 d5_1 (q := 2) rfl ?_
  show Goes p e below s _ n0 _ (T.setTop (mkF m 2 #[.val (.ref a1), .unset, .unset, .unset, .unset] [(.int (4 : Int32))]))
  refine g_iconst X d5_2 rfl (q := 3) (v := 2) rfl ?_
  refine g_isub X d5_3 rfl (q := 4) ?_
  refine g_eqI (y := (2 : Int32)) (by decide) ?_
  refine g_istoreN X d5_4 rfl (q := 5) (L' := #[.val (.ref a1), .val (.int (2 : Int32)), .unset, .unset, .unset]) rfl ?_
  refine g_iloadN X d5_5 rfl (q := 6) rfl ?_
  refine g_ifA X d5_6 (Or.inl rfl) (q := 9) rfl (by decide) (t := 26) rfl (fun (c1 : (2 : Int32) < (0 : Int32)) => ?_) (fun (c1 : ¬ ((2 : Int32) < (0 : Int32))) => ?_)
  · skip
    exact absurd c1 (by decide)
  · skip
    refine g_aloadN X d5_9 rfl (q := 10) rfl rfl ?_
    refine g_iloadN X d5_10 rfl (q := 11) rfl ?_
    refine g_iaload X A_a1 ⟨by decide, by decide⟩ d5_11 (q := 12) rfl ?_
    refine g_aloadN X d5_12 rfl (q := 13) rfl rfl ?_
    refine g_iloadN X d5_13 rfl (q := 14) rfl ?_
    refine g_iconst X d5_14 rfl (q := 15) (v := 1) rfl ?_
    refine g_iadd X d5_15 rfl (q := 16) ?_
    refine g_eqI (y := (3 : Int32)) (by decide) ?_
    refine g_iaload X A_a1 ⟨by decide, by decide⟩ d5_16 (q := 17) rfl ?_
    refine g_icmpB X d5_17 (Or.inr (Or.inl rfl)) (q := 20) rfl (by decide) (t := 26) rfl (fun (c2 : (F 3) < (F 2)) => ?_) (fun (c2 : ¬ ((F 3) < (F 2))) => ?_)
    · skip
      refine g_iinc X d5_20 (q := 23) rfl rfl (d := -1) rfl (L' := #[.val (.ref a1), .val (.int (1 : Int32)), .unset, .unset, .unset]) rfl ?_
      refine g_goto X d5_23 (by decide) (q := 5) rfl ?_
      refine g_iloadN X d5_5 rfl (q := 6) rfl ?_
      refine g_ifA X d5_6 (Or.inl rfl) (q := 9) rfl (by decide) (t := 26) rfl (fun (c3 : (1 : Int32) < (0 : Int32)) => ?_) (fun (c3 : ¬ ((1 : Int32) < (0 : Int32))) => ?_)
      · skip
        exact absurd c3 (by decide)
      · skip
        refine g_aloadN X d5_9 rfl (q := 10) rfl rfl ?_
        refine g_iloadN X d5_10 rfl (q := 11) rfl ?_
        refine g_iaload X A_a1 ⟨by decide, by decide⟩ d5_11 (q := 12) rfl ?_
        refine g_aloadN X d5_12 rfl (q := 13) rfl rfl ?_
        refine g_iloadN X d5_13 rfl (q := 14) rfl ?_
        refine g_iconst X d5_14 rfl (q := 15) (v := 1) rfl ?_
        refine g_iadd X d5_15 rfl (q := 16) ?_
        refine g_eqI (y := (2 : Int32)) (by decide) ?_
        refine g_iaload X A_a1 ⟨by decide, by decide⟩ d5_16 (q := 17) rfl ?_
        refine g_icmpB X d5_17 (Or.inr (Or.inl rfl)) (q := 20) rfl (by decide) (t := 26) rfl (fun (c4 : (F 2) < (F 1)) => ?_) (fun (c4 : ¬ ((F 2) < (F 1))) => ?_)
        · skip
          refine g_iinc X d5_20 (q := 23) rfl rfl (d := -1) rfl (L' := #[.val (.ref a1), .val (.int (0 : Int32)), .unset, .unset, .unset]) rfl ?_
          refine g_goto X d5_23 (by decide) (q := 5) rfl ?_
          refine g_iloadN X d5_5 rfl (q := 6) rfl ?_
          refine g_ifA X d5_6 (Or.inl rfl) (q := 9) rfl (by decide) (t := 26) rfl (fun (c5 : (0 : Int32) < (0 : Int32)) => ?_) (fun (c5 : ¬ ((0 : Int32) < (0 : Int32))) => ?_)
          · skip
            exact absurd c5 (by decide)
          · skip
            refine g_aloadN X d5_9 rfl (q := 10) rfl rfl ?_
            refine g_iloadN X d5_10 rfl (q := 11) rfl ?_
            refine g_iaload X A_a1 ⟨by decide, by decide⟩ d5_11 (q := 12) rfl ?_
            refine g_aloadN X d5_12 rfl (q := 13) rfl rfl ?_
            refine g_iloadN X d5_13 rfl (q := 14) rfl ?_
            refine g_iconst X d5_14 rfl (q := 15) (v := 1) rfl ?_
            refine g_iadd X d5_15 rfl (q := 16) ?_
            refine g_eqI (y := (1 : Int32)) (by decide) ?_
            refine g_iaload X A_a1 ⟨by decide, by decide⟩ d5_16 (q := 17) rfl ?_
            refine g_icmpB X d5_17 (Or.inr (Or.inl rfl)) (q := 20) rfl (by decide) (t := 26) rfl (fun (c6 : (F 1) < (F 0)) => ?_) (fun (c6 : ¬ ((F 1) < (F 0))) => ?_)
            · skip
              refine g_iinc X d5_20 (q := 23) rfl rfl (d := -1) rfl (L' := #[.val (.ref a1), .val (.int (-1 : Int32)), .unset, .unset, .unset]) rfl ?_
              refine g_goto X d5_23 (by decide) (q := 5) rfl ?_
              refine g_iloadN X d5_5 rfl (q := 6) rfl ?_
              refine g_ifA X d5_6 (Or.inl rfl) (q := 9) rfl (by decide) (t := 26) rfl (fun (c7 : (-1 : Int32) < (0 : Int32)) => ?_) (fun (c7 : ¬ ((-1 : Int32) < (0 : Int32))) => ?_)
              · skip
                refine g_iloadN X d5_26 rfl (q := 27) rfl ?_
                refine g_ifB X d5_27 (Or.inl rfl) (q := 30) rfl (by decide) (t := 32) rfl (fun (c8 : (-1 : Int32) < (0 : Int32)) => ?_) (fun (c8 : ¬ ((-1 : Int32) < (0 : Int32))) => ?_)
                · skip
                  refine g_iconst X d5_30 rfl (q := 31) (v := 0) rfl ?_
                  exact g_retZ X d5_31 (by decide) (by decide) (by decide) ⟨congrArg (fun z => some (Value.int z)) (bI_f (fun z => z.elim (fun w => w c2) (fun z => z.elim (fun w => (fun z => z.1 c6) w.2) (fun w => w.1 c4)))), K, (by first | exact A_a1 | (simp only [if_neg c1, if_pos c2, if_neg c3, if_pos c4, if_neg c5, if_pos c6, if_pos c7, if_pos c8]; exact A_a1) | (simp only [bI, if_neg c1, if_pos c2, if_neg c3, if_pos c4, if_neg c5, if_pos c6, if_pos c7, if_pos c8]; simpa [c1, c2, c3, c4, c5, c6, c7, c8] using A_a1))⟩
                · skip
                  exact absurd c8 (by decide)
              · skip
                exact absurd c7 (by decide)
            · skip
              refine g_iloadN X d5_26 rfl (q := 27) rfl ?_
              refine g_ifB X d5_27 (Or.inl rfl) (q := 30) rfl (by decide) (t := 32) rfl (fun (c9 : (0 : Int32) < (0 : Int32)) => ?_) (fun (c9 : ¬ ((0 : Int32) < (0 : Int32))) => ?_)
              · skip
                exact absurd c9 (by decide)
              · skip
                refine g_aloadN X d5_32 rfl (q := 33) rfl rfl ?_
                refine g_alenI X A_a1 d5_33 (q := 34) rfl ?_
                show Goes p e below s _ n0 _ (T.setTop (mkF m 34 #[.val (.ref a1), .val (.int (0 : Int32)), .unset, .unset, .unset] [(.int (4 : Int32))]))
                refine g_iconst X d5_34 rfl (q := 35) (v := 1) rfl ?_
                refine g_isub X d5_35 rfl (q := 36) ?_
                refine g_eqI (y := (3 : Int32)) (by decide) ?_
                refine g_istoreN X d5_36 rfl (q := 37) (L' := #[.val (.ref a1), .val (.int (0 : Int32)), .val (.int (3 : Int32)), .unset, .unset]) rfl ?_
                refine g_aloadN X d5_37 rfl (q := 38) rfl rfl ?_
                refine g_iloadN X d5_38 rfl (q := 39) rfl ?_
                refine g_iaload X A_a1 ⟨by decide, by decide⟩ d5_39 (q := 40) rfl ?_
                refine g_aloadN X d5_40 rfl (q := 41) rfl rfl ?_
                refine g_iloadN X d5_41 rfl (q := 42) rfl ?_
                refine g_iaload X A_a1 ⟨by decide, by decide⟩ d5_42 (q := 43) rfl ?_
                refine g_icmpB X d5_43 (Or.inl rfl) (q := 46) rfl (by decide) (t := 52) rfl (fun (c10 : (F 3) < (F 0)) => ?_) (fun (c10 : ¬ ((F 3) < (F 0))) => ?_)
                · skip
                  refine g_iinc X d5_46 (q := 49) rfl rfl (d := -1) rfl (L' := #[.val (.ref a1), .val (.int (0 : Int32)), .val (.int (2 : Int32)), .unset, .unset]) rfl ?_
                  refine g_goto X d5_49 (by decide) (q := 37) rfl ?_
                  refine g_aloadN X d5_37 rfl (q := 38) rfl rfl ?_
                  refine g_iloadN X d5_38 rfl (q := 39) rfl ?_
                  refine g_iaload X A_a1 ⟨by decide, by decide⟩ d5_39 (q := 40) rfl ?_
                  refine g_aloadN X d5_40 rfl (q := 41) rfl rfl ?_
                  refine g_iloadN X d5_41 rfl (q := 42) rfl ?_
                  refine g_iaload X A_a1 ⟨by decide, by decide⟩ d5_42 (q := 43) rfl ?_
                  refine g_icmpB X d5_43 (Or.inl rfl) (q := 46) rfl (by decide) (t := 52) rfl (fun (c11 : (F 2) < (F 0)) => ?_) (fun (c11 : ¬ ((F 2) < (F 0))) => ?_)
                  · skip
                    refine g_iinc X d5_46 (q := 49) rfl rfl (d := -1) rfl (L' := #[.val (.ref a1), .val (.int (0 : Int32)), .val (.int (1 : Int32)), .unset, .unset]) rfl ?_
                    refine g_goto X d5_49 (by decide) (q := 37) rfl ?_
                    refine g_aloadN X d5_37 rfl (q := 38) rfl rfl ?_
                    refine g_iloadN X d5_38 rfl (q := 39) rfl ?_
                    refine g_iaload X A_a1 ⟨by decide, by decide⟩ d5_39 (q := 40) rfl ?_
                    refine g_aloadN X d5_40 rfl (q := 41) rfl rfl ?_
                    refine g_iloadN X d5_41 rfl (q := 42) rfl ?_
                    refine g_iaload X A_a1 ⟨by decide, by decide⟩ d5_42 (q := 43) rfl ?_
                    refine g_icmpB X d5_43 (Or.inl rfl) (q := 46) rfl (by decide) (t := 52) rfl (fun (c12 : (F 1) < (F 0)) => ?_) (fun (c12 : ¬ ((F 1) < (F 0))) => ?_)
                    · skip
                      exact absurd c12 c6
                    · skip
                      refine g_aloadN X d5_52 rfl (q := 53) rfl rfl ?_
                      refine g_iloadN X d5_53 rfl (q := 54) rfl ?_
                      refine g_iloadN X d5_54 rfl (q := 55) rfl ?_
                      refine g_callS X [(.ref a1), (.int (0 : Int32)), (.int (1 : Int32))] [] (tw25 hw) (tw26 hw) (tw16 hw) (tw27 hw) (by decide) (rm8 l Z a0 hw [] a1 (0 : Int32) (1 : Int32) 4 F _ n0 X.size A_a1 g_a1 ⟨by decide, by decide⟩ ⟨by decide, by decide⟩) pd2 rfl rfl rfl d5_55 (q := 58) rfl (W := 0) rfl (by decide) (by decide) (c2 := 0) (s2 := 0) rfl rfl (by decide) (by decide) (fun v T h' X hQ => ?_)
                      obtain ⟨rfl, Kc, A_a1'⟩ := hQ
                      have A_a1 : AI Z h' a1 .int 4 (sw F (0 : Int32).toNatClampNeg (1 : Int32).toNatClampNeg) := A_a1'
                      have K := K.trans Kc (allS (Or.inl (List.mem_of_getElem? (i := 0) rfl)) all0)
                      show Goes p e below s _ n0 _ (T.setTop (mkF m 58 #[.val (.ref a1), .val (.int (0 : Int32)), .val (.int (1 : Int32)), .unset, .unset] []))
                      refine g_iloadN X d5_58 rfl (q := 59) rfl ?_
                      refine g_iconst X d5_59 rfl (q := 60) (v := 1) rfl ?_
                      refine g_iadd X d5_60 rfl (q := 61) ?_
                      refine g_eqI (y := (1 : Int32)) (by decide) ?_
                      refine g_istoreN X d5_61 rfl (q := 62) (L' := #[.val (.ref a1), .val (.int (0 : Int32)), .val (.int (1 : Int32)), .val (.int (1 : Int32)), .unset]) rfl ?_
                      refine g_aloadN X d5_62 rfl (q := 63) rfl rfl ?_
                      refine g_alenI X A_a1 d5_63 (q := 64) rfl ?_
                      show Goes p e below s _ n0 _ (T.setTop (mkF m 64 #[.val (.ref a1), .val (.int (0 : Int32)), .val (.int (1 : Int32)), .val (.int (1 : Int32)), .unset] [(.int (4 : Int32))]))
                      refine g_iconst X d5_64 rfl (q := 65) (v := 1) rfl ?_
                      refine g_isub X d5_65 rfl (q := 66) ?_
                      refine g_eqI (y := (3 : Int32)) (by decide) ?_
                      refine g_istore X d5_66 rfl (q := 68) (L' := #[.val (.ref a1), .val (.int (0 : Int32)), .val (.int (1 : Int32)), .val (.int (1 : Int32)), .val (.int (3 : Int32))]) rfl ?_
                      refine g_iloadN X d5_68 rfl (q := 69) rfl ?_
                      refine g_iload X d5_69 rfl (q := 71) rfl ?_
                      refine g_icmpB X d5_71 (Or.inl rfl) (q := 74) rfl (by decide) (t := 90) rfl (fun (c13 : (1 : Int32) < (3 : Int32)) => ?_) (fun (c13 : ¬ ((1 : Int32) < (3 : Int32))) => ?_)
                      · skip
                        refine g_aloadN X d5_74 rfl (q := 75) rfl rfl ?_
                        refine g_iloadN X d5_75 rfl (q := 76) rfl ?_
                        refine g_iload X d5_76 rfl (q := 78) rfl ?_
                        refine g_callS X [(.ref a1), (.int (1 : Int32)), (.int (3 : Int32))] [] (tw25 hw) (tw26 hw) (tw16 hw) (tw27 hw) (by decide) (rm8 l Z a0 hw [] a1 (1 : Int32) (3 : Int32) 4 (sw F (0 : Int32).toNatClampNeg (1 : Int32).toNatClampNeg) _ n0 X.size A_a1 g_a1 ⟨by decide, by decide⟩ ⟨by decide, by decide⟩) pd2 rfl rfl rfl d5_78 (q := 81) rfl (W := 0) rfl (by decide) (by decide) (c2 := 0) (s2 := 0) rfl rfl (by decide) (by decide) (fun v T h' X hQ => ?_)
                        obtain ⟨rfl, Kc, A_a1'⟩ := hQ
                        have A_a1 : AI Z h' a1 .int 4 (sw (sw F (0 : Int32).toNatClampNeg (1 : Int32).toNatClampNeg) (1 : Int32).toNatClampNeg (3 : Int32).toNatClampNeg) := A_a1'
                        have K := K.trans Kc (allS (Or.inl (List.mem_of_getElem? (i := 0) rfl)) all0)
                        show Goes p e below s _ n0 _ (T.setTop (mkF m 81 #[.val (.ref a1), .val (.int (0 : Int32)), .val (.int (1 : Int32)), .val (.int (1 : Int32)), .val (.int (3 : Int32))] []))
                        refine g_iinc X d5_81 (q := 84) rfl rfl (d := 1) rfl (L' := #[.val (.ref a1), .val (.int (0 : Int32)), .val (.int (1 : Int32)), .val (.int (2 : Int32)), .val (.int (3 : Int32))]) rfl ?_
                        refine g_iinc X d5_84 (q := 87) rfl rfl (d := -1) rfl (L' := #[.val (.ref a1), .val (.int (0 : Int32)), .val (.int (1 : Int32)), .val (.int (2 : Int32)), .val (.int (2 : Int32))]) rfl ?_
                        refine g_goto X d5_87 (by decide) (q := 68) rfl ?_
                        refine g_iloadN X d5_68 rfl (q := 69) rfl ?_
                        refine g_iload X d5_69 rfl (q := 71) rfl ?_
                        refine g_icmpB X d5_71 (Or.inl rfl) (q := 74) rfl (by decide) (t := 90) rfl (fun (c14 : (2 : Int32) < (2 : Int32)) => ?_) (fun (c14 : ¬ ((2 : Int32) < (2 : Int32))) => ?_)
                        · skip
                          exact absurd c14 (by decide)
                        · skip
                          refine g_iconst X d5_90 rfl (q := 91) (v := 1) rfl ?_
                          exact g_retZ X d5_91 (by decide) (by decide) (by decide) ⟨congrArg (fun z => some (Value.int z)) (bI_t (Or.inr (Or.inl ⟨c4, ⟨c6, (Or.inr (Or.inl c11))⟩⟩))), K, (by first | exact A_a1 | (simp only [if_neg c1, if_pos c2, if_neg c3, if_pos c4, if_neg c5, if_neg c6, if_neg c9, if_pos c10, if_pos c11, if_neg c12, if_pos c13, if_neg c14]; exact A_a1) | (simp only [bI, if_neg c1, if_pos c2, if_neg c3, if_pos c4, if_neg c5, if_neg c6, if_neg c9, if_pos c10, if_pos c11, if_neg c12, if_pos c13, if_neg c14]; simpa [c1, c2, c3, c4, c5, c6, c9, c10, c11, c12, c13, c14] using A_a1))⟩
                      · skip
                        exact absurd c13 (by decide)
                  · skip
                    refine g_aloadN X d5_52 rfl (q := 53) rfl rfl ?_
                    refine g_iloadN X d5_53 rfl (q := 54) rfl ?_
                    refine g_iloadN X d5_54 rfl (q := 55) rfl ?_
                    refine g_callS X [(.ref a1), (.int (0 : Int32)), (.int (2 : Int32))] [] (tw25 hw) (tw26 hw) (tw16 hw) (tw27 hw) (by decide) (rm8 l Z a0 hw [] a1 (0 : Int32) (2 : Int32) 4 F _ n0 X.size A_a1 g_a1 ⟨by decide, by decide⟩ ⟨by decide, by decide⟩) pd2 rfl rfl rfl d5_55 (q := 58) rfl (W := 0) rfl (by decide) (by decide) (c2 := 0) (s2 := 0) rfl rfl (by decide) (by decide) (fun v T h' X hQ => ?_)
                    obtain ⟨rfl, Kc, A_a1'⟩ := hQ
                    have A_a1 : AI Z h' a1 .int 4 (sw F (0 : Int32).toNatClampNeg (2 : Int32).toNatClampNeg) := A_a1'
                    have K := K.trans Kc (allS (Or.inl (List.mem_of_getElem? (i := 0) rfl)) all0)
                    show Goes p e below s _ n0 _ (T.setTop (mkF m 58 #[.val (.ref a1), .val (.int (0 : Int32)), .val (.int (2 : Int32)), .unset, .unset] []))
                    refine g_iloadN X d5_58 rfl (q := 59) rfl ?_
                    refine g_iconst X d5_59 rfl (q := 60) (v := 1) rfl ?_
                    refine g_iadd X d5_60 rfl (q := 61) ?_
                    refine g_eqI (y := (1 : Int32)) (by decide) ?_
                    refine g_istoreN X d5_61 rfl (q := 62) (L' := #[.val (.ref a1), .val (.int (0 : Int32)), .val (.int (2 : Int32)), .val (.int (1 : Int32)), .unset]) rfl ?_
                    refine g_aloadN X d5_62 rfl (q := 63) rfl rfl ?_
                    refine g_alenI X A_a1 d5_63 (q := 64) rfl ?_
                    show Goes p e below s _ n0 _ (T.setTop (mkF m 64 #[.val (.ref a1), .val (.int (0 : Int32)), .val (.int (2 : Int32)), .val (.int (1 : Int32)), .unset] [(.int (4 : Int32))]))
                    refine g_iconst X d5_64 rfl (q := 65) (v := 1) rfl ?_
                    refine g_isub X d5_65 rfl (q := 66) ?_
                    refine g_eqI (y := (3 : Int32)) (by decide) ?_
                    refine g_istore X d5_66 rfl (q := 68) (L' := #[.val (.ref a1), .val (.int (0 : Int32)), .val (.int (2 : Int32)), .val (.int (1 : Int32)), .val (.int (3 : Int32))]) rfl ?_
                    refine g_iloadN X d5_68 rfl (q := 69) rfl ?_
                    refine g_iload X d5_69 rfl (q := 71) rfl ?_
                    refine g_icmpB X d5_71 (Or.inl rfl) (q := 74) rfl (by decide) (t := 90) rfl (fun (c15 : (1 : Int32) < (3 : Int32)) => ?_) (fun (c15 : ¬ ((1 : Int32) < (3 : Int32))) => ?_)
                    · skip
                      refine g_aloadN X d5_74 rfl (q := 75) rfl rfl ?_
                      refine g_iloadN X d5_75 rfl (q := 76) rfl ?_
                      refine g_iload X d5_76 rfl (q := 78) rfl ?_
                      refine g_callS X [(.ref a1), (.int (1 : Int32)), (.int (3 : Int32))] [] (tw25 hw) (tw26 hw) (tw16 hw) (tw27 hw) (by decide) (rm8 l Z a0 hw [] a1 (1 : Int32) (3 : Int32) 4 (sw F (0 : Int32).toNatClampNeg (2 : Int32).toNatClampNeg) _ n0 X.size A_a1 g_a1 ⟨by decide, by decide⟩ ⟨by decide, by decide⟩) pd2 rfl rfl rfl d5_78 (q := 81) rfl (W := 0) rfl (by decide) (by decide) (c2 := 0) (s2 := 0) rfl rfl (by decide) (by decide) (fun v T h' X hQ => ?_)
                      obtain ⟨rfl, Kc, A_a1'⟩ := hQ
                      have A_a1 : AI Z h' a1 .int 4 (sw (sw F (0 : Int32).toNatClampNeg (2 : Int32).toNatClampNeg) (1 : Int32).toNatClampNeg (3 : Int32).toNatClampNeg) := A_a1'
                      have K := K.trans Kc (allS (Or.inl (List.mem_of_getElem? (i := 0) rfl)) all0)
                      show Goes p e below s _ n0 _ (T.setTop (mkF m 81 #[.val (.ref a1), .val (.int (0 : Int32)), .val (.int (2 : Int32)), .val (.int (1 : Int32)), .val (.int (3 : Int32))] []))
                      refine g_iinc X d5_81 (q := 84) rfl rfl (d := 1) rfl (L' := #[.val (.ref a1), .val (.int (0 : Int32)), .val (.int (2 : Int32)), .val (.int (2 : Int32)), .val (.int (3 : Int32))]) rfl ?_
                      refine g_iinc X d5_84 (q := 87) rfl rfl (d := -1) rfl (L' := #[.val (.ref a1), .val (.int (0 : Int32)), .val (.int (2 : Int32)), .val (.int (2 : Int32)), .val (.int (2 : Int32))]) rfl ?_
                      refine g_goto X d5_87 (by decide) (q := 68) rfl ?_
                      refine g_iloadN X d5_68 rfl (q := 69) rfl ?_
                      refine g_iload X d5_69 rfl (q := 71) rfl ?_
                      refine g_icmpB X d5_71 (Or.inl rfl) (q := 74) rfl (by decide) (t := 90) rfl (fun (c16 : (2 : Int32) < (2 : Int32)) => ?_) (fun (c16 : ¬ ((2 : Int32) < (2 : Int32))) => ?_)
                      · skip
                        exact absurd c16 (by decide)
                      · skip
                        refine g_iconst X d5_90 rfl (q := 91) (v := 1) rfl ?_
                        exact g_retZ X d5_91 (by decide) (by decide) (by decide) ⟨congrArg (fun z => some (Value.int z)) (bI_t (Or.inr (Or.inl ⟨c4, ⟨c6, (Or.inr (Or.inr trivial))⟩⟩))), K, (by first | exact A_a1 | (simp only [if_neg c1, if_pos c2, if_neg c3, if_pos c4, if_neg c5, if_neg c6, if_neg c9, if_pos c10, if_neg c11, if_pos c15, if_neg c16]; exact A_a1) | (simp only [bI, if_neg c1, if_pos c2, if_neg c3, if_pos c4, if_neg c5, if_neg c6, if_neg c9, if_pos c10, if_neg c11, if_pos c15, if_neg c16]; simpa [c1, c2, c3, c4, c5, c6, c9, c10, c11, c15, c16] using A_a1))⟩
                    · skip
                      exact absurd c15 (by decide)
                · skip
                  refine g_aloadN X d5_52 rfl (q := 53) rfl rfl ?_
                  refine g_iloadN X d5_53 rfl (q := 54) rfl ?_
                  refine g_iloadN X d5_54 rfl (q := 55) rfl ?_
                  refine g_callS X [(.ref a1), (.int (0 : Int32)), (.int (3 : Int32))] [] (tw25 hw) (tw26 hw) (tw16 hw) (tw27 hw) (by decide) (rm8 l Z a0 hw [] a1 (0 : Int32) (3 : Int32) 4 F _ n0 X.size A_a1 g_a1 ⟨by decide, by decide⟩ ⟨by decide, by decide⟩) pd2 rfl rfl rfl d5_55 (q := 58) rfl (W := 0) rfl (by decide) (by decide) (c2 := 0) (s2 := 0) rfl rfl (by decide) (by decide) (fun v T h' X hQ => ?_)
                  obtain ⟨rfl, Kc, A_a1'⟩ := hQ
                  have A_a1 : AI Z h' a1 .int 4 (sw F (0 : Int32).toNatClampNeg (3 : Int32).toNatClampNeg) := A_a1'
                  have K := K.trans Kc (allS (Or.inl (List.mem_of_getElem? (i := 0) rfl)) all0)
                  show Goes p e below s _ n0 _ (T.setTop (mkF m 58 #[.val (.ref a1), .val (.int (0 : Int32)), .val (.int (3 : Int32)), .unset, .unset] []))
                  refine g_iloadN X d5_58 rfl (q := 59) rfl ?_
                  refine g_iconst X d5_59 rfl (q := 60) (v := 1) rfl ?_
                  refine g_iadd X d5_60 rfl (q := 61) ?_
                  refine g_eqI (y := (1 : Int32)) (by decide) ?_
                  refine g_istoreN X d5_61 rfl (q := 62) (L' := #[.val (.ref a1), .val (.int (0 : Int32)), .val (.int (3 : Int32)), .val (.int (1 : Int32)), .unset]) rfl ?_
                  refine g_aloadN X d5_62 rfl (q := 63) rfl rfl ?_
                  refine g_alenI X A_a1 d5_63 (q := 64) rfl ?_
                  show Goes p e below s _ n0 _ (T.setTop (mkF m 64 #[.val (.ref a1), .val (.int (0 : Int32)), .val (.int (3 : Int32)), .val (.int (1 : Int32)), .unset] [(.int (4 : Int32))]))
                  refine g_iconst X d5_64 rfl (q := 65) (v := 1) rfl ?_
                  refine g_isub X d5_65 rfl (q := 66) ?_
                  refine g_eqI (y := (3 : Int32)) (by decide) ?_
                  refine g_istore X d5_66 rfl (q := 68) (L' := #[.val (.ref a1), .val (.int (0 : Int32)), .val (.int (3 : Int32)), .val (.int (1 : Int32)), .val (.int (3 : Int32))]) rfl ?_
                  refine g_iloadN X d5_68 rfl (q := 69) rfl ?_
                  refine g_iload X d5_69 rfl (q := 71) rfl ?_
                  refine g_icmpB X d5_71 (Or.inl rfl) (q := 74) rfl (by decide) (t := 90) rfl (fun (c17 : (1 : Int32) < (3 : Int32)) => ?_) (fun (c17 : ¬ ((1 : Int32) < (3 : Int32))) => ?_)
                  · skip
                    refine g_aloadN X d5_74 rfl (q := 75) rfl rfl ?_
                    refine g_iloadN X d5_75 rfl (q := 76) rfl ?_
                    refine g_iload X d5_76 rfl (q := 78) rfl ?_
                    refine g_callS X [(.ref a1), (.int (1 : Int32)), (.int (3 : Int32))] [] (tw25 hw) (tw26 hw) (tw16 hw) (tw27 hw) (by decide) (rm8 l Z a0 hw [] a1 (1 : Int32) (3 : Int32) 4 (sw F (0 : Int32).toNatClampNeg (3 : Int32).toNatClampNeg) _ n0 X.size A_a1 g_a1 ⟨by decide, by decide⟩ ⟨by decide, by decide⟩) pd2 rfl rfl rfl d5_78 (q := 81) rfl (W := 0) rfl (by decide) (by decide) (c2 := 0) (s2 := 0) rfl rfl (by decide) (by decide) (fun v T h' X hQ => ?_)
                    obtain ⟨rfl, Kc, A_a1'⟩ := hQ
                    have A_a1 : AI Z h' a1 .int 4 (sw (sw F (0 : Int32).toNatClampNeg (3 : Int32).toNatClampNeg) (1 : Int32).toNatClampNeg (3 : Int32).toNatClampNeg) := A_a1'
                    have K := K.trans Kc (allS (Or.inl (List.mem_of_getElem? (i := 0) rfl)) all0)
                    show Goes p e below s _ n0 _ (T.setTop (mkF m 81 #[.val (.ref a1), .val (.int (0 : Int32)), .val (.int (3 : Int32)), .val (.int (1 : Int32)), .val (.int (3 : Int32))] []))
                    refine g_iinc X d5_81 (q := 84) rfl rfl (d := 1) rfl (L' := #[.val (.ref a1), .val (.int (0 : Int32)), .val (.int (3 : Int32)), .val (.int (2 : Int32)), .val (.int (3 : Int32))]) rfl ?_
                    refine g_iinc X d5_84 (q := 87) rfl rfl (d := -1) rfl (L' := #[.val (.ref a1), .val (.int (0 : Int32)), .val (.int (3 : Int32)), .val (.int (2 : Int32)), .val (.int (2 : Int32))]) rfl ?_
                    refine g_goto X d5_87 (by decide) (q := 68) rfl ?_
                    refine g_iloadN X d5_68 rfl (q := 69) rfl ?_
                    refine g_iload X d5_69 rfl (q := 71) rfl ?_
                    refine g_icmpB X d5_71 (Or.inl rfl) (q := 74) rfl (by decide) (t := 90) rfl (fun (c18 : (2 : Int32) < (2 : Int32)) => ?_) (fun (c18 : ¬ ((2 : Int32) < (2 : Int32))) => ?_)
                    · skip
                      exact absurd c18 (by decide)
                    · skip
                      refine g_iconst X d5_90 rfl (q := 91) (v := 1) rfl ?_
                      exact g_retZ X d5_91 (by decide) (by decide) (by decide) ⟨congrArg (fun z => some (Value.int z)) (bI_t (Or.inr (Or.inl ⟨c4, ⟨c6, (Or.inl c10)⟩⟩))), K, (by first | exact A_a1 | (simp only [if_neg c1, if_pos c2, if_neg c3, if_pos c4, if_neg c5, if_neg c6, if_neg c9, if_neg c10, if_pos c17, if_neg c18]; exact A_a1) | (simp only [bI, if_neg c1, if_pos c2, if_neg c3, if_pos c4, if_neg c5, if_neg c6, if_neg c9, if_neg c10, if_pos c17, if_neg c18]; simpa [c1, c2, c3, c4, c5, c6, c9, c10, c17, c18] using A_a1))⟩
                  · skip
                    exact absurd c17 (by decide)
        · skip
          refine g_iloadN X d5_26 rfl (q := 27) rfl ?_
          refine g_ifB X d5_27 (Or.inl rfl) (q := 30) rfl (by decide) (t := 32) rfl (fun (c19 : (1 : Int32) < (0 : Int32)) => ?_) (fun (c19 : ¬ ((1 : Int32) < (0 : Int32))) => ?_)
          · skip
            exact absurd c19 (by decide)
          · skip
            refine g_aloadN X d5_32 rfl (q := 33) rfl rfl ?_
            refine g_alenI X A_a1 d5_33 (q := 34) rfl ?_
            show Goes p e below s _ n0 _ (T.setTop (mkF m 34 #[.val (.ref a1), .val (.int (1 : Int32)), .unset, .unset, .unset] [(.int (4 : Int32))]))
            refine g_iconst X d5_34 rfl (q := 35) (v := 1) rfl ?_
            refine g_isub X d5_35 rfl (q := 36) ?_
            refine g_eqI (y := (3 : Int32)) (by decide) ?_
            refine g_istoreN X d5_36 rfl (q := 37) (L' := #[.val (.ref a1), .val (.int (1 : Int32)), .val (.int (3 : Int32)), .unset, .unset]) rfl ?_
            refine g_aloadN X d5_37 rfl (q := 38) rfl rfl ?_
            refine g_iloadN X d5_38 rfl (q := 39) rfl ?_
            refine g_iaload X A_a1 ⟨by decide, by decide⟩ d5_39 (q := 40) rfl ?_
            refine g_aloadN X d5_40 rfl (q := 41) rfl rfl ?_
            refine g_iloadN X d5_41 rfl (q := 42) rfl ?_
            refine g_iaload X A_a1 ⟨by decide, by decide⟩ d5_42 (q := 43) rfl ?_
            refine g_icmpB X d5_43 (Or.inl rfl) (q := 46) rfl (by decide) (t := 52) rfl (fun (c20 : (F 3) < (F 1)) => ?_) (fun (c20 : ¬ ((F 3) < (F 1))) => ?_)
            · skip
              refine g_iinc X d5_46 (q := 49) rfl rfl (d := -1) rfl (L' := #[.val (.ref a1), .val (.int (1 : Int32)), .val (.int (2 : Int32)), .unset, .unset]) rfl ?_
              refine g_goto X d5_49 (by decide) (q := 37) rfl ?_
              refine g_aloadN X d5_37 rfl (q := 38) rfl rfl ?_
              refine g_iloadN X d5_38 rfl (q := 39) rfl ?_
              refine g_iaload X A_a1 ⟨by decide, by decide⟩ d5_39 (q := 40) rfl ?_
              refine g_aloadN X d5_40 rfl (q := 41) rfl rfl ?_
              refine g_iloadN X d5_41 rfl (q := 42) rfl ?_
              refine g_iaload X A_a1 ⟨by decide, by decide⟩ d5_42 (q := 43) rfl ?_
              refine g_icmpB X d5_43 (Or.inl rfl) (q := 46) rfl (by decide) (t := 52) rfl (fun (c21 : (F 2) < (F 1)) => ?_) (fun (c21 : ¬ ((F 2) < (F 1))) => ?_)
              · skip
                exact absurd c21 c4
              · skip
                refine g_aloadN X d5_52 rfl (q := 53) rfl rfl ?_
                refine g_iloadN X d5_53 rfl (q := 54) rfl ?_
                refine g_iloadN X d5_54 rfl (q := 55) rfl ?_
                refine g_callS X [(.ref a1), (.int (1 : Int32)), (.int (2 : Int32))] [] (tw25 hw) (tw26 hw) (tw16 hw) (tw27 hw) (by decide) (rm8 l Z a0 hw [] a1 (1 : Int32) (2 : Int32) 4 F _ n0 X.size A_a1 g_a1 ⟨by decide, by decide⟩ ⟨by decide, by decide⟩) pd2 rfl rfl rfl d5_55 (q := 58) rfl (W := 0) rfl (by decide) (by decide) (c2 := 0) (s2 := 0) rfl rfl (by decide) (by decide) (fun v T h' X hQ => ?_)
                obtain ⟨rfl, Kc, A_a1'⟩ := hQ
                have A_a1 : AI Z h' a1 .int 4 (sw F (1 : Int32).toNatClampNeg (2 : Int32).toNatClampNeg) := A_a1'
                have K := K.trans Kc (allS (Or.inl (List.mem_of_getElem? (i := 0) rfl)) all0)
                show Goes p e below s _ n0 _ (T.setTop (mkF m 58 #[.val (.ref a1), .val (.int (1 : Int32)), .val (.int (2 : Int32)), .unset, .unset] []))
                refine g_iloadN X d5_58 rfl (q := 59) rfl ?_
                refine g_iconst X d5_59 rfl (q := 60) (v := 1) rfl ?_
                refine g_iadd X d5_60 rfl (q := 61) ?_
                refine g_eqI (y := (2 : Int32)) (by decide) ?_
                refine g_istoreN X d5_61 rfl (q := 62) (L' := #[.val (.ref a1), .val (.int (1 : Int32)), .val (.int (2 : Int32)), .val (.int (2 : Int32)), .unset]) rfl ?_
                refine g_aloadN X d5_62 rfl (q := 63) rfl rfl ?_
                refine g_alenI X A_a1 d5_63 (q := 64) rfl ?_
                show Goes p e below s _ n0 _ (T.setTop (mkF m 64 #[.val (.ref a1), .val (.int (1 : Int32)), .val (.int (2 : Int32)), .val (.int (2 : Int32)), .unset] [(.int (4 : Int32))]))
                refine g_iconst X d5_64 rfl (q := 65) (v := 1) rfl ?_
                refine g_isub X d5_65 rfl (q := 66) ?_
                refine g_eqI (y := (3 : Int32)) (by decide) ?_
                refine g_istore X d5_66 rfl (q := 68) (L' := #[.val (.ref a1), .val (.int (1 : Int32)), .val (.int (2 : Int32)), .val (.int (2 : Int32)), .val (.int (3 : Int32))]) rfl ?_
                refine g_iloadN X d5_68 rfl (q := 69) rfl ?_
                refine g_iload X d5_69 rfl (q := 71) rfl ?_
                refine g_icmpB X d5_71 (Or.inl rfl) (q := 74) rfl (by decide) (t := 90) rfl (fun (c22 : (2 : Int32) < (3 : Int32)) => ?_) (fun (c22 : ¬ ((2 : Int32) < (3 : Int32))) => ?_)
                · skip
                  refine g_aloadN X d5_74 rfl (q := 75) rfl rfl ?_
                  refine g_iloadN X d5_75 rfl (q := 76) rfl ?_
                  refine g_iload X d5_76 rfl (q := 78) rfl ?_
                  refine g_callS X [(.ref a1), (.int (2 : Int32)), (.int (3 : Int32))] [] (tw25 hw) (tw26 hw) (tw16 hw) (tw27 hw) (by decide) (rm8 l Z a0 hw [] a1 (2 : Int32) (3 : Int32) 4 (sw F (1 : Int32).toNatClampNeg (2 : Int32).toNatClampNeg) _ n0 X.size A_a1 g_a1 ⟨by decide, by decide⟩ ⟨by decide, by decide⟩) pd2 rfl rfl rfl d5_78 (q := 81) rfl (W := 0) rfl (by decide) (by decide) (c2 := 0) (s2 := 0) rfl rfl (by decide) (by decide) (fun v T h' X hQ => ?_)
                  obtain ⟨rfl, Kc, A_a1'⟩ := hQ
                  have A_a1 : AI Z h' a1 .int 4 (sw (sw F (1 : Int32).toNatClampNeg (2 : Int32).toNatClampNeg) (2 : Int32).toNatClampNeg (3 : Int32).toNatClampNeg) := A_a1'
                  have K := K.trans Kc (allS (Or.inl (List.mem_of_getElem? (i := 0) rfl)) all0)
                  show Goes p e below s _ n0 _ (T.setTop (mkF m 81 #[.val (.ref a1), .val (.int (1 : Int32)), .val (.int (2 : Int32)), .val (.int (2 : Int32)), .val (.int (3 : Int32))] []))
                  refine g_iinc X d5_81 (q := 84) rfl rfl (d := 1) rfl (L' := #[.val (.ref a1), .val (.int (1 : Int32)), .val (.int (2 : Int32)), .val (.int (3 : Int32)), .val (.int (3 : Int32))]) rfl ?_
                  refine g_iinc X d5_84 (q := 87) rfl rfl (d := -1) rfl (L' := #[.val (.ref a1), .val (.int (1 : Int32)), .val (.int (2 : Int32)), .val (.int (3 : Int32)), .val (.int (2 : Int32))]) rfl ?_
                  refine g_goto X d5_87 (by decide) (q := 68) rfl ?_
                  refine g_iloadN X d5_68 rfl (q := 69) rfl ?_
                  refine g_iload X d5_69 rfl (q := 71) rfl ?_
                  refine g_icmpB X d5_71 (Or.inl rfl) (q := 74) rfl (by decide) (t := 90) rfl (fun (c23 : (3 : Int32) < (2 : Int32)) => ?_) (fun (c23 : ¬ ((3 : Int32) < (2 : Int32))) => ?_)
                  · skip
                    exact absurd c23 (by decide)
                  · skip
                    refine g_iconst X d5_90 rfl (q := 91) (v := 1) rfl ?_
                    exact g_retZ X d5_91 (by decide) (by decide) (by decide) ⟨congrArg (fun z => some (Value.int z)) (bI_t (Or.inr (Or.inr ⟨c4, (Or.inl c20)⟩))), K, (by first | exact A_a1 | (simp only [if_neg c1, if_pos c2, if_neg c3, if_neg c4, if_neg c19, if_pos c20, if_neg c21, if_pos c22, if_neg c23]; exact A_a1) | (simp only [bI, if_neg c1, if_pos c2, if_neg c3, if_neg c4, if_neg c19, if_pos c20, if_neg c21, if_pos c22, if_neg c23]; simpa [c1, c2, c3, c4, c19, c20, c21, c22, c23] using A_a1))⟩
                · skip
                  exact absurd c22 (by decide)
            · skip
              refine g_aloadN X d5_52 rfl (q := 53) rfl rfl ?_
              refine g_iloadN X d5_53 rfl (q := 54) rfl ?_
              refine g_iloadN X d5_54 rfl (q := 55) rfl ?_
              refine g_callS X [(.ref a1), (.int (1 : Int32)), (.int (3 : Int32))] [] (tw25 hw) (tw26 hw) (tw16 hw) (tw27 hw) (by decide) (rm8 l Z a0 hw [] a1 (1 : Int32) (3 : Int32) 4 F _ n0 X.size A_a1 g_a1 ⟨by decide, by decide⟩ ⟨by decide, by decide⟩) pd2 rfl rfl rfl d5_55 (q := 58) rfl (W := 0) rfl (by decide) (by decide) (c2 := 0) (s2 := 0) rfl rfl (by decide) (by decide) (fun v T h' X hQ => ?_)
              obtain ⟨rfl, Kc, A_a1'⟩ := hQ
              have A_a1 : AI Z h' a1 .int 4 (sw F (1 : Int32).toNatClampNeg (3 : Int32).toNatClampNeg) := A_a1'
              have K := K.trans Kc (allS (Or.inl (List.mem_of_getElem? (i := 0) rfl)) all0)
              show Goes p e below s _ n0 _ (T.setTop (mkF m 58 #[.val (.ref a1), .val (.int (1 : Int32)), .val (.int (3 : Int32)), .unset, .unset] []))
              refine g_iloadN X d5_58 rfl (q := 59) rfl ?_
              refine g_iconst X d5_59 rfl (q := 60) (v := 1) rfl ?_
              refine g_iadd X d5_60 rfl (q := 61) ?_
              refine g_eqI (y := (2 : Int32)) (by decide) ?_
              refine g_istoreN X d5_61 rfl (q := 62) (L' := #[.val (.ref a1), .val (.int (1 : Int32)), .val (.int (3 : Int32)), .val (.int (2 : Int32)), .unset]) rfl ?_
              refine g_aloadN X d5_62 rfl (q := 63) rfl rfl ?_
              refine g_alenI X A_a1 d5_63 (q := 64) rfl ?_
              show Goes p e below s _ n0 _ (T.setTop (mkF m 64 #[.val (.ref a1), .val (.int (1 : Int32)), .val (.int (3 : Int32)), .val (.int (2 : Int32)), .unset] [(.int (4 : Int32))]))
              refine g_iconst X d5_64 rfl (q := 65) (v := 1) rfl ?_
              refine g_isub X d5_65 rfl (q := 66) ?_
              refine g_eqI (y := (3 : Int32)) (by decide) ?_
              refine g_istore X d5_66 rfl (q := 68) (L' := #[.val (.ref a1), .val (.int (1 : Int32)), .val (.int (3 : Int32)), .val (.int (2 : Int32)), .val (.int (3 : Int32))]) rfl ?_
              refine g_iloadN X d5_68 rfl (q := 69) rfl ?_
              refine g_iload X d5_69 rfl (q := 71) rfl ?_
              refine g_icmpB X d5_71 (Or.inl rfl) (q := 74) rfl (by decide) (t := 90) rfl (fun (c24 : (2 : Int32) < (3 : Int32)) => ?_) (fun (c24 : ¬ ((2 : Int32) < (3 : Int32))) => ?_)
              · skip
                refine g_aloadN X d5_74 rfl (q := 75) rfl rfl ?_
                refine g_iloadN X d5_75 rfl (q := 76) rfl ?_
                refine g_iload X d5_76 rfl (q := 78) rfl ?_
                refine g_callS X [(.ref a1), (.int (2 : Int32)), (.int (3 : Int32))] [] (tw25 hw) (tw26 hw) (tw16 hw) (tw27 hw) (by decide) (rm8 l Z a0 hw [] a1 (2 : Int32) (3 : Int32) 4 (sw F (1 : Int32).toNatClampNeg (3 : Int32).toNatClampNeg) _ n0 X.size A_a1 g_a1 ⟨by decide, by decide⟩ ⟨by decide, by decide⟩) pd2 rfl rfl rfl d5_78 (q := 81) rfl (W := 0) rfl (by decide) (by decide) (c2 := 0) (s2 := 0) rfl rfl (by decide) (by decide) (fun v T h' X hQ => ?_)
                obtain ⟨rfl, Kc, A_a1'⟩ := hQ
                have A_a1 : AI Z h' a1 .int 4 (sw (sw F (1 : Int32).toNatClampNeg (3 : Int32).toNatClampNeg) (2 : Int32).toNatClampNeg (3 : Int32).toNatClampNeg) := A_a1'
                have K := K.trans Kc (allS (Or.inl (List.mem_of_getElem? (i := 0) rfl)) all0)
                show Goes p e below s _ n0 _ (T.setTop (mkF m 81 #[.val (.ref a1), .val (.int (1 : Int32)), .val (.int (3 : Int32)), .val (.int (2 : Int32)), .val (.int (3 : Int32))] []))
                refine g_iinc X d5_81 (q := 84) rfl rfl (d := 1) rfl (L' := #[.val (.ref a1), .val (.int (1 : Int32)), .val (.int (3 : Int32)), .val (.int (3 : Int32)), .val (.int (3 : Int32))]) rfl ?_
                refine g_iinc X d5_84 (q := 87) rfl rfl (d := -1) rfl (L' := #[.val (.ref a1), .val (.int (1 : Int32)), .val (.int (3 : Int32)), .val (.int (3 : Int32)), .val (.int (2 : Int32))]) rfl ?_
                refine g_goto X d5_87 (by decide) (q := 68) rfl ?_
                refine g_iloadN X d5_68 rfl (q := 69) rfl ?_
                refine g_iload X d5_69 rfl (q := 71) rfl ?_
                refine g_icmpB X d5_71 (Or.inl rfl) (q := 74) rfl (by decide) (t := 90) rfl (fun (c25 : (3 : Int32) < (2 : Int32)) => ?_) (fun (c25 : ¬ ((3 : Int32) < (2 : Int32))) => ?_)
                · skip
                  exact absurd c25 (by decide)
                · skip
                  refine g_iconst X d5_90 rfl (q := 91) (v := 1) rfl ?_
                  exact g_retZ X d5_91 (by decide) (by decide) (by decide) ⟨congrArg (fun z => some (Value.int z)) (bI_t (Or.inr (Or.inr ⟨c4, (Or.inr trivial)⟩))), K, (by first | exact A_a1 | (simp only [if_neg c1, if_pos c2, if_neg c3, if_neg c4, if_neg c19, if_neg c20, if_pos c24, if_neg c25]; exact A_a1) | (simp only [bI, if_neg c1, if_pos c2, if_neg c3, if_neg c4, if_neg c19, if_neg c20, if_pos c24, if_neg c25]; simpa [c1, c2, c3, c4, c19, c20, c24, c25] using A_a1))⟩
              · skip
                exact absurd c24 (by decide)
    · skip
      refine g_iloadN X d5_26 rfl (q := 27) rfl ?_
      refine g_ifB X d5_27 (Or.inl rfl) (q := 30) rfl (by decide) (t := 32) rfl (fun (c26 : (2 : Int32) < (0 : Int32)) => ?_) (fun (c26 : ¬ ((2 : Int32) < (0 : Int32))) => ?_)
      · skip
        exact absurd c26 (by decide)
      · skip
        refine g_aloadN X d5_32 rfl (q := 33) rfl rfl ?_
        refine g_alenI X A_a1 d5_33 (q := 34) rfl ?_
        show Goes p e below s _ n0 _ (T.setTop (mkF m 34 #[.val (.ref a1), .val (.int (2 : Int32)), .unset, .unset, .unset] [(.int (4 : Int32))]))
        refine g_iconst X d5_34 rfl (q := 35) (v := 1) rfl ?_
        refine g_isub X d5_35 rfl (q := 36) ?_
        refine g_eqI (y := (3 : Int32)) (by decide) ?_
        refine g_istoreN X d5_36 rfl (q := 37) (L' := #[.val (.ref a1), .val (.int (2 : Int32)), .val (.int (3 : Int32)), .unset, .unset]) rfl ?_
        refine g_aloadN X d5_37 rfl (q := 38) rfl rfl ?_
        refine g_iloadN X d5_38 rfl (q := 39) rfl ?_
        refine g_iaload X A_a1 ⟨by decide, by decide⟩ d5_39 (q := 40) rfl ?_
        refine g_aloadN X d5_40 rfl (q := 41) rfl rfl ?_
        refine g_iloadN X d5_41 rfl (q := 42) rfl ?_
        refine g_iaload X A_a1 ⟨by decide, by decide⟩ d5_42 (q := 43) rfl ?_
        refine g_icmpB X d5_43 (Or.inl rfl) (q := 46) rfl (by decide) (t := 52) rfl (fun (c27 : (F 3) < (F 2)) => ?_) (fun (c27 : ¬ ((F 3) < (F 2))) => ?_)
        · skip
          exact absurd c27 c2
        · skip
          refine g_aloadN X d5_52 rfl (q := 53) rfl rfl ?_
          refine g_iloadN X d5_53 rfl (q := 54) rfl ?_
          refine g_iloadN X d5_54 rfl (q := 55) rfl ?_
          refine g_callS X [(.ref a1), (.int (2 : Int32)), (.int (3 : Int32))] [] (tw25 hw) (tw26 hw) (tw16 hw) (tw27 hw) (by decide) (rm8 l Z a0 hw [] a1 (2 : Int32) (3 : Int32) 4 F _ n0 X.size A_a1 g_a1 ⟨by decide, by decide⟩ ⟨by decide, by decide⟩) pd2 rfl rfl rfl d5_55 (q := 58) rfl (W := 0) rfl (by decide) (by decide) (c2 := 0) (s2 := 0) rfl rfl (by decide) (by decide) (fun v T h' X hQ => ?_)
          obtain ⟨rfl, Kc, A_a1'⟩ := hQ
          have A_a1 : AI Z h' a1 .int 4 (sw F (2 : Int32).toNatClampNeg (3 : Int32).toNatClampNeg) := A_a1'
          have K := K.trans Kc (allS (Or.inl (List.mem_of_getElem? (i := 0) rfl)) all0)
          show Goes p e below s _ n0 _ (T.setTop (mkF m 58 #[.val (.ref a1), .val (.int (2 : Int32)), .val (.int (3 : Int32)), .unset, .unset] []))
          refine g_iloadN X d5_58 rfl (q := 59) rfl ?_
          refine g_iconst X d5_59 rfl (q := 60) (v := 1) rfl ?_
          refine g_iadd X d5_60 rfl (q := 61) ?_
          refine g_eqI (y := (3 : Int32)) (by decide) ?_
          refine g_istoreN X d5_61 rfl (q := 62) (L' := #[.val (.ref a1), .val (.int (2 : Int32)), .val (.int (3 : Int32)), .val (.int (3 : Int32)), .unset]) rfl ?_
          refine g_aloadN X d5_62 rfl (q := 63) rfl rfl ?_
          refine g_alenI X A_a1 d5_63 (q := 64) rfl ?_
          show Goes p e below s _ n0 _ (T.setTop (mkF m 64 #[.val (.ref a1), .val (.int (2 : Int32)), .val (.int (3 : Int32)), .val (.int (3 : Int32)), .unset] [(.int (4 : Int32))]))
          refine g_iconst X d5_64 rfl (q := 65) (v := 1) rfl ?_
          refine g_isub X d5_65 rfl (q := 66) ?_
          refine g_eqI (y := (3 : Int32)) (by decide) ?_
          refine g_istore X d5_66 rfl (q := 68) (L' := #[.val (.ref a1), .val (.int (2 : Int32)), .val (.int (3 : Int32)), .val (.int (3 : Int32)), .val (.int (3 : Int32))]) rfl ?_
          refine g_iloadN X d5_68 rfl (q := 69) rfl ?_
          refine g_iload X d5_69 rfl (q := 71) rfl ?_
          refine g_icmpB X d5_71 (Or.inl rfl) (q := 74) rfl (by decide) (t := 90) rfl (fun (c28 : (3 : Int32) < (3 : Int32)) => ?_) (fun (c28 : ¬ ((3 : Int32) < (3 : Int32))) => ?_)
          · skip
            exact absurd c28 (by decide)
          · skip
            refine g_iconst X d5_90 rfl (q := 91) (v := 1) rfl ?_
            exact g_retZ X d5_91 (by decide) (by decide) (by decide) ⟨congrArg (fun z => some (Value.int z)) (bI_t (Or.inl c2)), K, (by first | exact A_a1 | (simp only [if_neg c1, if_neg c2, if_neg c26, if_neg c27, if_neg c28]; exact A_a1) | (simp only [bI, if_neg c1, if_neg c2, if_neg c26, if_neg c27, if_neg c28]; simpa [c1, c2, c26, c27, c28] using A_a1))⟩
theorem pn5_n5 : plainName "com/example/eulay/eulay/generation/Permutations" = true := by first | (simp [plainName, overriddenIn]; done) | decide +kernel
theorem ef5_n5 (m : MethodId) (x0 : Addr) : entryFrame m #[(.ref x0)] 5 = mkF m 0 #[.val (.ref x0), .unset, .unset, .unset, .unset] [] := by first | (simp [entryFrame, mkF, argsToLocals, Value.category]; done) | rfl
set_option maxRecDepth 65536 in
set_option maxHeartbeats 40000000 in
theorem rm5_n5 (l : Launch) (Z : State) (a0 : Array Value) (hw : ∀ d ∈ tables_1, d.before a0 Z = true) (ws : List Jvm.Cond) (a1 : Addr) (F : Nat → Int32) (h0 : Heap) (n0 : Nat) (Z0 : n0 ≤ h0.size) (A_a1 : AI Z h0 a1 .int 5 F) (g_a1 : n0 ≤ a1) :
    Met l Z (⟨"com/example/eulay/eulay/generation/Permutations", "next", "([I)Z"⟩ : MethodName) prog_18_method_3_code 5 (some .boolean) ({ frames := 1, cells := 0, slots := 0, locals := 15 } : Room) ws n0 #[(.ref a1)] h0 (fun v h' => v = some (.int (bI (¬ ((F 4) < (F 3)) ∨ ((((F 3) < (F 2)) ∧ ((((F 2) < (F 1)) ∧ (¬ ((F 1) < (F 0)) ∧ (¬ ((F 4) < (F 0)) ∨ (¬ ((F 3) < (F 0)) ∨ (((F 2) < (F 0)) ∨ True))))) ∨ (¬ ((F 2) < (F 1)) ∧ (¬ ((F 4) < (F 1)) ∨ (((F 3) < (F 1)) ∨ True))))) ∨ (¬ ((F 3) < (F 2)) ∧ (((F 4) < (F 2)) ∨ True)))))) ∧ Keep h0 h' [a1] ∧ AI Z h' a1 .int 5 (if (F 4) < (F 3) then (if (F 3) < (F 2) then (if (F 2) < (F 1) then (if (F 1) < (F 0) then F else (if (F 4) < (F 0) then (if (F 3) < (F 0) then (if (F 2) < (F 0) then (sw (sw (sw F (0 : Int32).toNatClampNeg (1 : Int32).toNatClampNeg) (1 : Int32).toNatClampNeg (4 : Int32).toNatClampNeg) (2 : Int32).toNatClampNeg (3 : Int32).toNatClampNeg) else (sw (sw (sw F (0 : Int32).toNatClampNeg (2 : Int32).toNatClampNeg) (1 : Int32).toNatClampNeg (4 : Int32).toNatClampNeg) (2 : Int32).toNatClampNeg (3 : Int32).toNatClampNeg)) else (sw (sw (sw F (0 : Int32).toNatClampNeg (3 : Int32).toNatClampNeg) (1 : Int32).toNatClampNeg (4 : Int32).toNatClampNeg) (2 : Int32).toNatClampNeg (3 : Int32).toNatClampNeg)) else (sw (sw (sw F (0 : Int32).toNatClampNeg (4 : Int32).toNatClampNeg) (1 : Int32).toNatClampNeg (4 : Int32).toNatClampNeg) (2 : Int32).toNatClampNeg (3 : Int32).toNatClampNeg))) else (if (F 4) < (F 1) then (if (F 3) < (F 1) then (sw (sw F (1 : Int32).toNatClampNeg (2 : Int32).toNatClampNeg) (2 : Int32).toNatClampNeg (4 : Int32).toNatClampNeg) else (sw (sw F (1 : Int32).toNatClampNeg (3 : Int32).toNatClampNeg) (2 : Int32).toNatClampNeg (4 : Int32).toNatClampNeg)) else (sw (sw F (1 : Int32).toNatClampNeg (4 : Int32).toNatClampNeg) (2 : Int32).toNatClampNeg (4 : Int32).toNatClampNeg))) else (if (F 4) < (F 2) then (sw (sw F (2 : Int32).toNatClampNeg (3 : Int32).toNatClampNeg) (3 : Int32).toNatClampNeg (4 : Int32).toNatClampNeg) else (sw (sw F (2 : Int32).toNatClampNeg (4 : Int32).toNatClampNeg) (3 : Int32).toNatClampNeg (4 : Int32).toNatClampNeg))) else (sw F (3 : Int32).toNatClampNeg (4 : Int32).toNatClampNeg))) := by
  refine Met.intro (plainFor_of_name pn5_n5) Z0 ?_
  intro p e s m below meth c T X
  refine g_cast (ef5_n5 m a1) ?_
  have K : Keep h0 h0 [a1] := Keep.refl h0 _
  refine g_aloadN X d5_0 rfl (q := 1) rfl rfl ?_
  refine g_alenI X A_a1 d5_1 (q := 2) rfl ?_
  show Goes p e below s _ n0 _ (T.setTop (mkF m 2 #[.val (.ref a1), .unset, .unset, .unset, .unset] [(.int (5 : Int32))]))
  refine g_iconst X d5_2 rfl (q := 3) (v := 2) rfl ?_
  refine g_isub X d5_3 rfl (q := 4) ?_
  refine g_eqI (y := (3 : Int32)) (by decide) ?_
  refine g_istoreN X d5_4 rfl (q := 5) (L' := #[.val (.ref a1), .val (.int (3 : Int32)), .unset, .unset, .unset]) rfl ?_
  refine g_iloadN X d5_5 rfl (q := 6) rfl ?_
  refine g_ifA X d5_6 (Or.inl rfl) (q := 9) rfl (by decide) (t := 26) rfl (fun (c1 : (3 : Int32) < (0 : Int32)) => ?_) (fun (c1 : ¬ ((3 : Int32) < (0 : Int32))) => ?_)
  · skip
    exact absurd c1 (by decide)
  · skip
    refine g_aloadN X d5_9 rfl (q := 10) rfl rfl ?_
    refine g_iloadN X d5_10 rfl (q := 11) rfl ?_
    refine g_iaload X A_a1 ⟨by decide, by decide⟩ d5_11 (q := 12) rfl ?_
    refine g_aloadN X d5_12 rfl (q := 13) rfl rfl ?_
    refine g_iloadN X d5_13 rfl (q := 14) rfl ?_
    refine g_iconst X d5_14 rfl (q := 15) (v := 1) rfl ?_
    refine g_iadd X d5_15 rfl (q := 16) ?_
    refine g_eqI (y := (4 : Int32)) (by decide) ?_
    refine g_iaload X A_a1 ⟨by decide, by decide⟩ d5_16 (q := 17) rfl ?_
    refine g_icmpB X d5_17 (Or.inr (Or.inl rfl)) (q := 20) rfl (by decide) (t := 26) rfl (fun (c2 : (F 4) < (F 3)) => ?_) (fun (c2 : ¬ ((F 4) < (F 3))) => ?_)
    · skip
      refine g_iinc X d5_20 (q := 23) rfl rfl (d := -1) rfl (L' := #[.val (.ref a1), .val (.int (2 : Int32)), .unset, .unset, .unset]) rfl ?_
      refine g_goto X d5_23 (by decide) (q := 5) rfl ?_
      refine g_iloadN X d5_5 rfl (q := 6) rfl ?_
      refine g_ifA X d5_6 (Or.inl rfl) (q := 9) rfl (by decide) (t := 26) rfl (fun (c3 : (2 : Int32) < (0 : Int32)) => ?_) (fun (c3 : ¬ ((2 : Int32) < (0 : Int32))) => ?_)
      · skip
        exact absurd c3 (by decide)
      · skip
        refine g_aloadN X d5_9 rfl (q := 10) rfl rfl ?_
        refine g_iloadN X d5_10 rfl (q := 11) rfl ?_
        refine g_iaload X A_a1 ⟨by decide, by decide⟩ d5_11 (q := 12) rfl ?_
        refine g_aloadN X d5_12 rfl (q := 13) rfl rfl ?_
        refine g_iloadN X d5_13 rfl (q := 14) rfl ?_
        refine g_iconst X d5_14 rfl (q := 15) (v := 1) rfl ?_
        refine g_iadd X d5_15 rfl (q := 16) ?_
        refine g_eqI (y := (3 : Int32)) (by decide) ?_
        refine g_iaload X A_a1 ⟨by decide, by decide⟩ d5_16 (q := 17) rfl ?_
        refine g_icmpB X d5_17 (Or.inr (Or.inl rfl)) (q := 20) rfl (by decide) (t := 26) rfl (fun (c4 : (F 3) < (F 2)) => ?_) (fun (c4 : ¬ ((F 3) < (F 2))) => ?_)
        · skip
          refine g_iinc X d5_20 (q := 23) rfl rfl (d := -1) rfl (L' := #[.val (.ref a1), .val (.int (1 : Int32)), .unset, .unset, .unset]) rfl ?_
          refine g_goto X d5_23 (by decide) (q := 5) rfl ?_
          refine g_iloadN X d5_5 rfl (q := 6) rfl ?_
          refine g_ifA X d5_6 (Or.inl rfl) (q := 9) rfl (by decide) (t := 26) rfl (fun (c5 : (1 : Int32) < (0 : Int32)) => ?_) (fun (c5 : ¬ ((1 : Int32) < (0 : Int32))) => ?_)
          · skip
            exact absurd c5 (by decide)
          · skip
            refine g_aloadN X d5_9 rfl (q := 10) rfl rfl ?_
            refine g_iloadN X d5_10 rfl (q := 11) rfl ?_
            refine g_iaload X A_a1 ⟨by decide, by decide⟩ d5_11 (q := 12) rfl ?_
            refine g_aloadN X d5_12 rfl (q := 13) rfl rfl ?_
            refine g_iloadN X d5_13 rfl (q := 14) rfl ?_
            refine g_iconst X d5_14 rfl (q := 15) (v := 1) rfl ?_
            refine g_iadd X d5_15 rfl (q := 16) ?_
            refine g_eqI (y := (2 : Int32)) (by decide) ?_
            refine g_iaload X A_a1 ⟨by decide, by decide⟩ d5_16 (q := 17) rfl ?_
            refine g_icmpB X d5_17 (Or.inr (Or.inl rfl)) (q := 20) rfl (by decide) (t := 26) rfl (fun (c6 : (F 2) < (F 1)) => ?_) (fun (c6 : ¬ ((F 2) < (F 1))) => ?_)
            · skip
              refine g_iinc X d5_20 (q := 23) rfl rfl (d := -1) rfl (L' := #[.val (.ref a1), .val (.int (0 : Int32)), .unset, .unset, .unset]) rfl ?_
              refine g_goto X d5_23 (by decide) (q := 5) rfl ?_
              refine g_iloadN X d5_5 rfl (q := 6) rfl ?_
              refine g_ifA X d5_6 (Or.inl rfl) (q := 9) rfl (by decide) (t := 26) rfl (fun (c7 : (0 : Int32) < (0 : Int32)) => ?_) (fun (c7 : ¬ ((0 : Int32) < (0 : Int32))) => ?_)
              · skip
                exact absurd c7 (by decide)
              · skip
                refine g_aloadN X d5_9 rfl (q := 10) rfl rfl ?_
                refine g_iloadN X d5_10 rfl (q := 11) rfl ?_
                refine g_iaload X A_a1 ⟨by decide, by decide⟩ d5_11 (q := 12) rfl ?_
                refine g_aloadN X d5_12 rfl (q := 13) rfl rfl ?_
                refine g_iloadN X d5_13 rfl (q := 14) rfl ?_
                refine g_iconst X d5_14 rfl (q := 15) (v := 1) rfl ?_
                refine g_iadd X d5_15 rfl (q := 16) ?_
                refine g_eqI (y := (1 : Int32)) (by decide) ?_
                refine g_iaload X A_a1 ⟨by decide, by decide⟩ d5_16 (q := 17) rfl ?_
                refine g_icmpB X d5_17 (Or.inr (Or.inl rfl)) (q := 20) rfl (by decide) (t := 26) rfl (fun (c8 : (F 1) < (F 0)) => ?_) (fun (c8 : ¬ ((F 1) < (F 0))) => ?_)
                · skip
                  refine g_iinc X d5_20 (q := 23) rfl rfl (d := -1) rfl (L' := #[.val (.ref a1), .val (.int (-1 : Int32)), .unset, .unset, .unset]) rfl ?_
                  refine g_goto X d5_23 (by decide) (q := 5) rfl ?_
                  refine g_iloadN X d5_5 rfl (q := 6) rfl ?_
                  refine g_ifA X d5_6 (Or.inl rfl) (q := 9) rfl (by decide) (t := 26) rfl (fun (c9 : (-1 : Int32) < (0 : Int32)) => ?_) (fun (c9 : ¬ ((-1 : Int32) < (0 : Int32))) => ?_)
                  · skip
                    refine g_iloadN X d5_26 rfl (q := 27) rfl ?_
                    refine g_ifB X d5_27 (Or.inl rfl) (q := 30) rfl (by decide) (t := 32) rfl (fun (c10 : (-1 : Int32) < (0 : Int32)) => ?_) (fun (c10 : ¬ ((-1 : Int32) < (0 : Int32))) => ?_)
                    · skip
                      refine g_iconst X d5_30 rfl (q := 31) (v := 0) rfl ?_
                      exact g_retZ X d5_31 (by decide) (by decide) (by decide) ⟨congrArg (fun z => some (Value.int z)) (bI_f (fun z => z.elim (fun w => w c2) (fun z => z.elim (fun w => (fun z => z.elim (fun w => (fun z => z.1 c8) w.2) (fun w => w.1 c6)) w.2) (fun w => w.1 c4)))), K, (by first | exact A_a1 | (simp only [if_neg c1, if_pos c2, if_neg c3, if_pos c4, if_neg c5, if_pos c6, if_neg c7, if_pos c8, if_pos c9, if_pos c10]; exact A_a1) | (simp only [bI, if_neg c1, if_pos c2, if_neg c3, if_pos c4, if_neg c5, if_pos c6, if_neg c7, if_pos c8, if_pos c9, if_pos c10]; simpa [c1, c2, c3, c4, c5, c6, c7, c8, c9, c10] using A_a1))⟩
                    · skip
                      exact absurd c10 (by decide)
                  · skip
                    exact absurd c9 (by decide)
                · skip
                  refine g_iloadN X d5_26 rfl (q := 27) rfl ?_
                  refine g_ifB X d5_27 (Or.inl rfl) (q := 30) rfl (by decide) (t := 32) rfl (fun (c11 : (0 : Int32) < (0 : Int32)) => ?_) (fun (c11 : ¬ ((0 : Int32) < (0 : Int32))) => ?_)
                  · skip
                    exact absurd c11 (by decide)
                  · skip
                    refine g_aloadN X d5_32 rfl (q := 33) rfl rfl ?_
                    refine g_alenI X A_a1 d5_33 (q := 34) rfl ?_
                    show Goes p e below s _ n0 _ (T.setTop (mkF m 34 #[.val (.ref a1), .val (.int (0 : Int32)), .unset, .unset, .unset] [(.int (5 : Int32))]))
                    refine g_iconst X d5_34 rfl (q := 35) (v := 1) rfl ?_
                    refine g_isub X d5_35 rfl (q := 36) ?_
                    refine g_eqI (y := (4 : Int32)) (by decide) ?_
                    refine g_istoreN X d5_36 rfl (q := 37) (L' := #[.val (.ref a1), .val (.int (0 : Int32)), .val (.int (4 : Int32)), .unset, .unset]) rfl ?_
                    refine g_aloadN X d5_37 rfl (q := 38) rfl rfl ?_
                    refine g_iloadN X d5_38 rfl (q := 39) rfl ?_
                    refine g_iaload X A_a1 ⟨by decide, by decide⟩ d5_39 (q := 40) rfl ?_
                    refine g_aloadN X d5_40 rfl (q := 41) rfl rfl ?_
                    refine g_iloadN X d5_41 rfl (q := 42) rfl ?_
                    refine g_iaload X A_a1 ⟨by decide, by decide⟩ d5_42 (q := 43) rfl ?_
                    refine g_icmpB X d5_43 (Or.inl rfl) (q := 46) rfl (by decide) (t := 52) rfl (fun (c12 : (F 4) < (F 0)) => ?_) (fun (c12 : ¬ ((F 4) < (F 0))) => ?_)
                    · skip
                      refine g_iinc X d5_46 (q := 49) rfl rfl (d := -1) rfl (L' := #[.val (.ref a1), .val (.int (0 : Int32)), .val (.int (3 : Int32)), .unset, .unset]) rfl ?_
                      refine g_goto X d5_49 (by decide) (q := 37) rfl ?_
                      refine g_aloadN X d5_37 rfl (q := 38) rfl rfl ?_
                      refine g_iloadN X d5_38 rfl (q := 39) rfl ?_
                      refine g_iaload X A_a1 ⟨by decide, by decide⟩ d5_39 (q := 40) rfl ?_
                      refine g_aloadN X d5_40 rfl (q := 41) rfl rfl ?_
                      refine g_iloadN X d5_41 rfl (q := 42) rfl ?_
                      refine g_iaload X A_a1 ⟨by decide, by decide⟩ d5_42 (q := 43) rfl ?_
                      refine g_icmpB X d5_43 (Or.inl rfl) (q := 46) rfl (by decide) (t := 52) rfl (fun (c13 : (F 3) < (F 0)) => ?_) (fun (c13 : ¬ ((F 3) < (F 0))) => ?_)
                      · skip
                        refine g_iinc X d5_46 (q := 49) rfl rfl (d := -1) rfl (L' := #[.val (.ref a1), .val (.int (0 : Int32)), .val (.int (2 : Int32)), .unset, .unset]) rfl ?_
                        refine g_goto X d5_49 (by decide) (q := 37) rfl ?_
                        refine g_aloadN X d5_37 rfl (q := 38) rfl rfl ?_
                        refine g_iloadN X d5_38 rfl (q := 39) rfl ?_
                        refine g_iaload X A_a1 ⟨by decide, by decide⟩ d5_39 (q := 40) rfl ?_
                        refine g_aloadN X d5_40 rfl (q := 41) rfl rfl ?_
                        refine g_iloadN X d5_41 rfl (q := 42) rfl ?_
                        refine g_iaload X A_a1 ⟨by decide, by decide⟩ d5_42 (q := 43) rfl ?_
                        refine g_icmpB X d5_43 (Or.inl rfl) (q := 46) rfl (by decide) (t := 52) rfl (fun (c14 : (F 2) < (F 0)) => ?_) (fun (c14 : ¬ ((F 2) < (F 0))) => ?_)
                        · skip
                          refine g_iinc X d5_46 (q := 49) rfl rfl (d := -1) rfl (L' := #[.val (.ref a1), .val (.int (0 : Int32)), .val (.int (1 : Int32)), .unset, .unset]) rfl ?_
                          refine g_goto X d5_49 (by decide) (q := 37) rfl ?_
                          refine g_aloadN X d5_37 rfl (q := 38) rfl rfl ?_
                          refine g_iloadN X d5_38 rfl (q := 39) rfl ?_
                          refine g_iaload X A_a1 ⟨by decide, by decide⟩ d5_39 (q := 40) rfl ?_
                          refine g_aloadN X d5_40 rfl (q := 41) rfl rfl ?_
                          refine g_iloadN X d5_41 rfl (q := 42) rfl ?_
                          refine g_iaload X A_a1 ⟨by decide, by decide⟩ d5_42 (q := 43) rfl ?_
                          refine g_icmpB X d5_43 (Or.inl rfl) (q := 46) rfl (by decide) (t := 52) rfl (fun (c15 : (F 1) < (F 0)) => ?_) (fun (c15 : ¬ ((F 1) < (F 0))) => ?_)
                          · skip
                            exact absurd c15 c8
                          · skip
                            refine g_aloadN X d5_52 rfl (q := 53) rfl rfl ?_
                            refine g_iloadN X d5_53 rfl (q := 54) rfl ?_
                            refine g_iloadN X d5_54 rfl (q := 55) rfl ?_
                            refine g_callS X [(.ref a1), (.int (0 : Int32)), (.int (1 : Int32))] [] (tw25 hw) (tw26 hw) (tw16 hw) (tw27 hw) (by decide) (rm8 l Z a0 hw [] a1 (0 : Int32) (1 : Int32) 5 F _ n0 X.size A_a1 g_a1 ⟨by decide, by decide⟩ ⟨by decide, by decide⟩) pd2 rfl rfl rfl d5_55 (q := 58) rfl (W := 0) rfl (by decide) (by decide) (c2 := 0) (s2 := 0) rfl rfl (by decide) (by decide) (fun v T h' X hQ => ?_)
                            obtain ⟨rfl, Kc, A_a1'⟩ := hQ
                            have A_a1 : AI Z h' a1 .int 5 (sw F (0 : Int32).toNatClampNeg (1 : Int32).toNatClampNeg) := A_a1'
                            have K := K.trans Kc (allS (Or.inl (List.mem_of_getElem? (i := 0) rfl)) all0)
                            show Goes p e below s _ n0 _ (T.setTop (mkF m 58 #[.val (.ref a1), .val (.int (0 : Int32)), .val (.int (1 : Int32)), .unset, .unset] []))
                            refine g_iloadN X d5_58 rfl (q := 59) rfl ?_
                            refine g_iconst X d5_59 rfl (q := 60) (v := 1) rfl ?_
                            refine g_iadd X d5_60 rfl (q := 61) ?_
                            refine g_eqI (y := (1 : Int32)) (by decide) ?_
                            refine g_istoreN X d5_61 rfl (q := 62) (L' := #[.val (.ref a1), .val (.int (0 : Int32)), .val (.int (1 : Int32)), .val (.int (1 : Int32)), .unset]) rfl ?_
                            refine g_aloadN X d5_62 rfl (q := 63) rfl rfl ?_
                            refine g_alenI X A_a1 d5_63 (q := 64) rfl ?_
                            show Goes p e below s _ n0 _ (T.setTop (mkF m 64 #[.val (.ref a1), .val (.int (0 : Int32)), .val (.int (1 : Int32)), .val (.int (1 : Int32)), .unset] [(.int (5 : Int32))]))
                            refine g_iconst X d5_64 rfl (q := 65) (v := 1) rfl ?_
                            refine g_isub X d5_65 rfl (q := 66) ?_
                            refine g_eqI (y := (4 : Int32)) (by decide) ?_
                            refine g_istore X d5_66 rfl (q := 68) (L' := #[.val (.ref a1), .val (.int (0 : Int32)), .val (.int (1 : Int32)), .val (.int (1 : Int32)), .val (.int (4 : Int32))]) rfl ?_
                            refine g_iloadN X d5_68 rfl (q := 69) rfl ?_
                            refine g_iload X d5_69 rfl (q := 71) rfl ?_
                            refine g_icmpB X d5_71 (Or.inl rfl) (q := 74) rfl (by decide) (t := 90) rfl (fun (c16 : (1 : Int32) < (4 : Int32)) => ?_) (fun (c16 : ¬ ((1 : Int32) < (4 : Int32))) => ?_)
                            · skip
                              refine g_aloadN X d5_74 rfl (q := 75) rfl rfl ?_
                              refine g_iloadN X d5_75 rfl (q := 76) rfl ?_
                              refine g_iload X d5_76 rfl (q := 78) rfl ?_
                              refine g_callS X [(.ref a1), (.int (1 : Int32)), (.int (4 : Int32))] [] (tw25 hw) (tw26 hw) (tw16 hw) (tw27 hw) (by decide) (rm8 l Z a0 hw [] a1 (1 : Int32) (4 : Int32) 5 (sw F (0 : Int32).toNatClampNeg (1 : Int32).toNatClampNeg) _ n0 X.size A_a1 g_a1 ⟨by decide, by decide⟩ ⟨by decide, by decide⟩) pd2 rfl rfl rfl d5_78 (q := 81) rfl (W := 0) rfl (by decide) (by decide) (c2 := 0) (s2 := 0) rfl rfl (by decide) (by decide) (fun v T h' X hQ => ?_)
                              obtain ⟨rfl, Kc, A_a1'⟩ := hQ
                              have A_a1 : AI Z h' a1 .int 5 (sw (sw F (0 : Int32).toNatClampNeg (1 : Int32).toNatClampNeg) (1 : Int32).toNatClampNeg (4 : Int32).toNatClampNeg) := A_a1'
                              have K := K.trans Kc (allS (Or.inl (List.mem_of_getElem? (i := 0) rfl)) all0)
                              show Goes p e below s _ n0 _ (T.setTop (mkF m 81 #[.val (.ref a1), .val (.int (0 : Int32)), .val (.int (1 : Int32)), .val (.int (1 : Int32)), .val (.int (4 : Int32))] []))
                              refine g_iinc X d5_81 (q := 84) rfl rfl (d := 1) rfl (L' := #[.val (.ref a1), .val (.int (0 : Int32)), .val (.int (1 : Int32)), .val (.int (2 : Int32)), .val (.int (4 : Int32))]) rfl ?_
                              refine g_iinc X d5_84 (q := 87) rfl rfl (d := -1) rfl (L' := #[.val (.ref a1), .val (.int (0 : Int32)), .val (.int (1 : Int32)), .val (.int (2 : Int32)), .val (.int (3 : Int32))]) rfl ?_
                              refine g_goto X d5_87 (by decide) (q := 68) rfl ?_
                              refine g_iloadN X d5_68 rfl (q := 69) rfl ?_
                              refine g_iload X d5_69 rfl (q := 71) rfl ?_
                              refine g_icmpB X d5_71 (Or.inl rfl) (q := 74) rfl (by decide) (t := 90) rfl (fun (c17 : (2 : Int32) < (3 : Int32)) => ?_) (fun (c17 : ¬ ((2 : Int32) < (3 : Int32))) => ?_)
                              · skip
                                refine g_aloadN X d5_74 rfl (q := 75) rfl rfl ?_
                                refine g_iloadN X d5_75 rfl (q := 76) rfl ?_
                                refine g_iload X d5_76 rfl (q := 78) rfl ?_
                                refine g_callS X [(.ref a1), (.int (2 : Int32)), (.int (3 : Int32))] [] (tw25 hw) (tw26 hw) (tw16 hw) (tw27 hw) (by decide) (rm8 l Z a0 hw [] a1 (2 : Int32) (3 : Int32) 5 (sw (sw F (0 : Int32).toNatClampNeg (1 : Int32).toNatClampNeg) (1 : Int32).toNatClampNeg (4 : Int32).toNatClampNeg) _ n0 X.size A_a1 g_a1 ⟨by decide, by decide⟩ ⟨by decide, by decide⟩) pd2 rfl rfl rfl d5_78 (q := 81) rfl (W := 0) rfl (by decide) (by decide) (c2 := 0) (s2 := 0) rfl rfl (by decide) (by decide) (fun v T h' X hQ => ?_)
                                obtain ⟨rfl, Kc, A_a1'⟩ := hQ
                                have A_a1 : AI Z h' a1 .int 5 (sw (sw (sw F (0 : Int32).toNatClampNeg (1 : Int32).toNatClampNeg) (1 : Int32).toNatClampNeg (4 : Int32).toNatClampNeg) (2 : Int32).toNatClampNeg (3 : Int32).toNatClampNeg) := A_a1'
                                have K := K.trans Kc (allS (Or.inl (List.mem_of_getElem? (i := 0) rfl)) all0)
                                show Goes p e below s _ n0 _ (T.setTop (mkF m 81 #[.val (.ref a1), .val (.int (0 : Int32)), .val (.int (1 : Int32)), .val (.int (2 : Int32)), .val (.int (3 : Int32))] []))
                                refine g_iinc X d5_81 (q := 84) rfl rfl (d := 1) rfl (L' := #[.val (.ref a1), .val (.int (0 : Int32)), .val (.int (1 : Int32)), .val (.int (3 : Int32)), .val (.int (3 : Int32))]) rfl ?_
                                refine g_iinc X d5_84 (q := 87) rfl rfl (d := -1) rfl (L' := #[.val (.ref a1), .val (.int (0 : Int32)), .val (.int (1 : Int32)), .val (.int (3 : Int32)), .val (.int (2 : Int32))]) rfl ?_
                                refine g_goto X d5_87 (by decide) (q := 68) rfl ?_
                                refine g_iloadN X d5_68 rfl (q := 69) rfl ?_
                                refine g_iload X d5_69 rfl (q := 71) rfl ?_
                                refine g_icmpB X d5_71 (Or.inl rfl) (q := 74) rfl (by decide) (t := 90) rfl (fun (c18 : (3 : Int32) < (2 : Int32)) => ?_) (fun (c18 : ¬ ((3 : Int32) < (2 : Int32))) => ?_)
                                · skip
                                  exact absurd c18 (by decide)
                                · skip
                                  refine g_iconst X d5_90 rfl (q := 91) (v := 1) rfl ?_
                                  exact g_retZ X d5_91 (by decide) (by decide) (by decide) ⟨congrArg (fun z => some (Value.int z)) (bI_t (Or.inr (Or.inl ⟨c4, (Or.inl ⟨c6, ⟨c8, (Or.inr (Or.inr (Or.inl c14)))⟩⟩)⟩))), K, (by first | exact A_a1 | (simp only [if_neg c1, if_pos c2, if_neg c3, if_pos c4, if_neg c5, if_pos c6, if_neg c7, if_neg c8, if_neg c11, if_pos c12, if_pos c13, if_pos c14, if_neg c15, if_pos c16, if_pos c17, if_neg c18]; exact A_a1) | (simp only [bI, if_neg c1, if_pos c2, if_neg c3, if_pos c4, if_neg c5, if_pos c6, if_neg c7, if_neg c8, if_neg c11, if_pos c12, if_pos c13, if_pos c14, if_neg c15, if_pos c16, if_pos c17, if_neg c18]; simpa [c1, c2, c3, c4, c5, c6, c7, c8, c11, c12, c13, c14, c15, c16, c17, c18] using A_a1))⟩
                              · skip
                                exact absurd c17 (by decide)
                            · skip
                              exact absurd c16 (by decide)
                        · skip
                          refine g_aloadN X d5_52 rfl (q := 53) rfl rfl ?_
                          refine g_iloadN X d5_53 rfl (q := 54) rfl ?_
                          refine g_iloadN X d5_54 rfl (q := 55) rfl ?_
                          refine g_callS X [(.ref a1), (.int (0 : Int32)), (.int (2 : Int32))] [] (tw25 hw) (tw26 hw) (tw16 hw) (tw27 hw) (by decide) (rm8 l Z a0 hw [] a1 (0 : Int32) (2 : Int32) 5 F _ n0 X.size A_a1 g_a1 ⟨by decide, by decide⟩ ⟨by decide, by decide⟩) pd2 rfl rfl rfl d5_55 (q := 58) rfl (W := 0) rfl (by decide) (by decide) (c2 := 0) (s2 := 0) rfl rfl (by decide) (by decide) (fun v T h' X hQ => ?_)
                          obtain ⟨rfl, Kc, A_a1'⟩ := hQ
                          have A_a1 : AI Z h' a1 .int 5 (sw F (0 : Int32).toNatClampNeg (2 : Int32).toNatClampNeg) := A_a1'
                          have K := K.trans Kc (allS (Or.inl (List.mem_of_getElem? (i := 0) rfl)) all0)
                          show Goes p e below s _ n0 _ (T.setTop (mkF m 58 #[.val (.ref a1), .val (.int (0 : Int32)), .val (.int (2 : Int32)), .unset, .unset] []))
                          refine g_iloadN X d5_58 rfl (q := 59) rfl ?_
                          refine g_iconst X d5_59 rfl (q := 60) (v := 1) rfl ?_
                          refine g_iadd X d5_60 rfl (q := 61) ?_
                          refine g_eqI (y := (1 : Int32)) (by decide) ?_
                          refine g_istoreN X d5_61 rfl (q := 62) (L' := #[.val (.ref a1), .val (.int (0 : Int32)), .val (.int (2 : Int32)), .val (.int (1 : Int32)), .unset]) rfl ?_
                          refine g_aloadN X d5_62 rfl (q := 63) rfl rfl ?_
                          refine g_alenI X A_a1 d5_63 (q := 64) rfl ?_
                          show Goes p e below s _ n0 _ (T.setTop (mkF m 64 #[.val (.ref a1), .val (.int (0 : Int32)), .val (.int (2 : Int32)), .val (.int (1 : Int32)), .unset] [(.int (5 : Int32))]))
                          refine g_iconst X d5_64 rfl (q := 65) (v := 1) rfl ?_
                          refine g_isub X d5_65 rfl (q := 66) ?_
                          refine g_eqI (y := (4 : Int32)) (by decide) ?_
                          refine g_istore X d5_66 rfl (q := 68) (L' := #[.val (.ref a1), .val (.int (0 : Int32)), .val (.int (2 : Int32)), .val (.int (1 : Int32)), .val (.int (4 : Int32))]) rfl ?_
                          refine g_iloadN X d5_68 rfl (q := 69) rfl ?_
                          refine g_iload X d5_69 rfl (q := 71) rfl ?_
                          refine g_icmpB X d5_71 (Or.inl rfl) (q := 74) rfl (by decide) (t := 90) rfl (fun (c19 : (1 : Int32) < (4 : Int32)) => ?_) (fun (c19 : ¬ ((1 : Int32) < (4 : Int32))) => ?_)
                          · skip
                            refine g_aloadN X d5_74 rfl (q := 75) rfl rfl ?_
                            refine g_iloadN X d5_75 rfl (q := 76) rfl ?_
                            refine g_iload X d5_76 rfl (q := 78) rfl ?_
                            refine g_callS X [(.ref a1), (.int (1 : Int32)), (.int (4 : Int32))] [] (tw25 hw) (tw26 hw) (tw16 hw) (tw27 hw) (by decide) (rm8 l Z a0 hw [] a1 (1 : Int32) (4 : Int32) 5 (sw F (0 : Int32).toNatClampNeg (2 : Int32).toNatClampNeg) _ n0 X.size A_a1 g_a1 ⟨by decide, by decide⟩ ⟨by decide, by decide⟩) pd2 rfl rfl rfl d5_78 (q := 81) rfl (W := 0) rfl (by decide) (by decide) (c2 := 0) (s2 := 0) rfl rfl (by decide) (by decide) (fun v T h' X hQ => ?_)
                            obtain ⟨rfl, Kc, A_a1'⟩ := hQ
                            have A_a1 : AI Z h' a1 .int 5 (sw (sw F (0 : Int32).toNatClampNeg (2 : Int32).toNatClampNeg) (1 : Int32).toNatClampNeg (4 : Int32).toNatClampNeg) := A_a1'
                            have K := K.trans Kc (allS (Or.inl (List.mem_of_getElem? (i := 0) rfl)) all0)
                            show Goes p e below s _ n0 _ (T.setTop (mkF m 81 #[.val (.ref a1), .val (.int (0 : Int32)), .val (.int (2 : Int32)), .val (.int (1 : Int32)), .val (.int (4 : Int32))] []))
                            refine g_iinc X d5_81 (q := 84) rfl rfl (d := 1) rfl (L' := #[.val (.ref a1), .val (.int (0 : Int32)), .val (.int (2 : Int32)), .val (.int (2 : Int32)), .val (.int (4 : Int32))]) rfl ?_
                            refine g_iinc X d5_84 (q := 87) rfl rfl (d := -1) rfl (L' := #[.val (.ref a1), .val (.int (0 : Int32)), .val (.int (2 : Int32)), .val (.int (2 : Int32)), .val (.int (3 : Int32))]) rfl ?_
                            refine g_goto X d5_87 (by decide) (q := 68) rfl ?_
                            refine g_iloadN X d5_68 rfl (q := 69) rfl ?_
                            refine g_iload X d5_69 rfl (q := 71) rfl ?_
                            refine g_icmpB X d5_71 (Or.inl rfl) (q := 74) rfl (by decide) (t := 90) rfl (fun (c20 : (2 : Int32) < (3 : Int32)) => ?_) (fun (c20 : ¬ ((2 : Int32) < (3 : Int32))) => ?_)
                            · skip
                              refine g_aloadN X d5_74 rfl (q := 75) rfl rfl ?_
                              refine g_iloadN X d5_75 rfl (q := 76) rfl ?_
                              refine g_iload X d5_76 rfl (q := 78) rfl ?_
                              refine g_callS X [(.ref a1), (.int (2 : Int32)), (.int (3 : Int32))] [] (tw25 hw) (tw26 hw) (tw16 hw) (tw27 hw) (by decide) (rm8 l Z a0 hw [] a1 (2 : Int32) (3 : Int32) 5 (sw (sw F (0 : Int32).toNatClampNeg (2 : Int32).toNatClampNeg) (1 : Int32).toNatClampNeg (4 : Int32).toNatClampNeg) _ n0 X.size A_a1 g_a1 ⟨by decide, by decide⟩ ⟨by decide, by decide⟩) pd2 rfl rfl rfl d5_78 (q := 81) rfl (W := 0) rfl (by decide) (by decide) (c2 := 0) (s2 := 0) rfl rfl (by decide) (by decide) (fun v T h' X hQ => ?_)
                              obtain ⟨rfl, Kc, A_a1'⟩ := hQ
                              have A_a1 : AI Z h' a1 .int 5 (sw (sw (sw F (0 : Int32).toNatClampNeg (2 : Int32).toNatClampNeg) (1 : Int32).toNatClampNeg (4 : Int32).toNatClampNeg) (2 : Int32).toNatClampNeg (3 : Int32).toNatClampNeg) := A_a1'
                              have K := K.trans Kc (allS (Or.inl (List.mem_of_getElem? (i := 0) rfl)) all0)
                              show Goes p e below s _ n0 _ (T.setTop (mkF m 81 #[.val (.ref a1), .val (.int (0 : Int32)), .val (.int (2 : Int32)), .val (.int (2 : Int32)), .val (.int (3 : Int32))] []))
                              refine g_iinc X d5_81 (q := 84) rfl rfl (d := 1) rfl (L' := #[.val (.ref a1), .val (.int (0 : Int32)), .val (.int (2 : Int32)), .val (.int (3 : Int32)), .val (.int (3 : Int32))]) rfl ?_
                              refine g_iinc X d5_84 (q := 87) rfl rfl (d := -1) rfl (L' := #[.val (.ref a1), .val (.int (0 : Int32)), .val (.int (2 : Int32)), .val (.int (3 : Int32)), .val (.int (2 : Int32))]) rfl ?_
                              refine g_goto X d5_87 (by decide) (q := 68) rfl ?_
                              refine g_iloadN X d5_68 rfl (q := 69) rfl ?_
                              refine g_iload X d5_69 rfl (q := 71) rfl ?_
                              refine g_icmpB X d5_71 (Or.inl rfl) (q := 74) rfl (by decide) (t := 90) rfl (fun (c21 : (3 : Int32) < (2 : Int32)) => ?_) (fun (c21 : ¬ ((3 : Int32) < (2 : Int32))) => ?_)
                              · skip
                                exact absurd c21 (by decide)
                              · skip
                                refine g_iconst X d5_90 rfl (q := 91) (v := 1) rfl ?_
                                exact g_retZ X d5_91 (by decide) (by decide) (by decide) ⟨congrArg (fun z => some (Value.int z)) (bI_t (Or.inr (Or.inl ⟨c4, (Or.inl ⟨c6, ⟨c8, (Or.inr (Or.inr (Or.inr trivial)))⟩⟩)⟩))), K, (by first | exact A_a1 | (simp only [if_neg c1, if_pos c2, if_neg c3, if_pos c4, if_neg c5, if_pos c6, if_neg c7, if_neg c8, if_neg c11, if_pos c12, if_pos c13, if_neg c14, if_pos c19, if_pos c20, if_neg c21]; exact A_a1) | (simp only [bI, if_neg c1, if_pos c2, if_neg c3, if_pos c4, if_neg c5, if_pos c6, if_neg c7, if_neg c8, if_neg c11, if_pos c12, if_pos c13, if_neg c14, if_pos c19, if_pos c20, if_neg c21]; simpa [c1, c2, c3, c4, c5, c6, c7, c8, c11, c12, c13, c14, c19, c20, c21] using A_a1))⟩
                            · skip
                              exact absurd c20 (by decide)
                          · skip
                            exact absurd c19 (by decide)
                      · skip
                        refine g_aloadN X d5_52 rfl (q := 53) rfl rfl ?_
                        refine g_iloadN X d5_53 rfl (q := 54) rfl ?_
                        refine g_iloadN X d5_54 rfl (q := 55) rfl ?_
                        refine g_callS X [(.ref a1), (.int (0 : Int32)), (.int (3 : Int32))] [] (tw25 hw) (tw26 hw) (tw16 hw) (tw27 hw) (by decide) (rm8 l Z a0 hw [] a1 (0 : Int32) (3 : Int32) 5 F _ n0 X.size A_a1 g_a1 ⟨by decide, by decide⟩ ⟨by decide, by decide⟩) pd2 rfl rfl rfl d5_55 (q := 58) rfl (W := 0) rfl (by decide) (by decide) (c2 := 0) (s2 := 0) rfl rfl (by decide) (by decide) (fun v T h' X hQ => ?_)
                        obtain ⟨rfl, Kc, A_a1'⟩ := hQ
                        have A_a1 : AI Z h' a1 .int 5 (sw F (0 : Int32).toNatClampNeg (3 : Int32).toNatClampNeg) := A_a1'
                        have K := K.trans Kc (allS (Or.inl (List.mem_of_getElem? (i := 0) rfl)) all0)
                        show Goes p e below s _ n0 _ (T.setTop (mkF m 58 #[.val (.ref a1), .val (.int (0 : Int32)), .val (.int (3 : Int32)), .unset, .unset] []))
                        refine g_iloadN X d5_58 rfl (q := 59) rfl ?_
                        refine g_iconst X d5_59 rfl (q := 60) (v := 1) rfl ?_
                        refine g_iadd X d5_60 rfl (q := 61) ?_
                        refine g_eqI (y := (1 : Int32)) (by decide) ?_
                        refine g_istoreN X d5_61 rfl (q := 62) (L' := #[.val (.ref a1), .val (.int (0 : Int32)), .val (.int (3 : Int32)), .val (.int (1 : Int32)), .unset]) rfl ?_
                        refine g_aloadN X d5_62 rfl (q := 63) rfl rfl ?_
                        refine g_alenI X A_a1 d5_63 (q := 64) rfl ?_
                        show Goes p e below s _ n0 _ (T.setTop (mkF m 64 #[.val (.ref a1), .val (.int (0 : Int32)), .val (.int (3 : Int32)), .val (.int (1 : Int32)), .unset] [(.int (5 : Int32))]))
                        refine g_iconst X d5_64 rfl (q := 65) (v := 1) rfl ?_
                        refine g_isub X d5_65 rfl (q := 66) ?_
                        refine g_eqI (y := (4 : Int32)) (by decide) ?_
                        refine g_istore X d5_66 rfl (q := 68) (L' := #[.val (.ref a1), .val (.int (0 : Int32)), .val (.int (3 : Int32)), .val (.int (1 : Int32)), .val (.int (4 : Int32))]) rfl ?_
                        refine g_iloadN X d5_68 rfl (q := 69) rfl ?_
                        refine g_iload X d5_69 rfl (q := 71) rfl ?_
                        refine g_icmpB X d5_71 (Or.inl rfl) (q := 74) rfl (by decide) (t := 90) rfl (fun (c22 : (1 : Int32) < (4 : Int32)) => ?_) (fun (c22 : ¬ ((1 : Int32) < (4 : Int32))) => ?_)
                        · skip
                          refine g_aloadN X d5_74 rfl (q := 75) rfl rfl ?_
                          refine g_iloadN X d5_75 rfl (q := 76) rfl ?_
                          refine g_iload X d5_76 rfl (q := 78) rfl ?_
                          refine g_callS X [(.ref a1), (.int (1 : Int32)), (.int (4 : Int32))] [] (tw25 hw) (tw26 hw) (tw16 hw) (tw27 hw) (by decide) (rm8 l Z a0 hw [] a1 (1 : Int32) (4 : Int32) 5 (sw F (0 : Int32).toNatClampNeg (3 : Int32).toNatClampNeg) _ n0 X.size A_a1 g_a1 ⟨by decide, by decide⟩ ⟨by decide, by decide⟩) pd2 rfl rfl rfl d5_78 (q := 81) rfl (W := 0) rfl (by decide) (by decide) (c2 := 0) (s2 := 0) rfl rfl (by decide) (by decide) (fun v T h' X hQ => ?_)
                          obtain ⟨rfl, Kc, A_a1'⟩ := hQ
                          have A_a1 : AI Z h' a1 .int 5 (sw (sw F (0 : Int32).toNatClampNeg (3 : Int32).toNatClampNeg) (1 : Int32).toNatClampNeg (4 : Int32).toNatClampNeg) := A_a1'
                          have K := K.trans Kc (allS (Or.inl (List.mem_of_getElem? (i := 0) rfl)) all0)
                          show Goes p e below s _ n0 _ (T.setTop (mkF m 81 #[.val (.ref a1), .val (.int (0 : Int32)), .val (.int (3 : Int32)), .val (.int (1 : Int32)), .val (.int (4 : Int32))] []))
                          refine g_iinc X d5_81 (q := 84) rfl rfl (d := 1) rfl (L' := #[.val (.ref a1), .val (.int (0 : Int32)), .val (.int (3 : Int32)), .val (.int (2 : Int32)), .val (.int (4 : Int32))]) rfl ?_
                          refine g_iinc X d5_84 (q := 87) rfl rfl (d := -1) rfl (L' := #[.val (.ref a1), .val (.int (0 : Int32)), .val (.int (3 : Int32)), .val (.int (2 : Int32)), .val (.int (3 : Int32))]) rfl ?_
                          refine g_goto X d5_87 (by decide) (q := 68) rfl ?_
                          refine g_iloadN X d5_68 rfl (q := 69) rfl ?_
                          refine g_iload X d5_69 rfl (q := 71) rfl ?_
                          refine g_icmpB X d5_71 (Or.inl rfl) (q := 74) rfl (by decide) (t := 90) rfl (fun (c23 : (2 : Int32) < (3 : Int32)) => ?_) (fun (c23 : ¬ ((2 : Int32) < (3 : Int32))) => ?_)
                          · skip
                            refine g_aloadN X d5_74 rfl (q := 75) rfl rfl ?_
                            refine g_iloadN X d5_75 rfl (q := 76) rfl ?_
                            refine g_iload X d5_76 rfl (q := 78) rfl ?_
                            refine g_callS X [(.ref a1), (.int (2 : Int32)), (.int (3 : Int32))] [] (tw25 hw) (tw26 hw) (tw16 hw) (tw27 hw) (by decide) (rm8 l Z a0 hw [] a1 (2 : Int32) (3 : Int32) 5 (sw (sw F (0 : Int32).toNatClampNeg (3 : Int32).toNatClampNeg) (1 : Int32).toNatClampNeg (4 : Int32).toNatClampNeg) _ n0 X.size A_a1 g_a1 ⟨by decide, by decide⟩ ⟨by decide, by decide⟩) pd2 rfl rfl rfl d5_78 (q := 81) rfl (W := 0) rfl (by decide) (by decide) (c2 := 0) (s2 := 0) rfl rfl (by decide) (by decide) (fun v T h' X hQ => ?_)
                            obtain ⟨rfl, Kc, A_a1'⟩ := hQ
                            have A_a1 : AI Z h' a1 .int 5 (sw (sw (sw F (0 : Int32).toNatClampNeg (3 : Int32).toNatClampNeg) (1 : Int32).toNatClampNeg (4 : Int32).toNatClampNeg) (2 : Int32).toNatClampNeg (3 : Int32).toNatClampNeg) := A_a1'
                            have K := K.trans Kc (allS (Or.inl (List.mem_of_getElem? (i := 0) rfl)) all0)
                            show Goes p e below s _ n0 _ (T.setTop (mkF m 81 #[.val (.ref a1), .val (.int (0 : Int32)), .val (.int (3 : Int32)), .val (.int (2 : Int32)), .val (.int (3 : Int32))] []))
                            refine g_iinc X d5_81 (q := 84) rfl rfl (d := 1) rfl (L' := #[.val (.ref a1), .val (.int (0 : Int32)), .val (.int (3 : Int32)), .val (.int (3 : Int32)), .val (.int (3 : Int32))]) rfl ?_
                            refine g_iinc X d5_84 (q := 87) rfl rfl (d := -1) rfl (L' := #[.val (.ref a1), .val (.int (0 : Int32)), .val (.int (3 : Int32)), .val (.int (3 : Int32)), .val (.int (2 : Int32))]) rfl ?_
                            refine g_goto X d5_87 (by decide) (q := 68) rfl ?_
                            refine g_iloadN X d5_68 rfl (q := 69) rfl ?_
                            refine g_iload X d5_69 rfl (q := 71) rfl ?_
                            refine g_icmpB X d5_71 (Or.inl rfl) (q := 74) rfl (by decide) (t := 90) rfl (fun (c24 : (3 : Int32) < (2 : Int32)) => ?_) (fun (c24 : ¬ ((3 : Int32) < (2 : Int32))) => ?_)
                            · skip
                              exact absurd c24 (by decide)
                            · skip
                              refine g_iconst X d5_90 rfl (q := 91) (v := 1) rfl ?_
                              exact g_retZ X d5_91 (by decide) (by decide) (by decide) ⟨congrArg (fun z => some (Value.int z)) (bI_t (Or.inr (Or.inl ⟨c4, (Or.inl ⟨c6, ⟨c8, (Or.inr (Or.inl c13))⟩⟩)⟩))), K, (by first | exact A_a1 | (simp only [if_neg c1, if_pos c2, if_neg c3, if_pos c4, if_neg c5, if_pos c6, if_neg c7, if_neg c8, if_neg c11, if_pos c12, if_neg c13, if_pos c22, if_pos c23, if_neg c24]; exact A_a1) | (simp only [bI, if_neg c1, if_pos c2, if_neg c3, if_pos c4, if_neg c5, if_pos c6, if_neg c7, if_neg c8, if_neg c11, if_pos c12, if_neg c13, if_pos c22, if_pos c23, if_neg c24]; simpa [c1, c2, c3, c4, c5, c6, c7, c8, c11, c12, c13, c22, c23, c24] using A_a1))⟩
                          · skip
                            exact absurd c23 (by decide)
                        · skip
                          exact absurd c22 (by decide)
                    · skip
                      refine g_aloadN X d5_52 rfl (q := 53) rfl rfl ?_
                      refine g_iloadN X d5_53 rfl (q := 54) rfl ?_
                      refine g_iloadN X d5_54 rfl (q := 55) rfl ?_
                      refine g_callS X [(.ref a1), (.int (0 : Int32)), (.int (4 : Int32))] [] (tw25 hw) (tw26 hw) (tw16 hw) (tw27 hw) (by decide) (rm8 l Z a0 hw [] a1 (0 : Int32) (4 : Int32) 5 F _ n0 X.size A_a1 g_a1 ⟨by decide, by decide⟩ ⟨by decide, by decide⟩) pd2 rfl rfl rfl d5_55 (q := 58) rfl (W := 0) rfl (by decide) (by decide) (c2 := 0) (s2 := 0) rfl rfl (by decide) (by decide) (fun v T h' X hQ => ?_)
                      obtain ⟨rfl, Kc, A_a1'⟩ := hQ
                      have A_a1 : AI Z h' a1 .int 5 (sw F (0 : Int32).toNatClampNeg (4 : Int32).toNatClampNeg) := A_a1'
                      have K := K.trans Kc (allS (Or.inl (List.mem_of_getElem? (i := 0) rfl)) all0)
                      show Goes p e below s _ n0 _ (T.setTop (mkF m 58 #[.val (.ref a1), .val (.int (0 : Int32)), .val (.int (4 : Int32)), .unset, .unset] []))
                      refine g_iloadN X d5_58 rfl (q := 59) rfl ?_
                      refine g_iconst X d5_59 rfl (q := 60) (v := 1) rfl ?_
                      refine g_iadd X d5_60 rfl (q := 61) ?_
                      refine g_eqI (y := (1 : Int32)) (by decide) ?_
                      refine g_istoreN X d5_61 rfl (q := 62) (L' := #[.val (.ref a1), .val (.int (0 : Int32)), .val (.int (4 : Int32)), .val (.int (1 : Int32)), .unset]) rfl ?_
                      refine g_aloadN X d5_62 rfl (q := 63) rfl rfl ?_
                      refine g_alenI X A_a1 d5_63 (q := 64) rfl ?_
                      show Goes p e below s _ n0 _ (T.setTop (mkF m 64 #[.val (.ref a1), .val (.int (0 : Int32)), .val (.int (4 : Int32)), .val (.int (1 : Int32)), .unset] [(.int (5 : Int32))]))
                      refine g_iconst X d5_64 rfl (q := 65) (v := 1) rfl ?_
                      refine g_isub X d5_65 rfl (q := 66) ?_
                      refine g_eqI (y := (4 : Int32)) (by decide) ?_
                      refine g_istore X d5_66 rfl (q := 68) (L' := #[.val (.ref a1), .val (.int (0 : Int32)), .val (.int (4 : Int32)), .val (.int (1 : Int32)), .val (.int (4 : Int32))]) rfl ?_
                      refine g_iloadN X d5_68 rfl (q := 69) rfl ?_
                      refine g_iload X d5_69 rfl (q := 71) rfl ?_
                      refine g_icmpB X d5_71 (Or.inl rfl) (q := 74) rfl (by decide) (t := 90) rfl (fun (c25 : (1 : Int32) < (4 : Int32)) => ?_) (fun (c25 : ¬ ((1 : Int32) < (4 : Int32))) => ?_)
                      · skip
                        refine g_aloadN X d5_74 rfl (q := 75) rfl rfl ?_
                        refine g_iloadN X d5_75 rfl (q := 76) rfl ?_
                        refine g_iload X d5_76 rfl (q := 78) rfl ?_
                        refine g_callS X [(.ref a1), (.int (1 : Int32)), (.int (4 : Int32))] [] (tw25 hw) (tw26 hw) (tw16 hw) (tw27 hw) (by decide) (rm8 l Z a0 hw [] a1 (1 : Int32) (4 : Int32) 5 (sw F (0 : Int32).toNatClampNeg (4 : Int32).toNatClampNeg) _ n0 X.size A_a1 g_a1 ⟨by decide, by decide⟩ ⟨by decide, by decide⟩) pd2 rfl rfl rfl d5_78 (q := 81) rfl (W := 0) rfl (by decide) (by decide) (c2 := 0) (s2 := 0) rfl rfl (by decide) (by decide) (fun v T h' X hQ => ?_)
                        obtain ⟨rfl, Kc, A_a1'⟩ := hQ
                        have A_a1 : AI Z h' a1 .int 5 (sw (sw F (0 : Int32).toNatClampNeg (4 : Int32).toNatClampNeg) (1 : Int32).toNatClampNeg (4 : Int32).toNatClampNeg) := A_a1'
                        have K := K.trans Kc (allS (Or.inl (List.mem_of_getElem? (i := 0) rfl)) all0)
                        show Goes p e below s _ n0 _ (T.setTop (mkF m 81 #[.val (.ref a1), .val (.int (0 : Int32)), .val (.int (4 : Int32)), .val (.int (1 : Int32)), .val (.int (4 : Int32))] []))
                        refine g_iinc X d5_81 (q := 84) rfl rfl (d := 1) rfl (L' := #[.val (.ref a1), .val (.int (0 : Int32)), .val (.int (4 : Int32)), .val (.int (2 : Int32)), .val (.int (4 : Int32))]) rfl ?_
                        refine g_iinc X d5_84 (q := 87) rfl rfl (d := -1) rfl (L' := #[.val (.ref a1), .val (.int (0 : Int32)), .val (.int (4 : Int32)), .val (.int (2 : Int32)), .val (.int (3 : Int32))]) rfl ?_
                        refine g_goto X d5_87 (by decide) (q := 68) rfl ?_
                        refine g_iloadN X d5_68 rfl (q := 69) rfl ?_
                        refine g_iload X d5_69 rfl (q := 71) rfl ?_
                        refine g_icmpB X d5_71 (Or.inl rfl) (q := 74) rfl (by decide) (t := 90) rfl (fun (c26 : (2 : Int32) < (3 : Int32)) => ?_) (fun (c26 : ¬ ((2 : Int32) < (3 : Int32))) => ?_)
                        · skip
                          refine g_aloadN X d5_74 rfl (q := 75) rfl rfl ?_
                          refine g_iloadN X d5_75 rfl (q := 76) rfl ?_
                          refine g_iload X d5_76 rfl (q := 78) rfl ?_
                          refine g_callS X [(.ref a1), (.int (2 : Int32)), (.int (3 : Int32))] [] (tw25 hw) (tw26 hw) (tw16 hw) (tw27 hw) (by decide) (rm8 l Z a0 hw [] a1 (2 : Int32) (3 : Int32) 5 (sw (sw F (0 : Int32).toNatClampNeg (4 : Int32).toNatClampNeg) (1 : Int32).toNatClampNeg (4 : Int32).toNatClampNeg) _ n0 X.size A_a1 g_a1 ⟨by decide, by decide⟩ ⟨by decide, by decide⟩) pd2 rfl rfl rfl d5_78 (q := 81) rfl (W := 0) rfl (by decide) (by decide) (c2 := 0) (s2 := 0) rfl rfl (by decide) (by decide) (fun v T h' X hQ => ?_)
                          obtain ⟨rfl, Kc, A_a1'⟩ := hQ
                          have A_a1 : AI Z h' a1 .int 5 (sw (sw (sw F (0 : Int32).toNatClampNeg (4 : Int32).toNatClampNeg) (1 : Int32).toNatClampNeg (4 : Int32).toNatClampNeg) (2 : Int32).toNatClampNeg (3 : Int32).toNatClampNeg) := A_a1'
                          have K := K.trans Kc (allS (Or.inl (List.mem_of_getElem? (i := 0) rfl)) all0)
                          show Goes p e below s _ n0 _ (T.setTop (mkF m 81 #[.val (.ref a1), .val (.int (0 : Int32)), .val (.int (4 : Int32)), .val (.int (2 : Int32)), .val (.int (3 : Int32))] []))
                          refine g_iinc X d5_81 (q := 84) rfl rfl (d := 1) rfl (L' := #[.val (.ref a1), .val (.int (0 : Int32)), .val (.int (4 : Int32)), .val (.int (3 : Int32)), .val (.int (3 : Int32))]) rfl ?_
                          refine g_iinc X d5_84 (q := 87) rfl rfl (d := -1) rfl (L' := #[.val (.ref a1), .val (.int (0 : Int32)), .val (.int (4 : Int32)), .val (.int (3 : Int32)), .val (.int (2 : Int32))]) rfl ?_
                          refine g_goto X d5_87 (by decide) (q := 68) rfl ?_
                          refine g_iloadN X d5_68 rfl (q := 69) rfl ?_
                          refine g_iload X d5_69 rfl (q := 71) rfl ?_
                          refine g_icmpB X d5_71 (Or.inl rfl) (q := 74) rfl (by decide) (t := 90) rfl (fun (c27 : (3 : Int32) < (2 : Int32)) => ?_) (fun (c27 : ¬ ((3 : Int32) < (2 : Int32))) => ?_)
                          · skip
                            exact absurd c27 (by decide)
                          · skip
                            refine g_iconst X d5_90 rfl (q := 91) (v := 1) rfl ?_
                            exact g_retZ X d5_91 (by decide) (by decide) (by decide) ⟨congrArg (fun z => some (Value.int z)) (bI_t (Or.inr (Or.inl ⟨c4, (Or.inl ⟨c6, ⟨c8, (Or.inl c12)⟩⟩)⟩))), K, (by first | exact A_a1 | (simp only [if_neg c1, if_pos c2, if_neg c3, if_pos c4, if_neg c5, if_pos c6, if_neg c7, if_neg c8, if_neg c11, if_neg c12, if_pos c25, if_pos c26, if_neg c27]; exact A_a1) | (simp only [bI, if_neg c1, if_pos c2, if_neg c3, if_pos c4, if_neg c5, if_pos c6, if_neg c7, if_neg c8, if_neg c11, if_neg c12, if_pos c25, if_pos c26, if_neg c27]; simpa [c1, c2, c3, c4, c5, c6, c7, c8, c11, c12, c25, c26, c27] using A_a1))⟩
                        · skip
                          exact absurd c26 (by decide)
                      · skip
                        exact absurd c25 (by decide)
            · skip
              refine g_iloadN X d5_26 rfl (q := 27) rfl ?_
              refine g_ifB X d5_27 (Or.inl rfl) (q := 30) rfl (by decide) (t := 32) rfl (fun (c28 : (1 : Int32) < (0 : Int32)) => ?_) (fun (c28 : ¬ ((1 : Int32) < (0 : Int32))) => ?_)
              · skip
                exact absurd c28 (by decide)
              · skip
                refine g_aloadN X d5_32 rfl (q := 33) rfl rfl ?_
                refine g_alenI X A_a1 d5_33 (q := 34) rfl ?_
                show Goes p e below s _ n0 _ (T.setTop (mkF m 34 #[.val (.ref a1), .val (.int (1 : Int32)), .unset, .unset, .unset] [(.int (5 : Int32))]))
                refine g_iconst X d5_34 rfl (q := 35) (v := 1) rfl ?_
                refine g_isub X d5_35 rfl (q := 36) ?_
                refine g_eqI (y := (4 : Int32)) (by decide) ?_
                refine g_istoreN X d5_36 rfl (q := 37) (L' := #[.val (.ref a1), .val (.int (1 : Int32)), .val (.int (4 : Int32)), .unset, .unset]) rfl ?_
                refine g_aloadN X d5_37 rfl (q := 38) rfl rfl ?_
                refine g_iloadN X d5_38 rfl (q := 39) rfl ?_
                refine g_iaload X A_a1 ⟨by decide, by decide⟩ d5_39 (q := 40) rfl ?_
                refine g_aloadN X d5_40 rfl (q := 41) rfl rfl ?_
                refine g_iloadN X d5_41 rfl (q := 42) rfl ?_
                refine g_iaload X A_a1 ⟨by decide, by decide⟩ d5_42 (q := 43) rfl ?_
                refine g_icmpB X d5_43 (Or.inl rfl) (q := 46) rfl (by decide) (t := 52) rfl (fun (c29 : (F 4) < (F 1)) => ?_) (fun (c29 : ¬ ((F 4) < (F 1))) => ?_)
                · skip
                  refine g_iinc X d5_46 (q := 49) rfl rfl (d := -1) rfl (L' := #[.val (.ref a1), .val (.int (1 : Int32)), .val (.int (3 : Int32)), .unset, .unset]) rfl ?_
                  refine g_goto X d5_49 (by decide) (q := 37) rfl ?_
                  refine g_aloadN X d5_37 rfl (q := 38) rfl rfl ?_
                  refine g_iloadN X d5_38 rfl (q := 39) rfl ?_
                  refine g_iaload X A_a1 ⟨by decide, by decide⟩ d5_39 (q := 40) rfl ?_
                  refine g_aloadN X d5_40 rfl (q := 41) rfl rfl ?_
                  refine g_iloadN X d5_41 rfl (q := 42) rfl ?_
                  refine g_iaload X A_a1 ⟨by decide, by decide⟩ d5_42 (q := 43) rfl ?_
                  refine g_icmpB X d5_43 (Or.inl rfl) (q := 46) rfl (by decide) (t := 52) rfl (fun (c30 : (F 3) < (F 1)) => ?_) (fun (c30 : ¬ ((F 3) < (F 1))) => ?_)
                  · skip
                    refine g_iinc X d5_46 (q := 49) rfl rfl (d := -1) rfl (L' := #[.val (.ref a1), .val (.int (1 : Int32)), .val (.int (2 : Int32)), .unset, .unset]) rfl ?_
                    refine g_goto X d5_49 (by decide) (q := 37) rfl ?_
                    refine g_aloadN X d5_37 rfl (q := 38) rfl rfl ?_
                    refine g_iloadN X d5_38 rfl (q := 39) rfl ?_
                    refine g_iaload X A_a1 ⟨by decide, by decide⟩ d5_39 (q := 40) rfl ?_
                    refine g_aloadN X d5_40 rfl (q := 41) rfl rfl ?_
                    refine g_iloadN X d5_41 rfl (q := 42) rfl ?_
                    refine g_iaload X A_a1 ⟨by decide, by decide⟩ d5_42 (q := 43) rfl ?_
                    refine g_icmpB X d5_43 (Or.inl rfl) (q := 46) rfl (by decide) (t := 52) rfl (fun (c31 : (F 2) < (F 1)) => ?_) (fun (c31 : ¬ ((F 2) < (F 1))) => ?_)
                    · skip
                      exact absurd c31 c6
                    · skip
                      refine g_aloadN X d5_52 rfl (q := 53) rfl rfl ?_
                      refine g_iloadN X d5_53 rfl (q := 54) rfl ?_
                      refine g_iloadN X d5_54 rfl (q := 55) rfl ?_
                      refine g_callS X [(.ref a1), (.int (1 : Int32)), (.int (2 : Int32))] [] (tw25 hw) (tw26 hw) (tw16 hw) (tw27 hw) (by decide) (rm8 l Z a0 hw [] a1 (1 : Int32) (2 : Int32) 5 F _ n0 X.size A_a1 g_a1 ⟨by decide, by decide⟩ ⟨by decide, by decide⟩) pd2 rfl rfl rfl d5_55 (q := 58) rfl (W := 0) rfl (by decide) (by decide) (c2 := 0) (s2 := 0) rfl rfl (by decide) (by decide) (fun v T h' X hQ => ?_)
                      obtain ⟨rfl, Kc, A_a1'⟩ := hQ
                      have A_a1 : AI Z h' a1 .int 5 (sw F (1 : Int32).toNatClampNeg (2 : Int32).toNatClampNeg) := A_a1'
                      have K := K.trans Kc (allS (Or.inl (List.mem_of_getElem? (i := 0) rfl)) all0)
                      show Goes p e below s _ n0 _ (T.setTop (mkF m 58 #[.val (.ref a1), .val (.int (1 : Int32)), .val (.int (2 : Int32)), .unset, .unset] []))
                      refine g_iloadN X d5_58 rfl (q := 59) rfl ?_
                      refine g_iconst X d5_59 rfl (q := 60) (v := 1) rfl ?_
                      refine g_iadd X d5_60 rfl (q := 61) ?_
                      refine g_eqI (y := (2 : Int32)) (by decide) ?_
                      refine g_istoreN X d5_61 rfl (q := 62) (L' := #[.val (.ref a1), .val (.int (1 : Int32)), .val (.int (2 : Int32)), .val (.int (2 : Int32)), .unset]) rfl ?_
                      refine g_aloadN X d5_62 rfl (q := 63) rfl rfl ?_
                      refine g_alenI X A_a1 d5_63 (q := 64) rfl ?_
                      show Goes p e below s _ n0 _ (T.setTop (mkF m 64 #[.val (.ref a1), .val (.int (1 : Int32)), .val (.int (2 : Int32)), .val (.int (2 : Int32)), .unset] [(.int (5 : Int32))]))
                      refine g_iconst X d5_64 rfl (q := 65) (v := 1) rfl ?_
                      refine g_isub X d5_65 rfl (q := 66) ?_
                      refine g_eqI (y := (4 : Int32)) (by decide) ?_
                      refine g_istore X d5_66 rfl (q := 68) (L' := #[.val (.ref a1), .val (.int (1 : Int32)), .val (.int (2 : Int32)), .val (.int (2 : Int32)), .val (.int (4 : Int32))]) rfl ?_
                      refine g_iloadN X d5_68 rfl (q := 69) rfl ?_
                      refine g_iload X d5_69 rfl (q := 71) rfl ?_
                      refine g_icmpB X d5_71 (Or.inl rfl) (q := 74) rfl (by decide) (t := 90) rfl (fun (c32 : (2 : Int32) < (4 : Int32)) => ?_) (fun (c32 : ¬ ((2 : Int32) < (4 : Int32))) => ?_)
                      · skip
                        refine g_aloadN X d5_74 rfl (q := 75) rfl rfl ?_
                        refine g_iloadN X d5_75 rfl (q := 76) rfl ?_
                        refine g_iload X d5_76 rfl (q := 78) rfl ?_
                        refine g_callS X [(.ref a1), (.int (2 : Int32)), (.int (4 : Int32))] [] (tw25 hw) (tw26 hw) (tw16 hw) (tw27 hw) (by decide) (rm8 l Z a0 hw [] a1 (2 : Int32) (4 : Int32) 5 (sw F (1 : Int32).toNatClampNeg (2 : Int32).toNatClampNeg) _ n0 X.size A_a1 g_a1 ⟨by decide, by decide⟩ ⟨by decide, by decide⟩) pd2 rfl rfl rfl d5_78 (q := 81) rfl (W := 0) rfl (by decide) (by decide) (c2 := 0) (s2 := 0) rfl rfl (by decide) (by decide) (fun v T h' X hQ => ?_)
                        obtain ⟨rfl, Kc, A_a1'⟩ := hQ
                        have A_a1 : AI Z h' a1 .int 5 (sw (sw F (1 : Int32).toNatClampNeg (2 : Int32).toNatClampNeg) (2 : Int32).toNatClampNeg (4 : Int32).toNatClampNeg) := A_a1'
                        have K := K.trans Kc (allS (Or.inl (List.mem_of_getElem? (i := 0) rfl)) all0)
                        show Goes p e below s _ n0 _ (T.setTop (mkF m 81 #[.val (.ref a1), .val (.int (1 : Int32)), .val (.int (2 : Int32)), .val (.int (2 : Int32)), .val (.int (4 : Int32))] []))
                        refine g_iinc X d5_81 (q := 84) rfl rfl (d := 1) rfl (L' := #[.val (.ref a1), .val (.int (1 : Int32)), .val (.int (2 : Int32)), .val (.int (3 : Int32)), .val (.int (4 : Int32))]) rfl ?_
                        refine g_iinc X d5_84 (q := 87) rfl rfl (d := -1) rfl (L' := #[.val (.ref a1), .val (.int (1 : Int32)), .val (.int (2 : Int32)), .val (.int (3 : Int32)), .val (.int (3 : Int32))]) rfl ?_
                        refine g_goto X d5_87 (by decide) (q := 68) rfl ?_
                        refine g_iloadN X d5_68 rfl (q := 69) rfl ?_
                        refine g_iload X d5_69 rfl (q := 71) rfl ?_
                        refine g_icmpB X d5_71 (Or.inl rfl) (q := 74) rfl (by decide) (t := 90) rfl (fun (c33 : (3 : Int32) < (3 : Int32)) => ?_) (fun (c33 : ¬ ((3 : Int32) < (3 : Int32))) => ?_)
                        · skip
                          exact absurd c33 (by decide)
                        · skip
                          refine g_iconst X d5_90 rfl (q := 91) (v := 1) rfl ?_
                          exact g_retZ X d5_91 (by decide) (by decide) (by decide) ⟨congrArg (fun z => some (Value.int z)) (bI_t (Or.inr (Or.inl ⟨c4, (Or.inr ⟨c6, (Or.inr (Or.inl c30))⟩)⟩))), K, (by first | exact A_a1 | (simp only [if_neg c1, if_pos c2, if_neg c3, if_pos c4, if_neg c5, if_neg c6, if_neg c28, if_pos c29, if_pos c30, if_neg c31, if_pos c32, if_neg c33]; exact A_a1) | (simp only [bI, if_neg c1, if_pos c2, if_neg c3, if_pos c4, if_neg c5, if_neg c6, if_neg c28, if_pos c29, if_pos c30, if_neg c31, if_pos c32, if_neg c33]; simpa [c1, c2, c3, c4, c5, c6, c28, c29, c30, c31, c32, c33] using A_a1))⟩
                      · skip
                        exact absurd c32 (by decide)
                  · skip
                    refine g_aloadN X d5_52 rfl (q := 53) rfl rfl ?_
                    refine g_iloadN X d5_53 rfl (q := 54) rfl ?_
                    refine g_iloadN X d5_54 rfl (q := 55) rfl ?_
                    refine g_callS X [(.ref a1), (.int (1 : Int32)), (.int (3 : Int32))] [] (tw25 hw) (tw26 hw) (tw16 hw) (tw27 hw) (by decide) (rm8 l Z a0 hw [] a1 (1 : Int32) (3 : Int32) 5 F _ n0 X.size A_a1 g_a1 ⟨by decide, by decide⟩ ⟨by decide, by decide⟩) pd2 rfl rfl rfl d5_55 (q := 58) rfl (W := 0) rfl (by decide) (by decide) (c2 := 0) (s2 := 0) rfl rfl (by decide) (by decide) (fun v T h' X hQ => ?_)
                    obtain ⟨rfl, Kc, A_a1'⟩ := hQ
                    have A_a1 : AI Z h' a1 .int 5 (sw F (1 : Int32).toNatClampNeg (3 : Int32).toNatClampNeg) := A_a1'
                    have K := K.trans Kc (allS (Or.inl (List.mem_of_getElem? (i := 0) rfl)) all0)
                    show Goes p e below s _ n0 _ (T.setTop (mkF m 58 #[.val (.ref a1), .val (.int (1 : Int32)), .val (.int (3 : Int32)), .unset, .unset] []))
                    refine g_iloadN X d5_58 rfl (q := 59) rfl ?_
                    refine g_iconst X d5_59 rfl (q := 60) (v := 1) rfl ?_
                    refine g_iadd X d5_60 rfl (q := 61) ?_
                    refine g_eqI (y := (2 : Int32)) (by decide) ?_
                    refine g_istoreN X d5_61 rfl (q := 62) (L' := #[.val (.ref a1), .val (.int (1 : Int32)), .val (.int (3 : Int32)), .val (.int (2 : Int32)), .unset]) rfl ?_
                    refine g_aloadN X d5_62 rfl (q := 63) rfl rfl ?_
                    refine g_alenI X A_a1 d5_63 (q := 64) rfl ?_
                    show Goes p e below s _ n0 _ (T.setTop (mkF m 64 #[.val (.ref a1), .val (.int (1 : Int32)), .val (.int (3 : Int32)), .val (.int (2 : Int32)), .unset] [(.int (5 : Int32))]))
                    refine g_iconst X d5_64 rfl (q := 65) (v := 1) rfl ?_
                    refine g_isub X d5_65 rfl (q := 66) ?_
                    refine g_eqI (y := (4 : Int32)) (by decide) ?_
                    refine g_istore X d5_66 rfl (q := 68) (L' := #[.val (.ref a1), .val (.int (1 : Int32)), .val (.int (3 : Int32)), .val (.int (2 : Int32)), .val (.int (4 : Int32))]) rfl ?_
                    refine g_iloadN X d5_68 rfl (q := 69) rfl ?_
                    refine g_iload X d5_69 rfl (q := 71) rfl ?_
                    refine g_icmpB X d5_71 (Or.inl rfl) (q := 74) rfl (by decide) (t := 90) rfl (fun (c34 : (2 : Int32) < (4 : Int32)) => ?_) (fun (c34 : ¬ ((2 : Int32) < (4 : Int32))) => ?_)
                    · skip
                      refine g_aloadN X d5_74 rfl (q := 75) rfl rfl ?_
                      refine g_iloadN X d5_75 rfl (q := 76) rfl ?_
                      refine g_iload X d5_76 rfl (q := 78) rfl ?_
                      refine g_callS X [(.ref a1), (.int (2 : Int32)), (.int (4 : Int32))] [] (tw25 hw) (tw26 hw) (tw16 hw) (tw27 hw) (by decide) (rm8 l Z a0 hw [] a1 (2 : Int32) (4 : Int32) 5 (sw F (1 : Int32).toNatClampNeg (3 : Int32).toNatClampNeg) _ n0 X.size A_a1 g_a1 ⟨by decide, by decide⟩ ⟨by decide, by decide⟩) pd2 rfl rfl rfl d5_78 (q := 81) rfl (W := 0) rfl (by decide) (by decide) (c2 := 0) (s2 := 0) rfl rfl (by decide) (by decide) (fun v T h' X hQ => ?_)
                      obtain ⟨rfl, Kc, A_a1'⟩ := hQ
                      have A_a1 : AI Z h' a1 .int 5 (sw (sw F (1 : Int32).toNatClampNeg (3 : Int32).toNatClampNeg) (2 : Int32).toNatClampNeg (4 : Int32).toNatClampNeg) := A_a1'
                      have K := K.trans Kc (allS (Or.inl (List.mem_of_getElem? (i := 0) rfl)) all0)
                      show Goes p e below s _ n0 _ (T.setTop (mkF m 81 #[.val (.ref a1), .val (.int (1 : Int32)), .val (.int (3 : Int32)), .val (.int (2 : Int32)), .val (.int (4 : Int32))] []))
                      refine g_iinc X d5_81 (q := 84) rfl rfl (d := 1) rfl (L' := #[.val (.ref a1), .val (.int (1 : Int32)), .val (.int (3 : Int32)), .val (.int (3 : Int32)), .val (.int (4 : Int32))]) rfl ?_
                      refine g_iinc X d5_84 (q := 87) rfl rfl (d := -1) rfl (L' := #[.val (.ref a1), .val (.int (1 : Int32)), .val (.int (3 : Int32)), .val (.int (3 : Int32)), .val (.int (3 : Int32))]) rfl ?_
                      refine g_goto X d5_87 (by decide) (q := 68) rfl ?_
                      refine g_iloadN X d5_68 rfl (q := 69) rfl ?_
                      refine g_iload X d5_69 rfl (q := 71) rfl ?_
                      refine g_icmpB X d5_71 (Or.inl rfl) (q := 74) rfl (by decide) (t := 90) rfl (fun (c35 : (3 : Int32) < (3 : Int32)) => ?_) (fun (c35 : ¬ ((3 : Int32) < (3 : Int32))) => ?_)
                      · skip
                        exact absurd c35 (by decide)
                      · skip
                        refine g_iconst X d5_90 rfl (q := 91) (v := 1) rfl ?_
                        exact g_retZ X d5_91 (by decide) (by decide) (by decide) ⟨congrArg (fun z => some (Value.int z)) (bI_t (Or.inr (Or.inl ⟨c4, (Or.inr ⟨c6, (Or.inr (Or.inr trivial))⟩)⟩))), K, (by first | exact A_a1 | (simp only [if_neg c1, if_pos c2, if_neg c3, if_pos c4, if_neg c5, if_neg c6, if_neg c28, if_pos c29, if_neg c30, if_pos c34, if_neg c35]; exact A_a1) | (simp only [bI, if_neg c1, if_pos c2, if_neg c3, if_pos c4, if_neg c5, if_neg c6, if_neg c28, if_pos c29, if_neg c30, if_pos c34, if_neg c35]; simpa [c1, c2, c3, c4, c5, c6, c28, c29, c30, c34, c35] using A_a1))⟩
                    · skip
                      exact absurd c34 (by decide)
                · skip
                  refine g_aloadN X d5_52 rfl (q := 53) rfl rfl ?_
                  refine g_iloadN X d5_53 rfl (q := 54) rfl ?_
                  refine g_iloadN X d5_54 rfl (q := 55) rfl ?_
                  refine g_callS X [(.ref a1), (.int (1 : Int32)), (.int (4 : Int32))] [] (tw25 hw) (tw26 hw) (tw16 hw) (tw27 hw) (by decide) (rm8 l Z a0 hw [] a1 (1 : Int32) (4 : Int32) 5 F _ n0 X.size A_a1 g_a1 ⟨by decide, by decide⟩ ⟨by decide, by decide⟩) pd2 rfl rfl rfl d5_55 (q := 58) rfl (W := 0) rfl (by decide) (by decide) (c2 := 0) (s2 := 0) rfl rfl (by decide) (by decide) (fun v T h' X hQ => ?_)
                  obtain ⟨rfl, Kc, A_a1'⟩ := hQ
                  have A_a1 : AI Z h' a1 .int 5 (sw F (1 : Int32).toNatClampNeg (4 : Int32).toNatClampNeg) := A_a1'
                  have K := K.trans Kc (allS (Or.inl (List.mem_of_getElem? (i := 0) rfl)) all0)
                  show Goes p e below s _ n0 _ (T.setTop (mkF m 58 #[.val (.ref a1), .val (.int (1 : Int32)), .val (.int (4 : Int32)), .unset, .unset] []))
                  refine g_iloadN X d5_58 rfl (q := 59) rfl ?_
                  refine g_iconst X d5_59 rfl (q := 60) (v := 1) rfl ?_
                  refine g_iadd X d5_60 rfl (q := 61) ?_
                  refine g_eqI (y := (2 : Int32)) (by decide) ?_
                  refine g_istoreN X d5_61 rfl (q := 62) (L' := #[.val (.ref a1), .val (.int (1 : Int32)), .val (.int (4 : Int32)), .val (.int (2 : Int32)), .unset]) rfl ?_
                  refine g_aloadN X d5_62 rfl (q := 63) rfl rfl ?_
                  refine g_alenI X A_a1 d5_63 (q := 64) rfl ?_
                  show Goes p e below s _ n0 _ (T.setTop (mkF m 64 #[.val (.ref a1), .val (.int (1 : Int32)), .val (.int (4 : Int32)), .val (.int (2 : Int32)), .unset] [(.int (5 : Int32))]))
                  refine g_iconst X d5_64 rfl (q := 65) (v := 1) rfl ?_
                  refine g_isub X d5_65 rfl (q := 66) ?_
                  refine g_eqI (y := (4 : Int32)) (by decide) ?_
                  refine g_istore X d5_66 rfl (q := 68) (L' := #[.val (.ref a1), .val (.int (1 : Int32)), .val (.int (4 : Int32)), .val (.int (2 : Int32)), .val (.int (4 : Int32))]) rfl ?_
                  refine g_iloadN X d5_68 rfl (q := 69) rfl ?_
                  refine g_iload X d5_69 rfl (q := 71) rfl ?_
                  refine g_icmpB X d5_71 (Or.inl rfl) (q := 74) rfl (by decide) (t := 90) rfl (fun (c36 : (2 : Int32) < (4 : Int32)) => ?_) (fun (c36 : ¬ ((2 : Int32) < (4 : Int32))) => ?_)
                  · skip
                    refine g_aloadN X d5_74 rfl (q := 75) rfl rfl ?_
                    refine g_iloadN X d5_75 rfl (q := 76) rfl ?_
                    refine g_iload X d5_76 rfl (q := 78) rfl ?_
                    refine g_callS X [(.ref a1), (.int (2 : Int32)), (.int (4 : Int32))] [] (tw25 hw) (tw26 hw) (tw16 hw) (tw27 hw) (by decide) (rm8 l Z a0 hw [] a1 (2 : Int32) (4 : Int32) 5 (sw F (1 : Int32).toNatClampNeg (4 : Int32).toNatClampNeg) _ n0 X.size A_a1 g_a1 ⟨by decide, by decide⟩ ⟨by decide, by decide⟩) pd2 rfl rfl rfl d5_78 (q := 81) rfl (W := 0) rfl (by decide) (by decide) (c2 := 0) (s2 := 0) rfl rfl (by decide) (by decide) (fun v T h' X hQ => ?_)
                    obtain ⟨rfl, Kc, A_a1'⟩ := hQ
                    have A_a1 : AI Z h' a1 .int 5 (sw (sw F (1 : Int32).toNatClampNeg (4 : Int32).toNatClampNeg) (2 : Int32).toNatClampNeg (4 : Int32).toNatClampNeg) := A_a1'
                    have K := K.trans Kc (allS (Or.inl (List.mem_of_getElem? (i := 0) rfl)) all0)
                    show Goes p e below s _ n0 _ (T.setTop (mkF m 81 #[.val (.ref a1), .val (.int (1 : Int32)), .val (.int (4 : Int32)), .val (.int (2 : Int32)), .val (.int (4 : Int32))] []))
                    refine g_iinc X d5_81 (q := 84) rfl rfl (d := 1) rfl (L' := #[.val (.ref a1), .val (.int (1 : Int32)), .val (.int (4 : Int32)), .val (.int (3 : Int32)), .val (.int (4 : Int32))]) rfl ?_
                    refine g_iinc X d5_84 (q := 87) rfl rfl (d := -1) rfl (L' := #[.val (.ref a1), .val (.int (1 : Int32)), .val (.int (4 : Int32)), .val (.int (3 : Int32)), .val (.int (3 : Int32))]) rfl ?_
                    refine g_goto X d5_87 (by decide) (q := 68) rfl ?_
                    refine g_iloadN X d5_68 rfl (q := 69) rfl ?_
                    refine g_iload X d5_69 rfl (q := 71) rfl ?_
                    refine g_icmpB X d5_71 (Or.inl rfl) (q := 74) rfl (by decide) (t := 90) rfl (fun (c37 : (3 : Int32) < (3 : Int32)) => ?_) (fun (c37 : ¬ ((3 : Int32) < (3 : Int32))) => ?_)
                    · skip
                      exact absurd c37 (by decide)
                    · skip
                      refine g_iconst X d5_90 rfl (q := 91) (v := 1) rfl ?_
                      exact g_retZ X d5_91 (by decide) (by decide) (by decide) ⟨congrArg (fun z => some (Value.int z)) (bI_t (Or.inr (Or.inl ⟨c4, (Or.inr ⟨c6, (Or.inl c29)⟩)⟩))), K, (by first | exact A_a1 | (simp only [if_neg c1, if_pos c2, if_neg c3, if_pos c4, if_neg c5, if_neg c6, if_neg c28, if_neg c29, if_pos c36, if_neg c37]; exact A_a1) | (simp only [bI, if_neg c1, if_pos c2, if_neg c3, if_pos c4, if_neg c5, if_neg c6, if_neg c28, if_neg c29, if_pos c36, if_neg c37]; simpa [c1, c2, c3, c4, c5, c6, c28, c29, c36, c37] using A_a1))⟩
                  · skip
                    exact absurd c36 (by decide)
        · skip
          refine g_iloadN X d5_26 rfl (q := 27) rfl ?_
          refine g_ifB X d5_27 (Or.inl rfl) (q := 30) rfl (by decide) (t := 32) rfl (fun (c38 : (2 : Int32) < (0 : Int32)) => ?_) (fun (c38 : ¬ ((2 : Int32) < (0 : Int32))) => ?_)
          · skip
            exact absurd c38 (by decide)
          · skip
            refine g_aloadN X d5_32 rfl (q := 33) rfl rfl ?_
            refine g_alenI X A_a1 d5_33 (q := 34) rfl ?_
            show Goes p e below s _ n0 _ (T.setTop (mkF m 34 #[.val (.ref a1), .val (.int (2 : Int32)), .unset, .unset, .unset] [(.int (5 : Int32))]))
            refine g_iconst X d5_34 rfl (q := 35) (v := 1) rfl ?_
            refine g_isub X d5_35 rfl (q := 36) ?_
            refine g_eqI (y := (4 : Int32)) (by decide) ?_
            refine g_istoreN X d5_36 rfl (q := 37) (L' := #[.val (.ref a1), .val (.int (2 : Int32)), .val (.int (4 : Int32)), .unset, .unset]) rfl ?_
            refine g_aloadN X d5_37 rfl (q := 38) rfl rfl ?_
            refine g_iloadN X d5_38 rfl (q := 39) rfl ?_
            refine g_iaload X A_a1 ⟨by decide, by decide⟩ d5_39 (q := 40) rfl ?_
            refine g_aloadN X d5_40 rfl (q := 41) rfl rfl ?_
            refine g_iloadN X d5_41 rfl (q := 42) rfl ?_
            refine g_iaload X A_a1 ⟨by decide, by decide⟩ d5_42 (q := 43) rfl ?_
            refine g_icmpB X d5_43 (Or.inl rfl) (q := 46) rfl (by decide) (t := 52) rfl (fun (c39 : (F 4) < (F 2)) => ?_) (fun (c39 : ¬ ((F 4) < (F 2))) => ?_)
            · skip
              refine g_iinc X d5_46 (q := 49) rfl rfl (d := -1) rfl (L' := #[.val (.ref a1), .val (.int (2 : Int32)), .val (.int (3 : Int32)), .unset, .unset]) rfl ?_
              refine g_goto X d5_49 (by decide) (q := 37) rfl ?_
              refine g_aloadN X d5_37 rfl (q := 38) rfl rfl ?_
              refine g_iloadN X d5_38 rfl (q := 39) rfl ?_
              refine g_iaload X A_a1 ⟨by decide, by decide⟩ d5_39 (q := 40) rfl ?_
              refine g_aloadN X d5_40 rfl (q := 41) rfl rfl ?_
              refine g_iloadN X d5_41 rfl (q := 42) rfl ?_
              refine g_iaload X A_a1 ⟨by decide, by decide⟩ d5_42 (q := 43) rfl ?_
              refine g_icmpB X d5_43 (Or.inl rfl) (q := 46) rfl (by decide) (t := 52) rfl (fun (c40 : (F 3) < (F 2)) => ?_) (fun (c40 : ¬ ((F 3) < (F 2))) => ?_)
              · skip
                exact absurd c40 c4
              · skip
                refine g_aloadN X d5_52 rfl (q := 53) rfl rfl ?_
                refine g_iloadN X d5_53 rfl (q := 54) rfl ?_
                refine g_iloadN X d5_54 rfl (q := 55) rfl ?_
                refine g_callS X [(.ref a1), (.int (2 : Int32)), (.int (3 : Int32))] [] (tw25 hw) (tw26 hw) (tw16 hw) (tw27 hw) (by decide) (rm8 l Z a0 hw [] a1 (2 : Int32) (3 : Int32) 5 F _ n0 X.size A_a1 g_a1 ⟨by decide, by decide⟩ ⟨by decide, by decide⟩) pd2 rfl rfl rfl d5_55 (q := 58) rfl (W := 0) rfl (by decide) (by decide) (c2 := 0) (s2 := 0) rfl rfl (by decide) (by decide) (fun v T h' X hQ => ?_)
                obtain ⟨rfl, Kc, A_a1'⟩ := hQ
                have A_a1 : AI Z h' a1 .int 5 (sw F (2 : Int32).toNatClampNeg (3 : Int32).toNatClampNeg) := A_a1'
                have K := K.trans Kc (allS (Or.inl (List.mem_of_getElem? (i := 0) rfl)) all0)
                show Goes p e below s _ n0 _ (T.setTop (mkF m 58 #[.val (.ref a1), .val (.int (2 : Int32)), .val (.int (3 : Int32)), .unset, .unset] []))
                refine g_iloadN X d5_58 rfl (q := 59) rfl ?_
                refine g_iconst X d5_59 rfl (q := 60) (v := 1) rfl ?_
                refine g_iadd X d5_60 rfl (q := 61) ?_
                refine g_eqI (y := (3 : Int32)) (by decide) ?_
                refine g_istoreN X d5_61 rfl (q := 62) (L' := #[.val (.ref a1), .val (.int (2 : Int32)), .val (.int (3 : Int32)), .val (.int (3 : Int32)), .unset]) rfl ?_
                refine g_aloadN X d5_62 rfl (q := 63) rfl rfl ?_
                refine g_alenI X A_a1 d5_63 (q := 64) rfl ?_
                show Goes p e below s _ n0 _ (T.setTop (mkF m 64 #[.val (.ref a1), .val (.int (2 : Int32)), .val (.int (3 : Int32)), .val (.int (3 : Int32)), .unset] [(.int (5 : Int32))]))
                refine g_iconst X d5_64 rfl (q := 65) (v := 1) rfl ?_
                refine g_isub X d5_65 rfl (q := 66) ?_
                refine g_eqI (y := (4 : Int32)) (by decide) ?_
                refine g_istore X d5_66 rfl (q := 68) (L' := #[.val (.ref a1), .val (.int (2 : Int32)), .val (.int (3 : Int32)), .val (.int (3 : Int32)), .val (.int (4 : Int32))]) rfl ?_
                refine g_iloadN X d5_68 rfl (q := 69) rfl ?_
                refine g_iload X d5_69 rfl (q := 71) rfl ?_
                refine g_icmpB X d5_71 (Or.inl rfl) (q := 74) rfl (by decide) (t := 90) rfl (fun (c41 : (3 : Int32) < (4 : Int32)) => ?_) (fun (c41 : ¬ ((3 : Int32) < (4 : Int32))) => ?_)
                · skip
                  refine g_aloadN X d5_74 rfl (q := 75) rfl rfl ?_
                  refine g_iloadN X d5_75 rfl (q := 76) rfl ?_
                  refine g_iload X d5_76 rfl (q := 78) rfl ?_
                  refine g_callS X [(.ref a1), (.int (3 : Int32)), (.int (4 : Int32))] [] (tw25 hw) (tw26 hw) (tw16 hw) (tw27 hw) (by decide) (rm8 l Z a0 hw [] a1 (3 : Int32) (4 : Int32) 5 (sw F (2 : Int32).toNatClampNeg (3 : Int32).toNatClampNeg) _ n0 X.size A_a1 g_a1 ⟨by decide, by decide⟩ ⟨by decide, by decide⟩) pd2 rfl rfl rfl d5_78 (q := 81) rfl (W := 0) rfl (by decide) (by decide) (c2 := 0) (s2 := 0) rfl rfl (by decide) (by decide) (fun v T h' X hQ => ?_)
                  obtain ⟨rfl, Kc, A_a1'⟩ := hQ
                  have A_a1 : AI Z h' a1 .int 5 (sw (sw F (2 : Int32).toNatClampNeg (3 : Int32).toNatClampNeg) (3 : Int32).toNatClampNeg (4 : Int32).toNatClampNeg) := A_a1'
                  have K := K.trans Kc (allS (Or.inl (List.mem_of_getElem? (i := 0) rfl)) all0)
                  show Goes p e below s _ n0 _ (T.setTop (mkF m 81 #[.val (.ref a1), .val (.int (2 : Int32)), .val (.int (3 : Int32)), .val (.int (3 : Int32)), .val (.int (4 : Int32))] []))
                  refine g_iinc X d5_81 (q := 84) rfl rfl (d := 1) rfl (L' := #[.val (.ref a1), .val (.int (2 : Int32)), .val (.int (3 : Int32)), .val (.int (4 : Int32)), .val (.int (4 : Int32))]) rfl ?_
                  refine g_iinc X d5_84 (q := 87) rfl rfl (d := -1) rfl (L' := #[.val (.ref a1), .val (.int (2 : Int32)), .val (.int (3 : Int32)), .val (.int (4 : Int32)), .val (.int (3 : Int32))]) rfl ?_
                  refine g_goto X d5_87 (by decide) (q := 68) rfl ?_
                  refine g_iloadN X d5_68 rfl (q := 69) rfl ?_
                  refine g_iload X d5_69 rfl (q := 71) rfl ?_
                  refine g_icmpB X d5_71 (Or.inl rfl) (q := 74) rfl (by decide) (t := 90) rfl (fun (c42 : (4 : Int32) < (3 : Int32)) => ?_) (fun (c42 : ¬ ((4 : Int32) < (3 : Int32))) => ?_)
                  · skip
                    exact absurd c42 (by decide)
                  · skip
                    refine g_iconst X d5_90 rfl (q := 91) (v := 1) rfl ?_
                    exact g_retZ X d5_91 (by decide) (by decide) (by decide) ⟨congrArg (fun z => some (Value.int z)) (bI_t (Or.inr (Or.inr ⟨c4, (Or.inl c39)⟩))), K, (by first | exact A_a1 | (simp only [if_neg c1, if_pos c2, if_neg c3, if_neg c4, if_neg c38, if_pos c39, if_neg c40, if_pos c41, if_neg c42]; exact A_a1) | (simp only [bI, if_neg c1, if_pos c2, if_neg c3, if_neg c4, if_neg c38, if_pos c39, if_neg c40, if_pos c41, if_neg c42]; simpa [c1, c2, c3, c4, c38, c39, c40, c41, c42] using A_a1))⟩
                · skip
                  exact absurd c41 (by decide)
            · skip
              refine g_aloadN X d5_52 rfl (q := 53) rfl rfl ?_
              refine g_iloadN X d5_53 rfl (q := 54) rfl ?_
              refine g_iloadN X d5_54 rfl (q := 55) rfl ?_
              refine g_callS X [(.ref a1), (.int (2 : Int32)), (.int (4 : Int32))] [] (tw25 hw) (tw26 hw) (tw16 hw) (tw27 hw) (by decide) (rm8 l Z a0 hw [] a1 (2 : Int32) (4 : Int32) 5 F _ n0 X.size A_a1 g_a1 ⟨by decide, by decide⟩ ⟨by decide, by decide⟩) pd2 rfl rfl rfl d5_55 (q := 58) rfl (W := 0) rfl (by decide) (by decide) (c2 := 0) (s2 := 0) rfl rfl (by decide) (by decide) (fun v T h' X hQ => ?_)
              obtain ⟨rfl, Kc, A_a1'⟩ := hQ
              have A_a1 : AI Z h' a1 .int 5 (sw F (2 : Int32).toNatClampNeg (4 : Int32).toNatClampNeg) := A_a1'
              have K := K.trans Kc (allS (Or.inl (List.mem_of_getElem? (i := 0) rfl)) all0)
              show Goes p e below s _ n0 _ (T.setTop (mkF m 58 #[.val (.ref a1), .val (.int (2 : Int32)), .val (.int (4 : Int32)), .unset, .unset] []))
              refine g_iloadN X d5_58 rfl (q := 59) rfl ?_
              refine g_iconst X d5_59 rfl (q := 60) (v := 1) rfl ?_
              refine g_iadd X d5_60 rfl (q := 61) ?_
              refine g_eqI (y := (3 : Int32)) (by decide) ?_
              refine g_istoreN X d5_61 rfl (q := 62) (L' := #[.val (.ref a1), .val (.int (2 : Int32)), .val (.int (4 : Int32)), .val (.int (3 : Int32)), .unset]) rfl ?_
              refine g_aloadN X d5_62 rfl (q := 63) rfl rfl ?_
              refine g_alenI X A_a1 d5_63 (q := 64) rfl ?_
              show Goes p e below s _ n0 _ (T.setTop (mkF m 64 #[.val (.ref a1), .val (.int (2 : Int32)), .val (.int (4 : Int32)), .val (.int (3 : Int32)), .unset] [(.int (5 : Int32))]))
              refine g_iconst X d5_64 rfl (q := 65) (v := 1) rfl ?_
              refine g_isub X d5_65 rfl (q := 66) ?_
              refine g_eqI (y := (4 : Int32)) (by decide) ?_
              refine g_istore X d5_66 rfl (q := 68) (L' := #[.val (.ref a1), .val (.int (2 : Int32)), .val (.int (4 : Int32)), .val (.int (3 : Int32)), .val (.int (4 : Int32))]) rfl ?_
              refine g_iloadN X d5_68 rfl (q := 69) rfl ?_
              refine g_iload X d5_69 rfl (q := 71) rfl ?_
              refine g_icmpB X d5_71 (Or.inl rfl) (q := 74) rfl (by decide) (t := 90) rfl (fun (c43 : (3 : Int32) < (4 : Int32)) => ?_) (fun (c43 : ¬ ((3 : Int32) < (4 : Int32))) => ?_)
              · skip
                refine g_aloadN X d5_74 rfl (q := 75) rfl rfl ?_
                refine g_iloadN X d5_75 rfl (q := 76) rfl ?_
                refine g_iload X d5_76 rfl (q := 78) rfl ?_
                refine g_callS X [(.ref a1), (.int (3 : Int32)), (.int (4 : Int32))] [] (tw25 hw) (tw26 hw) (tw16 hw) (tw27 hw) (by decide) (rm8 l Z a0 hw [] a1 (3 : Int32) (4 : Int32) 5 (sw F (2 : Int32).toNatClampNeg (4 : Int32).toNatClampNeg) _ n0 X.size A_a1 g_a1 ⟨by decide, by decide⟩ ⟨by decide, by decide⟩) pd2 rfl rfl rfl d5_78 (q := 81) rfl (W := 0) rfl (by decide) (by decide) (c2 := 0) (s2 := 0) rfl rfl (by decide) (by decide) (fun v T h' X hQ => ?_)
                obtain ⟨rfl, Kc, A_a1'⟩ := hQ
                have A_a1 : AI Z h' a1 .int 5 (sw (sw F (2 : Int32).toNatClampNeg (4 : Int32).toNatClampNeg) (3 : Int32).toNatClampNeg (4 : Int32).toNatClampNeg) := A_a1'
                have K := K.trans Kc (allS (Or.inl (List.mem_of_getElem? (i := 0) rfl)) all0)
                show Goes p e below s _ n0 _ (T.setTop (mkF m 81 #[.val (.ref a1), .val (.int (2 : Int32)), .val (.int (4 : Int32)), .val (.int (3 : Int32)), .val (.int (4 : Int32))] []))
                refine g_iinc X d5_81 (q := 84) rfl rfl (d := 1) rfl (L' := #[.val (.ref a1), .val (.int (2 : Int32)), .val (.int (4 : Int32)), .val (.int (4 : Int32)), .val (.int (4 : Int32))]) rfl ?_
                refine g_iinc X d5_84 (q := 87) rfl rfl (d := -1) rfl (L' := #[.val (.ref a1), .val (.int (2 : Int32)), .val (.int (4 : Int32)), .val (.int (4 : Int32)), .val (.int (3 : Int32))]) rfl ?_
                refine g_goto X d5_87 (by decide) (q := 68) rfl ?_
                refine g_iloadN X d5_68 rfl (q := 69) rfl ?_
                refine g_iload X d5_69 rfl (q := 71) rfl ?_
                refine g_icmpB X d5_71 (Or.inl rfl) (q := 74) rfl (by decide) (t := 90) rfl (fun (c44 : (4 : Int32) < (3 : Int32)) => ?_) (fun (c44 : ¬ ((4 : Int32) < (3 : Int32))) => ?_)
                · skip
                  exact absurd c44 (by decide)
                · skip
                  refine g_iconst X d5_90 rfl (q := 91) (v := 1) rfl ?_
                  exact g_retZ X d5_91 (by decide) (by decide) (by decide) ⟨congrArg (fun z => some (Value.int z)) (bI_t (Or.inr (Or.inr ⟨c4, (Or.inr trivial)⟩))), K, (by first | exact A_a1 | (simp only [if_neg c1, if_pos c2, if_neg c3, if_neg c4, if_neg c38, if_neg c39, if_pos c43, if_neg c44]; exact A_a1) | (simp only [bI, if_neg c1, if_pos c2, if_neg c3, if_neg c4, if_neg c38, if_neg c39, if_pos c43, if_neg c44]; simpa [c1, c2, c3, c4, c38, c39, c43, c44] using A_a1))⟩
              · skip
                exact absurd c43 (by decide)
    · skip
      refine g_iloadN X d5_26 rfl (q := 27) rfl ?_
      refine g_ifB X d5_27 (Or.inl rfl) (q := 30) rfl (by decide) (t := 32) rfl (fun (c45 : (3 : Int32) < (0 : Int32)) => ?_) (fun (c45 : ¬ ((3 : Int32) < (0 : Int32))) => ?_)
      · skip
        exact absurd c45 (by decide)
      · skip
        refine g_aloadN X d5_32 rfl (q := 33) rfl rfl ?_
        refine g_alenI X A_a1 d5_33 (q := 34) rfl ?_
        show Goes p e below s _ n0 _ (T.setTop (mkF m 34 #[.val (.ref a1), .val (.int (3 : Int32)), .unset, .unset, .unset] [(.int (5 : Int32))]))
        refine g_iconst X d5_34 rfl (q := 35) (v := 1) rfl ?_
        refine g_isub X d5_35 rfl (q := 36) ?_
        refine g_eqI (y := (4 : Int32)) (by decide) ?_
        refine g_istoreN X d5_36 rfl (q := 37) (L' := #[.val (.ref a1), .val (.int (3 : Int32)), .val (.int (4 : Int32)), .unset, .unset]) rfl ?_
        refine g_aloadN X d5_37 rfl (q := 38) rfl rfl ?_
        refine g_iloadN X d5_38 rfl (q := 39) rfl ?_
        refine g_iaload X A_a1 ⟨by decide, by decide⟩ d5_39 (q := 40) rfl ?_
        refine g_aloadN X d5_40 rfl (q := 41) rfl rfl ?_
        refine g_iloadN X d5_41 rfl (q := 42) rfl ?_
        refine g_iaload X A_a1 ⟨by decide, by decide⟩ d5_42 (q := 43) rfl ?_
        refine g_icmpB X d5_43 (Or.inl rfl) (q := 46) rfl (by decide) (t := 52) rfl (fun (c46 : (F 4) < (F 3)) => ?_) (fun (c46 : ¬ ((F 4) < (F 3))) => ?_)
        · skip
          exact absurd c46 c2
        · skip
          refine g_aloadN X d5_52 rfl (q := 53) rfl rfl ?_
          refine g_iloadN X d5_53 rfl (q := 54) rfl ?_
          refine g_iloadN X d5_54 rfl (q := 55) rfl ?_
          refine g_callS X [(.ref a1), (.int (3 : Int32)), (.int (4 : Int32))] [] (tw25 hw) (tw26 hw) (tw16 hw) (tw27 hw) (by decide) (rm8 l Z a0 hw [] a1 (3 : Int32) (4 : Int32) 5 F _ n0 X.size A_a1 g_a1 ⟨by decide, by decide⟩ ⟨by decide, by decide⟩) pd2 rfl rfl rfl d5_55 (q := 58) rfl (W := 0) rfl (by decide) (by decide) (c2 := 0) (s2 := 0) rfl rfl (by decide) (by decide) (fun v T h' X hQ => ?_)
          obtain ⟨rfl, Kc, A_a1'⟩ := hQ
          have A_a1 : AI Z h' a1 .int 5 (sw F (3 : Int32).toNatClampNeg (4 : Int32).toNatClampNeg) := A_a1'
          have K := K.trans Kc (allS (Or.inl (List.mem_of_getElem? (i := 0) rfl)) all0)
          show Goes p e below s _ n0 _ (T.setTop (mkF m 58 #[.val (.ref a1), .val (.int (3 : Int32)), .val (.int (4 : Int32)), .unset, .unset] []))
          refine g_iloadN X d5_58 rfl (q := 59) rfl ?_
          refine g_iconst X d5_59 rfl (q := 60) (v := 1) rfl ?_
          refine g_iadd X d5_60 rfl (q := 61) ?_
          refine g_eqI (y := (4 : Int32)) (by decide) ?_
          refine g_istoreN X d5_61 rfl (q := 62) (L' := #[.val (.ref a1), .val (.int (3 : Int32)), .val (.int (4 : Int32)), .val (.int (4 : Int32)), .unset]) rfl ?_
          refine g_aloadN X d5_62 rfl (q := 63) rfl rfl ?_
          refine g_alenI X A_a1 d5_63 (q := 64) rfl ?_
          show Goes p e below s _ n0 _ (T.setTop (mkF m 64 #[.val (.ref a1), .val (.int (3 : Int32)), .val (.int (4 : Int32)), .val (.int (4 : Int32)), .unset] [(.int (5 : Int32))]))
          refine g_iconst X d5_64 rfl (q := 65) (v := 1) rfl ?_
          refine g_isub X d5_65 rfl (q := 66) ?_
          refine g_eqI (y := (4 : Int32)) (by decide) ?_
          refine g_istore X d5_66 rfl (q := 68) (L' := #[.val (.ref a1), .val (.int (3 : Int32)), .val (.int (4 : Int32)), .val (.int (4 : Int32)), .val (.int (4 : Int32))]) rfl ?_
          refine g_iloadN X d5_68 rfl (q := 69) rfl ?_
          refine g_iload X d5_69 rfl (q := 71) rfl ?_
          refine g_icmpB X d5_71 (Or.inl rfl) (q := 74) rfl (by decide) (t := 90) rfl (fun (c47 : (4 : Int32) < (4 : Int32)) => ?_) (fun (c47 : ¬ ((4 : Int32) < (4 : Int32))) => ?_)
          · skip
            exact absurd c47 (by decide)
          · skip
            refine g_iconst X d5_90 rfl (q := 91) (v := 1) rfl ?_
            exact g_retZ X d5_91 (by decide) (by decide) (by decide) ⟨congrArg (fun z => some (Value.int z)) (bI_t (Or.inl c2)), K, (by first | exact A_a1 | (simp only [if_neg c1, if_neg c2, if_neg c45, if_neg c46, if_neg c47]; exact A_a1) | (simp only [bI, if_neg c1, if_neg c2, if_neg c45, if_neg c46, if_neg c47]; simpa [c1, c2, c45, c46, c47] using A_a1))⟩
theorem pn6_n0 : plainName "com/example/eulay/eulay/generation/PermutationsNextPinLaw" = true := by first | (simp [plainName, overriddenIn]; done) | decide +kernel
theorem ef6_n0 (m : MethodId) (x0 : Addr) (x1 : Addr) (x2 : Int32) : entryFrame m #[(.ref x0), (.ref x1), (.int x2)] 3 = mkF m 0 #[.val (.ref x0), .val (.ref x1), .val (.int x2)] [] := by first | (simp [entryFrame, mkF, argsToLocals, Value.category]; done) | rfl
set_option maxRecDepth 65536 in
set_option maxHeartbeats 40000000 in
theorem rm6_n0 (l : Launch) (Z : State) (a0 : Array Value) (hw : ∀ d ∈ tables_1, d.before a0 Z = true) (ws : List Jvm.Cond) (a1 : Addr) (a2 : Addr) (F : Nat → Int32) (G : Nat → Int32) (h0 : Heap) (n0 : Nat) (Z0 : n0 ≤ h0.size) (A_a1 : AI Z h0 a1 .int 0 F) (A_a2 : AI Z h0 a2 .int 0 G) :
    Met l Z (⟨"com/example/eulay/eulay/generation/PermutationsNextPinLaw", "same", "([I[II)Z"⟩ : MethodName) method_8_code 3 (some .boolean) ({ frames := 0, cells := 0, slots := 0, locals := 0 } : Room) ws n0 #[(.ref a1), (.ref a2), (.int (0 : Int32))] h0 (fun v h' => v = some (.int (bI (True))) ∧ h0 = h') := by
  refine Met.intro (plainFor_of_name pn6_n0) Z0 ?_
  intro p e s m below meth c T X
  refine g_cast (ef6_n0 m a1 a2 (0 : Int32)) ?_
  refine g_aloadN X d6_0 rfl (q := 1) rfl rfl ?_
  refine g_alenI X A_a1 d6_1 (q := 2) rfl ?_
  show Goes p e below s _ n0 _ (T.setTop (mkF m 2 #[.val (.ref a1), .val (.ref a2), .val (.int (0 : Int32))] [(.int (0 : Int32))]))
  refine g_iloadN X d6_2 rfl (q := 3) rfl ?_
  refine g_jT0 X (J := 86) (L := #[.val (.ref a1), .val (.ref a2), .val (.int (0 : Int32))]) (S := [(.int (1 : Int32))]) ?_ ?_
  · intro T X
    exact g_retZ X d6_86 (by decide) (by decide) (by decide) ⟨rfl, rfl⟩
  · intro J86_0
    refine g_icmpB X d6_3 (Or.inr (Or.inr rfl)) (q := 6) rfl (by decide) (t := 85) rfl (fun (c1 : (0 : Int32) = (0 : Int32)) => ?_) (fun (c1 : ¬ ((0 : Int32) = (0 : Int32))) => ?_)
    · skip
      refine g_aloadN X d6_6 rfl (q := 7) rfl rfl ?_
      refine g_alenI X A_a2 d6_7 (q := 8) rfl ?_
      show Goes p e below s _ n0 _ (T.setTop (mkF m 8 #[.val (.ref a1), .val (.ref a2), .val (.int (0 : Int32))] [(.int (0 : Int32))]))
      refine g_iloadN X d6_8 rfl (q := 9) rfl ?_
      refine g_icmpB X d6_9 (Or.inr (Or.inr rfl)) (q := 12) rfl (by decide) (t := 85) rfl (fun (c2 : (0 : Int32) = (0 : Int32)) => ?_) (fun (c2 : ¬ ((0 : Int32) = (0 : Int32))) => ?_)
      · skip
        refine g_iloadN X d6_12 rfl (q := 13) rfl ?_
        refine g_ifB X d6_13 (Or.inr (Or.inl rfl)) (q := 16) rfl (by decide) (t := 25) rfl (fun (c3 : (0 : Int32) < (0 : Int32)) => ?_) (fun (c3 : ¬ ((0 : Int32) < (0 : Int32))) => ?_)
        · skip
          exact absurd c3 (by decide)
        · skip
          refine g_iloadN X d6_25 rfl (q := 26) rfl ?_
          refine g_iconst X d6_26 rfl (q := 27) (v := 1) rfl ?_
          refine g_icmpB X d6_27 (Or.inr (Or.inl rfl)) (q := 30) rfl (by decide) (t := 39) rfl (fun (c4 : (1 : Int32) < (0 : Int32)) => ?_) (fun (c4 : ¬ ((1 : Int32) < (0 : Int32))) => ?_)
          · skip
            exact absurd c4 (by decide)
          · skip
            refine g_iloadN X d6_39 rfl (q := 40) rfl ?_
            refine g_iconst X d6_40 rfl (q := 41) (v := 2) rfl ?_
            refine g_icmpB X d6_41 (Or.inr (Or.inl rfl)) (q := 44) rfl (by decide) (t := 53) rfl (fun (c5 : (2 : Int32) < (0 : Int32)) => ?_) (fun (c5 : ¬ ((2 : Int32) < (0 : Int32))) => ?_)
            · skip
              exact absurd c5 (by decide)
            · skip
              refine g_iloadN X d6_53 rfl (q := 54) rfl ?_
              refine g_iconst X d6_54 rfl (q := 55) (v := 3) rfl ?_
              refine g_icmpB X d6_55 (Or.inr (Or.inl rfl)) (q := 58) rfl (by decide) (t := 67) rfl (fun (c6 : (3 : Int32) < (0 : Int32)) => ?_) (fun (c6 : ¬ ((3 : Int32) < (0 : Int32))) => ?_)
              · skip
                exact absurd c6 (by decide)
              · skip
                refine g_iloadN X d6_67 rfl (q := 68) rfl ?_
                refine g_iconst X d6_68 rfl (q := 69) (v := 4) rfl ?_
                refine g_icmpB X d6_69 (Or.inr (Or.inl rfl)) (q := 72) rfl (by decide) (t := 81) rfl (fun (c7 : (4 : Int32) < (0 : Int32)) => ?_) (fun (c7 : ¬ ((4 : Int32) < (0 : Int32))) => ?_)
                · skip
                  exact absurd c7 (by decide)
                · skip
                  refine g_iconst X d6_81 rfl (q := 82) (v := 1) rfl ?_
                  refine g_goto X d6_82 (by decide) (q := 86) rfl ?_
                  exact J86_0 T X
      · skip
        exact absurd c2 (by decide)
    · skip
      exact absurd c1 (by decide)
theorem pn6_n1 : plainName "com/example/eulay/eulay/generation/PermutationsNextPinLaw" = true := by first | (simp [plainName, overriddenIn]; done) | decide +kernel
theorem ef6_n1 (m : MethodId) (x0 : Addr) (x1 : Addr) (x2 : Int32) : entryFrame m #[(.ref x0), (.ref x1), (.int x2)] 3 = mkF m 0 #[.val (.ref x0), .val (.ref x1), .val (.int x2)] [] := by first | (simp [entryFrame, mkF, argsToLocals, Value.category]; done) | rfl
set_option maxRecDepth 65536 in
set_option maxHeartbeats 40000000 in
theorem rm6_n1 (l : Launch) (Z : State) (a0 : Array Value) (hw : ∀ d ∈ tables_1, d.before a0 Z = true) (ws : List Jvm.Cond) (a1 : Addr) (a2 : Addr) (F : Nat → Int32) (G : Nat → Int32) (h0 : Heap) (n0 : Nat) (Z0 : n0 ≤ h0.size) (A_a1 : AI Z h0 a1 .int 1 F) (A_a2 : AI Z h0 a2 .int 1 G) :
    Met l Z (⟨"com/example/eulay/eulay/generation/PermutationsNextPinLaw", "same", "([I[II)Z"⟩ : MethodName) method_8_code 3 (some .boolean) ({ frames := 0, cells := 0, slots := 0, locals := 0 } : Room) ws n0 #[(.ref a1), (.ref a2), (.int (1 : Int32))] h0 (fun v h' => v = some (.int (bI ((F 0) = (G 0)))) ∧ h0 = h') := by
  refine Met.intro (plainFor_of_name pn6_n1) Z0 ?_
  intro p e s m below meth c T X
  refine g_cast (ef6_n1 m a1 a2 (1 : Int32)) ?_
  refine g_aloadN X d6_0 rfl (q := 1) rfl rfl ?_
  refine g_alenI X A_a1 d6_1 (q := 2) rfl ?_
  show Goes p e below s _ n0 _ (T.setTop (mkF m 2 #[.val (.ref a1), .val (.ref a2), .val (.int (1 : Int32))] [(.int (1 : Int32))]))
  refine g_iloadN X d6_2 rfl (q := 3) rfl ?_
  refine g_jT1 X (J := 86) (P := fun (s0_86 : Int32) => s0_86 = (bI ((F 0) = (G 0)))) (L := fun s0_86 => #[.val (.ref a1), .val (.ref a2), .val (.int (1 : Int32))]) (S := fun s0_86 => [(.int s0_86)]) ?_ ?_
  · intro T X s0_86 hs0_86
    replace hs0_86 : s0_86 = (bI ((F 0) = (G 0))) := hs0_86
    subst hs0_86
    show Goes p e below s _ n0 _ (T.setTop (mkF m 86 #[.val (.ref a1), .val (.ref a2), .val (.int (1 : Int32))] [(.int (bI ((F 0) = (G 0))))]))
    exact g_retZ X d6_86 (by decide) (by decide) (bI_01 _) ⟨rfl, rfl⟩
  · intro J86_0
    refine g_icmpB X d6_3 (Or.inr (Or.inr rfl)) (q := 6) rfl (by decide) (t := 85) rfl (fun (c1 : (1 : Int32) = (1 : Int32)) => ?_) (fun (c1 : ¬ ((1 : Int32) = (1 : Int32))) => ?_)
    · skip
      refine g_aloadN X d6_6 rfl (q := 7) rfl rfl ?_
      refine g_alenI X A_a2 d6_7 (q := 8) rfl ?_
      show Goes p e below s _ n0 _ (T.setTop (mkF m 8 #[.val (.ref a1), .val (.ref a2), .val (.int (1 : Int32))] [(.int (1 : Int32))]))
      refine g_iloadN X d6_8 rfl (q := 9) rfl ?_
      refine g_icmpB X d6_9 (Or.inr (Or.inr rfl)) (q := 12) rfl (by decide) (t := 85) rfl (fun (c2 : (1 : Int32) = (1 : Int32)) => ?_) (fun (c2 : ¬ ((1 : Int32) = (1 : Int32))) => ?_)
      · skip
        refine g_iloadN X d6_12 rfl (q := 13) rfl ?_
        refine g_ifB X d6_13 (Or.inr (Or.inl rfl)) (q := 16) rfl (by decide) (t := 25) rfl (fun (c3 : (0 : Int32) < (1 : Int32)) => ?_) (fun (c3 : ¬ ((0 : Int32) < (1 : Int32))) => ?_)
        · skip
          refine g_aloadN X d6_16 rfl (q := 17) rfl rfl ?_
          refine g_iconst X d6_17 rfl (q := 18) (v := 0) rfl ?_
          refine g_iaload X A_a1 ⟨by decide, by decide⟩ d6_18 (q := 19) rfl ?_
          refine g_aloadN X d6_19 rfl (q := 20) rfl rfl ?_
          refine g_iconst X d6_20 rfl (q := 21) (v := 0) rfl ?_
          refine g_iaload X A_a2 ⟨by decide, by decide⟩ d6_21 (q := 22) rfl ?_
          refine g_icmpB X d6_22 (Or.inr (Or.inr rfl)) (q := 25) rfl (by decide) (t := 85) rfl (fun (c4 : (F 0) = (G 0)) => ?_) (fun (c4 : ¬ ((F 0) = (G 0))) => ?_)
          · skip
            refine g_iloadN X d6_25 rfl (q := 26) rfl ?_
            refine g_iconst X d6_26 rfl (q := 27) (v := 1) rfl ?_
            refine g_icmpB X d6_27 (Or.inr (Or.inl rfl)) (q := 30) rfl (by decide) (t := 39) rfl (fun (c5 : (1 : Int32) < (1 : Int32)) => ?_) (fun (c5 : ¬ ((1 : Int32) < (1 : Int32))) => ?_)
            · skip
              exact absurd c5 (by decide)
            · skip
              refine g_iloadN X d6_39 rfl (q := 40) rfl ?_
              refine g_iconst X d6_40 rfl (q := 41) (v := 2) rfl ?_
              refine g_icmpB X d6_41 (Or.inr (Or.inl rfl)) (q := 44) rfl (by decide) (t := 53) rfl (fun (c6 : (2 : Int32) < (1 : Int32)) => ?_) (fun (c6 : ¬ ((2 : Int32) < (1 : Int32))) => ?_)
              · skip
                exact absurd c6 (by decide)
              · skip
                refine g_iloadN X d6_53 rfl (q := 54) rfl ?_
                refine g_iconst X d6_54 rfl (q := 55) (v := 3) rfl ?_
                refine g_icmpB X d6_55 (Or.inr (Or.inl rfl)) (q := 58) rfl (by decide) (t := 67) rfl (fun (c7 : (3 : Int32) < (1 : Int32)) => ?_) (fun (c7 : ¬ ((3 : Int32) < (1 : Int32))) => ?_)
                · skip
                  exact absurd c7 (by decide)
                · skip
                  refine g_iloadN X d6_67 rfl (q := 68) rfl ?_
                  refine g_iconst X d6_68 rfl (q := 69) (v := 4) rfl ?_
                  refine g_icmpB X d6_69 (Or.inr (Or.inl rfl)) (q := 72) rfl (by decide) (t := 81) rfl (fun (c8 : (4 : Int32) < (1 : Int32)) => ?_) (fun (c8 : ¬ ((4 : Int32) < (1 : Int32))) => ?_)
                  · skip
                    exact absurd c8 (by decide)
                  · skip
                    refine g_iconst X d6_81 rfl (q := 82) (v := 1) rfl ?_
                    refine g_goto X d6_82 (by decide) (q := 86) rfl ?_
                    exact J86_0 T X _ (bI_t c4)
          · skip
            refine g_iconst X d6_85 rfl (q := 86) (v := 0) rfl ?_
            exact J86_0 T X _ (bI_f c4)
        · skip
          exact absurd c3 (by decide)
      · skip
        exact absurd c2 (by decide)
    · skip
      exact absurd c1 (by decide)
theorem pn6_n2 : plainName "com/example/eulay/eulay/generation/PermutationsNextPinLaw" = true := by first | (simp [plainName, overriddenIn]; done) | decide +kernel
theorem ef6_n2 (m : MethodId) (x0 : Addr) (x1 : Addr) (x2 : Int32) : entryFrame m #[(.ref x0), (.ref x1), (.int x2)] 3 = mkF m 0 #[.val (.ref x0), .val (.ref x1), .val (.int x2)] [] := by first | (simp [entryFrame, mkF, argsToLocals, Value.category]; done) | rfl
set_option maxRecDepth 65536 in
set_option maxHeartbeats 40000000 in
theorem rm6_n2 (l : Launch) (Z : State) (a0 : Array Value) (hw : ∀ d ∈ tables_1, d.before a0 Z = true) (ws : List Jvm.Cond) (a1 : Addr) (a2 : Addr) (F : Nat → Int32) (G : Nat → Int32) (h0 : Heap) (n0 : Nat) (Z0 : n0 ≤ h0.size) (A_a1 : AI Z h0 a1 .int 2 F) (A_a2 : AI Z h0 a2 .int 2 G) :
    Met l Z (⟨"com/example/eulay/eulay/generation/PermutationsNextPinLaw", "same", "([I[II)Z"⟩ : MethodName) method_8_code 3 (some .boolean) ({ frames := 0, cells := 0, slots := 0, locals := 0 } : Room) ws n0 #[(.ref a1), (.ref a2), (.int (2 : Int32))] h0 (fun v h' => v = some (.int (bI (((F 0) = (G 0)) ∧ ((F 1) = (G 1))))) ∧ h0 = h') := by
  refine Met.intro (plainFor_of_name pn6_n2) Z0 ?_
  intro p e s m below meth c T X
  refine g_cast (ef6_n2 m a1 a2 (2 : Int32)) ?_
  refine g_aloadN X d6_0 rfl (q := 1) rfl rfl ?_
  refine g_alenI X A_a1 d6_1 (q := 2) rfl ?_
  show Goes p e below s _ n0 _ (T.setTop (mkF m 2 #[.val (.ref a1), .val (.ref a2), .val (.int (2 : Int32))] [(.int (2 : Int32))]))
  refine g_iloadN X d6_2 rfl (q := 3) rfl ?_
  refine g_jT1 X (J := 86) (P := fun (s0_86 : Int32) => s0_86 = (bI (((F 0) = (G 0)) ∧ ((F 1) = (G 1))))) (L := fun s0_86 => #[.val (.ref a1), .val (.ref a2), .val (.int (2 : Int32))]) (S := fun s0_86 => [(.int s0_86)]) ?_ ?_
  · intro T X s0_86 hs0_86
    replace hs0_86 : s0_86 = (bI (((F 0) = (G 0)) ∧ ((F 1) = (G 1)))) := hs0_86
    subst hs0_86
    show Goes p e below s _ n0 _ (T.setTop (mkF m 86 #[.val (.ref a1), .val (.ref a2), .val (.int (2 : Int32))] [(.int (bI (((F 0) = (G 0)) ∧ ((F 1) = (G 1)))))]))
    exact g_retZ X d6_86 (by decide) (by decide) (bI_01 _) ⟨rfl, rfl⟩
  · intro J86_0
    refine g_icmpB X d6_3 (Or.inr (Or.inr rfl)) (q := 6) rfl (by decide) (t := 85) rfl (fun (c1 : (2 : Int32) = (2 : Int32)) => ?_) (fun (c1 : ¬ ((2 : Int32) = (2 : Int32))) => ?_)
    · skip
      refine g_aloadN X d6_6 rfl (q := 7) rfl rfl ?_
      refine g_alenI X A_a2 d6_7 (q := 8) rfl ?_
      show Goes p e below s _ n0 _ (T.setTop (mkF m 8 #[.val (.ref a1), .val (.ref a2), .val (.int (2 : Int32))] [(.int (2 : Int32))]))
      refine g_iloadN X d6_8 rfl (q := 9) rfl ?_
      refine g_icmpB X d6_9 (Or.inr (Or.inr rfl)) (q := 12) rfl (by decide) (t := 85) rfl (fun (c2 : (2 : Int32) = (2 : Int32)) => ?_) (fun (c2 : ¬ ((2 : Int32) = (2 : Int32))) => ?_)
      · skip
        refine g_iloadN X d6_12 rfl (q := 13) rfl ?_
        refine g_ifB X d6_13 (Or.inr (Or.inl rfl)) (q := 16) rfl (by decide) (t := 25) rfl (fun (c3 : (0 : Int32) < (2 : Int32)) => ?_) (fun (c3 : ¬ ((0 : Int32) < (2 : Int32))) => ?_)
        · skip
          refine g_aloadN X d6_16 rfl (q := 17) rfl rfl ?_
          refine g_iconst X d6_17 rfl (q := 18) (v := 0) rfl ?_
          refine g_iaload X A_a1 ⟨by decide, by decide⟩ d6_18 (q := 19) rfl ?_
          refine g_aloadN X d6_19 rfl (q := 20) rfl rfl ?_
          refine g_iconst X d6_20 rfl (q := 21) (v := 0) rfl ?_
          refine g_iaload X A_a2 ⟨by decide, by decide⟩ d6_21 (q := 22) rfl ?_
          refine g_icmpB X d6_22 (Or.inr (Or.inr rfl)) (q := 25) rfl (by decide) (t := 85) rfl (fun (c4 : (F 0) = (G 0)) => ?_) (fun (c4 : ¬ ((F 0) = (G 0))) => ?_)
          · skip
            refine g_iloadN X d6_25 rfl (q := 26) rfl ?_
            refine g_iconst X d6_26 rfl (q := 27) (v := 1) rfl ?_
            refine g_icmpB X d6_27 (Or.inr (Or.inl rfl)) (q := 30) rfl (by decide) (t := 39) rfl (fun (c5 : (1 : Int32) < (2 : Int32)) => ?_) (fun (c5 : ¬ ((1 : Int32) < (2 : Int32))) => ?_)
            · skip
              refine g_aloadN X d6_30 rfl (q := 31) rfl rfl ?_
              refine g_iconst X d6_31 rfl (q := 32) (v := 1) rfl ?_
              refine g_iaload X A_a1 ⟨by decide, by decide⟩ d6_32 (q := 33) rfl ?_
              refine g_aloadN X d6_33 rfl (q := 34) rfl rfl ?_
              refine g_iconst X d6_34 rfl (q := 35) (v := 1) rfl ?_
              refine g_iaload X A_a2 ⟨by decide, by decide⟩ d6_35 (q := 36) rfl ?_
              refine g_icmpB X d6_36 (Or.inr (Or.inr rfl)) (q := 39) rfl (by decide) (t := 85) rfl (fun (c6 : (F 1) = (G 1)) => ?_) (fun (c6 : ¬ ((F 1) = (G 1))) => ?_)
              · skip
                refine g_iloadN X d6_39 rfl (q := 40) rfl ?_
                refine g_iconst X d6_40 rfl (q := 41) (v := 2) rfl ?_
                refine g_icmpB X d6_41 (Or.inr (Or.inl rfl)) (q := 44) rfl (by decide) (t := 53) rfl (fun (c7 : (2 : Int32) < (2 : Int32)) => ?_) (fun (c7 : ¬ ((2 : Int32) < (2 : Int32))) => ?_)
                · skip
                  exact absurd c7 (by decide)
                · skip
                  refine g_iloadN X d6_53 rfl (q := 54) rfl ?_
                  refine g_iconst X d6_54 rfl (q := 55) (v := 3) rfl ?_
                  refine g_icmpB X d6_55 (Or.inr (Or.inl rfl)) (q := 58) rfl (by decide) (t := 67) rfl (fun (c8 : (3 : Int32) < (2 : Int32)) => ?_) (fun (c8 : ¬ ((3 : Int32) < (2 : Int32))) => ?_)
                  · skip
                    exact absurd c8 (by decide)
                  · skip
                    refine g_iloadN X d6_67 rfl (q := 68) rfl ?_
                    refine g_iconst X d6_68 rfl (q := 69) (v := 4) rfl ?_
                    refine g_icmpB X d6_69 (Or.inr (Or.inl rfl)) (q := 72) rfl (by decide) (t := 81) rfl (fun (c9 : (4 : Int32) < (2 : Int32)) => ?_) (fun (c9 : ¬ ((4 : Int32) < (2 : Int32))) => ?_)
                    · skip
                      exact absurd c9 (by decide)
                    · skip
                      refine g_iconst X d6_81 rfl (q := 82) (v := 1) rfl ?_
                      refine g_goto X d6_82 (by decide) (q := 86) rfl ?_
                      exact J86_0 T X _ (bI_t ⟨c4, c6⟩)
              · skip
                refine g_iconst X d6_85 rfl (q := 86) (v := 0) rfl ?_
                exact J86_0 T X _ (bI_f (fun z => c6 z.2))
            · skip
              exact absurd c5 (by decide)
          · skip
            refine g_iconst X d6_85 rfl (q := 86) (v := 0) rfl ?_
            exact J86_0 T X _ (bI_f (fun z => c4 z.1))
        · skip
          exact absurd c3 (by decide)
      · skip
        exact absurd c2 (by decide)
    · skip
      exact absurd c1 (by decide)
theorem pn6_n3 : plainName "com/example/eulay/eulay/generation/PermutationsNextPinLaw" = true := by first | (simp [plainName, overriddenIn]; done) | decide +kernel
theorem ef6_n3 (m : MethodId) (x0 : Addr) (x1 : Addr) (x2 : Int32) : entryFrame m #[(.ref x0), (.ref x1), (.int x2)] 3 = mkF m 0 #[.val (.ref x0), .val (.ref x1), .val (.int x2)] [] := by first | (simp [entryFrame, mkF, argsToLocals, Value.category]; done) | rfl
set_option maxRecDepth 65536 in
set_option maxHeartbeats 40000000 in
theorem rm6_n3 (l : Launch) (Z : State) (a0 : Array Value) (hw : ∀ d ∈ tables_1, d.before a0 Z = true) (ws : List Jvm.Cond) (a1 : Addr) (a2 : Addr) (F : Nat → Int32) (G : Nat → Int32) (h0 : Heap) (n0 : Nat) (Z0 : n0 ≤ h0.size) (A_a1 : AI Z h0 a1 .int 3 F) (A_a2 : AI Z h0 a2 .int 3 G) :
    Met l Z (⟨"com/example/eulay/eulay/generation/PermutationsNextPinLaw", "same", "([I[II)Z"⟩ : MethodName) method_8_code 3 (some .boolean) ({ frames := 0, cells := 0, slots := 0, locals := 0 } : Room) ws n0 #[(.ref a1), (.ref a2), (.int (3 : Int32))] h0 (fun v h' => v = some (.int (bI (((F 0) = (G 0)) ∧ (((F 1) = (G 1)) ∧ ((F 2) = (G 2)))))) ∧ h0 = h') := by
  refine Met.intro (plainFor_of_name pn6_n3) Z0 ?_
  intro p e s m below meth c T X
  refine g_cast (ef6_n3 m a1 a2 (3 : Int32)) ?_
  refine g_aloadN X d6_0 rfl (q := 1) rfl rfl ?_
  refine g_alenI X A_a1 d6_1 (q := 2) rfl ?_
  show Goes p e below s _ n0 _ (T.setTop (mkF m 2 #[.val (.ref a1), .val (.ref a2), .val (.int (3 : Int32))] [(.int (3 : Int32))]))
  refine g_iloadN X d6_2 rfl (q := 3) rfl ?_
  refine g_jT1 X (J := 86) (P := fun (s0_86 : Int32) => s0_86 = (bI (((F 0) = (G 0)) ∧ (((F 1) = (G 1)) ∧ ((F 2) = (G 2)))))) (L := fun s0_86 => #[.val (.ref a1), .val (.ref a2), .val (.int (3 : Int32))]) (S := fun s0_86 => [(.int s0_86)]) ?_ ?_
  · intro T X s0_86 hs0_86
    replace hs0_86 : s0_86 = (bI (((F 0) = (G 0)) ∧ (((F 1) = (G 1)) ∧ ((F 2) = (G 2))))) := hs0_86
    subst hs0_86
    show Goes p e below s _ n0 _ (T.setTop (mkF m 86 #[.val (.ref a1), .val (.ref a2), .val (.int (3 : Int32))] [(.int (bI (((F 0) = (G 0)) ∧ (((F 1) = (G 1)) ∧ ((F 2) = (G 2))))))]))
    exact g_retZ X d6_86 (by decide) (by decide) (bI_01 _) ⟨rfl, rfl⟩
  · intro J86_0
    refine g_icmpB X d6_3 (Or.inr (Or.inr rfl)) (q := 6) rfl (by decide) (t := 85) rfl (fun (c1 : (3 : Int32) = (3 : Int32)) => ?_) (fun (c1 : ¬ ((3 : Int32) = (3 : Int32))) => ?_)
    · skip
      refine g_aloadN X d6_6 rfl (q := 7) rfl rfl ?_
      refine g_alenI X A_a2 d6_7 (q := 8) rfl ?_
      show Goes p e below s _ n0 _ (T.setTop (mkF m 8 #[.val (.ref a1), .val (.ref a2), .val (.int (3 : Int32))] [(.int (3 : Int32))]))
      refine g_iloadN X d6_8 rfl (q := 9) rfl ?_
      refine g_icmpB X d6_9 (Or.inr (Or.inr rfl)) (q := 12) rfl (by decide) (t := 85) rfl (fun (c2 : (3 : Int32) = (3 : Int32)) => ?_) (fun (c2 : ¬ ((3 : Int32) = (3 : Int32))) => ?_)
      · skip
        refine g_iloadN X d6_12 rfl (q := 13) rfl ?_
        refine g_ifB X d6_13 (Or.inr (Or.inl rfl)) (q := 16) rfl (by decide) (t := 25) rfl (fun (c3 : (0 : Int32) < (3 : Int32)) => ?_) (fun (c3 : ¬ ((0 : Int32) < (3 : Int32))) => ?_)
        · skip
          refine g_aloadN X d6_16 rfl (q := 17) rfl rfl ?_
          refine g_iconst X d6_17 rfl (q := 18) (v := 0) rfl ?_
          refine g_iaload X A_a1 ⟨by decide, by decide⟩ d6_18 (q := 19) rfl ?_
          refine g_aloadN X d6_19 rfl (q := 20) rfl rfl ?_
          refine g_iconst X d6_20 rfl (q := 21) (v := 0) rfl ?_
          refine g_iaload X A_a2 ⟨by decide, by decide⟩ d6_21 (q := 22) rfl ?_
          refine g_icmpB X d6_22 (Or.inr (Or.inr rfl)) (q := 25) rfl (by decide) (t := 85) rfl (fun (c4 : (F 0) = (G 0)) => ?_) (fun (c4 : ¬ ((F 0) = (G 0))) => ?_)
          · skip
            refine g_iloadN X d6_25 rfl (q := 26) rfl ?_
            refine g_iconst X d6_26 rfl (q := 27) (v := 1) rfl ?_
            refine g_icmpB X d6_27 (Or.inr (Or.inl rfl)) (q := 30) rfl (by decide) (t := 39) rfl (fun (c5 : (1 : Int32) < (3 : Int32)) => ?_) (fun (c5 : ¬ ((1 : Int32) < (3 : Int32))) => ?_)
            · skip
              refine g_aloadN X d6_30 rfl (q := 31) rfl rfl ?_
              refine g_iconst X d6_31 rfl (q := 32) (v := 1) rfl ?_
              refine g_iaload X A_a1 ⟨by decide, by decide⟩ d6_32 (q := 33) rfl ?_
              refine g_aloadN X d6_33 rfl (q := 34) rfl rfl ?_
              refine g_iconst X d6_34 rfl (q := 35) (v := 1) rfl ?_
              refine g_iaload X A_a2 ⟨by decide, by decide⟩ d6_35 (q := 36) rfl ?_
              refine g_icmpB X d6_36 (Or.inr (Or.inr rfl)) (q := 39) rfl (by decide) (t := 85) rfl (fun (c6 : (F 1) = (G 1)) => ?_) (fun (c6 : ¬ ((F 1) = (G 1))) => ?_)
              · skip
                refine g_iloadN X d6_39 rfl (q := 40) rfl ?_
                refine g_iconst X d6_40 rfl (q := 41) (v := 2) rfl ?_
                refine g_icmpB X d6_41 (Or.inr (Or.inl rfl)) (q := 44) rfl (by decide) (t := 53) rfl (fun (c7 : (2 : Int32) < (3 : Int32)) => ?_) (fun (c7 : ¬ ((2 : Int32) < (3 : Int32))) => ?_)
                · skip
                  refine g_aloadN X d6_44 rfl (q := 45) rfl rfl ?_
                  refine g_iconst X d6_45 rfl (q := 46) (v := 2) rfl ?_
                  refine g_iaload X A_a1 ⟨by decide, by decide⟩ d6_46 (q := 47) rfl ?_
                  refine g_aloadN X d6_47 rfl (q := 48) rfl rfl ?_
                  refine g_iconst X d6_48 rfl (q := 49) (v := 2) rfl ?_
                  refine g_iaload X A_a2 ⟨by decide, by decide⟩ d6_49 (q := 50) rfl ?_
                  refine g_icmpB X d6_50 (Or.inr (Or.inr rfl)) (q := 53) rfl (by decide) (t := 85) rfl (fun (c8 : (F 2) = (G 2)) => ?_) (fun (c8 : ¬ ((F 2) = (G 2))) => ?_)
                  · skip
                    refine g_iloadN X d6_53 rfl (q := 54) rfl ?_
                    refine g_iconst X d6_54 rfl (q := 55) (v := 3) rfl ?_
                    refine g_icmpB X d6_55 (Or.inr (Or.inl rfl)) (q := 58) rfl (by decide) (t := 67) rfl (fun (c9 : (3 : Int32) < (3 : Int32)) => ?_) (fun (c9 : ¬ ((3 : Int32) < (3 : Int32))) => ?_)
                    · skip
                      exact absurd c9 (by decide)
                    · skip
                      refine g_iloadN X d6_67 rfl (q := 68) rfl ?_
                      refine g_iconst X d6_68 rfl (q := 69) (v := 4) rfl ?_
                      refine g_icmpB X d6_69 (Or.inr (Or.inl rfl)) (q := 72) rfl (by decide) (t := 81) rfl (fun (c10 : (4 : Int32) < (3 : Int32)) => ?_) (fun (c10 : ¬ ((4 : Int32) < (3 : Int32))) => ?_)
                      · skip
                        exact absurd c10 (by decide)
                      · skip
                        refine g_iconst X d6_81 rfl (q := 82) (v := 1) rfl ?_
                        refine g_goto X d6_82 (by decide) (q := 86) rfl ?_
                        exact J86_0 T X _ (bI_t ⟨c4, ⟨c6, c8⟩⟩)
                  · skip
                    refine g_iconst X d6_85 rfl (q := 86) (v := 0) rfl ?_
                    exact J86_0 T X _ (bI_f (fun z => (fun z => c8 z.2) z.2))
                · skip
                  exact absurd c7 (by decide)
              · skip
                refine g_iconst X d6_85 rfl (q := 86) (v := 0) rfl ?_
                exact J86_0 T X _ (bI_f (fun z => (fun z => c6 z.1) z.2))
            · skip
              exact absurd c5 (by decide)
          · skip
            refine g_iconst X d6_85 rfl (q := 86) (v := 0) rfl ?_
            exact J86_0 T X _ (bI_f (fun z => c4 z.1))
        · skip
          exact absurd c3 (by decide)
      · skip
        exact absurd c2 (by decide)
    · skip
      exact absurd c1 (by decide)
theorem pn6_n4 : plainName "com/example/eulay/eulay/generation/PermutationsNextPinLaw" = true := by first | (simp [plainName, overriddenIn]; done) | decide +kernel
theorem ef6_n4 (m : MethodId) (x0 : Addr) (x1 : Addr) (x2 : Int32) : entryFrame m #[(.ref x0), (.ref x1), (.int x2)] 3 = mkF m 0 #[.val (.ref x0), .val (.ref x1), .val (.int x2)] [] := by first | (simp [entryFrame, mkF, argsToLocals, Value.category]; done) | rfl
set_option maxRecDepth 65536 in
set_option maxHeartbeats 40000000 in
theorem rm6_n4 (l : Launch) (Z : State) (a0 : Array Value) (hw : ∀ d ∈ tables_1, d.before a0 Z = true) (ws : List Jvm.Cond) (a1 : Addr) (a2 : Addr) (F : Nat → Int32) (G : Nat → Int32) (h0 : Heap) (n0 : Nat) (Z0 : n0 ≤ h0.size) (A_a1 : AI Z h0 a1 .int 4 F) (A_a2 : AI Z h0 a2 .int 4 G) :
    Met l Z (⟨"com/example/eulay/eulay/generation/PermutationsNextPinLaw", "same", "([I[II)Z"⟩ : MethodName) method_8_code 3 (some .boolean) ({ frames := 0, cells := 0, slots := 0, locals := 0 } : Room) ws n0 #[(.ref a1), (.ref a2), (.int (4 : Int32))] h0 (fun v h' => v = some (.int (bI (((F 0) = (G 0)) ∧ (((F 1) = (G 1)) ∧ (((F 2) = (G 2)) ∧ ((F 3) = (G 3))))))) ∧ h0 = h') := by
  refine Met.intro (plainFor_of_name pn6_n4) Z0 ?_
  intro p e s m below meth c T X
  refine g_cast (ef6_n4 m a1 a2 (4 : Int32)) ?_
  refine g_aloadN X d6_0 rfl (q := 1) rfl rfl ?_
  refine g_alenI X A_a1 d6_1 (q := 2) rfl ?_
  show Goes p e below s _ n0 _ (T.setTop (mkF m 2 #[.val (.ref a1), .val (.ref a2), .val (.int (4 : Int32))] [(.int (4 : Int32))]))
  refine g_iloadN X d6_2 rfl (q := 3) rfl ?_
  refine g_jT1 X (J := 86) (P := fun (s0_86 : Int32) => s0_86 = (bI (((F 0) = (G 0)) ∧ (((F 1) = (G 1)) ∧ (((F 2) = (G 2)) ∧ ((F 3) = (G 3))))))) (L := fun s0_86 => #[.val (.ref a1), .val (.ref a2), .val (.int (4 : Int32))]) (S := fun s0_86 => [(.int s0_86)]) ?_ ?_
  · intro T X s0_86 hs0_86
    replace hs0_86 : s0_86 = (bI (((F 0) = (G 0)) ∧ (((F 1) = (G 1)) ∧ (((F 2) = (G 2)) ∧ ((F 3) = (G 3)))))) := hs0_86
    subst hs0_86
    show Goes p e below s _ n0 _ (T.setTop (mkF m 86 #[.val (.ref a1), .val (.ref a2), .val (.int (4 : Int32))] [(.int (bI (((F 0) = (G 0)) ∧ (((F 1) = (G 1)) ∧ (((F 2) = (G 2)) ∧ ((F 3) = (G 3)))))))]))
    exact g_retZ X d6_86 (by decide) (by decide) (bI_01 _) ⟨rfl, rfl⟩
  · intro J86_0
    refine g_icmpB X d6_3 (Or.inr (Or.inr rfl)) (q := 6) rfl (by decide) (t := 85) rfl (fun (c1 : (4 : Int32) = (4 : Int32)) => ?_) (fun (c1 : ¬ ((4 : Int32) = (4 : Int32))) => ?_)
    · skip
      refine g_aloadN X d6_6 rfl (q := 7) rfl rfl ?_
      refine g_alenI X A_a2 d6_7 (q := 8) rfl ?_
      show Goes p e below s _ n0 _ (T.setTop (mkF m 8 #[.val (.ref a1), .val (.ref a2), .val (.int (4 : Int32))] [(.int (4 : Int32))]))
      refine g_iloadN X d6_8 rfl (q := 9) rfl ?_
      refine g_icmpB X d6_9 (Or.inr (Or.inr rfl)) (q := 12) rfl (by decide) (t := 85) rfl (fun (c2 : (4 : Int32) = (4 : Int32)) => ?_) (fun (c2 : ¬ ((4 : Int32) = (4 : Int32))) => ?_)
      · skip
        refine g_iloadN X d6_12 rfl (q := 13) rfl ?_
        refine g_ifB X d6_13 (Or.inr (Or.inl rfl)) (q := 16) rfl (by decide) (t := 25) rfl (fun (c3 : (0 : Int32) < (4 : Int32)) => ?_) (fun (c3 : ¬ ((0 : Int32) < (4 : Int32))) => ?_)
        · skip
          refine g_aloadN X d6_16 rfl (q := 17) rfl rfl ?_
          refine g_iconst X d6_17 rfl (q := 18) (v := 0) rfl ?_
          refine g_iaload X A_a1 ⟨by decide, by decide⟩ d6_18 (q := 19) rfl ?_
          refine g_aloadN X d6_19 rfl (q := 20) rfl rfl ?_
          refine g_iconst X d6_20 rfl (q := 21) (v := 0) rfl ?_
          refine g_iaload X A_a2 ⟨by decide, by decide⟩ d6_21 (q := 22) rfl ?_
          refine g_icmpB X d6_22 (Or.inr (Or.inr rfl)) (q := 25) rfl (by decide) (t := 85) rfl (fun (c4 : (F 0) = (G 0)) => ?_) (fun (c4 : ¬ ((F 0) = (G 0))) => ?_)
          · skip
            refine g_iloadN X d6_25 rfl (q := 26) rfl ?_
            refine g_iconst X d6_26 rfl (q := 27) (v := 1) rfl ?_
            refine g_icmpB X d6_27 (Or.inr (Or.inl rfl)) (q := 30) rfl (by decide) (t := 39) rfl (fun (c5 : (1 : Int32) < (4 : Int32)) => ?_) (fun (c5 : ¬ ((1 : Int32) < (4 : Int32))) => ?_)
            · skip
              refine g_aloadN X d6_30 rfl (q := 31) rfl rfl ?_
              refine g_iconst X d6_31 rfl (q := 32) (v := 1) rfl ?_
              refine g_iaload X A_a1 ⟨by decide, by decide⟩ d6_32 (q := 33) rfl ?_
              refine g_aloadN X d6_33 rfl (q := 34) rfl rfl ?_
              refine g_iconst X d6_34 rfl (q := 35) (v := 1) rfl ?_
              refine g_iaload X A_a2 ⟨by decide, by decide⟩ d6_35 (q := 36) rfl ?_
              refine g_icmpB X d6_36 (Or.inr (Or.inr rfl)) (q := 39) rfl (by decide) (t := 85) rfl (fun (c6 : (F 1) = (G 1)) => ?_) (fun (c6 : ¬ ((F 1) = (G 1))) => ?_)
              · skip
                refine g_iloadN X d6_39 rfl (q := 40) rfl ?_
                refine g_iconst X d6_40 rfl (q := 41) (v := 2) rfl ?_
                refine g_icmpB X d6_41 (Or.inr (Or.inl rfl)) (q := 44) rfl (by decide) (t := 53) rfl (fun (c7 : (2 : Int32) < (4 : Int32)) => ?_) (fun (c7 : ¬ ((2 : Int32) < (4 : Int32))) => ?_)
                · skip
                  refine g_aloadN X d6_44 rfl (q := 45) rfl rfl ?_
                  refine g_iconst X d6_45 rfl (q := 46) (v := 2) rfl ?_
                  refine g_iaload X A_a1 ⟨by decide, by decide⟩ d6_46 (q := 47) rfl ?_
                  refine g_aloadN X d6_47 rfl (q := 48) rfl rfl ?_
                  refine g_iconst X d6_48 rfl (q := 49) (v := 2) rfl ?_
                  refine g_iaload X A_a2 ⟨by decide, by decide⟩ d6_49 (q := 50) rfl ?_
                  refine g_icmpB X d6_50 (Or.inr (Or.inr rfl)) (q := 53) rfl (by decide) (t := 85) rfl (fun (c8 : (F 2) = (G 2)) => ?_) (fun (c8 : ¬ ((F 2) = (G 2))) => ?_)
                  · skip
                    refine g_iloadN X d6_53 rfl (q := 54) rfl ?_
                    refine g_iconst X d6_54 rfl (q := 55) (v := 3) rfl ?_
                    refine g_icmpB X d6_55 (Or.inr (Or.inl rfl)) (q := 58) rfl (by decide) (t := 67) rfl (fun (c9 : (3 : Int32) < (4 : Int32)) => ?_) (fun (c9 : ¬ ((3 : Int32) < (4 : Int32))) => ?_)
                    · skip
                      refine g_aloadN X d6_58 rfl (q := 59) rfl rfl ?_
                      refine g_iconst X d6_59 rfl (q := 60) (v := 3) rfl ?_
                      refine g_iaload X A_a1 ⟨by decide, by decide⟩ d6_60 (q := 61) rfl ?_
                      refine g_aloadN X d6_61 rfl (q := 62) rfl rfl ?_
                      refine g_iconst X d6_62 rfl (q := 63) (v := 3) rfl ?_
                      refine g_iaload X A_a2 ⟨by decide, by decide⟩ d6_63 (q := 64) rfl ?_
                      refine g_icmpB X d6_64 (Or.inr (Or.inr rfl)) (q := 67) rfl (by decide) (t := 85) rfl (fun (c10 : (F 3) = (G 3)) => ?_) (fun (c10 : ¬ ((F 3) = (G 3))) => ?_)
                      · skip
                        refine g_iloadN X d6_67 rfl (q := 68) rfl ?_
                        refine g_iconst X d6_68 rfl (q := 69) (v := 4) rfl ?_
                        refine g_icmpB X d6_69 (Or.inr (Or.inl rfl)) (q := 72) rfl (by decide) (t := 81) rfl (fun (c11 : (4 : Int32) < (4 : Int32)) => ?_) (fun (c11 : ¬ ((4 : Int32) < (4 : Int32))) => ?_)
                        · skip
                          exact absurd c11 (by decide)
                        · skip
                          refine g_iconst X d6_81 rfl (q := 82) (v := 1) rfl ?_
                          refine g_goto X d6_82 (by decide) (q := 86) rfl ?_
                          exact J86_0 T X _ (bI_t ⟨c4, ⟨c6, ⟨c8, c10⟩⟩⟩)
                      · skip
                        refine g_iconst X d6_85 rfl (q := 86) (v := 0) rfl ?_
                        exact J86_0 T X _ (bI_f (fun z => (fun z => (fun z => c10 z.2) z.2) z.2))
                    · skip
                      exact absurd c9 (by decide)
                  · skip
                    refine g_iconst X d6_85 rfl (q := 86) (v := 0) rfl ?_
                    exact J86_0 T X _ (bI_f (fun z => (fun z => (fun z => c8 z.1) z.2) z.2))
                · skip
                  exact absurd c7 (by decide)
              · skip
                refine g_iconst X d6_85 rfl (q := 86) (v := 0) rfl ?_
                exact J86_0 T X _ (bI_f (fun z => (fun z => c6 z.1) z.2))
            · skip
              exact absurd c5 (by decide)
          · skip
            refine g_iconst X d6_85 rfl (q := 86) (v := 0) rfl ?_
            exact J86_0 T X _ (bI_f (fun z => c4 z.1))
        · skip
          exact absurd c3 (by decide)
      · skip
        exact absurd c2 (by decide)
    · skip
      exact absurd c1 (by decide)
theorem pn6_n5 : plainName "com/example/eulay/eulay/generation/PermutationsNextPinLaw" = true := by first | (simp [plainName, overriddenIn]; done) | decide +kernel
theorem ef6_n5 (m : MethodId) (x0 : Addr) (x1 : Addr) (x2 : Int32) : entryFrame m #[(.ref x0), (.ref x1), (.int x2)] 3 = mkF m 0 #[.val (.ref x0), .val (.ref x1), .val (.int x2)] [] := by first | (simp [entryFrame, mkF, argsToLocals, Value.category]; done) | rfl
set_option maxRecDepth 65536 in
set_option maxHeartbeats 40000000 in
theorem rm6_n5 (l : Launch) (Z : State) (a0 : Array Value) (hw : ∀ d ∈ tables_1, d.before a0 Z = true) (ws : List Jvm.Cond) (a1 : Addr) (a2 : Addr) (F : Nat → Int32) (G : Nat → Int32) (h0 : Heap) (n0 : Nat) (Z0 : n0 ≤ h0.size) (A_a1 : AI Z h0 a1 .int 5 F) (A_a2 : AI Z h0 a2 .int 5 G) :
    Met l Z (⟨"com/example/eulay/eulay/generation/PermutationsNextPinLaw", "same", "([I[II)Z"⟩ : MethodName) method_8_code 3 (some .boolean) ({ frames := 0, cells := 0, slots := 0, locals := 0 } : Room) ws n0 #[(.ref a1), (.ref a2), (.int (5 : Int32))] h0 (fun v h' => v = some (.int (bI (((F 0) = (G 0)) ∧ (((F 1) = (G 1)) ∧ (((F 2) = (G 2)) ∧ (((F 3) = (G 3)) ∧ ((F 4) = (G 4)))))))) ∧ h0 = h') := by
  refine Met.intro (plainFor_of_name pn6_n5) Z0 ?_
  intro p e s m below meth c T X
  refine g_cast (ef6_n5 m a1 a2 (5 : Int32)) ?_
  refine g_aloadN X d6_0 rfl (q := 1) rfl rfl ?_
  refine g_alenI X A_a1 d6_1 (q := 2) rfl ?_
  show Goes p e below s _ n0 _ (T.setTop (mkF m 2 #[.val (.ref a1), .val (.ref a2), .val (.int (5 : Int32))] [(.int (5 : Int32))]))
  refine g_iloadN X d6_2 rfl (q := 3) rfl ?_
  refine g_jT1 X (J := 86) (P := fun (s0_86 : Int32) => s0_86 = (bI (((F 0) = (G 0)) ∧ (((F 1) = (G 1)) ∧ (((F 2) = (G 2)) ∧ (((F 3) = (G 3)) ∧ ((F 4) = (G 4)))))))) (L := fun s0_86 => #[.val (.ref a1), .val (.ref a2), .val (.int (5 : Int32))]) (S := fun s0_86 => [(.int s0_86)]) ?_ ?_
  · intro T X s0_86 hs0_86
    replace hs0_86 : s0_86 = (bI (((F 0) = (G 0)) ∧ (((F 1) = (G 1)) ∧ (((F 2) = (G 2)) ∧ (((F 3) = (G 3)) ∧ ((F 4) = (G 4))))))) := hs0_86
    subst hs0_86
    show Goes p e below s _ n0 _ (T.setTop (mkF m 86 #[.val (.ref a1), .val (.ref a2), .val (.int (5 : Int32))] [(.int (bI (((F 0) = (G 0)) ∧ (((F 1) = (G 1)) ∧ (((F 2) = (G 2)) ∧ (((F 3) = (G 3)) ∧ ((F 4) = (G 4))))))))]))
    exact g_retZ X d6_86 (by decide) (by decide) (bI_01 _) ⟨rfl, rfl⟩
  · intro J86_0
    refine g_icmpB X d6_3 (Or.inr (Or.inr rfl)) (q := 6) rfl (by decide) (t := 85) rfl (fun (c1 : (5 : Int32) = (5 : Int32)) => ?_) (fun (c1 : ¬ ((5 : Int32) = (5 : Int32))) => ?_)
    · skip
      refine g_aloadN X d6_6 rfl (q := 7) rfl rfl ?_
      refine g_alenI X A_a2 d6_7 (q := 8) rfl ?_
      show Goes p e below s _ n0 _ (T.setTop (mkF m 8 #[.val (.ref a1), .val (.ref a2), .val (.int (5 : Int32))] [(.int (5 : Int32))]))
      refine g_iloadN X d6_8 rfl (q := 9) rfl ?_
      refine g_icmpB X d6_9 (Or.inr (Or.inr rfl)) (q := 12) rfl (by decide) (t := 85) rfl (fun (c2 : (5 : Int32) = (5 : Int32)) => ?_) (fun (c2 : ¬ ((5 : Int32) = (5 : Int32))) => ?_)
      · skip
        refine g_iloadN X d6_12 rfl (q := 13) rfl ?_
        refine g_ifB X d6_13 (Or.inr (Or.inl rfl)) (q := 16) rfl (by decide) (t := 25) rfl (fun (c3 : (0 : Int32) < (5 : Int32)) => ?_) (fun (c3 : ¬ ((0 : Int32) < (5 : Int32))) => ?_)
        · skip
          refine g_aloadN X d6_16 rfl (q := 17) rfl rfl ?_
          refine g_iconst X d6_17 rfl (q := 18) (v := 0) rfl ?_
          refine g_iaload X A_a1 ⟨by decide, by decide⟩ d6_18 (q := 19) rfl ?_
          refine g_aloadN X d6_19 rfl (q := 20) rfl rfl ?_
          refine g_iconst X d6_20 rfl (q := 21) (v := 0) rfl ?_
          refine g_iaload X A_a2 ⟨by decide, by decide⟩ d6_21 (q := 22) rfl ?_
          refine g_icmpB X d6_22 (Or.inr (Or.inr rfl)) (q := 25) rfl (by decide) (t := 85) rfl (fun (c4 : (F 0) = (G 0)) => ?_) (fun (c4 : ¬ ((F 0) = (G 0))) => ?_)
          · skip
            refine g_iloadN X d6_25 rfl (q := 26) rfl ?_
            refine g_iconst X d6_26 rfl (q := 27) (v := 1) rfl ?_
            refine g_icmpB X d6_27 (Or.inr (Or.inl rfl)) (q := 30) rfl (by decide) (t := 39) rfl (fun (c5 : (1 : Int32) < (5 : Int32)) => ?_) (fun (c5 : ¬ ((1 : Int32) < (5 : Int32))) => ?_)
            · skip
              refine g_aloadN X d6_30 rfl (q := 31) rfl rfl ?_
              refine g_iconst X d6_31 rfl (q := 32) (v := 1) rfl ?_
              refine g_iaload X A_a1 ⟨by decide, by decide⟩ d6_32 (q := 33) rfl ?_
              refine g_aloadN X d6_33 rfl (q := 34) rfl rfl ?_
              refine g_iconst X d6_34 rfl (q := 35) (v := 1) rfl ?_
              refine g_iaload X A_a2 ⟨by decide, by decide⟩ d6_35 (q := 36) rfl ?_
              refine g_icmpB X d6_36 (Or.inr (Or.inr rfl)) (q := 39) rfl (by decide) (t := 85) rfl (fun (c6 : (F 1) = (G 1)) => ?_) (fun (c6 : ¬ ((F 1) = (G 1))) => ?_)
              · skip
                refine g_iloadN X d6_39 rfl (q := 40) rfl ?_
                refine g_iconst X d6_40 rfl (q := 41) (v := 2) rfl ?_
                refine g_icmpB X d6_41 (Or.inr (Or.inl rfl)) (q := 44) rfl (by decide) (t := 53) rfl (fun (c7 : (2 : Int32) < (5 : Int32)) => ?_) (fun (c7 : ¬ ((2 : Int32) < (5 : Int32))) => ?_)
                · skip
                  refine g_aloadN X d6_44 rfl (q := 45) rfl rfl ?_
                  refine g_iconst X d6_45 rfl (q := 46) (v := 2) rfl ?_
                  refine g_iaload X A_a1 ⟨by decide, by decide⟩ d6_46 (q := 47) rfl ?_
                  refine g_aloadN X d6_47 rfl (q := 48) rfl rfl ?_
                  refine g_iconst X d6_48 rfl (q := 49) (v := 2) rfl ?_
                  refine g_iaload X A_a2 ⟨by decide, by decide⟩ d6_49 (q := 50) rfl ?_
                  refine g_icmpB X d6_50 (Or.inr (Or.inr rfl)) (q := 53) rfl (by decide) (t := 85) rfl (fun (c8 : (F 2) = (G 2)) => ?_) (fun (c8 : ¬ ((F 2) = (G 2))) => ?_)
                  · skip
                    refine g_iloadN X d6_53 rfl (q := 54) rfl ?_
                    refine g_iconst X d6_54 rfl (q := 55) (v := 3) rfl ?_
                    refine g_icmpB X d6_55 (Or.inr (Or.inl rfl)) (q := 58) rfl (by decide) (t := 67) rfl (fun (c9 : (3 : Int32) < (5 : Int32)) => ?_) (fun (c9 : ¬ ((3 : Int32) < (5 : Int32))) => ?_)
                    · skip
                      refine g_aloadN X d6_58 rfl (q := 59) rfl rfl ?_
                      refine g_iconst X d6_59 rfl (q := 60) (v := 3) rfl ?_
                      refine g_iaload X A_a1 ⟨by decide, by decide⟩ d6_60 (q := 61) rfl ?_
                      refine g_aloadN X d6_61 rfl (q := 62) rfl rfl ?_
                      refine g_iconst X d6_62 rfl (q := 63) (v := 3) rfl ?_
                      refine g_iaload X A_a2 ⟨by decide, by decide⟩ d6_63 (q := 64) rfl ?_
                      refine g_icmpB X d6_64 (Or.inr (Or.inr rfl)) (q := 67) rfl (by decide) (t := 85) rfl (fun (c10 : (F 3) = (G 3)) => ?_) (fun (c10 : ¬ ((F 3) = (G 3))) => ?_)
                      · skip
                        refine g_iloadN X d6_67 rfl (q := 68) rfl ?_
                        refine g_iconst X d6_68 rfl (q := 69) (v := 4) rfl ?_
                        refine g_icmpB X d6_69 (Or.inr (Or.inl rfl)) (q := 72) rfl (by decide) (t := 81) rfl (fun (c11 : (4 : Int32) < (5 : Int32)) => ?_) (fun (c11 : ¬ ((4 : Int32) < (5 : Int32))) => ?_)
                        · skip
                          refine g_aloadN X d6_72 rfl (q := 73) rfl rfl ?_
                          refine g_iconst X d6_73 rfl (q := 74) (v := 4) rfl ?_
                          refine g_iaload X A_a1 ⟨by decide, by decide⟩ d6_74 (q := 75) rfl ?_
                          refine g_aloadN X d6_75 rfl (q := 76) rfl rfl ?_
                          refine g_iconst X d6_76 rfl (q := 77) (v := 4) rfl ?_
                          refine g_iaload X A_a2 ⟨by decide, by decide⟩ d6_77 (q := 78) rfl ?_
                          refine g_icmpB X d6_78 (Or.inr (Or.inr rfl)) (q := 81) rfl (by decide) (t := 85) rfl (fun (c12 : (F 4) = (G 4)) => ?_) (fun (c12 : ¬ ((F 4) = (G 4))) => ?_)
                          · skip
                            refine g_iconst X d6_81 rfl (q := 82) (v := 1) rfl ?_
                            refine g_goto X d6_82 (by decide) (q := 86) rfl ?_
                            exact J86_0 T X _ (bI_t ⟨c4, ⟨c6, ⟨c8, ⟨c10, c12⟩⟩⟩⟩)
                          · skip
                            refine g_iconst X d6_85 rfl (q := 86) (v := 0) rfl ?_
                            exact J86_0 T X _ (bI_f (fun z => (fun z => (fun z => (fun z => c12 z.2) z.2) z.2) z.2))
                        · skip
                          exact absurd c11 (by decide)
                      · skip
                        refine g_iconst X d6_85 rfl (q := 86) (v := 0) rfl ?_
                        exact J86_0 T X _ (bI_f (fun z => (fun z => (fun z => (fun z => c10 z.1) z.2) z.2) z.2))
                    · skip
                      exact absurd c9 (by decide)
                  · skip
                    refine g_iconst X d6_85 rfl (q := 86) (v := 0) rfl ?_
                    exact J86_0 T X _ (bI_f (fun z => (fun z => (fun z => c8 z.1) z.2) z.2))
                · skip
                  exact absurd c7 (by decide)
              · skip
                refine g_iconst X d6_85 rfl (q := 86) (v := 0) rfl ?_
                exact J86_0 T X _ (bI_f (fun z => (fun z => c6 z.1) z.2))
            · skip
              exact absurd c5 (by decide)
          · skip
            refine g_iconst X d6_85 rfl (q := 86) (v := 0) rfl ?_
            exact J86_0 T X _ (bI_f (fun z => c4 z.1))
        · skip
          exact absurd c3 (by decide)
      · skip
        exact absurd c2 (by decide)
    · skip
      exact absurd c1 (by decide)
theorem pn0 : plainName "com/example/eulay/eulay/generation/PermutationsNextPinLaw" = true := by first | (simp [plainName, overriddenIn]; done) | decide +kernel
theorem ef0 (m : MethodId) (x0 : Int32) (x1 : Int32) (x2 : Int32) (x3 : Int32) (x4 : Int32) : entryFrame m #[(.int x0), (.int x1), (.int x2), (.int x3), (.int x4)] maxLocals = mkF m 0 #[.val (.int x0), .val (.int x1), .val (.int x2), .val (.int x3), .val (.int x4), .unset, .unset, .unset, .unset, .unset, .unset, .unset] [] := by first | (simp [entryFrame, mkF, argsToLocals, Value.category, maxLocals]; done) | rfl
set_option maxRecDepth 65536 in
set_option maxHeartbeats 40000000 in
theorem rm0 (l : Launch) (Z : State) (a0 : Array Value) (hw : ∀ d ∈ tables_1, d.before a0 Z = true) (ws : List Jvm.Cond) (p1 : Int32) (p2 : Int32) (p3 : Int32) (p4 : Int32) (p5 : Int32) (h0 : Heap) (n0 : Nat) (Z0 : n0 ≤ h0.size) :
    Met l Z x code maxLocals ret room_1 ws n0 #[(.int p1), (.int p2), (.int p3), (.int p4), (.int p5)] h0 (fun v h' => v = some (.int 1)) := by
  refine Met.intro (plainFor_of_name pn0) Z0 ?_
  intro p e s m below meth c T X
  refine g_cast (ef0 m p1 p2 p3 p4 p5) ?_
  refine g_iloadN X at_0 rfl (q := 1) rfl ?_
  refine g_bipush X at_1 rfl (q := 3) (v := 7) rfl ?_
  refine g_iand X at_3 rfl (q := 4) ?_
  refine g_bipush X at_4 rfl (q := 6) (v := 6) rfl ?_
  refine g_irem X at_6 rfl (q := 7) (by decide) ?_
  refine g_letI (fun x7 hx7 => ?_)
  have b_x7 : (0 : Int) ≤ x7.toInt ∧ x7.toInt ≤ 5 := by
    have z0 := hx7
    have f1 := rng32 p1
    obtain ⟨n1_, hn1_⟩ : ∃ z, z = (p1 &&& (7 : Int32)) := ⟨_, rfl⟩
    (try simp only [← hn1_] at z0)
    have f2 := own_mB p1 (7 : Int32) 3 (by decide) (by decide) 7 (by decide)
    (try rw [← hn1_] at f2)
    obtain ⟨n2_, hn2_⟩ : ∃ z, z = (n1_ % (6 : Int32)) := ⟨_, rfl⟩
    (try simp only [← hn2_] at z0)
    have f3 := own_iremB n1_ (6 : Int32) 6 (by decide) (by decide) (by omega)
    (try rw [← hn2_] at f3)
    (try simp only [Int64.reduceToInt, Int32.reduceToInt] at f3)
    have e0 := congrArg Int32.toInt z0
    (try simp only [Int64.lt_iff_toInt_lt, Int32.lt_iff_toInt_lt, Int64.le_iff_toInt_le, Int32.le_iff_toInt_le, ← Int64.toInt_inj, ← Int32.toInt_inj, apply_ite Int64.toInt, apply_ite Int32.toInt, Int64.reduceToInt, Int32.reduceToInt, ne_eq, true_and, and_true, false_or, or_false, iff_self, and_self, not_true_eq_false, not_false_eq_true] at e0)
    omega
  refine g_istore X at_7 rfl (q := 9) (L' := #[.val (.int p1), .val (.int p2), .val (.int p3), .val (.int p4), .val (.int p5), .val (.int x7), .unset, .unset, .unset, .unset, .unset, .unset]) rfl ?_
  rcases own_n6 hx7 with q7 | q7 | q7 | q7 | q7 | q7
  · subst q7
    show Goes p e below s _ n0 _ (T.setTop (mkF m 9 #[.val (.int p1), .val (.int p2), .val (.int p3), .val (.int p4), .val (.int p5), .val (.int (0 : Int32)), .unset, .unset, .unset, .unset, .unset, .unset] []))
    refine g_iconst X at_9 rfl (q := 10) (v := 5) rfl ?_
    refine g_newarrI X (aty := .int) rfl (tw0 hw) at_10 (q := 12) rfl (by decide) (cap := 5) (by decide) (by decide) (c2 := 1) (s2 := 5) rfl rfl (by decide) (by decide) (fun T h' b13 X gz_b13 g_b13 E A_new => ?_)
    have A_b13 : AI Z h' b13 .int 5 (fun _ => 0) := A_new
    refine g_astore X at_12 rfl (q := 14) (L' := #[.val (.int p1), .val (.int p2), .val (.int p3), .val (.int p4), .val (.int p5), .val (.int (0 : Int32)), .val (.ref b13), .unset, .unset, .unset, .unset, .unset]) rfl rfl ?_
    refine g_aload X at_14 rfl (q := 16) rfl rfl ?_
    refine g_iconst X at_16 rfl (q := 17) (v := 0) rfl ?_
    refine g_iloadN X at_17 rfl (q := 18) rfl ?_
    refine g_iload X at_18 rfl (q := 20) rfl ?_
    refine g_callS X [(.int p2), (.int (0 : Int32))] [(.int (0 : Int32)), (.ref b13)] (tw1 hw) (tw2 hw) (tw3 hw) (tw4 hw) (by decide) (rm1_r0 l Z a0 hw [] p2 _ n0 X.size) pd3 rfl rfl rfl at_20 (q := 23) rfl (W := 2) rfl (by decide) (by decide) (c2 := 1) (s2 := 5) rfl rfl (by decide) (by decide) (fun v T h' X hQ => ?_)
    obtain ⟨rfl, rfl⟩ := hQ
    show Goes p e below s _ n0 _ (T.setTop (mkF m 23 #[.val (.int p1), .val (.int p2), .val (.int p3), .val (.int p4), .val (.int p5), .val (.int (0 : Int32)), .val (.ref b13), .unset, .unset, .unset, .unset, .unset] [(.int (0 : Int32)), (.int (0 : Int32)), (.ref b13)]))
    refine g_iastore X A_b13 ⟨by decide, by decide⟩ g_b13 at_23 (q := 24) rfl (fun T h X W => ?_)
    have A_b13 : AI Z h b13 .int 5 (own_up (fun _ => 0) 0 (0 : Int32)) := A_b13.set W
    refine g_aload X at_24 rfl (q := 26) rfl rfl ?_
    refine g_iconst X at_26 rfl (q := 27) (v := 1) rfl ?_
    refine g_iloadN X at_27 rfl (q := 28) rfl ?_
    refine g_iload X at_28 rfl (q := 30) rfl ?_
    refine g_iconst X at_30 rfl (q := 31) (v := 1) rfl ?_
    refine g_isub X at_31 rfl (q := 32) ?_
    refine g_eqI (y := (-1 : Int32)) (by decide) ?_
    refine g_callS X [(.int p3), (.int (-1 : Int32))] [(.int (1 : Int32)), (.ref b13)] (tw1 hw) (tw2 hw) (tw3 hw) (tw4 hw) (by decide) (rm1_rm1 l Z a0 hw [] p3 _ n0 X.size) pd3 rfl rfl rfl at_32 (q := 35) rfl (W := 2) rfl (by decide) (by decide) (c2 := 1) (s2 := 5) rfl rfl (by decide) (by decide) (fun v T h' X hQ => ?_)
    obtain ⟨rfl, rfl⟩ := hQ
    show Goes p e below s _ n0 _ (T.setTop (mkF m 35 #[.val (.int p1), .val (.int p2), .val (.int p3), .val (.int p4), .val (.int p5), .val (.int (0 : Int32)), .val (.ref b13), .unset, .unset, .unset, .unset, .unset] [(.int (0 : Int32)), (.int (1 : Int32)), (.ref b13)]))
    refine g_iastore X A_b13 ⟨by decide, by decide⟩ g_b13 at_35 (q := 36) rfl (fun T h X W => ?_)
    have A_b13 : AI Z h b13 .int 5 (own_up (own_up (fun _ => 0) 0 (0 : Int32)) 1 (0 : Int32)) := A_b13.set W
    refine g_aload X at_36 rfl (q := 38) rfl rfl ?_
    refine g_iconst X at_38 rfl (q := 39) (v := 2) rfl ?_
    refine g_iloadN X at_39 rfl (q := 40) rfl ?_
    refine g_iload X at_40 rfl (q := 42) rfl ?_
    refine g_iconst X at_42 rfl (q := 43) (v := 2) rfl ?_
    refine g_isub X at_43 rfl (q := 44) ?_
    refine g_eqI (y := (-2 : Int32)) (by decide) ?_
    refine g_callS X [(.int p4), (.int (-2 : Int32))] [(.int (2 : Int32)), (.ref b13)] (tw1 hw) (tw2 hw) (tw3 hw) (tw4 hw) (by decide) (rm1_rm2 l Z a0 hw [] p4 _ n0 X.size) pd3 rfl rfl rfl at_44 (q := 47) rfl (W := 2) rfl (by decide) (by decide) (c2 := 1) (s2 := 5) rfl rfl (by decide) (by decide) (fun v T h' X hQ => ?_)
    obtain ⟨rfl, rfl⟩ := hQ
    show Goes p e below s _ n0 _ (T.setTop (mkF m 47 #[.val (.int p1), .val (.int p2), .val (.int p3), .val (.int p4), .val (.int p5), .val (.int (0 : Int32)), .val (.ref b13), .unset, .unset, .unset, .unset, .unset] [(.int (0 : Int32)), (.int (2 : Int32)), (.ref b13)]))
    refine g_iastore X A_b13 ⟨by decide, by decide⟩ g_b13 at_47 (q := 48) rfl (fun T h X W => ?_)
    have A_b13 : AI Z h b13 .int 5 (own_up (own_up (own_up (fun _ => 0) 0 (0 : Int32)) 1 (0 : Int32)) 2 (0 : Int32)) := A_b13.set W
    refine g_aload X at_48 rfl (q := 50) rfl rfl ?_
    refine g_iconst X at_50 rfl (q := 51) (v := 3) rfl ?_
    refine g_iload X at_51 rfl (q := 53) rfl ?_
    refine g_iload X at_53 rfl (q := 55) rfl ?_
    refine g_iconst X at_55 rfl (q := 56) (v := 3) rfl ?_
    refine g_isub X at_56 rfl (q := 57) ?_
    refine g_eqI (y := (-3 : Int32)) (by decide) ?_
    refine g_callS X [(.int p5), (.int (-3 : Int32))] [(.int (3 : Int32)), (.ref b13)] (tw1 hw) (tw2 hw) (tw3 hw) (tw4 hw) (by decide) (rm1_rm3 l Z a0 hw [] p5 _ n0 X.size) pd3 rfl rfl rfl at_57 (q := 60) rfl (W := 2) rfl (by decide) (by decide) (c2 := 1) (s2 := 5) rfl rfl (by decide) (by decide) (fun v T h' X hQ => ?_)
    obtain ⟨rfl, rfl⟩ := hQ
    show Goes p e below s _ n0 _ (T.setTop (mkF m 60 #[.val (.int p1), .val (.int p2), .val (.int p3), .val (.int p4), .val (.int p5), .val (.int (0 : Int32)), .val (.ref b13), .unset, .unset, .unset, .unset, .unset] [(.int (0 : Int32)), (.int (3 : Int32)), (.ref b13)]))
    refine g_iastore X A_b13 ⟨by decide, by decide⟩ g_b13 at_60 (q := 61) rfl (fun T h X W => ?_)
    have A_b13 : AI Z h b13 .int 5 (own_up (own_up (own_up (own_up (fun _ => 0) 0 (0 : Int32)) 1 (0 : Int32)) 2 (0 : Int32)) 3 (0 : Int32)) := A_b13.set W
    refine g_aload X at_61 rfl (q := 63) rfl rfl ?_
    refine g_iconst X at_63 rfl (q := 64) (v := 4) rfl ?_
    refine g_iconst X at_64 rfl (q := 65) (v := 0) rfl ?_
    refine g_iastore X A_b13 ⟨by decide, by decide⟩ g_b13 at_65 (q := 66) rfl (fun T h X W => ?_)
    have A_b13 : AI Z h b13 .int 5 (own_up (own_up (own_up (own_up (own_up (fun _ => 0) 0 (0 : Int32)) 1 (0 : Int32)) 2 (0 : Int32)) 3 (0 : Int32)) 4 (0 : Int32)) := A_b13.set W
    refine g_iconst X at_66 rfl (q := 67) (v := 5) rfl ?_
    refine g_newarrI X (aty := .int) rfl (tw0 hw) at_67 (q := 69) rfl (by decide) (cap := 5) (by decide) (by decide) (c2 := 2) (s2 := 10) rfl rfl (by decide) (by decide) (fun T h' b14 X gz_b14 g_b14 E A_new => ?_)
    have ne_b13_b14 := own_new gz_b14 A_b13.lt
    have ne_b14_b13 := own_apS ne_b13_b14
    have A_b13 := A_b13.ext E
    have A_b14 : AI Z h' b14 .int 5 (fun _ => 0) := A_new
    refine g_dup X at_69 rfl (q := 70) rfl ?_
    refine g_iconst X at_70 rfl (q := 71) (v := 0) rfl ?_
    refine g_aload X at_71 rfl (q := 73) rfl rfl ?_
    refine g_iconst X at_73 rfl (q := 74) (v := 0) rfl ?_
    refine g_iaload X A_b13 ⟨by decide, by decide⟩ at_74 (q := 75) rfl ?_
    refine g_eqI (y := (0 : Int32)) rfl ?_
    refine g_iastore X A_b14 ⟨by decide, by decide⟩ g_b14 at_75 (q := 76) rfl (fun T h X W => ?_)
    have A_b13 := A_b13.other W ne_b13_b14
    have A_b14 : AI Z h b14 .int 5 (own_up (fun _ => 0) 0 (0 : Int32)) := A_b14.set W
    refine g_dup X at_76 rfl (q := 77) rfl ?_
    refine g_iconst X at_77 rfl (q := 78) (v := 1) rfl ?_
    refine g_aload X at_78 rfl (q := 80) rfl rfl ?_
    refine g_iconst X at_80 rfl (q := 81) (v := 1) rfl ?_
    refine g_iaload X A_b13 ⟨by decide, by decide⟩ at_81 (q := 82) rfl ?_
    refine g_eqI (y := (0 : Int32)) rfl ?_
    refine g_iastore X A_b14 ⟨by decide, by decide⟩ g_b14 at_82 (q := 83) rfl (fun T h X W => ?_)
    have A_b13 := A_b13.other W ne_b13_b14
    have A_b14 : AI Z h b14 .int 5 (own_up (own_up (fun _ => 0) 0 (0 : Int32)) 1 (0 : Int32)) := A_b14.set W
    refine g_dup X at_83 rfl (q := 84) rfl ?_
    refine g_iconst X at_84 rfl (q := 85) (v := 2) rfl ?_
    refine g_aload X at_85 rfl (q := 87) rfl rfl ?_
    refine g_iconst X at_87 rfl (q := 88) (v := 2) rfl ?_
    refine g_iaload X A_b13 ⟨by decide, by decide⟩ at_88 (q := 89) rfl ?_
    refine g_eqI (y := (0 : Int32)) rfl ?_
    refine g_iastore X A_b14 ⟨by decide, by decide⟩ g_b14 at_89 (q := 90) rfl (fun T h X W => ?_)
    have A_b13 := A_b13.other W ne_b13_b14
    have A_b14 : AI Z h b14 .int 5 (own_up (own_up (own_up (fun _ => 0) 0 (0 : Int32)) 1 (0 : Int32)) 2 (0 : Int32)) := A_b14.set W
    refine g_dup X at_90 rfl (q := 91) rfl ?_
    refine g_iconst X at_91 rfl (q := 92) (v := 3) rfl ?_
    refine g_aload X at_92 rfl (q := 94) rfl rfl ?_
    refine g_iconst X at_94 rfl (q := 95) (v := 3) rfl ?_
    refine g_iaload X A_b13 ⟨by decide, by decide⟩ at_95 (q := 96) rfl ?_
    refine g_eqI (y := (0 : Int32)) rfl ?_
    refine g_iastore X A_b14 ⟨by decide, by decide⟩ g_b14 at_96 (q := 97) rfl (fun T h X W => ?_)
    have A_b13 := A_b13.other W ne_b13_b14
    have A_b14 : AI Z h b14 .int 5 (own_up (own_up (own_up (own_up (fun _ => 0) 0 (0 : Int32)) 1 (0 : Int32)) 2 (0 : Int32)) 3 (0 : Int32)) := A_b14.set W
    refine g_dup X at_97 rfl (q := 98) rfl ?_
    refine g_iconst X at_98 rfl (q := 99) (v := 4) rfl ?_
    refine g_aload X at_99 rfl (q := 101) rfl rfl ?_
    refine g_iconst X at_101 rfl (q := 102) (v := 4) rfl ?_
    refine g_iaload X A_b13 ⟨by decide, by decide⟩ at_102 (q := 103) rfl ?_
    refine g_eqI (y := (0 : Int32)) rfl ?_
    refine g_iastore X A_b14 ⟨by decide, by decide⟩ g_b14 at_103 (q := 104) rfl (fun T h X W => ?_)
    have A_b13 := A_b13.other W ne_b13_b14
    have A_b14 : AI Z h b14 .int 5 (own_up (own_up (own_up (own_up (own_up (fun _ => 0) 0 (0 : Int32)) 1 (0 : Int32)) 2 (0 : Int32)) 3 (0 : Int32)) 4 (0 : Int32)) := A_b14.set W
    refine g_astore X at_104 rfl (q := 106) (L' := #[.val (.int p1), .val (.int p2), .val (.int p3), .val (.int p4), .val (.int p5), .val (.int (0 : Int32)), .val (.ref b13), .val (.ref b14), .unset, .unset, .unset, .unset]) rfl rfl ?_
    refine g_aload X at_106 rfl (q := 108) rfl rfl ?_
    refine g_iload X at_108 rfl (q := 110) rfl ?_
    refine g_callS X [(.ref b14), (.int (0 : Int32))] [] (tw5 hw) (tw6 hw) (tw3 hw) (tw7 hw) (by decide) (rm2 l Z a0 hw [] b14 (0 : Int32) (own_up (own_up (own_up (own_up (own_up (fun _ => 0) 0 (0 : Int32)) 1 (0 : Int32)) 2 (0 : Int32)) 3 (0 : Int32)) 4 (0 : Int32)) _ n0 X.size A_b14 g_b14) pd4 rfl rfl rfl at_110 (q := 113) rfl (W := 0) rfl (by decide) (by decide) (c2 := 2) (s2 := 10) rfl rfl (by decide) (by decide) (fun v T h' X hQ => ?_)
    obtain ⟨rfl, Kc, A_b14'⟩ := hQ
    have A_b13 := A_b13.keep Kc (ninS ne_b13_b14 nin0)
    have A_b14 : AI Z h' b14 .int 5 (incF (own_up (own_up (own_up (own_up (own_up (fun _ => 0) 0 (0 : Int32)) 1 (0 : Int32)) 2 (0 : Int32)) 3 (0 : Int32)) 4 (0 : Int32)) (0 : Int32)) := A_b14'
    show Goes p e below s _ n0 _ (T.setTop (mkF m 113 #[.val (.int p1), .val (.int p2), .val (.int p3), .val (.int p4), .val (.int p5), .val (.int (0 : Int32)), .val (.ref b13), .val (.ref b14), .unset, .unset, .unset, .unset] [(.int (bI (incR (own_up (own_up (own_up (own_up (own_up (fun _ => 0) 0 (0 : Int32)) 1 (0 : Int32)) 2 (0 : Int32)) 3 (0 : Int32)) 4 (0 : Int32)) (0 : Int32))))]))
    refine g_istore X at_113 rfl (q := 115) (L' := #[.val (.int p1), .val (.int p2), .val (.int p3), .val (.int p4), .val (.int p5), .val (.int (0 : Int32)), .val (.ref b13), .val (.ref b14), .val (.int (bI (incR (own_up (own_up (own_up (own_up (own_up (fun _ => 0) 0 (0 : Int32)) 1 (0 : Int32)) 2 (0 : Int32)) 3 (0 : Int32)) 4 (0 : Int32)) (0 : Int32)))), .unset, .unset, .unset]) rfl ?_
    refine g_aload X at_115 rfl (q := 117) rfl rfl ?_
    refine g_iload X at_117 rfl (q := 119) rfl ?_
    refine g_callS X [(.ref b13), (.int (0 : Int32))] [] (tw11 hw) (tw12 hw) (tw3 hw) (tw13 hw) (by decide) (rm4_n0 l Z a0 hw [] b13 (own_up (own_up (own_up (own_up (own_up (fun _ => 0) 0 (0 : Int32)) 1 (0 : Int32)) 2 (0 : Int32)) 3 (0 : Int32)) 4 (0 : Int32)) _ n0 X.size A_b13 (own_chB (own_chB (own_chB (own_chB (own_chB (fun _ _ => by decide) (i := 0) (x := 0) (by decide)) (i := 1) (x := 0) (by decide)) (i := 2) (x := 0) (by decide)) (i := 3) (x := 0) (by decide)) (i := 4) (x := 0) (by decide))) pd5 rfl rfl rfl at_119 (q := 122) rfl (W := 0) rfl (by decide) (by decide) (c2 := 4) (s2 := 15) rfl rfl (by decide) (by decide) (fun v T h' X hQ => ?_)
    obtain ⟨b15, rfl, g_b15, sq_b15, Kc, M_b15⟩ := hQ
    have ne_b13_b15 := own_far A_b13.lt sq_b15
    have ne_b15_b13 := own_apS ne_b13_b15
    have ne_b14_b15 := own_far A_b14.lt sq_b15
    have ne_b15_b14 := own_apS ne_b14_b15
    have A_b13 := A_b13.keep Kc nin0
    have A_b14 := A_b14.keep Kc nin0
    have A_b15 : AI Z h' b15 .int 0 (bld0 (own_up (own_up (own_up (own_up (own_up (fun _ => 0) 0 (0 : Int32)) 1 (0 : Int32)) 2 (0 : Int32)) 3 (0 : Int32)) 4 (0 : Int32))) := M_b15
    show Goes p e below s _ n0 _ (T.setTop (mkF m 122 #[.val (.int p1), .val (.int p2), .val (.int p3), .val (.int p4), .val (.int p5), .val (.int (0 : Int32)), .val (.ref b13), .val (.ref b14), .val (.int (bI (incR (own_up (own_up (own_up (own_up (own_up (fun _ => 0) 0 (0 : Int32)) 1 (0 : Int32)) 2 (0 : Int32)) 3 (0 : Int32)) 4 (0 : Int32)) (0 : Int32)))), .unset, .unset, .unset] [(.ref b15)]))
    refine g_astore X at_122 rfl (q := 124) (L' := #[.val (.int p1), .val (.int p2), .val (.int p3), .val (.int p4), .val (.int p5), .val (.int (0 : Int32)), .val (.ref b13), .val (.ref b14), .val (.int (bI (incR (own_up (own_up (own_up (own_up (own_up (fun _ => 0) 0 (0 : Int32)) 1 (0 : Int32)) 2 (0 : Int32)) 3 (0 : Int32)) 4 (0 : Int32)) (0 : Int32)))), .val (.ref b15), .unset, .unset]) rfl rfl ?_
    refine g_iload X at_124 rfl (q := 126) rfl ?_
    refine g_beq X at_126 (q := 129) rfl (by decide) (t := 139) rfl (fun (c1 : incR (own_up (own_up (own_up (own_up (own_up (fun _ => 0) 0 (0 : Int32)) 1 (0 : Int32)) 2 (0 : Int32)) 3 (0 : Int32)) 4 (0 : Int32)) (0 : Int32)) => ?_) (fun (c1 : ¬ (incR (own_up (own_up (own_up (own_up (own_up (fun _ => 0) 0 (0 : Int32)) 1 (0 : Int32)) 2 (0 : Int32)) 3 (0 : Int32)) 4 (0 : Int32)) (0 : Int32))) => ?_)
    · skip
      refine g_aload X at_129 rfl (q := 131) rfl rfl ?_
      refine g_iload X at_131 rfl (q := 133) rfl ?_
      refine g_callS X [(.ref b14), (.int (0 : Int32))] [] (tw11 hw) (tw12 hw) (tw3 hw) (tw13 hw) (by decide) (rm4_n0 l Z a0 hw [] b14 (incF (own_up (own_up (own_up (own_up (own_up (fun _ => 0) 0 (0 : Int32)) 1 (0 : Int32)) 2 (0 : Int32)) 3 (0 : Int32)) 4 (0 : Int32)) (0 : Int32)) _ n0 X.size A_b14 (own_incB (own_chB (own_chB (own_chB (own_chB (own_chB (fun _ _ => by decide) (i := 0) (x := 0) (by decide)) (i := 1) (x := 0) (by decide)) (i := 2) (x := 0) (by decide)) (i := 3) (x := 0) (by decide)) (i := 4) (x := 0) (by decide)) (by decide))) pd5 rfl rfl rfl at_133 (q := 136) rfl (W := 0) rfl (by decide) (by decide) (c2 := 6) (s2 := 20) rfl rfl (by decide) (by decide) (fun v T h' X hQ => ?_)
      obtain ⟨b16, rfl, g_b16, sq_b16, Kc, M_b16⟩ := hQ
      have ne_b13_b16 := own_far A_b13.lt sq_b16
      have ne_b16_b13 := own_apS ne_b13_b16
      have ne_b14_b16 := own_far A_b14.lt sq_b16
      have ne_b16_b14 := own_apS ne_b14_b16
      have ne_b15_b16 := own_far A_b15.lt sq_b16
      have ne_b16_b15 := own_apS ne_b15_b16
      have A_b13 := A_b13.keep Kc nin0
      have A_b14 := A_b14.keep Kc nin0
      have A_b15 := A_b15.keep Kc nin0
      have A_b16 : AI Z h' b16 .int 0 (bld0 (incF (own_up (own_up (own_up (own_up (own_up (fun _ => 0) 0 (0 : Int32)) 1 (0 : Int32)) 2 (0 : Int32)) 3 (0 : Int32)) 4 (0 : Int32)) (0 : Int32))) := M_b16
      show Goes p e below s _ n0 _ (T.setTop (mkF m 136 #[.val (.int p1), .val (.int p2), .val (.int p3), .val (.int p4), .val (.int p5), .val (.int (0 : Int32)), .val (.ref b13), .val (.ref b14), .val (.int (bI (incR (own_up (own_up (own_up (own_up (own_up (fun _ => 0) 0 (0 : Int32)) 1 (0 : Int32)) 2 (0 : Int32)) 3 (0 : Int32)) 4 (0 : Int32)) (0 : Int32)))), .val (.ref b15), .unset, .unset] [(.ref b16)]))
      refine g_goto X at_136 (by decide) (q := 146) rfl ?_
      refine g_astore X at_146 rfl (q := 148) (L' := #[.val (.int p1), .val (.int p2), .val (.int p3), .val (.int p4), .val (.int p5), .val (.int (0 : Int32)), .val (.ref b13), .val (.ref b14), .val (.int (bI (incR (own_up (own_up (own_up (own_up (own_up (fun _ => 0) 0 (0 : Int32)) 1 (0 : Int32)) 2 (0 : Int32)) 3 (0 : Int32)) 4 (0 : Int32)) (0 : Int32)))), .val (.ref b15), .val (.ref b16), .unset]) rfl rfl ?_
      refine g_aload X at_148 rfl (q := 150) rfl rfl ?_
      refine g_callS X [(.ref b15)] [] (tw14 hw) (tw15 hw) (tw16 hw) (tw17 hw) (by decide) (rm5_n0 l Z a0 hw [] b15 (bld0 (own_up (own_up (own_up (own_up (own_up (fun _ => 0) 0 (0 : Int32)) 1 (0 : Int32)) 2 (0 : Int32)) 3 (0 : Int32)) 4 (0 : Int32))) _ n0 X.size A_b15 g_b15) pd6 rfl rfl rfl at_150 (q := 153) rfl (W := 0) rfl (by decide) (by decide) (c2 := 6) (s2 := 20) rfl rfl (by decide) (by decide) (fun v T h' X hQ => ?_)
      obtain ⟨rfl, Kc, A_b15'⟩ := hQ
      have A_b13 := A_b13.keep Kc (ninS ne_b13_b15 nin0)
      have A_b14 := A_b14.keep Kc (ninS ne_b14_b15 nin0)
      have A_b16 := A_b16.keep Kc (ninS ne_b16_b15 nin0)
      have A_b15 : AI Z h' b15 .int 0 (nx0F (bld0 (own_up (own_up (own_up (own_up (own_up (fun _ => 0) 0 (0 : Int32)) 1 (0 : Int32)) 2 (0 : Int32)) 3 (0 : Int32)) 4 (0 : Int32)))) := A_b15'
      show Goes p e below s _ n0 _ (T.setTop (mkF m 153 #[.val (.int p1), .val (.int p2), .val (.int p3), .val (.int p4), .val (.int p5), .val (.int (0 : Int32)), .val (.ref b13), .val (.ref b14), .val (.int (bI (incR (own_up (own_up (own_up (own_up (own_up (fun _ => 0) 0 (0 : Int32)) 1 (0 : Int32)) 2 (0 : Int32)) 3 (0 : Int32)) 4 (0 : Int32)) (0 : Int32)))), .val (.ref b15), .val (.ref b16), .unset] [(.int (0 : Int32))]))
      refine g_istore X at_153 rfl (q := 155) (L' := #[.val (.int p1), .val (.int p2), .val (.int p3), .val (.int p4), .val (.int p5), .val (.int (0 : Int32)), .val (.ref b13), .val (.ref b14), .val (.int (bI (incR (own_up (own_up (own_up (own_up (own_up (fun _ => 0) 0 (0 : Int32)) 1 (0 : Int32)) 2 (0 : Int32)) 3 (0 : Int32)) 4 (0 : Int32)) (0 : Int32)))), .val (.ref b15), .val (.ref b16), .val (.int (0 : Int32))]) rfl ?_
      refine g_iload X at_155 rfl (q := 157) rfl ?_
      refine g_iload X at_157 rfl (q := 159) rfl ?_
      refine g_jT1 X (J := 179) (P := fun (s0_179 : Int32) => s0_179 = (bI (¬ (incR (own_up (own_up (own_up (own_up (own_up (fun _ => 0) 0 (0 : Int32)) 1 (0 : Int32)) 2 (0 : Int32)) 3 (0 : Int32)) 4 (0 : Int32)) (0 : Int32))))) (L := fun s0_179 => #[.val (.int p1), .val (.int p2), .val (.int p3), .val (.int p4), .val (.int p5), .val (.int (0 : Int32)), .val (.ref b13), .val (.ref b14), .val (.int (bI (incR (own_up (own_up (own_up (own_up (own_up (fun _ => 0) 0 (0 : Int32)) 1 (0 : Int32)) 2 (0 : Int32)) 3 (0 : Int32)) 4 (0 : Int32)) (0 : Int32)))), .val (.ref b15), .val (.ref b16), .val (.int (0 : Int32))]) (S := fun s0_179 => [(.int s0_179)]) ?_ ?_
      · intro T X s0_179 hs0_179
        replace hs0_179 : s0_179 = (bI (¬ (incR (own_up (own_up (own_up (own_up (own_up (fun _ => 0) 0 (0 : Int32)) 1 (0 : Int32)) 2 (0 : Int32)) 3 (0 : Int32)) 4 (0 : Int32)) (0 : Int32)))) := hs0_179
        subst hs0_179
        show Goes p e below s _ n0 _ (T.setTop (mkF m 179 #[.val (.int p1), .val (.int p2), .val (.int p3), .val (.int p4), .val (.int p5), .val (.int (0 : Int32)), .val (.ref b13), .val (.ref b14), .val (.int (bI (incR (own_up (own_up (own_up (own_up (own_up (fun _ => 0) 0 (0 : Int32)) 1 (0 : Int32)) 2 (0 : Int32)) 3 (0 : Int32)) 4 (0 : Int32)) (0 : Int32)))), .val (.ref b15), .val (.ref b16), .val (.int (0 : Int32))] [(.int (bI (¬ (incR (own_up (own_up (own_up (own_up (own_up (fun _ => 0) 0 (0 : Int32)) 1 (0 : Int32)) 2 (0 : Int32)) 3 (0 : Int32)) 4 (0 : Int32)) (0 : Int32)))))]))
        refine g_retZ X at_179 (by decide) (by decide) (bI_01 _) (own_fin ?_)
        show ¬ (incR (own_up (own_up (own_up (own_up (own_up (fun _ => 0) 0 (0 : Int32)) 1 (0 : Int32)) 2 (0 : Int32)) 3 (0 : Int32)) 4 (0 : Int32)) (0 : Int32))
        exact own_fin1 c1
      · intro J179_1
        refine g_icmpB X at_159 (Or.inr (Or.inr rfl)) (q := 162) rfl (by decide) (t := 178) rfl (fun c2 => ?_) (fun c2 => ?_)
        · replace c2 : ¬ (incR (own_up (own_up (own_up (own_up (own_up (fun _ => 0) 0 (0 : Int32)) 1 (0 : Int32)) 2 (0 : Int32)) 3 (0 : Int32)) 4 (0 : Int32)) (0 : Int32)) := (bI_eq0 _).mp c2.symm
          refine g_aload X at_162 rfl (q := 164) rfl rfl ?_
          refine g_aload X at_164 rfl (q := 166) rfl rfl ?_
          refine g_iload X at_166 rfl (q := 168) rfl ?_
          refine g_callS X [(.ref b15), (.ref b16), (.int (0 : Int32))] [] (tw18 hw) (tw19 hw) (tw3 hw) (tw20 hw) (by decide) (rm6_n0 l Z a0 hw [] b15 b16 (nx0F (bld0 (own_up (own_up (own_up (own_up (own_up (fun _ => 0) 0 (0 : Int32)) 1 (0 : Int32)) 2 (0 : Int32)) 3 (0 : Int32)) 4 (0 : Int32)))) (bld0 (incF (own_up (own_up (own_up (own_up (own_up (fun _ => 0) 0 (0 : Int32)) 1 (0 : Int32)) 2 (0 : Int32)) 3 (0 : Int32)) 4 (0 : Int32)) (0 : Int32))) _ n0 X.size A_b15 A_b16) pd7 rfl rfl rfl at_168 (q := 171) rfl (W := 0) rfl (by decide) (by decide) (c2 := 6) (s2 := 20) rfl rfl (by decide) (by decide) (fun v T h' X hQ => ?_)
          obtain ⟨rfl, rfl⟩ := hQ
          show Goes p e below s _ n0 _ (T.setTop (mkF m 171 #[.val (.int p1), .val (.int p2), .val (.int p3), .val (.int p4), .val (.int p5), .val (.int (0 : Int32)), .val (.ref b13), .val (.ref b14), .val (.int (bI (incR (own_up (own_up (own_up (own_up (own_up (fun _ => 0) 0 (0 : Int32)) 1 (0 : Int32)) 2 (0 : Int32)) 3 (0 : Int32)) 4 (0 : Int32)) (0 : Int32)))), .val (.ref b15), .val (.ref b16), .val (.int (0 : Int32))] [(.int (1 : Int32))]))
          refine g_ifA X at_171 (Or.inr (Or.inr rfl)) (q := 174) rfl (by decide) (t := 178) rfl (fun (c3 : (1 : Int32) = (0 : Int32)) => ?_) (fun (c3 : ¬ ((1 : Int32) = (0 : Int32))) => ?_)
          · skip
            exact absurd c3 (by decide)
          · skip
            refine g_iconst X at_174 rfl (q := 175) (v := 1) rfl ?_
            refine g_goto X at_175 (by decide) (q := 179) rfl ?_
            exact J179_1 T X _ (bI_t c2)
        · replace c2 : ¬ (¬ (incR (own_up (own_up (own_up (own_up (own_up (fun _ => 0) 0 (0 : Int32)) 1 (0 : Int32)) 2 (0 : Int32)) 3 (0 : Int32)) 4 (0 : Int32)) (0 : Int32))) := fun z => c2 ((bI_eq0 _).mpr z).symm
          refine g_iconst X at_178 rfl (q := 179) (v := 0) rfl ?_
          exact J179_1 T X _ (bI_f c2)
    · skip
      refine g_aload X at_139 rfl (q := 141) rfl rfl ?_
      refine g_iload X at_141 rfl (q := 143) rfl ?_
      refine g_callS X [(.ref b13), (.int (0 : Int32))] [] (tw11 hw) (tw12 hw) (tw3 hw) (tw13 hw) (by decide) (rm4_n0 l Z a0 hw [] b13 (own_up (own_up (own_up (own_up (own_up (fun _ => 0) 0 (0 : Int32)) 1 (0 : Int32)) 2 (0 : Int32)) 3 (0 : Int32)) 4 (0 : Int32)) _ n0 X.size A_b13 (own_chB (own_chB (own_chB (own_chB (own_chB (fun _ _ => by decide) (i := 0) (x := 0) (by decide)) (i := 1) (x := 0) (by decide)) (i := 2) (x := 0) (by decide)) (i := 3) (x := 0) (by decide)) (i := 4) (x := 0) (by decide))) pd5 rfl rfl rfl at_143 (q := 146) rfl (W := 0) rfl (by decide) (by decide) (c2 := 6) (s2 := 20) rfl rfl (by decide) (by decide) (fun v T h' X hQ => ?_)
      obtain ⟨b17, rfl, g_b17, sq_b17, Kc, M_b17⟩ := hQ
      have ne_b13_b17 := own_far A_b13.lt sq_b17
      have ne_b17_b13 := own_apS ne_b13_b17
      have ne_b14_b17 := own_far A_b14.lt sq_b17
      have ne_b17_b14 := own_apS ne_b14_b17
      have ne_b15_b17 := own_far A_b15.lt sq_b17
      have ne_b17_b15 := own_apS ne_b15_b17
      have A_b13 := A_b13.keep Kc nin0
      have A_b14 := A_b14.keep Kc nin0
      have A_b15 := A_b15.keep Kc nin0
      have A_b17 : AI Z h' b17 .int 0 (bld0 (own_up (own_up (own_up (own_up (own_up (fun _ => 0) 0 (0 : Int32)) 1 (0 : Int32)) 2 (0 : Int32)) 3 (0 : Int32)) 4 (0 : Int32))) := M_b17
      show Goes p e below s _ n0 _ (T.setTop (mkF m 146 #[.val (.int p1), .val (.int p2), .val (.int p3), .val (.int p4), .val (.int p5), .val (.int (0 : Int32)), .val (.ref b13), .val (.ref b14), .val (.int (bI (incR (own_up (own_up (own_up (own_up (own_up (fun _ => 0) 0 (0 : Int32)) 1 (0 : Int32)) 2 (0 : Int32)) 3 (0 : Int32)) 4 (0 : Int32)) (0 : Int32)))), .val (.ref b15), .unset, .unset] [(.ref b17)]))
      refine g_astore X at_146 rfl (q := 148) (L' := #[.val (.int p1), .val (.int p2), .val (.int p3), .val (.int p4), .val (.int p5), .val (.int (0 : Int32)), .val (.ref b13), .val (.ref b14), .val (.int (bI (incR (own_up (own_up (own_up (own_up (own_up (fun _ => 0) 0 (0 : Int32)) 1 (0 : Int32)) 2 (0 : Int32)) 3 (0 : Int32)) 4 (0 : Int32)) (0 : Int32)))), .val (.ref b15), .val (.ref b17), .unset]) rfl rfl ?_
      refine g_aload X at_148 rfl (q := 150) rfl rfl ?_
      refine g_callS X [(.ref b15)] [] (tw14 hw) (tw15 hw) (tw16 hw) (tw17 hw) (by decide) (rm5_n0 l Z a0 hw [] b15 (bld0 (own_up (own_up (own_up (own_up (own_up (fun _ => 0) 0 (0 : Int32)) 1 (0 : Int32)) 2 (0 : Int32)) 3 (0 : Int32)) 4 (0 : Int32))) _ n0 X.size A_b15 g_b15) pd6 rfl rfl rfl at_150 (q := 153) rfl (W := 0) rfl (by decide) (by decide) (c2 := 6) (s2 := 20) rfl rfl (by decide) (by decide) (fun v T h' X hQ => ?_)
      obtain ⟨rfl, Kc, A_b15'⟩ := hQ
      have A_b13 := A_b13.keep Kc (ninS ne_b13_b15 nin0)
      have A_b14 := A_b14.keep Kc (ninS ne_b14_b15 nin0)
      have A_b17 := A_b17.keep Kc (ninS ne_b17_b15 nin0)
      have A_b15 : AI Z h' b15 .int 0 (nx0F (bld0 (own_up (own_up (own_up (own_up (own_up (fun _ => 0) 0 (0 : Int32)) 1 (0 : Int32)) 2 (0 : Int32)) 3 (0 : Int32)) 4 (0 : Int32)))) := A_b15'
      show Goes p e below s _ n0 _ (T.setTop (mkF m 153 #[.val (.int p1), .val (.int p2), .val (.int p3), .val (.int p4), .val (.int p5), .val (.int (0 : Int32)), .val (.ref b13), .val (.ref b14), .val (.int (bI (incR (own_up (own_up (own_up (own_up (own_up (fun _ => 0) 0 (0 : Int32)) 1 (0 : Int32)) 2 (0 : Int32)) 3 (0 : Int32)) 4 (0 : Int32)) (0 : Int32)))), .val (.ref b15), .val (.ref b17), .unset] [(.int (0 : Int32))]))
      refine g_istore X at_153 rfl (q := 155) (L' := #[.val (.int p1), .val (.int p2), .val (.int p3), .val (.int p4), .val (.int p5), .val (.int (0 : Int32)), .val (.ref b13), .val (.ref b14), .val (.int (bI (incR (own_up (own_up (own_up (own_up (own_up (fun _ => 0) 0 (0 : Int32)) 1 (0 : Int32)) 2 (0 : Int32)) 3 (0 : Int32)) 4 (0 : Int32)) (0 : Int32)))), .val (.ref b15), .val (.ref b17), .val (.int (0 : Int32))]) rfl ?_
      refine g_iload X at_155 rfl (q := 157) rfl ?_
      refine g_iload X at_157 rfl (q := 159) rfl ?_
      refine g_jT1 X (J := 179) (P := fun (s0_179 : Int32) => s0_179 = (bI (¬ (incR (own_up (own_up (own_up (own_up (own_up (fun _ => 0) 0 (0 : Int32)) 1 (0 : Int32)) 2 (0 : Int32)) 3 (0 : Int32)) 4 (0 : Int32)) (0 : Int32))))) (L := fun s0_179 => #[.val (.int p1), .val (.int p2), .val (.int p3), .val (.int p4), .val (.int p5), .val (.int (0 : Int32)), .val (.ref b13), .val (.ref b14), .val (.int (bI (incR (own_up (own_up (own_up (own_up (own_up (fun _ => 0) 0 (0 : Int32)) 1 (0 : Int32)) 2 (0 : Int32)) 3 (0 : Int32)) 4 (0 : Int32)) (0 : Int32)))), .val (.ref b15), .val (.ref b17), .val (.int (0 : Int32))]) (S := fun s0_179 => [(.int s0_179)]) ?_ ?_
      · intro T X s0_179 hs0_179
        replace hs0_179 : s0_179 = (bI (¬ (incR (own_up (own_up (own_up (own_up (own_up (fun _ => 0) 0 (0 : Int32)) 1 (0 : Int32)) 2 (0 : Int32)) 3 (0 : Int32)) 4 (0 : Int32)) (0 : Int32)))) := hs0_179
        subst hs0_179
        show Goes p e below s _ n0 _ (T.setTop (mkF m 179 #[.val (.int p1), .val (.int p2), .val (.int p3), .val (.int p4), .val (.int p5), .val (.int (0 : Int32)), .val (.ref b13), .val (.ref b14), .val (.int (bI (incR (own_up (own_up (own_up (own_up (own_up (fun _ => 0) 0 (0 : Int32)) 1 (0 : Int32)) 2 (0 : Int32)) 3 (0 : Int32)) 4 (0 : Int32)) (0 : Int32)))), .val (.ref b15), .val (.ref b17), .val (.int (0 : Int32))] [(.int (bI (¬ (incR (own_up (own_up (own_up (own_up (own_up (fun _ => 0) 0 (0 : Int32)) 1 (0 : Int32)) 2 (0 : Int32)) 3 (0 : Int32)) 4 (0 : Int32)) (0 : Int32)))))]))
        refine g_retZ X at_179 (by decide) (by decide) (bI_01 _) (own_fin ?_)
        show ¬ (incR (own_up (own_up (own_up (own_up (own_up (fun _ => 0) 0 (0 : Int32)) 1 (0 : Int32)) 2 (0 : Int32)) 3 (0 : Int32)) 4 (0 : Int32)) (0 : Int32))
        exact own_fin2 c1
      · intro J179_3
        refine g_icmpB X at_159 (Or.inr (Or.inr rfl)) (q := 162) rfl (by decide) (t := 178) rfl (fun c4 => ?_) (fun c4 => ?_)
        · replace c4 : ¬ (incR (own_up (own_up (own_up (own_up (own_up (fun _ => 0) 0 (0 : Int32)) 1 (0 : Int32)) 2 (0 : Int32)) 3 (0 : Int32)) 4 (0 : Int32)) (0 : Int32)) := (bI_eq0 _).mp c4.symm
          refine g_aload X at_162 rfl (q := 164) rfl rfl ?_
          refine g_aload X at_164 rfl (q := 166) rfl rfl ?_
          refine g_iload X at_166 rfl (q := 168) rfl ?_
          refine g_callS X [(.ref b15), (.ref b17), (.int (0 : Int32))] [] (tw18 hw) (tw19 hw) (tw3 hw) (tw20 hw) (by decide) (rm6_n0 l Z a0 hw [] b15 b17 (nx0F (bld0 (own_up (own_up (own_up (own_up (own_up (fun _ => 0) 0 (0 : Int32)) 1 (0 : Int32)) 2 (0 : Int32)) 3 (0 : Int32)) 4 (0 : Int32)))) (bld0 (own_up (own_up (own_up (own_up (own_up (fun _ => 0) 0 (0 : Int32)) 1 (0 : Int32)) 2 (0 : Int32)) 3 (0 : Int32)) 4 (0 : Int32))) _ n0 X.size A_b15 A_b17) pd7 rfl rfl rfl at_168 (q := 171) rfl (W := 0) rfl (by decide) (by decide) (c2 := 6) (s2 := 20) rfl rfl (by decide) (by decide) (fun v T h' X hQ => ?_)
          obtain ⟨rfl, rfl⟩ := hQ
          show Goes p e below s _ n0 _ (T.setTop (mkF m 171 #[.val (.int p1), .val (.int p2), .val (.int p3), .val (.int p4), .val (.int p5), .val (.int (0 : Int32)), .val (.ref b13), .val (.ref b14), .val (.int (bI (incR (own_up (own_up (own_up (own_up (own_up (fun _ => 0) 0 (0 : Int32)) 1 (0 : Int32)) 2 (0 : Int32)) 3 (0 : Int32)) 4 (0 : Int32)) (0 : Int32)))), .val (.ref b15), .val (.ref b17), .val (.int (0 : Int32))] [(.int (1 : Int32))]))
          refine g_ifA X at_171 (Or.inr (Or.inr rfl)) (q := 174) rfl (by decide) (t := 178) rfl (fun (c5 : (1 : Int32) = (0 : Int32)) => ?_) (fun (c5 : ¬ ((1 : Int32) = (0 : Int32))) => ?_)
          · skip
            exact absurd c5 (by decide)
          · skip
            refine g_iconst X at_174 rfl (q := 175) (v := 1) rfl ?_
            refine g_goto X at_175 (by decide) (q := 179) rfl ?_
            exact J179_3 T X _ (bI_t c4)
        · replace c4 : ¬ (¬ (incR (own_up (own_up (own_up (own_up (own_up (fun _ => 0) 0 (0 : Int32)) 1 (0 : Int32)) 2 (0 : Int32)) 3 (0 : Int32)) 4 (0 : Int32)) (0 : Int32))) := fun z => c4 ((bI_eq0 _).mpr z).symm
          refine g_iconst X at_178 rfl (q := 179) (v := 0) rfl ?_
          exact J179_3 T X _ (bI_f c4)
  · subst q7
    show Goes p e below s _ n0 _ (T.setTop (mkF m 9 #[.val (.int p1), .val (.int p2), .val (.int p3), .val (.int p4), .val (.int p5), .val (.int (1 : Int32)), .unset, .unset, .unset, .unset, .unset, .unset] []))
    refine g_iconst X at_9 rfl (q := 10) (v := 5) rfl ?_
    refine g_newarrI X (aty := .int) rfl (tw0 hw) at_10 (q := 12) rfl (by decide) (cap := 5) (by decide) (by decide) (c2 := 1) (s2 := 5) rfl rfl (by decide) (by decide) (fun T h' b18 X gz_b18 g_b18 E A_new => ?_)
    have A_b18 : AI Z h' b18 .int 5 (fun _ => 0) := A_new
    refine g_astore X at_12 rfl (q := 14) (L' := #[.val (.int p1), .val (.int p2), .val (.int p3), .val (.int p4), .val (.int p5), .val (.int (1 : Int32)), .val (.ref b18), .unset, .unset, .unset, .unset, .unset]) rfl rfl ?_
    refine g_aload X at_14 rfl (q := 16) rfl rfl ?_
    refine g_iconst X at_16 rfl (q := 17) (v := 0) rfl ?_
    refine g_iloadN X at_17 rfl (q := 18) rfl ?_
    refine g_iload X at_18 rfl (q := 20) rfl ?_
    refine g_callS X [(.int p2), (.int (1 : Int32))] [(.int (0 : Int32)), (.ref b18)] (tw1 hw) (tw2 hw) (tw3 hw) (tw4 hw) (by decide) (rm1_r1 l Z a0 hw [] p2 _ n0 X.size) pd3 rfl rfl rfl at_20 (q := 23) rfl (W := 2) rfl (by decide) (by decide) (c2 := 1) (s2 := 5) rfl rfl (by decide) (by decide) (fun v T h' X hQ => ?_)
    obtain ⟨rfl, rfl⟩ := hQ
    show Goes p e below s _ n0 _ (T.setTop (mkF m 23 #[.val (.int p1), .val (.int p2), .val (.int p3), .val (.int p4), .val (.int p5), .val (.int (1 : Int32)), .val (.ref b18), .unset, .unset, .unset, .unset, .unset] [(.int (0 : Int32)), (.int (0 : Int32)), (.ref b18)]))
    refine g_iastore X A_b18 ⟨by decide, by decide⟩ g_b18 at_23 (q := 24) rfl (fun T h X W => ?_)
    have A_b18 : AI Z h b18 .int 5 (own_up (fun _ => 0) 0 (0 : Int32)) := A_b18.set W
    refine g_aload X at_24 rfl (q := 26) rfl rfl ?_
    refine g_iconst X at_26 rfl (q := 27) (v := 1) rfl ?_
    refine g_iloadN X at_27 rfl (q := 28) rfl ?_
    refine g_iload X at_28 rfl (q := 30) rfl ?_
    refine g_iconst X at_30 rfl (q := 31) (v := 1) rfl ?_
    refine g_isub X at_31 rfl (q := 32) ?_
    refine g_eqI (y := (0 : Int32)) (by decide) ?_
    refine g_callS X [(.int p3), (.int (0 : Int32))] [(.int (1 : Int32)), (.ref b18)] (tw1 hw) (tw2 hw) (tw3 hw) (tw4 hw) (by decide) (rm1_r0 l Z a0 hw [] p3 _ n0 X.size) pd3 rfl rfl rfl at_32 (q := 35) rfl (W := 2) rfl (by decide) (by decide) (c2 := 1) (s2 := 5) rfl rfl (by decide) (by decide) (fun v T h' X hQ => ?_)
    obtain ⟨rfl, rfl⟩ := hQ
    show Goes p e below s _ n0 _ (T.setTop (mkF m 35 #[.val (.int p1), .val (.int p2), .val (.int p3), .val (.int p4), .val (.int p5), .val (.int (1 : Int32)), .val (.ref b18), .unset, .unset, .unset, .unset, .unset] [(.int (0 : Int32)), (.int (1 : Int32)), (.ref b18)]))
    refine g_iastore X A_b18 ⟨by decide, by decide⟩ g_b18 at_35 (q := 36) rfl (fun T h X W => ?_)
    have A_b18 : AI Z h b18 .int 5 (own_up (own_up (fun _ => 0) 0 (0 : Int32)) 1 (0 : Int32)) := A_b18.set W
    refine g_aload X at_36 rfl (q := 38) rfl rfl ?_
    refine g_iconst X at_38 rfl (q := 39) (v := 2) rfl ?_
    refine g_iloadN X at_39 rfl (q := 40) rfl ?_
    refine g_iload X at_40 rfl (q := 42) rfl ?_
    refine g_iconst X at_42 rfl (q := 43) (v := 2) rfl ?_
    refine g_isub X at_43 rfl (q := 44) ?_
    refine g_eqI (y := (-1 : Int32)) (by decide) ?_
    refine g_callS X [(.int p4), (.int (-1 : Int32))] [(.int (2 : Int32)), (.ref b18)] (tw1 hw) (tw2 hw) (tw3 hw) (tw4 hw) (by decide) (rm1_rm1 l Z a0 hw [] p4 _ n0 X.size) pd3 rfl rfl rfl at_44 (q := 47) rfl (W := 2) rfl (by decide) (by decide) (c2 := 1) (s2 := 5) rfl rfl (by decide) (by decide) (fun v T h' X hQ => ?_)
    obtain ⟨rfl, rfl⟩ := hQ
    show Goes p e below s _ n0 _ (T.setTop (mkF m 47 #[.val (.int p1), .val (.int p2), .val (.int p3), .val (.int p4), .val (.int p5), .val (.int (1 : Int32)), .val (.ref b18), .unset, .unset, .unset, .unset, .unset] [(.int (0 : Int32)), (.int (2 : Int32)), (.ref b18)]))
    refine g_iastore X A_b18 ⟨by decide, by decide⟩ g_b18 at_47 (q := 48) rfl (fun T h X W => ?_)
    have A_b18 : AI Z h b18 .int 5 (own_up (own_up (own_up (fun _ => 0) 0 (0 : Int32)) 1 (0 : Int32)) 2 (0 : Int32)) := A_b18.set W
    refine g_aload X at_48 rfl (q := 50) rfl rfl ?_
    refine g_iconst X at_50 rfl (q := 51) (v := 3) rfl ?_
    refine g_iload X at_51 rfl (q := 53) rfl ?_
    refine g_iload X at_53 rfl (q := 55) rfl ?_
    refine g_iconst X at_55 rfl (q := 56) (v := 3) rfl ?_
    refine g_isub X at_56 rfl (q := 57) ?_
    refine g_eqI (y := (-2 : Int32)) (by decide) ?_
    refine g_callS X [(.int p5), (.int (-2 : Int32))] [(.int (3 : Int32)), (.ref b18)] (tw1 hw) (tw2 hw) (tw3 hw) (tw4 hw) (by decide) (rm1_rm2 l Z a0 hw [] p5 _ n0 X.size) pd3 rfl rfl rfl at_57 (q := 60) rfl (W := 2) rfl (by decide) (by decide) (c2 := 1) (s2 := 5) rfl rfl (by decide) (by decide) (fun v T h' X hQ => ?_)
    obtain ⟨rfl, rfl⟩ := hQ
    show Goes p e below s _ n0 _ (T.setTop (mkF m 60 #[.val (.int p1), .val (.int p2), .val (.int p3), .val (.int p4), .val (.int p5), .val (.int (1 : Int32)), .val (.ref b18), .unset, .unset, .unset, .unset, .unset] [(.int (0 : Int32)), (.int (3 : Int32)), (.ref b18)]))
    refine g_iastore X A_b18 ⟨by decide, by decide⟩ g_b18 at_60 (q := 61) rfl (fun T h X W => ?_)
    have A_b18 : AI Z h b18 .int 5 (own_up (own_up (own_up (own_up (fun _ => 0) 0 (0 : Int32)) 1 (0 : Int32)) 2 (0 : Int32)) 3 (0 : Int32)) := A_b18.set W
    refine g_aload X at_61 rfl (q := 63) rfl rfl ?_
    refine g_iconst X at_63 rfl (q := 64) (v := 4) rfl ?_
    refine g_iconst X at_64 rfl (q := 65) (v := 0) rfl ?_
    refine g_iastore X A_b18 ⟨by decide, by decide⟩ g_b18 at_65 (q := 66) rfl (fun T h X W => ?_)
    have A_b18 : AI Z h b18 .int 5 (own_up (own_up (own_up (own_up (own_up (fun _ => 0) 0 (0 : Int32)) 1 (0 : Int32)) 2 (0 : Int32)) 3 (0 : Int32)) 4 (0 : Int32)) := A_b18.set W
    refine g_iconst X at_66 rfl (q := 67) (v := 5) rfl ?_
    refine g_newarrI X (aty := .int) rfl (tw0 hw) at_67 (q := 69) rfl (by decide) (cap := 5) (by decide) (by decide) (c2 := 2) (s2 := 10) rfl rfl (by decide) (by decide) (fun T h' b19 X gz_b19 g_b19 E A_new => ?_)
    have ne_b18_b19 := own_new gz_b19 A_b18.lt
    have ne_b19_b18 := own_apS ne_b18_b19
    have A_b18 := A_b18.ext E
    have A_b19 : AI Z h' b19 .int 5 (fun _ => 0) := A_new
    refine g_dup X at_69 rfl (q := 70) rfl ?_
    refine g_iconst X at_70 rfl (q := 71) (v := 0) rfl ?_
    refine g_aload X at_71 rfl (q := 73) rfl rfl ?_
    refine g_iconst X at_73 rfl (q := 74) (v := 0) rfl ?_
    refine g_iaload X A_b18 ⟨by decide, by decide⟩ at_74 (q := 75) rfl ?_
    refine g_eqI (y := (0 : Int32)) rfl ?_
    refine g_iastore X A_b19 ⟨by decide, by decide⟩ g_b19 at_75 (q := 76) rfl (fun T h X W => ?_)
    have A_b18 := A_b18.other W ne_b18_b19
    have A_b19 : AI Z h b19 .int 5 (own_up (fun _ => 0) 0 (0 : Int32)) := A_b19.set W
    refine g_dup X at_76 rfl (q := 77) rfl ?_
    refine g_iconst X at_77 rfl (q := 78) (v := 1) rfl ?_
    refine g_aload X at_78 rfl (q := 80) rfl rfl ?_
    refine g_iconst X at_80 rfl (q := 81) (v := 1) rfl ?_
    refine g_iaload X A_b18 ⟨by decide, by decide⟩ at_81 (q := 82) rfl ?_
    refine g_eqI (y := (0 : Int32)) rfl ?_
    refine g_iastore X A_b19 ⟨by decide, by decide⟩ g_b19 at_82 (q := 83) rfl (fun T h X W => ?_)
    have A_b18 := A_b18.other W ne_b18_b19
    have A_b19 : AI Z h b19 .int 5 (own_up (own_up (fun _ => 0) 0 (0 : Int32)) 1 (0 : Int32)) := A_b19.set W
    refine g_dup X at_83 rfl (q := 84) rfl ?_
    refine g_iconst X at_84 rfl (q := 85) (v := 2) rfl ?_
    refine g_aload X at_85 rfl (q := 87) rfl rfl ?_
    refine g_iconst X at_87 rfl (q := 88) (v := 2) rfl ?_
    refine g_iaload X A_b18 ⟨by decide, by decide⟩ at_88 (q := 89) rfl ?_
    refine g_eqI (y := (0 : Int32)) rfl ?_
    refine g_iastore X A_b19 ⟨by decide, by decide⟩ g_b19 at_89 (q := 90) rfl (fun T h X W => ?_)
    have A_b18 := A_b18.other W ne_b18_b19
    have A_b19 : AI Z h b19 .int 5 (own_up (own_up (own_up (fun _ => 0) 0 (0 : Int32)) 1 (0 : Int32)) 2 (0 : Int32)) := A_b19.set W
    refine g_dup X at_90 rfl (q := 91) rfl ?_
    refine g_iconst X at_91 rfl (q := 92) (v := 3) rfl ?_
    refine g_aload X at_92 rfl (q := 94) rfl rfl ?_
    refine g_iconst X at_94 rfl (q := 95) (v := 3) rfl ?_
    refine g_iaload X A_b18 ⟨by decide, by decide⟩ at_95 (q := 96) rfl ?_
    refine g_eqI (y := (0 : Int32)) rfl ?_
    refine g_iastore X A_b19 ⟨by decide, by decide⟩ g_b19 at_96 (q := 97) rfl (fun T h X W => ?_)
    have A_b18 := A_b18.other W ne_b18_b19
    have A_b19 : AI Z h b19 .int 5 (own_up (own_up (own_up (own_up (fun _ => 0) 0 (0 : Int32)) 1 (0 : Int32)) 2 (0 : Int32)) 3 (0 : Int32)) := A_b19.set W
    refine g_dup X at_97 rfl (q := 98) rfl ?_
    refine g_iconst X at_98 rfl (q := 99) (v := 4) rfl ?_
    refine g_aload X at_99 rfl (q := 101) rfl rfl ?_
    refine g_iconst X at_101 rfl (q := 102) (v := 4) rfl ?_
    refine g_iaload X A_b18 ⟨by decide, by decide⟩ at_102 (q := 103) rfl ?_
    refine g_eqI (y := (0 : Int32)) rfl ?_
    refine g_iastore X A_b19 ⟨by decide, by decide⟩ g_b19 at_103 (q := 104) rfl (fun T h X W => ?_)
    have A_b18 := A_b18.other W ne_b18_b19
    have A_b19 : AI Z h b19 .int 5 (own_up (own_up (own_up (own_up (own_up (fun _ => 0) 0 (0 : Int32)) 1 (0 : Int32)) 2 (0 : Int32)) 3 (0 : Int32)) 4 (0 : Int32)) := A_b19.set W
    refine g_astore X at_104 rfl (q := 106) (L' := #[.val (.int p1), .val (.int p2), .val (.int p3), .val (.int p4), .val (.int p5), .val (.int (1 : Int32)), .val (.ref b18), .val (.ref b19), .unset, .unset, .unset, .unset]) rfl rfl ?_
    refine g_aload X at_106 rfl (q := 108) rfl rfl ?_
    refine g_iload X at_108 rfl (q := 110) rfl ?_
    refine g_callS X [(.ref b19), (.int (1 : Int32))] [] (tw5 hw) (tw6 hw) (tw3 hw) (tw7 hw) (by decide) (rm2 l Z a0 hw [] b19 (1 : Int32) (own_up (own_up (own_up (own_up (own_up (fun _ => 0) 0 (0 : Int32)) 1 (0 : Int32)) 2 (0 : Int32)) 3 (0 : Int32)) 4 (0 : Int32)) _ n0 X.size A_b19 g_b19) pd4 rfl rfl rfl at_110 (q := 113) rfl (W := 0) rfl (by decide) (by decide) (c2 := 2) (s2 := 10) rfl rfl (by decide) (by decide) (fun v T h' X hQ => ?_)
    obtain ⟨rfl, Kc, A_b19'⟩ := hQ
    have A_b18 := A_b18.keep Kc (ninS ne_b18_b19 nin0)
    have A_b19 : AI Z h' b19 .int 5 (incF (own_up (own_up (own_up (own_up (own_up (fun _ => 0) 0 (0 : Int32)) 1 (0 : Int32)) 2 (0 : Int32)) 3 (0 : Int32)) 4 (0 : Int32)) (1 : Int32)) := A_b19'
    show Goes p e below s _ n0 _ (T.setTop (mkF m 113 #[.val (.int p1), .val (.int p2), .val (.int p3), .val (.int p4), .val (.int p5), .val (.int (1 : Int32)), .val (.ref b18), .val (.ref b19), .unset, .unset, .unset, .unset] [(.int (bI (incR (own_up (own_up (own_up (own_up (own_up (fun _ => 0) 0 (0 : Int32)) 1 (0 : Int32)) 2 (0 : Int32)) 3 (0 : Int32)) 4 (0 : Int32)) (1 : Int32))))]))
    refine g_istore X at_113 rfl (q := 115) (L' := #[.val (.int p1), .val (.int p2), .val (.int p3), .val (.int p4), .val (.int p5), .val (.int (1 : Int32)), .val (.ref b18), .val (.ref b19), .val (.int (bI (incR (own_up (own_up (own_up (own_up (own_up (fun _ => 0) 0 (0 : Int32)) 1 (0 : Int32)) 2 (0 : Int32)) 3 (0 : Int32)) 4 (0 : Int32)) (1 : Int32)))), .unset, .unset, .unset]) rfl ?_
    refine g_aload X at_115 rfl (q := 117) rfl rfl ?_
    refine g_iload X at_117 rfl (q := 119) rfl ?_
    refine g_callS X [(.ref b18), (.int (1 : Int32))] [] (tw11 hw) (tw12 hw) (tw3 hw) (tw13 hw) (by decide) (rm4_n1 l Z a0 hw [] b18 (own_up (own_up (own_up (own_up (own_up (fun _ => 0) 0 (0 : Int32)) 1 (0 : Int32)) 2 (0 : Int32)) 3 (0 : Int32)) 4 (0 : Int32)) _ n0 X.size A_b18 (own_chB (own_chB (own_chB (own_chB (own_chB (fun _ _ => by decide) (i := 0) (x := 0) (by decide)) (i := 1) (x := 0) (by decide)) (i := 2) (x := 0) (by decide)) (i := 3) (x := 0) (by decide)) (i := 4) (x := 0) (by decide))) pd5 rfl rfl rfl at_119 (q := 122) rfl (W := 0) rfl (by decide) (by decide) (c2 := 4) (s2 := 16) rfl rfl (by decide) (by decide) (fun v T h' X hQ => ?_)
    obtain ⟨b20, rfl, g_b20, sq_b20, Kc, M_b20⟩ := hQ
    have ne_b18_b20 := own_far A_b18.lt sq_b20
    have ne_b20_b18 := own_apS ne_b18_b20
    have ne_b19_b20 := own_far A_b19.lt sq_b20
    have ne_b20_b19 := own_apS ne_b19_b20
    have A_b18 := A_b18.keep Kc nin0
    have A_b19 := A_b19.keep Kc nin0
    have A_b20 : AI Z h' b20 .int 1 (bld1 (own_up (own_up (own_up (own_up (own_up (fun _ => 0) 0 (0 : Int32)) 1 (0 : Int32)) 2 (0 : Int32)) 3 (0 : Int32)) 4 (0 : Int32))) := M_b20
    show Goes p e below s _ n0 _ (T.setTop (mkF m 122 #[.val (.int p1), .val (.int p2), .val (.int p3), .val (.int p4), .val (.int p5), .val (.int (1 : Int32)), .val (.ref b18), .val (.ref b19), .val (.int (bI (incR (own_up (own_up (own_up (own_up (own_up (fun _ => 0) 0 (0 : Int32)) 1 (0 : Int32)) 2 (0 : Int32)) 3 (0 : Int32)) 4 (0 : Int32)) (1 : Int32)))), .unset, .unset, .unset] [(.ref b20)]))
    refine g_astore X at_122 rfl (q := 124) (L' := #[.val (.int p1), .val (.int p2), .val (.int p3), .val (.int p4), .val (.int p5), .val (.int (1 : Int32)), .val (.ref b18), .val (.ref b19), .val (.int (bI (incR (own_up (own_up (own_up (own_up (own_up (fun _ => 0) 0 (0 : Int32)) 1 (0 : Int32)) 2 (0 : Int32)) 3 (0 : Int32)) 4 (0 : Int32)) (1 : Int32)))), .val (.ref b20), .unset, .unset]) rfl rfl ?_
    refine g_iload X at_124 rfl (q := 126) rfl ?_
    refine g_beq X at_126 (q := 129) rfl (by decide) (t := 139) rfl (fun (c6 : incR (own_up (own_up (own_up (own_up (own_up (fun _ => 0) 0 (0 : Int32)) 1 (0 : Int32)) 2 (0 : Int32)) 3 (0 : Int32)) 4 (0 : Int32)) (1 : Int32)) => ?_) (fun (c6 : ¬ (incR (own_up (own_up (own_up (own_up (own_up (fun _ => 0) 0 (0 : Int32)) 1 (0 : Int32)) 2 (0 : Int32)) 3 (0 : Int32)) 4 (0 : Int32)) (1 : Int32))) => ?_)
    · skip
      refine g_aload X at_129 rfl (q := 131) rfl rfl ?_
      refine g_iload X at_131 rfl (q := 133) rfl ?_
      refine g_callS X [(.ref b19), (.int (1 : Int32))] [] (tw11 hw) (tw12 hw) (tw3 hw) (tw13 hw) (by decide) (rm4_n1 l Z a0 hw [] b19 (incF (own_up (own_up (own_up (own_up (own_up (fun _ => 0) 0 (0 : Int32)) 1 (0 : Int32)) 2 (0 : Int32)) 3 (0 : Int32)) 4 (0 : Int32)) (1 : Int32)) _ n0 X.size A_b19 (own_incB (own_chB (own_chB (own_chB (own_chB (own_chB (fun _ _ => by decide) (i := 0) (x := 0) (by decide)) (i := 1) (x := 0) (by decide)) (i := 2) (x := 0) (by decide)) (i := 3) (x := 0) (by decide)) (i := 4) (x := 0) (by decide)) (by decide))) pd5 rfl rfl rfl at_133 (q := 136) rfl (W := 0) rfl (by decide) (by decide) (c2 := 6) (s2 := 22) rfl rfl (by decide) (by decide) (fun v T h' X hQ => ?_)
      obtain ⟨b21, rfl, g_b21, sq_b21, Kc, M_b21⟩ := hQ
      have ne_b18_b21 := own_far A_b18.lt sq_b21
      have ne_b21_b18 := own_apS ne_b18_b21
      have ne_b19_b21 := own_far A_b19.lt sq_b21
      have ne_b21_b19 := own_apS ne_b19_b21
      have ne_b20_b21 := own_far A_b20.lt sq_b21
      have ne_b21_b20 := own_apS ne_b20_b21
      have A_b18 := A_b18.keep Kc nin0
      have A_b19 := A_b19.keep Kc nin0
      have A_b20 := A_b20.keep Kc nin0
      have A_b21 : AI Z h' b21 .int 1 (bld1 (incF (own_up (own_up (own_up (own_up (own_up (fun _ => 0) 0 (0 : Int32)) 1 (0 : Int32)) 2 (0 : Int32)) 3 (0 : Int32)) 4 (0 : Int32)) (1 : Int32))) := M_b21
      show Goes p e below s _ n0 _ (T.setTop (mkF m 136 #[.val (.int p1), .val (.int p2), .val (.int p3), .val (.int p4), .val (.int p5), .val (.int (1 : Int32)), .val (.ref b18), .val (.ref b19), .val (.int (bI (incR (own_up (own_up (own_up (own_up (own_up (fun _ => 0) 0 (0 : Int32)) 1 (0 : Int32)) 2 (0 : Int32)) 3 (0 : Int32)) 4 (0 : Int32)) (1 : Int32)))), .val (.ref b20), .unset, .unset] [(.ref b21)]))
      refine g_goto X at_136 (by decide) (q := 146) rfl ?_
      refine g_astore X at_146 rfl (q := 148) (L' := #[.val (.int p1), .val (.int p2), .val (.int p3), .val (.int p4), .val (.int p5), .val (.int (1 : Int32)), .val (.ref b18), .val (.ref b19), .val (.int (bI (incR (own_up (own_up (own_up (own_up (own_up (fun _ => 0) 0 (0 : Int32)) 1 (0 : Int32)) 2 (0 : Int32)) 3 (0 : Int32)) 4 (0 : Int32)) (1 : Int32)))), .val (.ref b20), .val (.ref b21), .unset]) rfl rfl ?_
      refine g_aload X at_148 rfl (q := 150) rfl rfl ?_
      refine g_callS X [(.ref b20)] [] (tw14 hw) (tw15 hw) (tw16 hw) (tw17 hw) (by decide) (rm5_n1 l Z a0 hw [] b20 (bld1 (own_up (own_up (own_up (own_up (own_up (fun _ => 0) 0 (0 : Int32)) 1 (0 : Int32)) 2 (0 : Int32)) 3 (0 : Int32)) 4 (0 : Int32))) _ n0 X.size A_b20 g_b20) pd6 rfl rfl rfl at_150 (q := 153) rfl (W := 0) rfl (by decide) (by decide) (c2 := 6) (s2 := 22) rfl rfl (by decide) (by decide) (fun v T h' X hQ => ?_)
      obtain ⟨rfl, Kc, A_b20'⟩ := hQ
      have A_b18 := A_b18.keep Kc (ninS ne_b18_b20 nin0)
      have A_b19 := A_b19.keep Kc (ninS ne_b19_b20 nin0)
      have A_b21 := A_b21.keep Kc (ninS ne_b21_b20 nin0)
      have A_b20 : AI Z h' b20 .int 1 (nx1F (bld1 (own_up (own_up (own_up (own_up (own_up (fun _ => 0) 0 (0 : Int32)) 1 (0 : Int32)) 2 (0 : Int32)) 3 (0 : Int32)) 4 (0 : Int32)))) := A_b20'
      show Goes p e below s _ n0 _ (T.setTop (mkF m 153 #[.val (.int p1), .val (.int p2), .val (.int p3), .val (.int p4), .val (.int p5), .val (.int (1 : Int32)), .val (.ref b18), .val (.ref b19), .val (.int (bI (incR (own_up (own_up (own_up (own_up (own_up (fun _ => 0) 0 (0 : Int32)) 1 (0 : Int32)) 2 (0 : Int32)) 3 (0 : Int32)) 4 (0 : Int32)) (1 : Int32)))), .val (.ref b20), .val (.ref b21), .unset] [(.int (0 : Int32))]))
      refine g_istore X at_153 rfl (q := 155) (L' := #[.val (.int p1), .val (.int p2), .val (.int p3), .val (.int p4), .val (.int p5), .val (.int (1 : Int32)), .val (.ref b18), .val (.ref b19), .val (.int (bI (incR (own_up (own_up (own_up (own_up (own_up (fun _ => 0) 0 (0 : Int32)) 1 (0 : Int32)) 2 (0 : Int32)) 3 (0 : Int32)) 4 (0 : Int32)) (1 : Int32)))), .val (.ref b20), .val (.ref b21), .val (.int (0 : Int32))]) rfl ?_
      refine g_iload X at_155 rfl (q := 157) rfl ?_
      refine g_iload X at_157 rfl (q := 159) rfl ?_
      refine g_jT1 X (J := 179) (P := fun (s0_179 : Int32) => s0_179 = (bI ((¬ (incR (own_up (own_up (own_up (own_up (own_up (fun _ => 0) 0 (0 : Int32)) 1 (0 : Int32)) 2 (0 : Int32)) 3 (0 : Int32)) 4 (0 : Int32)) (1 : Int32))) ∧ (((nx1F (bld1 (own_up (own_up (own_up (own_up (own_up (fun _ => 0) 0 (0 : Int32)) 1 (0 : Int32)) 2 (0 : Int32)) 3 (0 : Int32)) 4 (0 : Int32)))) 0) = ((bld1 (incF (own_up (own_up (own_up (own_up (own_up (fun _ => 0) 0 (0 : Int32)) 1 (0 : Int32)) 2 (0 : Int32)) 3 (0 : Int32)) 4 (0 : Int32)) (1 : Int32))) 0))))) (L := fun s0_179 => #[.val (.int p1), .val (.int p2), .val (.int p3), .val (.int p4), .val (.int p5), .val (.int (1 : Int32)), .val (.ref b18), .val (.ref b19), .val (.int (bI (incR (own_up (own_up (own_up (own_up (own_up (fun _ => 0) 0 (0 : Int32)) 1 (0 : Int32)) 2 (0 : Int32)) 3 (0 : Int32)) 4 (0 : Int32)) (1 : Int32)))), .val (.ref b20), .val (.ref b21), .val (.int (0 : Int32))]) (S := fun s0_179 => [(.int s0_179)]) ?_ ?_
      · intro T X s0_179 hs0_179
        replace hs0_179 : s0_179 = (bI ((¬ (incR (own_up (own_up (own_up (own_up (own_up (fun _ => 0) 0 (0 : Int32)) 1 (0 : Int32)) 2 (0 : Int32)) 3 (0 : Int32)) 4 (0 : Int32)) (1 : Int32))) ∧ (((nx1F (bld1 (own_up (own_up (own_up (own_up (own_up (fun _ => 0) 0 (0 : Int32)) 1 (0 : Int32)) 2 (0 : Int32)) 3 (0 : Int32)) 4 (0 : Int32)))) 0) = ((bld1 (incF (own_up (own_up (own_up (own_up (own_up (fun _ => 0) 0 (0 : Int32)) 1 (0 : Int32)) 2 (0 : Int32)) 3 (0 : Int32)) 4 (0 : Int32)) (1 : Int32))) 0)))) := hs0_179
        subst hs0_179
        show Goes p e below s _ n0 _ (T.setTop (mkF m 179 #[.val (.int p1), .val (.int p2), .val (.int p3), .val (.int p4), .val (.int p5), .val (.int (1 : Int32)), .val (.ref b18), .val (.ref b19), .val (.int (bI (incR (own_up (own_up (own_up (own_up (own_up (fun _ => 0) 0 (0 : Int32)) 1 (0 : Int32)) 2 (0 : Int32)) 3 (0 : Int32)) 4 (0 : Int32)) (1 : Int32)))), .val (.ref b20), .val (.ref b21), .val (.int (0 : Int32))] [(.int (bI ((¬ (incR (own_up (own_up (own_up (own_up (own_up (fun _ => 0) 0 (0 : Int32)) 1 (0 : Int32)) 2 (0 : Int32)) 3 (0 : Int32)) 4 (0 : Int32)) (1 : Int32))) ∧ (((nx1F (bld1 (own_up (own_up (own_up (own_up (own_up (fun _ => 0) 0 (0 : Int32)) 1 (0 : Int32)) 2 (0 : Int32)) 3 (0 : Int32)) 4 (0 : Int32)))) 0) = ((bld1 (incF (own_up (own_up (own_up (own_up (own_up (fun _ => 0) 0 (0 : Int32)) 1 (0 : Int32)) 2 (0 : Int32)) 3 (0 : Int32)) 4 (0 : Int32)) (1 : Int32))) 0)))))]))
        refine g_retZ X at_179 (by decide) (by decide) (bI_01 _) (own_fin ?_)
        show (¬ (incR (own_up (own_up (own_up (own_up (own_up (fun _ => 0) 0 (0 : Int32)) 1 (0 : Int32)) 2 (0 : Int32)) 3 (0 : Int32)) 4 (0 : Int32)) (1 : Int32))) ∧ (((nx1F (bld1 (own_up (own_up (own_up (own_up (own_up (fun _ => 0) 0 (0 : Int32)) 1 (0 : Int32)) 2 (0 : Int32)) 3 (0 : Int32)) 4 (0 : Int32)))) 0) = ((bld1 (incF (own_up (own_up (own_up (own_up (own_up (fun _ => 0) 0 (0 : Int32)) 1 (0 : Int32)) 2 (0 : Int32)) 3 (0 : Int32)) 4 (0 : Int32)) (1 : Int32))) 0))
        exact own_fin3 c6
      · intro J179_6
        refine g_icmpB X at_159 (Or.inr (Or.inr rfl)) (q := 162) rfl (by decide) (t := 178) rfl (fun c7 => ?_) (fun c7 => ?_)
        · replace c7 : ¬ (incR (own_up (own_up (own_up (own_up (own_up (fun _ => 0) 0 (0 : Int32)) 1 (0 : Int32)) 2 (0 : Int32)) 3 (0 : Int32)) 4 (0 : Int32)) (1 : Int32)) := (bI_eq0 _).mp c7.symm
          refine g_aload X at_162 rfl (q := 164) rfl rfl ?_
          refine g_aload X at_164 rfl (q := 166) rfl rfl ?_
          refine g_iload X at_166 rfl (q := 168) rfl ?_
          refine g_callS X [(.ref b20), (.ref b21), (.int (1 : Int32))] [] (tw18 hw) (tw19 hw) (tw3 hw) (tw20 hw) (by decide) (rm6_n1 l Z a0 hw [] b20 b21 (nx1F (bld1 (own_up (own_up (own_up (own_up (own_up (fun _ => 0) 0 (0 : Int32)) 1 (0 : Int32)) 2 (0 : Int32)) 3 (0 : Int32)) 4 (0 : Int32)))) (bld1 (incF (own_up (own_up (own_up (own_up (own_up (fun _ => 0) 0 (0 : Int32)) 1 (0 : Int32)) 2 (0 : Int32)) 3 (0 : Int32)) 4 (0 : Int32)) (1 : Int32))) _ n0 X.size A_b20 A_b21) pd7 rfl rfl rfl at_168 (q := 171) rfl (W := 0) rfl (by decide) (by decide) (c2 := 6) (s2 := 22) rfl rfl (by decide) (by decide) (fun v T h' X hQ => ?_)
          obtain ⟨rfl, rfl⟩ := hQ
          show Goes p e below s _ n0 _ (T.setTop (mkF m 171 #[.val (.int p1), .val (.int p2), .val (.int p3), .val (.int p4), .val (.int p5), .val (.int (1 : Int32)), .val (.ref b18), .val (.ref b19), .val (.int (bI (incR (own_up (own_up (own_up (own_up (own_up (fun _ => 0) 0 (0 : Int32)) 1 (0 : Int32)) 2 (0 : Int32)) 3 (0 : Int32)) 4 (0 : Int32)) (1 : Int32)))), .val (.ref b20), .val (.ref b21), .val (.int (0 : Int32))] [(.int (bI (((nx1F (bld1 (own_up (own_up (own_up (own_up (own_up (fun _ => 0) 0 (0 : Int32)) 1 (0 : Int32)) 2 (0 : Int32)) 3 (0 : Int32)) 4 (0 : Int32)))) 0) = ((bld1 (incF (own_up (own_up (own_up (own_up (own_up (fun _ => 0) 0 (0 : Int32)) 1 (0 : Int32)) 2 (0 : Int32)) 3 (0 : Int32)) 4 (0 : Int32)) (1 : Int32))) 0))))]))
          refine g_beq X at_171 (q := 174) rfl (by decide) (t := 178) rfl (fun (c8 : ((nx1F (bld1 (own_up (own_up (own_up (own_up (own_up (fun _ => 0) 0 (0 : Int32)) 1 (0 : Int32)) 2 (0 : Int32)) 3 (0 : Int32)) 4 (0 : Int32)))) 0) = ((bld1 (incF (own_up (own_up (own_up (own_up (own_up (fun _ => 0) 0 (0 : Int32)) 1 (0 : Int32)) 2 (0 : Int32)) 3 (0 : Int32)) 4 (0 : Int32)) (1 : Int32))) 0)) => ?_) (fun (c8 : ¬ (((nx1F (bld1 (own_up (own_up (own_up (own_up (own_up (fun _ => 0) 0 (0 : Int32)) 1 (0 : Int32)) 2 (0 : Int32)) 3 (0 : Int32)) 4 (0 : Int32)))) 0) = ((bld1 (incF (own_up (own_up (own_up (own_up (own_up (fun _ => 0) 0 (0 : Int32)) 1 (0 : Int32)) 2 (0 : Int32)) 3 (0 : Int32)) 4 (0 : Int32)) (1 : Int32))) 0))) => ?_)
          · skip
            refine g_iconst X at_174 rfl (q := 175) (v := 1) rfl ?_
            refine g_goto X at_175 (by decide) (q := 179) rfl ?_
            exact J179_6 T X _ (bI_t ⟨c7, c8⟩)
          · skip
            refine g_iconst X at_178 rfl (q := 179) (v := 0) rfl ?_
            exact J179_6 T X _ (bI_f (fun z => c8 z.2))
        · replace c7 : ¬ (¬ (incR (own_up (own_up (own_up (own_up (own_up (fun _ => 0) 0 (0 : Int32)) 1 (0 : Int32)) 2 (0 : Int32)) 3 (0 : Int32)) 4 (0 : Int32)) (1 : Int32))) := fun z => c7 ((bI_eq0 _).mpr z).symm
          refine g_iconst X at_178 rfl (q := 179) (v := 0) rfl ?_
          exact J179_6 T X _ (bI_f (fun z => c7 z.1))
    · skip
      refine g_aload X at_139 rfl (q := 141) rfl rfl ?_
      refine g_iload X at_141 rfl (q := 143) rfl ?_
      refine g_callS X [(.ref b18), (.int (1 : Int32))] [] (tw11 hw) (tw12 hw) (tw3 hw) (tw13 hw) (by decide) (rm4_n1 l Z a0 hw [] b18 (own_up (own_up (own_up (own_up (own_up (fun _ => 0) 0 (0 : Int32)) 1 (0 : Int32)) 2 (0 : Int32)) 3 (0 : Int32)) 4 (0 : Int32)) _ n0 X.size A_b18 (own_chB (own_chB (own_chB (own_chB (own_chB (fun _ _ => by decide) (i := 0) (x := 0) (by decide)) (i := 1) (x := 0) (by decide)) (i := 2) (x := 0) (by decide)) (i := 3) (x := 0) (by decide)) (i := 4) (x := 0) (by decide))) pd5 rfl rfl rfl at_143 (q := 146) rfl (W := 0) rfl (by decide) (by decide) (c2 := 6) (s2 := 22) rfl rfl (by decide) (by decide) (fun v T h' X hQ => ?_)
      obtain ⟨b22, rfl, g_b22, sq_b22, Kc, M_b22⟩ := hQ
      have ne_b18_b22 := own_far A_b18.lt sq_b22
      have ne_b22_b18 := own_apS ne_b18_b22
      have ne_b19_b22 := own_far A_b19.lt sq_b22
      have ne_b22_b19 := own_apS ne_b19_b22
      have ne_b20_b22 := own_far A_b20.lt sq_b22
      have ne_b22_b20 := own_apS ne_b20_b22
      have A_b18 := A_b18.keep Kc nin0
      have A_b19 := A_b19.keep Kc nin0
      have A_b20 := A_b20.keep Kc nin0
      have A_b22 : AI Z h' b22 .int 1 (bld1 (own_up (own_up (own_up (own_up (own_up (fun _ => 0) 0 (0 : Int32)) 1 (0 : Int32)) 2 (0 : Int32)) 3 (0 : Int32)) 4 (0 : Int32))) := M_b22
      show Goes p e below s _ n0 _ (T.setTop (mkF m 146 #[.val (.int p1), .val (.int p2), .val (.int p3), .val (.int p4), .val (.int p5), .val (.int (1 : Int32)), .val (.ref b18), .val (.ref b19), .val (.int (bI (incR (own_up (own_up (own_up (own_up (own_up (fun _ => 0) 0 (0 : Int32)) 1 (0 : Int32)) 2 (0 : Int32)) 3 (0 : Int32)) 4 (0 : Int32)) (1 : Int32)))), .val (.ref b20), .unset, .unset] [(.ref b22)]))
      refine g_astore X at_146 rfl (q := 148) (L' := #[.val (.int p1), .val (.int p2), .val (.int p3), .val (.int p4), .val (.int p5), .val (.int (1 : Int32)), .val (.ref b18), .val (.ref b19), .val (.int (bI (incR (own_up (own_up (own_up (own_up (own_up (fun _ => 0) 0 (0 : Int32)) 1 (0 : Int32)) 2 (0 : Int32)) 3 (0 : Int32)) 4 (0 : Int32)) (1 : Int32)))), .val (.ref b20), .val (.ref b22), .unset]) rfl rfl ?_
      refine g_aload X at_148 rfl (q := 150) rfl rfl ?_
      refine g_callS X [(.ref b20)] [] (tw14 hw) (tw15 hw) (tw16 hw) (tw17 hw) (by decide) (rm5_n1 l Z a0 hw [] b20 (bld1 (own_up (own_up (own_up (own_up (own_up (fun _ => 0) 0 (0 : Int32)) 1 (0 : Int32)) 2 (0 : Int32)) 3 (0 : Int32)) 4 (0 : Int32))) _ n0 X.size A_b20 g_b20) pd6 rfl rfl rfl at_150 (q := 153) rfl (W := 0) rfl (by decide) (by decide) (c2 := 6) (s2 := 22) rfl rfl (by decide) (by decide) (fun v T h' X hQ => ?_)
      obtain ⟨rfl, Kc, A_b20'⟩ := hQ
      have A_b18 := A_b18.keep Kc (ninS ne_b18_b20 nin0)
      have A_b19 := A_b19.keep Kc (ninS ne_b19_b20 nin0)
      have A_b22 := A_b22.keep Kc (ninS ne_b22_b20 nin0)
      have A_b20 : AI Z h' b20 .int 1 (nx1F (bld1 (own_up (own_up (own_up (own_up (own_up (fun _ => 0) 0 (0 : Int32)) 1 (0 : Int32)) 2 (0 : Int32)) 3 (0 : Int32)) 4 (0 : Int32)))) := A_b20'
      show Goes p e below s _ n0 _ (T.setTop (mkF m 153 #[.val (.int p1), .val (.int p2), .val (.int p3), .val (.int p4), .val (.int p5), .val (.int (1 : Int32)), .val (.ref b18), .val (.ref b19), .val (.int (bI (incR (own_up (own_up (own_up (own_up (own_up (fun _ => 0) 0 (0 : Int32)) 1 (0 : Int32)) 2 (0 : Int32)) 3 (0 : Int32)) 4 (0 : Int32)) (1 : Int32)))), .val (.ref b20), .val (.ref b22), .unset] [(.int (0 : Int32))]))
      refine g_istore X at_153 rfl (q := 155) (L' := #[.val (.int p1), .val (.int p2), .val (.int p3), .val (.int p4), .val (.int p5), .val (.int (1 : Int32)), .val (.ref b18), .val (.ref b19), .val (.int (bI (incR (own_up (own_up (own_up (own_up (own_up (fun _ => 0) 0 (0 : Int32)) 1 (0 : Int32)) 2 (0 : Int32)) 3 (0 : Int32)) 4 (0 : Int32)) (1 : Int32)))), .val (.ref b20), .val (.ref b22), .val (.int (0 : Int32))]) rfl ?_
      refine g_iload X at_155 rfl (q := 157) rfl ?_
      refine g_iload X at_157 rfl (q := 159) rfl ?_
      refine g_jT1 X (J := 179) (P := fun (s0_179 : Int32) => s0_179 = (bI ((¬ (incR (own_up (own_up (own_up (own_up (own_up (fun _ => 0) 0 (0 : Int32)) 1 (0 : Int32)) 2 (0 : Int32)) 3 (0 : Int32)) 4 (0 : Int32)) (1 : Int32))) ∧ (((nx1F (bld1 (own_up (own_up (own_up (own_up (own_up (fun _ => 0) 0 (0 : Int32)) 1 (0 : Int32)) 2 (0 : Int32)) 3 (0 : Int32)) 4 (0 : Int32)))) 0) = ((bld1 (own_up (own_up (own_up (own_up (own_up (fun _ => 0) 0 (0 : Int32)) 1 (0 : Int32)) 2 (0 : Int32)) 3 (0 : Int32)) 4 (0 : Int32))) 0))))) (L := fun s0_179 => #[.val (.int p1), .val (.int p2), .val (.int p3), .val (.int p4), .val (.int p5), .val (.int (1 : Int32)), .val (.ref b18), .val (.ref b19), .val (.int (bI (incR (own_up (own_up (own_up (own_up (own_up (fun _ => 0) 0 (0 : Int32)) 1 (0 : Int32)) 2 (0 : Int32)) 3 (0 : Int32)) 4 (0 : Int32)) (1 : Int32)))), .val (.ref b20), .val (.ref b22), .val (.int (0 : Int32))]) (S := fun s0_179 => [(.int s0_179)]) ?_ ?_
      · intro T X s0_179 hs0_179
        replace hs0_179 : s0_179 = (bI ((¬ (incR (own_up (own_up (own_up (own_up (own_up (fun _ => 0) 0 (0 : Int32)) 1 (0 : Int32)) 2 (0 : Int32)) 3 (0 : Int32)) 4 (0 : Int32)) (1 : Int32))) ∧ (((nx1F (bld1 (own_up (own_up (own_up (own_up (own_up (fun _ => 0) 0 (0 : Int32)) 1 (0 : Int32)) 2 (0 : Int32)) 3 (0 : Int32)) 4 (0 : Int32)))) 0) = ((bld1 (own_up (own_up (own_up (own_up (own_up (fun _ => 0) 0 (0 : Int32)) 1 (0 : Int32)) 2 (0 : Int32)) 3 (0 : Int32)) 4 (0 : Int32))) 0)))) := hs0_179
        subst hs0_179
        show Goes p e below s _ n0 _ (T.setTop (mkF m 179 #[.val (.int p1), .val (.int p2), .val (.int p3), .val (.int p4), .val (.int p5), .val (.int (1 : Int32)), .val (.ref b18), .val (.ref b19), .val (.int (bI (incR (own_up (own_up (own_up (own_up (own_up (fun _ => 0) 0 (0 : Int32)) 1 (0 : Int32)) 2 (0 : Int32)) 3 (0 : Int32)) 4 (0 : Int32)) (1 : Int32)))), .val (.ref b20), .val (.ref b22), .val (.int (0 : Int32))] [(.int (bI ((¬ (incR (own_up (own_up (own_up (own_up (own_up (fun _ => 0) 0 (0 : Int32)) 1 (0 : Int32)) 2 (0 : Int32)) 3 (0 : Int32)) 4 (0 : Int32)) (1 : Int32))) ∧ (((nx1F (bld1 (own_up (own_up (own_up (own_up (own_up (fun _ => 0) 0 (0 : Int32)) 1 (0 : Int32)) 2 (0 : Int32)) 3 (0 : Int32)) 4 (0 : Int32)))) 0) = ((bld1 (own_up (own_up (own_up (own_up (own_up (fun _ => 0) 0 (0 : Int32)) 1 (0 : Int32)) 2 (0 : Int32)) 3 (0 : Int32)) 4 (0 : Int32))) 0)))))]))
        refine g_retZ X at_179 (by decide) (by decide) (bI_01 _) (own_fin ?_)
        show (¬ (incR (own_up (own_up (own_up (own_up (own_up (fun _ => 0) 0 (0 : Int32)) 1 (0 : Int32)) 2 (0 : Int32)) 3 (0 : Int32)) 4 (0 : Int32)) (1 : Int32))) ∧ (((nx1F (bld1 (own_up (own_up (own_up (own_up (own_up (fun _ => 0) 0 (0 : Int32)) 1 (0 : Int32)) 2 (0 : Int32)) 3 (0 : Int32)) 4 (0 : Int32)))) 0) = ((bld1 (own_up (own_up (own_up (own_up (own_up (fun _ => 0) 0 (0 : Int32)) 1 (0 : Int32)) 2 (0 : Int32)) 3 (0 : Int32)) 4 (0 : Int32))) 0))
        exact own_fin4 c6
      · intro J179_8
        refine g_icmpB X at_159 (Or.inr (Or.inr rfl)) (q := 162) rfl (by decide) (t := 178) rfl (fun c9 => ?_) (fun c9 => ?_)
        · replace c9 : ¬ (incR (own_up (own_up (own_up (own_up (own_up (fun _ => 0) 0 (0 : Int32)) 1 (0 : Int32)) 2 (0 : Int32)) 3 (0 : Int32)) 4 (0 : Int32)) (1 : Int32)) := (bI_eq0 _).mp c9.symm
          refine g_aload X at_162 rfl (q := 164) rfl rfl ?_
          refine g_aload X at_164 rfl (q := 166) rfl rfl ?_
          refine g_iload X at_166 rfl (q := 168) rfl ?_
          refine g_callS X [(.ref b20), (.ref b22), (.int (1 : Int32))] [] (tw18 hw) (tw19 hw) (tw3 hw) (tw20 hw) (by decide) (rm6_n1 l Z a0 hw [] b20 b22 (nx1F (bld1 (own_up (own_up (own_up (own_up (own_up (fun _ => 0) 0 (0 : Int32)) 1 (0 : Int32)) 2 (0 : Int32)) 3 (0 : Int32)) 4 (0 : Int32)))) (bld1 (own_up (own_up (own_up (own_up (own_up (fun _ => 0) 0 (0 : Int32)) 1 (0 : Int32)) 2 (0 : Int32)) 3 (0 : Int32)) 4 (0 : Int32))) _ n0 X.size A_b20 A_b22) pd7 rfl rfl rfl at_168 (q := 171) rfl (W := 0) rfl (by decide) (by decide) (c2 := 6) (s2 := 22) rfl rfl (by decide) (by decide) (fun v T h' X hQ => ?_)
          obtain ⟨rfl, rfl⟩ := hQ
          show Goes p e below s _ n0 _ (T.setTop (mkF m 171 #[.val (.int p1), .val (.int p2), .val (.int p3), .val (.int p4), .val (.int p5), .val (.int (1 : Int32)), .val (.ref b18), .val (.ref b19), .val (.int (bI (incR (own_up (own_up (own_up (own_up (own_up (fun _ => 0) 0 (0 : Int32)) 1 (0 : Int32)) 2 (0 : Int32)) 3 (0 : Int32)) 4 (0 : Int32)) (1 : Int32)))), .val (.ref b20), .val (.ref b22), .val (.int (0 : Int32))] [(.int (bI (((nx1F (bld1 (own_up (own_up (own_up (own_up (own_up (fun _ => 0) 0 (0 : Int32)) 1 (0 : Int32)) 2 (0 : Int32)) 3 (0 : Int32)) 4 (0 : Int32)))) 0) = ((bld1 (own_up (own_up (own_up (own_up (own_up (fun _ => 0) 0 (0 : Int32)) 1 (0 : Int32)) 2 (0 : Int32)) 3 (0 : Int32)) 4 (0 : Int32))) 0))))]))
          refine g_beq X at_171 (q := 174) rfl (by decide) (t := 178) rfl (fun (c10 : ((nx1F (bld1 (own_up (own_up (own_up (own_up (own_up (fun _ => 0) 0 (0 : Int32)) 1 (0 : Int32)) 2 (0 : Int32)) 3 (0 : Int32)) 4 (0 : Int32)))) 0) = ((bld1 (own_up (own_up (own_up (own_up (own_up (fun _ => 0) 0 (0 : Int32)) 1 (0 : Int32)) 2 (0 : Int32)) 3 (0 : Int32)) 4 (0 : Int32))) 0)) => ?_) (fun (c10 : ¬ (((nx1F (bld1 (own_up (own_up (own_up (own_up (own_up (fun _ => 0) 0 (0 : Int32)) 1 (0 : Int32)) 2 (0 : Int32)) 3 (0 : Int32)) 4 (0 : Int32)))) 0) = ((bld1 (own_up (own_up (own_up (own_up (own_up (fun _ => 0) 0 (0 : Int32)) 1 (0 : Int32)) 2 (0 : Int32)) 3 (0 : Int32)) 4 (0 : Int32))) 0))) => ?_)
          · skip
            refine g_iconst X at_174 rfl (q := 175) (v := 1) rfl ?_
            refine g_goto X at_175 (by decide) (q := 179) rfl ?_
            exact J179_8 T X _ (bI_t ⟨c9, c10⟩)
          · skip
            refine g_iconst X at_178 rfl (q := 179) (v := 0) rfl ?_
            exact J179_8 T X _ (bI_f (fun z => c10 z.2))
        · replace c9 : ¬ (¬ (incR (own_up (own_up (own_up (own_up (own_up (fun _ => 0) 0 (0 : Int32)) 1 (0 : Int32)) 2 (0 : Int32)) 3 (0 : Int32)) 4 (0 : Int32)) (1 : Int32))) := fun z => c9 ((bI_eq0 _).mpr z).symm
          refine g_iconst X at_178 rfl (q := 179) (v := 0) rfl ?_
          exact J179_8 T X _ (bI_f (fun z => c9 z.1))
  · subst q7
    show Goes p e below s _ n0 _ (T.setTop (mkF m 9 #[.val (.int p1), .val (.int p2), .val (.int p3), .val (.int p4), .val (.int p5), .val (.int (2 : Int32)), .unset, .unset, .unset, .unset, .unset, .unset] []))
    refine g_iconst X at_9 rfl (q := 10) (v := 5) rfl ?_
    refine g_newarrI X (aty := .int) rfl (tw0 hw) at_10 (q := 12) rfl (by decide) (cap := 5) (by decide) (by decide) (c2 := 1) (s2 := 5) rfl rfl (by decide) (by decide) (fun T h' b23 X gz_b23 g_b23 E A_new => ?_)
    have A_b23 : AI Z h' b23 .int 5 (fun _ => 0) := A_new
    refine g_astore X at_12 rfl (q := 14) (L' := #[.val (.int p1), .val (.int p2), .val (.int p3), .val (.int p4), .val (.int p5), .val (.int (2 : Int32)), .val (.ref b23), .unset, .unset, .unset, .unset, .unset]) rfl rfl ?_
    refine g_aload X at_14 rfl (q := 16) rfl rfl ?_
    refine g_iconst X at_16 rfl (q := 17) (v := 0) rfl ?_
    refine g_iloadN X at_17 rfl (q := 18) rfl ?_
    refine g_iload X at_18 rfl (q := 20) rfl ?_
    refine g_callS X [(.int p2), (.int (2 : Int32))] [(.int (0 : Int32)), (.ref b23)] (tw1 hw) (tw2 hw) (tw3 hw) (tw4 hw) (by decide) (rm1_r2 l Z a0 hw [] p2 _ n0 X.size) pd3 rfl rfl rfl at_20 (q := 23) rfl (W := 2) rfl (by decide) (by decide) (c2 := 1) (s2 := 5) rfl rfl (by decide) (by decide) (fun v T h' X hQ => ?_)
    obtain ⟨rfl, rfl⟩ := hQ
    show Goes p e below s _ n0 _ (T.setTop (mkF m 23 #[.val (.int p1), .val (.int p2), .val (.int p3), .val (.int p4), .val (.int p5), .val (.int (2 : Int32)), .val (.ref b23), .unset, .unset, .unset, .unset, .unset] [(.int ((p2 &&& (2147483647 : Int32)) % (2 : Int32))), (.int (0 : Int32)), (.ref b23)]))
    refine g_letI (fun r20 hr20 => ?_)
    have b_r20 : (0 : Int) ≤ r20.toInt ∧ r20.toInt ≤ 1 := by
      have z0 := hr20
      have f1 := rng32 p2
      obtain ⟨n1_, hn1_⟩ : ∃ z, z = (p2 &&& (2147483647 : Int32)) := ⟨_, rfl⟩
      (try simp only [← hn1_] at z0)
      have f2 := own_mB p2 (2147483647 : Int32) 31 (by decide) (by decide) 2147483647 (by decide)
      (try rw [← hn1_] at f2)
      obtain ⟨n2_, hn2_⟩ : ∃ z, z = (n1_ % (2 : Int32)) := ⟨_, rfl⟩
      (try simp only [← hn2_] at z0)
      have f3 := own_iremB n1_ (2 : Int32) 2 (by decide) (by decide) (by omega)
      (try rw [← hn2_] at f3)
      (try simp only [Int64.reduceToInt, Int32.reduceToInt] at f3)
      have e0 := congrArg Int32.toInt z0
      (try simp only [Int64.lt_iff_toInt_lt, Int32.lt_iff_toInt_lt, Int64.le_iff_toInt_le, Int32.le_iff_toInt_le, ← Int64.toInt_inj, ← Int32.toInt_inj, apply_ite Int64.toInt, apply_ite Int32.toInt, Int64.reduceToInt, Int32.reduceToInt, ne_eq, true_and, and_true, false_or, or_false, iff_self, and_self, not_true_eq_false, not_false_eq_true] at e0)
      omega
    refine g_iastore X A_b23 ⟨by decide, by decide⟩ g_b23 at_23 (q := 24) rfl (fun T h X W => ?_)
    have A_b23 : AI Z h b23 .int 5 (own_up (fun _ => 0) 0 r20) := A_b23.set W
    refine g_aload X at_24 rfl (q := 26) rfl rfl ?_
    refine g_iconst X at_26 rfl (q := 27) (v := 1) rfl ?_
    refine g_iloadN X at_27 rfl (q := 28) rfl ?_
    refine g_iload X at_28 rfl (q := 30) rfl ?_
    refine g_iconst X at_30 rfl (q := 31) (v := 1) rfl ?_
    refine g_isub X at_31 rfl (q := 32) ?_
    refine g_eqI (y := (1 : Int32)) (by decide) ?_
    refine g_callS X [(.int p3), (.int (1 : Int32))] [(.int (1 : Int32)), (.ref b23)] (tw1 hw) (tw2 hw) (tw3 hw) (tw4 hw) (by decide) (rm1_r1 l Z a0 hw [] p3 _ n0 X.size) pd3 rfl rfl rfl at_32 (q := 35) rfl (W := 2) rfl (by decide) (by decide) (c2 := 1) (s2 := 5) rfl rfl (by decide) (by decide) (fun v T h' X hQ => ?_)
    obtain ⟨rfl, rfl⟩ := hQ
    show Goes p e below s _ n0 _ (T.setTop (mkF m 35 #[.val (.int p1), .val (.int p2), .val (.int p3), .val (.int p4), .val (.int p5), .val (.int (2 : Int32)), .val (.ref b23), .unset, .unset, .unset, .unset, .unset] [(.int (0 : Int32)), (.int (1 : Int32)), (.ref b23)]))
    refine g_iastore X A_b23 ⟨by decide, by decide⟩ g_b23 at_35 (q := 36) rfl (fun T h X W => ?_)
    have A_b23 : AI Z h b23 .int 5 (own_up (own_up (fun _ => 0) 0 r20) 1 (0 : Int32)) := A_b23.set W
    refine g_aload X at_36 rfl (q := 38) rfl rfl ?_
    refine g_iconst X at_38 rfl (q := 39) (v := 2) rfl ?_
    refine g_iloadN X at_39 rfl (q := 40) rfl ?_
    refine g_iload X at_40 rfl (q := 42) rfl ?_
    refine g_iconst X at_42 rfl (q := 43) (v := 2) rfl ?_
    refine g_isub X at_43 rfl (q := 44) ?_
    refine g_eqI (y := (0 : Int32)) (by decide) ?_
    refine g_callS X [(.int p4), (.int (0 : Int32))] [(.int (2 : Int32)), (.ref b23)] (tw1 hw) (tw2 hw) (tw3 hw) (tw4 hw) (by decide) (rm1_r0 l Z a0 hw [] p4 _ n0 X.size) pd3 rfl rfl rfl at_44 (q := 47) rfl (W := 2) rfl (by decide) (by decide) (c2 := 1) (s2 := 5) rfl rfl (by decide) (by decide) (fun v T h' X hQ => ?_)
    obtain ⟨rfl, rfl⟩ := hQ
    show Goes p e below s _ n0 _ (T.setTop (mkF m 47 #[.val (.int p1), .val (.int p2), .val (.int p3), .val (.int p4), .val (.int p5), .val (.int (2 : Int32)), .val (.ref b23), .unset, .unset, .unset, .unset, .unset] [(.int (0 : Int32)), (.int (2 : Int32)), (.ref b23)]))
    refine g_iastore X A_b23 ⟨by decide, by decide⟩ g_b23 at_47 (q := 48) rfl (fun T h X W => ?_)
    have A_b23 : AI Z h b23 .int 5 (own_up (own_up (own_up (fun _ => 0) 0 r20) 1 (0 : Int32)) 2 (0 : Int32)) := A_b23.set W
    refine g_aload X at_48 rfl (q := 50) rfl rfl ?_
    refine g_iconst X at_50 rfl (q := 51) (v := 3) rfl ?_
    refine g_iload X at_51 rfl (q := 53) rfl ?_
    refine g_iload X at_53 rfl (q := 55) rfl ?_
    refine g_iconst X at_55 rfl (q := 56) (v := 3) rfl ?_
    refine g_isub X at_56 rfl (q := 57) ?_
    refine g_eqI (y := (-1 : Int32)) (by decide) ?_
    refine g_callS X [(.int p5), (.int (-1 : Int32))] [(.int (3 : Int32)), (.ref b23)] (tw1 hw) (tw2 hw) (tw3 hw) (tw4 hw) (by decide) (rm1_rm1 l Z a0 hw [] p5 _ n0 X.size) pd3 rfl rfl rfl at_57 (q := 60) rfl (W := 2) rfl (by decide) (by decide) (c2 := 1) (s2 := 5) rfl rfl (by decide) (by decide) (fun v T h' X hQ => ?_)
    obtain ⟨rfl, rfl⟩ := hQ
    show Goes p e below s _ n0 _ (T.setTop (mkF m 60 #[.val (.int p1), .val (.int p2), .val (.int p3), .val (.int p4), .val (.int p5), .val (.int (2 : Int32)), .val (.ref b23), .unset, .unset, .unset, .unset, .unset] [(.int (0 : Int32)), (.int (3 : Int32)), (.ref b23)]))
    refine g_iastore X A_b23 ⟨by decide, by decide⟩ g_b23 at_60 (q := 61) rfl (fun T h X W => ?_)
    have A_b23 : AI Z h b23 .int 5 (own_up (own_up (own_up (own_up (fun _ => 0) 0 r20) 1 (0 : Int32)) 2 (0 : Int32)) 3 (0 : Int32)) := A_b23.set W
    refine g_aload X at_61 rfl (q := 63) rfl rfl ?_
    refine g_iconst X at_63 rfl (q := 64) (v := 4) rfl ?_
    refine g_iconst X at_64 rfl (q := 65) (v := 0) rfl ?_
    refine g_iastore X A_b23 ⟨by decide, by decide⟩ g_b23 at_65 (q := 66) rfl (fun T h X W => ?_)
    have A_b23 : AI Z h b23 .int 5 (own_up (own_up (own_up (own_up (own_up (fun _ => 0) 0 r20) 1 (0 : Int32)) 2 (0 : Int32)) 3 (0 : Int32)) 4 (0 : Int32)) := A_b23.set W
    refine g_iconst X at_66 rfl (q := 67) (v := 5) rfl ?_
    refine g_newarrI X (aty := .int) rfl (tw0 hw) at_67 (q := 69) rfl (by decide) (cap := 5) (by decide) (by decide) (c2 := 2) (s2 := 10) rfl rfl (by decide) (by decide) (fun T h' b24 X gz_b24 g_b24 E A_new => ?_)
    have ne_b23_b24 := own_new gz_b24 A_b23.lt
    have ne_b24_b23 := own_apS ne_b23_b24
    have A_b23 := A_b23.ext E
    have A_b24 : AI Z h' b24 .int 5 (fun _ => 0) := A_new
    refine g_dup X at_69 rfl (q := 70) rfl ?_
    refine g_iconst X at_70 rfl (q := 71) (v := 0) rfl ?_
    refine g_aload X at_71 rfl (q := 73) rfl rfl ?_
    refine g_iconst X at_73 rfl (q := 74) (v := 0) rfl ?_
    refine g_iaload X A_b23 ⟨by decide, by decide⟩ at_74 (q := 75) rfl ?_
    refine g_eqI (y := r20) rfl ?_
    refine g_iastore X A_b24 ⟨by decide, by decide⟩ g_b24 at_75 (q := 76) rfl (fun T h X W => ?_)
    have A_b23 := A_b23.other W ne_b23_b24
    have A_b24 : AI Z h b24 .int 5 (own_up (fun _ => 0) 0 r20) := A_b24.set W
    refine g_dup X at_76 rfl (q := 77) rfl ?_
    refine g_iconst X at_77 rfl (q := 78) (v := 1) rfl ?_
    refine g_aload X at_78 rfl (q := 80) rfl rfl ?_
    refine g_iconst X at_80 rfl (q := 81) (v := 1) rfl ?_
    refine g_iaload X A_b23 ⟨by decide, by decide⟩ at_81 (q := 82) rfl ?_
    refine g_eqI (y := (0 : Int32)) rfl ?_
    refine g_iastore X A_b24 ⟨by decide, by decide⟩ g_b24 at_82 (q := 83) rfl (fun T h X W => ?_)
    have A_b23 := A_b23.other W ne_b23_b24
    have A_b24 : AI Z h b24 .int 5 (own_up (own_up (fun _ => 0) 0 r20) 1 (0 : Int32)) := A_b24.set W
    refine g_dup X at_83 rfl (q := 84) rfl ?_
    refine g_iconst X at_84 rfl (q := 85) (v := 2) rfl ?_
    refine g_aload X at_85 rfl (q := 87) rfl rfl ?_
    refine g_iconst X at_87 rfl (q := 88) (v := 2) rfl ?_
    refine g_iaload X A_b23 ⟨by decide, by decide⟩ at_88 (q := 89) rfl ?_
    refine g_eqI (y := (0 : Int32)) rfl ?_
    refine g_iastore X A_b24 ⟨by decide, by decide⟩ g_b24 at_89 (q := 90) rfl (fun T h X W => ?_)
    have A_b23 := A_b23.other W ne_b23_b24
    have A_b24 : AI Z h b24 .int 5 (own_up (own_up (own_up (fun _ => 0) 0 r20) 1 (0 : Int32)) 2 (0 : Int32)) := A_b24.set W
    refine g_dup X at_90 rfl (q := 91) rfl ?_
    refine g_iconst X at_91 rfl (q := 92) (v := 3) rfl ?_
    refine g_aload X at_92 rfl (q := 94) rfl rfl ?_
    refine g_iconst X at_94 rfl (q := 95) (v := 3) rfl ?_
    refine g_iaload X A_b23 ⟨by decide, by decide⟩ at_95 (q := 96) rfl ?_
    refine g_eqI (y := (0 : Int32)) rfl ?_
    refine g_iastore X A_b24 ⟨by decide, by decide⟩ g_b24 at_96 (q := 97) rfl (fun T h X W => ?_)
    have A_b23 := A_b23.other W ne_b23_b24
    have A_b24 : AI Z h b24 .int 5 (own_up (own_up (own_up (own_up (fun _ => 0) 0 r20) 1 (0 : Int32)) 2 (0 : Int32)) 3 (0 : Int32)) := A_b24.set W
    refine g_dup X at_97 rfl (q := 98) rfl ?_
    refine g_iconst X at_98 rfl (q := 99) (v := 4) rfl ?_
    refine g_aload X at_99 rfl (q := 101) rfl rfl ?_
    refine g_iconst X at_101 rfl (q := 102) (v := 4) rfl ?_
    refine g_iaload X A_b23 ⟨by decide, by decide⟩ at_102 (q := 103) rfl ?_
    refine g_eqI (y := (0 : Int32)) rfl ?_
    refine g_iastore X A_b24 ⟨by decide, by decide⟩ g_b24 at_103 (q := 104) rfl (fun T h X W => ?_)
    have A_b23 := A_b23.other W ne_b23_b24
    have A_b24 : AI Z h b24 .int 5 (own_up (own_up (own_up (own_up (own_up (fun _ => 0) 0 r20) 1 (0 : Int32)) 2 (0 : Int32)) 3 (0 : Int32)) 4 (0 : Int32)) := A_b24.set W
    refine g_astore X at_104 rfl (q := 106) (L' := #[.val (.int p1), .val (.int p2), .val (.int p3), .val (.int p4), .val (.int p5), .val (.int (2 : Int32)), .val (.ref b23), .val (.ref b24), .unset, .unset, .unset, .unset]) rfl rfl ?_
    refine g_aload X at_106 rfl (q := 108) rfl rfl ?_
    refine g_iload X at_108 rfl (q := 110) rfl ?_
    refine g_callS X [(.ref b24), (.int (2 : Int32))] [] (tw5 hw) (tw6 hw) (tw3 hw) (tw7 hw) (by decide) (rm2 l Z a0 hw [] b24 (2 : Int32) (own_up (own_up (own_up (own_up (own_up (fun _ => 0) 0 r20) 1 (0 : Int32)) 2 (0 : Int32)) 3 (0 : Int32)) 4 (0 : Int32)) _ n0 X.size A_b24 g_b24) pd4 rfl rfl rfl at_110 (q := 113) rfl (W := 0) rfl (by decide) (by decide) (c2 := 2) (s2 := 10) rfl rfl (by decide) (by decide) (fun v T h' X hQ => ?_)
    obtain ⟨rfl, Kc, A_b24'⟩ := hQ
    have A_b23 := A_b23.keep Kc (ninS ne_b23_b24 nin0)
    have A_b24 : AI Z h' b24 .int 5 (incF (own_up (own_up (own_up (own_up (own_up (fun _ => 0) 0 r20) 1 (0 : Int32)) 2 (0 : Int32)) 3 (0 : Int32)) 4 (0 : Int32)) (2 : Int32)) := A_b24'
    show Goes p e below s _ n0 _ (T.setTop (mkF m 113 #[.val (.int p1), .val (.int p2), .val (.int p3), .val (.int p4), .val (.int p5), .val (.int (2 : Int32)), .val (.ref b23), .val (.ref b24), .unset, .unset, .unset, .unset] [(.int (bI (incR (own_up (own_up (own_up (own_up (own_up (fun _ => 0) 0 r20) 1 (0 : Int32)) 2 (0 : Int32)) 3 (0 : Int32)) 4 (0 : Int32)) (2 : Int32))))]))
    refine g_istore X at_113 rfl (q := 115) (L' := #[.val (.int p1), .val (.int p2), .val (.int p3), .val (.int p4), .val (.int p5), .val (.int (2 : Int32)), .val (.ref b23), .val (.ref b24), .val (.int (bI (incR (own_up (own_up (own_up (own_up (own_up (fun _ => 0) 0 r20) 1 (0 : Int32)) 2 (0 : Int32)) 3 (0 : Int32)) 4 (0 : Int32)) (2 : Int32)))), .unset, .unset, .unset]) rfl ?_
    refine g_aload X at_115 rfl (q := 117) rfl rfl ?_
    refine g_iload X at_117 rfl (q := 119) rfl ?_
    refine g_callS X [(.ref b23), (.int (2 : Int32))] [] (tw11 hw) (tw12 hw) (tw3 hw) (tw13 hw) (by decide) (rm4_n2 l Z a0 hw [] b23 (own_up (own_up (own_up (own_up (own_up (fun _ => 0) 0 r20) 1 (0 : Int32)) 2 (0 : Int32)) 3 (0 : Int32)) 4 (0 : Int32)) _ n0 X.size A_b23 (own_chB (own_chB (own_chB (own_chB (own_chB (fun _ _ => by decide) (i := 0) (x := r20) (by omega)) (i := 1) (x := 0) (by decide)) (i := 2) (x := 0) (by decide)) (i := 3) (x := 0) (by decide)) (i := 4) (x := 0) (by decide))) pd5 rfl rfl rfl at_119 (q := 122) rfl (W := 0) rfl (by decide) (by decide) (c2 := 4) (s2 := 17) rfl rfl (by decide) (by decide) (fun v T h' X hQ => ?_)
    obtain ⟨b25, rfl, g_b25, sq_b25, Kc, M_b25⟩ := hQ
    have ne_b23_b25 := own_far A_b23.lt sq_b25
    have ne_b25_b23 := own_apS ne_b23_b25
    have ne_b24_b25 := own_far A_b24.lt sq_b25
    have ne_b25_b24 := own_apS ne_b24_b25
    have A_b23 := A_b23.keep Kc nin0
    have A_b24 := A_b24.keep Kc nin0
    have A_b25 : AI Z h' b25 .int 2 (bld2 (own_up (own_up (own_up (own_up (own_up (fun _ => 0) 0 r20) 1 (0 : Int32)) 2 (0 : Int32)) 3 (0 : Int32)) 4 (0 : Int32))) := M_b25
    show Goes p e below s _ n0 _ (T.setTop (mkF m 122 #[.val (.int p1), .val (.int p2), .val (.int p3), .val (.int p4), .val (.int p5), .val (.int (2 : Int32)), .val (.ref b23), .val (.ref b24), .val (.int (bI (incR (own_up (own_up (own_up (own_up (own_up (fun _ => 0) 0 r20) 1 (0 : Int32)) 2 (0 : Int32)) 3 (0 : Int32)) 4 (0 : Int32)) (2 : Int32)))), .unset, .unset, .unset] [(.ref b25)]))
    refine g_astore X at_122 rfl (q := 124) (L' := #[.val (.int p1), .val (.int p2), .val (.int p3), .val (.int p4), .val (.int p5), .val (.int (2 : Int32)), .val (.ref b23), .val (.ref b24), .val (.int (bI (incR (own_up (own_up (own_up (own_up (own_up (fun _ => 0) 0 r20) 1 (0 : Int32)) 2 (0 : Int32)) 3 (0 : Int32)) 4 (0 : Int32)) (2 : Int32)))), .val (.ref b25), .unset, .unset]) rfl rfl ?_
    refine g_iload X at_124 rfl (q := 126) rfl ?_
    refine g_beq X at_126 (q := 129) rfl (by decide) (t := 139) rfl (fun (c11 : incR (own_up (own_up (own_up (own_up (own_up (fun _ => 0) 0 r20) 1 (0 : Int32)) 2 (0 : Int32)) 3 (0 : Int32)) 4 (0 : Int32)) (2 : Int32)) => ?_) (fun (c11 : ¬ (incR (own_up (own_up (own_up (own_up (own_up (fun _ => 0) 0 r20) 1 (0 : Int32)) 2 (0 : Int32)) 3 (0 : Int32)) 4 (0 : Int32)) (2 : Int32))) => ?_)
    · skip
      refine g_aload X at_129 rfl (q := 131) rfl rfl ?_
      refine g_iload X at_131 rfl (q := 133) rfl ?_
      refine g_callS X [(.ref b24), (.int (2 : Int32))] [] (tw11 hw) (tw12 hw) (tw3 hw) (tw13 hw) (by decide) (rm4_n2 l Z a0 hw [] b24 (incF (own_up (own_up (own_up (own_up (own_up (fun _ => 0) 0 r20) 1 (0 : Int32)) 2 (0 : Int32)) 3 (0 : Int32)) 4 (0 : Int32)) (2 : Int32)) _ n0 X.size A_b24 (own_incB (own_chB (own_chB (own_chB (own_chB (own_chB (fun _ _ => by decide) (i := 0) (x := r20) (by omega)) (i := 1) (x := 0) (by decide)) (i := 2) (x := 0) (by decide)) (i := 3) (x := 0) (by decide)) (i := 4) (x := 0) (by decide)) (by decide))) pd5 rfl rfl rfl at_133 (q := 136) rfl (W := 0) rfl (by decide) (by decide) (c2 := 6) (s2 := 24) rfl rfl (by decide) (by decide) (fun v T h' X hQ => ?_)
      obtain ⟨b26, rfl, g_b26, sq_b26, Kc, M_b26⟩ := hQ
      have ne_b23_b26 := own_far A_b23.lt sq_b26
      have ne_b26_b23 := own_apS ne_b23_b26
      have ne_b24_b26 := own_far A_b24.lt sq_b26
      have ne_b26_b24 := own_apS ne_b24_b26
      have ne_b25_b26 := own_far A_b25.lt sq_b26
      have ne_b26_b25 := own_apS ne_b25_b26
      have A_b23 := A_b23.keep Kc nin0
      have A_b24 := A_b24.keep Kc nin0
      have A_b25 := A_b25.keep Kc nin0
      have A_b26 : AI Z h' b26 .int 2 (bld2 (incF (own_up (own_up (own_up (own_up (own_up (fun _ => 0) 0 r20) 1 (0 : Int32)) 2 (0 : Int32)) 3 (0 : Int32)) 4 (0 : Int32)) (2 : Int32))) := M_b26
      show Goes p e below s _ n0 _ (T.setTop (mkF m 136 #[.val (.int p1), .val (.int p2), .val (.int p3), .val (.int p4), .val (.int p5), .val (.int (2 : Int32)), .val (.ref b23), .val (.ref b24), .val (.int (bI (incR (own_up (own_up (own_up (own_up (own_up (fun _ => 0) 0 r20) 1 (0 : Int32)) 2 (0 : Int32)) 3 (0 : Int32)) 4 (0 : Int32)) (2 : Int32)))), .val (.ref b25), .unset, .unset] [(.ref b26)]))
      refine g_goto X at_136 (by decide) (q := 146) rfl ?_
      refine g_astore X at_146 rfl (q := 148) (L' := #[.val (.int p1), .val (.int p2), .val (.int p3), .val (.int p4), .val (.int p5), .val (.int (2 : Int32)), .val (.ref b23), .val (.ref b24), .val (.int (bI (incR (own_up (own_up (own_up (own_up (own_up (fun _ => 0) 0 r20) 1 (0 : Int32)) 2 (0 : Int32)) 3 (0 : Int32)) 4 (0 : Int32)) (2 : Int32)))), .val (.ref b25), .val (.ref b26), .unset]) rfl rfl ?_
      refine g_aload X at_148 rfl (q := 150) rfl rfl ?_
      refine g_callS X [(.ref b25)] [] (tw14 hw) (tw15 hw) (tw16 hw) (tw17 hw) (by decide) (rm5_n2 l Z a0 hw [] b25 (bld2 (own_up (own_up (own_up (own_up (own_up (fun _ => 0) 0 r20) 1 (0 : Int32)) 2 (0 : Int32)) 3 (0 : Int32)) 4 (0 : Int32))) _ n0 X.size A_b25 g_b25) pd6 rfl rfl rfl at_150 (q := 153) rfl (W := 0) rfl (by decide) (by decide) (c2 := 6) (s2 := 24) rfl rfl (by decide) (by decide) (fun v T h' X hQ => ?_)
      obtain ⟨rfl, Kc, A_b25'⟩ := hQ
      have A_b23 := A_b23.keep Kc (ninS ne_b23_b25 nin0)
      have A_b24 := A_b24.keep Kc (ninS ne_b24_b25 nin0)
      have A_b26 := A_b26.keep Kc (ninS ne_b26_b25 nin0)
      have A_b25 : AI Z h' b25 .int 2 (nx2F (bld2 (own_up (own_up (own_up (own_up (own_up (fun _ => 0) 0 r20) 1 (0 : Int32)) 2 (0 : Int32)) 3 (0 : Int32)) 4 (0 : Int32)))) := A_b25'
      show Goes p e below s _ n0 _ (T.setTop (mkF m 153 #[.val (.int p1), .val (.int p2), .val (.int p3), .val (.int p4), .val (.int p5), .val (.int (2 : Int32)), .val (.ref b23), .val (.ref b24), .val (.int (bI (incR (own_up (own_up (own_up (own_up (own_up (fun _ => 0) 0 r20) 1 (0 : Int32)) 2 (0 : Int32)) 3 (0 : Int32)) 4 (0 : Int32)) (2 : Int32)))), .val (.ref b25), .val (.ref b26), .unset] [(.int (bI (nx2R (bld2 (own_up (own_up (own_up (own_up (own_up (fun _ => 0) 0 r20) 1 (0 : Int32)) 2 (0 : Int32)) 3 (0 : Int32)) 4 (0 : Int32))))))]))
      refine g_istore X at_153 rfl (q := 155) (L' := #[.val (.int p1), .val (.int p2), .val (.int p3), .val (.int p4), .val (.int p5), .val (.int (2 : Int32)), .val (.ref b23), .val (.ref b24), .val (.int (bI (incR (own_up (own_up (own_up (own_up (own_up (fun _ => 0) 0 r20) 1 (0 : Int32)) 2 (0 : Int32)) 3 (0 : Int32)) 4 (0 : Int32)) (2 : Int32)))), .val (.ref b25), .val (.ref b26), .val (.int (bI (nx2R (bld2 (own_up (own_up (own_up (own_up (own_up (fun _ => 0) 0 r20) 1 (0 : Int32)) 2 (0 : Int32)) 3 (0 : Int32)) 4 (0 : Int32))))))]) rfl ?_
      refine g_iload X at_155 rfl (q := 157) rfl ?_
      refine g_iload X at_157 rfl (q := 159) rfl ?_
      refine g_jT1 X (J := 179) (P := fun (s0_179 : Int32) => s0_179 = (bI (((nx2R (bld2 (own_up (own_up (own_up (own_up (own_up (fun _ => 0) 0 r20) 1 (0 : Int32)) 2 (0 : Int32)) 3 (0 : Int32)) 4 (0 : Int32)))) ↔ (incR (own_up (own_up (own_up (own_up (own_up (fun _ => 0) 0 r20) 1 (0 : Int32)) 2 (0 : Int32)) 3 (0 : Int32)) 4 (0 : Int32)) (2 : Int32))) ∧ ((((nx2F (bld2 (own_up (own_up (own_up (own_up (own_up (fun _ => 0) 0 r20) 1 (0 : Int32)) 2 (0 : Int32)) 3 (0 : Int32)) 4 (0 : Int32)))) 0) = ((bld2 (incF (own_up (own_up (own_up (own_up (own_up (fun _ => 0) 0 r20) 1 (0 : Int32)) 2 (0 : Int32)) 3 (0 : Int32)) 4 (0 : Int32)) (2 : Int32))) 0)) ∧ (((nx2F (bld2 (own_up (own_up (own_up (own_up (own_up (fun _ => 0) 0 r20) 1 (0 : Int32)) 2 (0 : Int32)) 3 (0 : Int32)) 4 (0 : Int32)))) 1) = ((bld2 (incF (own_up (own_up (own_up (own_up (own_up (fun _ => 0) 0 r20) 1 (0 : Int32)) 2 (0 : Int32)) 3 (0 : Int32)) 4 (0 : Int32)) (2 : Int32))) 1)))))) (L := fun s0_179 => #[.val (.int p1), .val (.int p2), .val (.int p3), .val (.int p4), .val (.int p5), .val (.int (2 : Int32)), .val (.ref b23), .val (.ref b24), .val (.int (bI (incR (own_up (own_up (own_up (own_up (own_up (fun _ => 0) 0 r20) 1 (0 : Int32)) 2 (0 : Int32)) 3 (0 : Int32)) 4 (0 : Int32)) (2 : Int32)))), .val (.ref b25), .val (.ref b26), .val (.int (bI (nx2R (bld2 (own_up (own_up (own_up (own_up (own_up (fun _ => 0) 0 r20) 1 (0 : Int32)) 2 (0 : Int32)) 3 (0 : Int32)) 4 (0 : Int32))))))]) (S := fun s0_179 => [(.int s0_179)]) ?_ ?_
      · intro T X s0_179 hs0_179
        replace hs0_179 : s0_179 = (bI (((nx2R (bld2 (own_up (own_up (own_up (own_up (own_up (fun _ => 0) 0 r20) 1 (0 : Int32)) 2 (0 : Int32)) 3 (0 : Int32)) 4 (0 : Int32)))) ↔ (incR (own_up (own_up (own_up (own_up (own_up (fun _ => 0) 0 r20) 1 (0 : Int32)) 2 (0 : Int32)) 3 (0 : Int32)) 4 (0 : Int32)) (2 : Int32))) ∧ ((((nx2F (bld2 (own_up (own_up (own_up (own_up (own_up (fun _ => 0) 0 r20) 1 (0 : Int32)) 2 (0 : Int32)) 3 (0 : Int32)) 4 (0 : Int32)))) 0) = ((bld2 (incF (own_up (own_up (own_up (own_up (own_up (fun _ => 0) 0 r20) 1 (0 : Int32)) 2 (0 : Int32)) 3 (0 : Int32)) 4 (0 : Int32)) (2 : Int32))) 0)) ∧ (((nx2F (bld2 (own_up (own_up (own_up (own_up (own_up (fun _ => 0) 0 r20) 1 (0 : Int32)) 2 (0 : Int32)) 3 (0 : Int32)) 4 (0 : Int32)))) 1) = ((bld2 (incF (own_up (own_up (own_up (own_up (own_up (fun _ => 0) 0 r20) 1 (0 : Int32)) 2 (0 : Int32)) 3 (0 : Int32)) 4 (0 : Int32)) (2 : Int32))) 1))))) := hs0_179
        subst hs0_179
        show Goes p e below s _ n0 _ (T.setTop (mkF m 179 #[.val (.int p1), .val (.int p2), .val (.int p3), .val (.int p4), .val (.int p5), .val (.int (2 : Int32)), .val (.ref b23), .val (.ref b24), .val (.int (bI (incR (own_up (own_up (own_up (own_up (own_up (fun _ => 0) 0 r20) 1 (0 : Int32)) 2 (0 : Int32)) 3 (0 : Int32)) 4 (0 : Int32)) (2 : Int32)))), .val (.ref b25), .val (.ref b26), .val (.int (bI (nx2R (bld2 (own_up (own_up (own_up (own_up (own_up (fun _ => 0) 0 r20) 1 (0 : Int32)) 2 (0 : Int32)) 3 (0 : Int32)) 4 (0 : Int32))))))] [(.int (bI (((nx2R (bld2 (own_up (own_up (own_up (own_up (own_up (fun _ => 0) 0 r20) 1 (0 : Int32)) 2 (0 : Int32)) 3 (0 : Int32)) 4 (0 : Int32)))) ↔ (incR (own_up (own_up (own_up (own_up (own_up (fun _ => 0) 0 r20) 1 (0 : Int32)) 2 (0 : Int32)) 3 (0 : Int32)) 4 (0 : Int32)) (2 : Int32))) ∧ ((((nx2F (bld2 (own_up (own_up (own_up (own_up (own_up (fun _ => 0) 0 r20) 1 (0 : Int32)) 2 (0 : Int32)) 3 (0 : Int32)) 4 (0 : Int32)))) 0) = ((bld2 (incF (own_up (own_up (own_up (own_up (own_up (fun _ => 0) 0 r20) 1 (0 : Int32)) 2 (0 : Int32)) 3 (0 : Int32)) 4 (0 : Int32)) (2 : Int32))) 0)) ∧ (((nx2F (bld2 (own_up (own_up (own_up (own_up (own_up (fun _ => 0) 0 r20) 1 (0 : Int32)) 2 (0 : Int32)) 3 (0 : Int32)) 4 (0 : Int32)))) 1) = ((bld2 (incF (own_up (own_up (own_up (own_up (own_up (fun _ => 0) 0 r20) 1 (0 : Int32)) 2 (0 : Int32)) 3 (0 : Int32)) 4 (0 : Int32)) (2 : Int32))) 1))))))]))
        refine g_retZ X at_179 (by decide) (by decide) (bI_01 _) (own_fin ?_)
        show ((nx2R (bld2 (own_up (own_up (own_up (own_up (own_up (fun _ => 0) 0 r20) 1 (0 : Int32)) 2 (0 : Int32)) 3 (0 : Int32)) 4 (0 : Int32)))) ↔ (incR (own_up (own_up (own_up (own_up (own_up (fun _ => 0) 0 r20) 1 (0 : Int32)) 2 (0 : Int32)) 3 (0 : Int32)) 4 (0 : Int32)) (2 : Int32))) ∧ ((((nx2F (bld2 (own_up (own_up (own_up (own_up (own_up (fun _ => 0) 0 r20) 1 (0 : Int32)) 2 (0 : Int32)) 3 (0 : Int32)) 4 (0 : Int32)))) 0) = ((bld2 (incF (own_up (own_up (own_up (own_up (own_up (fun _ => 0) 0 r20) 1 (0 : Int32)) 2 (0 : Int32)) 3 (0 : Int32)) 4 (0 : Int32)) (2 : Int32))) 0)) ∧ (((nx2F (bld2 (own_up (own_up (own_up (own_up (own_up (fun _ => 0) 0 r20) 1 (0 : Int32)) 2 (0 : Int32)) 3 (0 : Int32)) 4 (0 : Int32)))) 1) = ((bld2 (incF (own_up (own_up (own_up (own_up (own_up (fun _ => 0) 0 r20) 1 (0 : Int32)) 2 (0 : Int32)) 3 (0 : Int32)) 4 (0 : Int32)) (2 : Int32))) 1)))
        obtain ⟨kr20, er20⟩ := own_toFin (x := r20) 2 (by decide) (by omega)
        subst er20
        exact own_fin5 kr20 c11
      · intro J179_11
        refine g_icmpB X at_159 (Or.inr (Or.inr rfl)) (q := 162) rfl (by decide) (t := 178) rfl (fun c12 => ?_) (fun c12 => ?_)
        · replace c12 : (nx2R (bld2 (own_up (own_up (own_up (own_up (own_up (fun _ => 0) 0 r20) 1 (0 : Int32)) 2 (0 : Int32)) 3 (0 : Int32)) 4 (0 : Int32)))) ↔ (incR (own_up (own_up (own_up (own_up (own_up (fun _ => 0) 0 r20) 1 (0 : Int32)) 2 (0 : Int32)) 3 (0 : Int32)) 4 (0 : Int32)) (2 : Int32)) := (bI_inj _ _).mp c12
          refine g_aload X at_162 rfl (q := 164) rfl rfl ?_
          refine g_aload X at_164 rfl (q := 166) rfl rfl ?_
          refine g_iload X at_166 rfl (q := 168) rfl ?_
          refine g_callS X [(.ref b25), (.ref b26), (.int (2 : Int32))] [] (tw18 hw) (tw19 hw) (tw3 hw) (tw20 hw) (by decide) (rm6_n2 l Z a0 hw [] b25 b26 (nx2F (bld2 (own_up (own_up (own_up (own_up (own_up (fun _ => 0) 0 r20) 1 (0 : Int32)) 2 (0 : Int32)) 3 (0 : Int32)) 4 (0 : Int32)))) (bld2 (incF (own_up (own_up (own_up (own_up (own_up (fun _ => 0) 0 r20) 1 (0 : Int32)) 2 (0 : Int32)) 3 (0 : Int32)) 4 (0 : Int32)) (2 : Int32))) _ n0 X.size A_b25 A_b26) pd7 rfl rfl rfl at_168 (q := 171) rfl (W := 0) rfl (by decide) (by decide) (c2 := 6) (s2 := 24) rfl rfl (by decide) (by decide) (fun v T h' X hQ => ?_)
          obtain ⟨rfl, rfl⟩ := hQ
          show Goes p e below s _ n0 _ (T.setTop (mkF m 171 #[.val (.int p1), .val (.int p2), .val (.int p3), .val (.int p4), .val (.int p5), .val (.int (2 : Int32)), .val (.ref b23), .val (.ref b24), .val (.int (bI (incR (own_up (own_up (own_up (own_up (own_up (fun _ => 0) 0 r20) 1 (0 : Int32)) 2 (0 : Int32)) 3 (0 : Int32)) 4 (0 : Int32)) (2 : Int32)))), .val (.ref b25), .val (.ref b26), .val (.int (bI (nx2R (bld2 (own_up (own_up (own_up (own_up (own_up (fun _ => 0) 0 r20) 1 (0 : Int32)) 2 (0 : Int32)) 3 (0 : Int32)) 4 (0 : Int32))))))] [(.int (bI ((((nx2F (bld2 (own_up (own_up (own_up (own_up (own_up (fun _ => 0) 0 r20) 1 (0 : Int32)) 2 (0 : Int32)) 3 (0 : Int32)) 4 (0 : Int32)))) 0) = ((bld2 (incF (own_up (own_up (own_up (own_up (own_up (fun _ => 0) 0 r20) 1 (0 : Int32)) 2 (0 : Int32)) 3 (0 : Int32)) 4 (0 : Int32)) (2 : Int32))) 0)) ∧ (((nx2F (bld2 (own_up (own_up (own_up (own_up (own_up (fun _ => 0) 0 r20) 1 (0 : Int32)) 2 (0 : Int32)) 3 (0 : Int32)) 4 (0 : Int32)))) 1) = ((bld2 (incF (own_up (own_up (own_up (own_up (own_up (fun _ => 0) 0 r20) 1 (0 : Int32)) 2 (0 : Int32)) 3 (0 : Int32)) 4 (0 : Int32)) (2 : Int32))) 1)))))]))
          refine g_beq X at_171 (q := 174) rfl (by decide) (t := 178) rfl (fun (c13 : (((nx2F (bld2 (own_up (own_up (own_up (own_up (own_up (fun _ => 0) 0 r20) 1 (0 : Int32)) 2 (0 : Int32)) 3 (0 : Int32)) 4 (0 : Int32)))) 0) = ((bld2 (incF (own_up (own_up (own_up (own_up (own_up (fun _ => 0) 0 r20) 1 (0 : Int32)) 2 (0 : Int32)) 3 (0 : Int32)) 4 (0 : Int32)) (2 : Int32))) 0)) ∧ (((nx2F (bld2 (own_up (own_up (own_up (own_up (own_up (fun _ => 0) 0 r20) 1 (0 : Int32)) 2 (0 : Int32)) 3 (0 : Int32)) 4 (0 : Int32)))) 1) = ((bld2 (incF (own_up (own_up (own_up (own_up (own_up (fun _ => 0) 0 r20) 1 (0 : Int32)) 2 (0 : Int32)) 3 (0 : Int32)) 4 (0 : Int32)) (2 : Int32))) 1))) => ?_) (fun (c13 : ¬ ((((nx2F (bld2 (own_up (own_up (own_up (own_up (own_up (fun _ => 0) 0 r20) 1 (0 : Int32)) 2 (0 : Int32)) 3 (0 : Int32)) 4 (0 : Int32)))) 0) = ((bld2 (incF (own_up (own_up (own_up (own_up (own_up (fun _ => 0) 0 r20) 1 (0 : Int32)) 2 (0 : Int32)) 3 (0 : Int32)) 4 (0 : Int32)) (2 : Int32))) 0)) ∧ (((nx2F (bld2 (own_up (own_up (own_up (own_up (own_up (fun _ => 0) 0 r20) 1 (0 : Int32)) 2 (0 : Int32)) 3 (0 : Int32)) 4 (0 : Int32)))) 1) = ((bld2 (incF (own_up (own_up (own_up (own_up (own_up (fun _ => 0) 0 r20) 1 (0 : Int32)) 2 (0 : Int32)) 3 (0 : Int32)) 4 (0 : Int32)) (2 : Int32))) 1)))) => ?_)
          · skip
            refine g_iconst X at_174 rfl (q := 175) (v := 1) rfl ?_
            refine g_goto X at_175 (by decide) (q := 179) rfl ?_
            exact J179_11 T X _ (bI_t ⟨c12, c13⟩)
          · skip
            refine g_iconst X at_178 rfl (q := 179) (v := 0) rfl ?_
            exact J179_11 T X _ (bI_f (fun z => c13 z.2))
        · replace c12 : ¬ ((nx2R (bld2 (own_up (own_up (own_up (own_up (own_up (fun _ => 0) 0 r20) 1 (0 : Int32)) 2 (0 : Int32)) 3 (0 : Int32)) 4 (0 : Int32)))) ↔ (incR (own_up (own_up (own_up (own_up (own_up (fun _ => 0) 0 r20) 1 (0 : Int32)) 2 (0 : Int32)) 3 (0 : Int32)) 4 (0 : Int32)) (2 : Int32))) := fun z => c12 ((bI_inj _ _).mpr z)
          refine g_iconst X at_178 rfl (q := 179) (v := 0) rfl ?_
          exact J179_11 T X _ (bI_f (fun z => c12 z.1))
    · skip
      refine g_aload X at_139 rfl (q := 141) rfl rfl ?_
      refine g_iload X at_141 rfl (q := 143) rfl ?_
      refine g_callS X [(.ref b23), (.int (2 : Int32))] [] (tw11 hw) (tw12 hw) (tw3 hw) (tw13 hw) (by decide) (rm4_n2 l Z a0 hw [] b23 (own_up (own_up (own_up (own_up (own_up (fun _ => 0) 0 r20) 1 (0 : Int32)) 2 (0 : Int32)) 3 (0 : Int32)) 4 (0 : Int32)) _ n0 X.size A_b23 (own_chB (own_chB (own_chB (own_chB (own_chB (fun _ _ => by decide) (i := 0) (x := r20) (by omega)) (i := 1) (x := 0) (by decide)) (i := 2) (x := 0) (by decide)) (i := 3) (x := 0) (by decide)) (i := 4) (x := 0) (by decide))) pd5 rfl rfl rfl at_143 (q := 146) rfl (W := 0) rfl (by decide) (by decide) (c2 := 6) (s2 := 24) rfl rfl (by decide) (by decide) (fun v T h' X hQ => ?_)
      obtain ⟨b27, rfl, g_b27, sq_b27, Kc, M_b27⟩ := hQ
      have ne_b23_b27 := own_far A_b23.lt sq_b27
      have ne_b27_b23 := own_apS ne_b23_b27
      have ne_b24_b27 := own_far A_b24.lt sq_b27
      have ne_b27_b24 := own_apS ne_b24_b27
      have ne_b25_b27 := own_far A_b25.lt sq_b27
      have ne_b27_b25 := own_apS ne_b25_b27
      have A_b23 := A_b23.keep Kc nin0
      have A_b24 := A_b24.keep Kc nin0
      have A_b25 := A_b25.keep Kc nin0
      have A_b27 : AI Z h' b27 .int 2 (bld2 (own_up (own_up (own_up (own_up (own_up (fun _ => 0) 0 r20) 1 (0 : Int32)) 2 (0 : Int32)) 3 (0 : Int32)) 4 (0 : Int32))) := M_b27
      show Goes p e below s _ n0 _ (T.setTop (mkF m 146 #[.val (.int p1), .val (.int p2), .val (.int p3), .val (.int p4), .val (.int p5), .val (.int (2 : Int32)), .val (.ref b23), .val (.ref b24), .val (.int (bI (incR (own_up (own_up (own_up (own_up (own_up (fun _ => 0) 0 r20) 1 (0 : Int32)) 2 (0 : Int32)) 3 (0 : Int32)) 4 (0 : Int32)) (2 : Int32)))), .val (.ref b25), .unset, .unset] [(.ref b27)]))
      refine g_astore X at_146 rfl (q := 148) (L' := #[.val (.int p1), .val (.int p2), .val (.int p3), .val (.int p4), .val (.int p5), .val (.int (2 : Int32)), .val (.ref b23), .val (.ref b24), .val (.int (bI (incR (own_up (own_up (own_up (own_up (own_up (fun _ => 0) 0 r20) 1 (0 : Int32)) 2 (0 : Int32)) 3 (0 : Int32)) 4 (0 : Int32)) (2 : Int32)))), .val (.ref b25), .val (.ref b27), .unset]) rfl rfl ?_
      refine g_aload X at_148 rfl (q := 150) rfl rfl ?_
      refine g_callS X [(.ref b25)] [] (tw14 hw) (tw15 hw) (tw16 hw) (tw17 hw) (by decide) (rm5_n2 l Z a0 hw [] b25 (bld2 (own_up (own_up (own_up (own_up (own_up (fun _ => 0) 0 r20) 1 (0 : Int32)) 2 (0 : Int32)) 3 (0 : Int32)) 4 (0 : Int32))) _ n0 X.size A_b25 g_b25) pd6 rfl rfl rfl at_150 (q := 153) rfl (W := 0) rfl (by decide) (by decide) (c2 := 6) (s2 := 24) rfl rfl (by decide) (by decide) (fun v T h' X hQ => ?_)
      obtain ⟨rfl, Kc, A_b25'⟩ := hQ
      have A_b23 := A_b23.keep Kc (ninS ne_b23_b25 nin0)
      have A_b24 := A_b24.keep Kc (ninS ne_b24_b25 nin0)
      have A_b27 := A_b27.keep Kc (ninS ne_b27_b25 nin0)
      have A_b25 : AI Z h' b25 .int 2 (nx2F (bld2 (own_up (own_up (own_up (own_up (own_up (fun _ => 0) 0 r20) 1 (0 : Int32)) 2 (0 : Int32)) 3 (0 : Int32)) 4 (0 : Int32)))) := A_b25'
      show Goes p e below s _ n0 _ (T.setTop (mkF m 153 #[.val (.int p1), .val (.int p2), .val (.int p3), .val (.int p4), .val (.int p5), .val (.int (2 : Int32)), .val (.ref b23), .val (.ref b24), .val (.int (bI (incR (own_up (own_up (own_up (own_up (own_up (fun _ => 0) 0 r20) 1 (0 : Int32)) 2 (0 : Int32)) 3 (0 : Int32)) 4 (0 : Int32)) (2 : Int32)))), .val (.ref b25), .val (.ref b27), .unset] [(.int (bI (nx2R (bld2 (own_up (own_up (own_up (own_up (own_up (fun _ => 0) 0 r20) 1 (0 : Int32)) 2 (0 : Int32)) 3 (0 : Int32)) 4 (0 : Int32))))))]))
      refine g_istore X at_153 rfl (q := 155) (L' := #[.val (.int p1), .val (.int p2), .val (.int p3), .val (.int p4), .val (.int p5), .val (.int (2 : Int32)), .val (.ref b23), .val (.ref b24), .val (.int (bI (incR (own_up (own_up (own_up (own_up (own_up (fun _ => 0) 0 r20) 1 (0 : Int32)) 2 (0 : Int32)) 3 (0 : Int32)) 4 (0 : Int32)) (2 : Int32)))), .val (.ref b25), .val (.ref b27), .val (.int (bI (nx2R (bld2 (own_up (own_up (own_up (own_up (own_up (fun _ => 0) 0 r20) 1 (0 : Int32)) 2 (0 : Int32)) 3 (0 : Int32)) 4 (0 : Int32))))))]) rfl ?_
      refine g_iload X at_155 rfl (q := 157) rfl ?_
      refine g_iload X at_157 rfl (q := 159) rfl ?_
      refine g_jT1 X (J := 179) (P := fun (s0_179 : Int32) => s0_179 = (bI (((nx2R (bld2 (own_up (own_up (own_up (own_up (own_up (fun _ => 0) 0 r20) 1 (0 : Int32)) 2 (0 : Int32)) 3 (0 : Int32)) 4 (0 : Int32)))) ↔ (incR (own_up (own_up (own_up (own_up (own_up (fun _ => 0) 0 r20) 1 (0 : Int32)) 2 (0 : Int32)) 3 (0 : Int32)) 4 (0 : Int32)) (2 : Int32))) ∧ ((((nx2F (bld2 (own_up (own_up (own_up (own_up (own_up (fun _ => 0) 0 r20) 1 (0 : Int32)) 2 (0 : Int32)) 3 (0 : Int32)) 4 (0 : Int32)))) 0) = ((bld2 (own_up (own_up (own_up (own_up (own_up (fun _ => 0) 0 r20) 1 (0 : Int32)) 2 (0 : Int32)) 3 (0 : Int32)) 4 (0 : Int32))) 0)) ∧ (((nx2F (bld2 (own_up (own_up (own_up (own_up (own_up (fun _ => 0) 0 r20) 1 (0 : Int32)) 2 (0 : Int32)) 3 (0 : Int32)) 4 (0 : Int32)))) 1) = ((bld2 (own_up (own_up (own_up (own_up (own_up (fun _ => 0) 0 r20) 1 (0 : Int32)) 2 (0 : Int32)) 3 (0 : Int32)) 4 (0 : Int32))) 1)))))) (L := fun s0_179 => #[.val (.int p1), .val (.int p2), .val (.int p3), .val (.int p4), .val (.int p5), .val (.int (2 : Int32)), .val (.ref b23), .val (.ref b24), .val (.int (bI (incR (own_up (own_up (own_up (own_up (own_up (fun _ => 0) 0 r20) 1 (0 : Int32)) 2 (0 : Int32)) 3 (0 : Int32)) 4 (0 : Int32)) (2 : Int32)))), .val (.ref b25), .val (.ref b27), .val (.int (bI (nx2R (bld2 (own_up (own_up (own_up (own_up (own_up (fun _ => 0) 0 r20) 1 (0 : Int32)) 2 (0 : Int32)) 3 (0 : Int32)) 4 (0 : Int32))))))]) (S := fun s0_179 => [(.int s0_179)]) ?_ ?_
      · intro T X s0_179 hs0_179
        replace hs0_179 : s0_179 = (bI (((nx2R (bld2 (own_up (own_up (own_up (own_up (own_up (fun _ => 0) 0 r20) 1 (0 : Int32)) 2 (0 : Int32)) 3 (0 : Int32)) 4 (0 : Int32)))) ↔ (incR (own_up (own_up (own_up (own_up (own_up (fun _ => 0) 0 r20) 1 (0 : Int32)) 2 (0 : Int32)) 3 (0 : Int32)) 4 (0 : Int32)) (2 : Int32))) ∧ ((((nx2F (bld2 (own_up (own_up (own_up (own_up (own_up (fun _ => 0) 0 r20) 1 (0 : Int32)) 2 (0 : Int32)) 3 (0 : Int32)) 4 (0 : Int32)))) 0) = ((bld2 (own_up (own_up (own_up (own_up (own_up (fun _ => 0) 0 r20) 1 (0 : Int32)) 2 (0 : Int32)) 3 (0 : Int32)) 4 (0 : Int32))) 0)) ∧ (((nx2F (bld2 (own_up (own_up (own_up (own_up (own_up (fun _ => 0) 0 r20) 1 (0 : Int32)) 2 (0 : Int32)) 3 (0 : Int32)) 4 (0 : Int32)))) 1) = ((bld2 (own_up (own_up (own_up (own_up (own_up (fun _ => 0) 0 r20) 1 (0 : Int32)) 2 (0 : Int32)) 3 (0 : Int32)) 4 (0 : Int32))) 1))))) := hs0_179
        subst hs0_179
        show Goes p e below s _ n0 _ (T.setTop (mkF m 179 #[.val (.int p1), .val (.int p2), .val (.int p3), .val (.int p4), .val (.int p5), .val (.int (2 : Int32)), .val (.ref b23), .val (.ref b24), .val (.int (bI (incR (own_up (own_up (own_up (own_up (own_up (fun _ => 0) 0 r20) 1 (0 : Int32)) 2 (0 : Int32)) 3 (0 : Int32)) 4 (0 : Int32)) (2 : Int32)))), .val (.ref b25), .val (.ref b27), .val (.int (bI (nx2R (bld2 (own_up (own_up (own_up (own_up (own_up (fun _ => 0) 0 r20) 1 (0 : Int32)) 2 (0 : Int32)) 3 (0 : Int32)) 4 (0 : Int32))))))] [(.int (bI (((nx2R (bld2 (own_up (own_up (own_up (own_up (own_up (fun _ => 0) 0 r20) 1 (0 : Int32)) 2 (0 : Int32)) 3 (0 : Int32)) 4 (0 : Int32)))) ↔ (incR (own_up (own_up (own_up (own_up (own_up (fun _ => 0) 0 r20) 1 (0 : Int32)) 2 (0 : Int32)) 3 (0 : Int32)) 4 (0 : Int32)) (2 : Int32))) ∧ ((((nx2F (bld2 (own_up (own_up (own_up (own_up (own_up (fun _ => 0) 0 r20) 1 (0 : Int32)) 2 (0 : Int32)) 3 (0 : Int32)) 4 (0 : Int32)))) 0) = ((bld2 (own_up (own_up (own_up (own_up (own_up (fun _ => 0) 0 r20) 1 (0 : Int32)) 2 (0 : Int32)) 3 (0 : Int32)) 4 (0 : Int32))) 0)) ∧ (((nx2F (bld2 (own_up (own_up (own_up (own_up (own_up (fun _ => 0) 0 r20) 1 (0 : Int32)) 2 (0 : Int32)) 3 (0 : Int32)) 4 (0 : Int32)))) 1) = ((bld2 (own_up (own_up (own_up (own_up (own_up (fun _ => 0) 0 r20) 1 (0 : Int32)) 2 (0 : Int32)) 3 (0 : Int32)) 4 (0 : Int32))) 1))))))]))
        refine g_retZ X at_179 (by decide) (by decide) (bI_01 _) (own_fin ?_)
        show ((nx2R (bld2 (own_up (own_up (own_up (own_up (own_up (fun _ => 0) 0 r20) 1 (0 : Int32)) 2 (0 : Int32)) 3 (0 : Int32)) 4 (0 : Int32)))) ↔ (incR (own_up (own_up (own_up (own_up (own_up (fun _ => 0) 0 r20) 1 (0 : Int32)) 2 (0 : Int32)) 3 (0 : Int32)) 4 (0 : Int32)) (2 : Int32))) ∧ ((((nx2F (bld2 (own_up (own_up (own_up (own_up (own_up (fun _ => 0) 0 r20) 1 (0 : Int32)) 2 (0 : Int32)) 3 (0 : Int32)) 4 (0 : Int32)))) 0) = ((bld2 (own_up (own_up (own_up (own_up (own_up (fun _ => 0) 0 r20) 1 (0 : Int32)) 2 (0 : Int32)) 3 (0 : Int32)) 4 (0 : Int32))) 0)) ∧ (((nx2F (bld2 (own_up (own_up (own_up (own_up (own_up (fun _ => 0) 0 r20) 1 (0 : Int32)) 2 (0 : Int32)) 3 (0 : Int32)) 4 (0 : Int32)))) 1) = ((bld2 (own_up (own_up (own_up (own_up (own_up (fun _ => 0) 0 r20) 1 (0 : Int32)) 2 (0 : Int32)) 3 (0 : Int32)) 4 (0 : Int32))) 1)))
        obtain ⟨kr20, er20⟩ := own_toFin (x := r20) 2 (by decide) (by omega)
        subst er20
        exact own_fin6 kr20 c11
      · intro J179_13
        refine g_icmpB X at_159 (Or.inr (Or.inr rfl)) (q := 162) rfl (by decide) (t := 178) rfl (fun c14 => ?_) (fun c14 => ?_)
        · replace c14 : (nx2R (bld2 (own_up (own_up (own_up (own_up (own_up (fun _ => 0) 0 r20) 1 (0 : Int32)) 2 (0 : Int32)) 3 (0 : Int32)) 4 (0 : Int32)))) ↔ (incR (own_up (own_up (own_up (own_up (own_up (fun _ => 0) 0 r20) 1 (0 : Int32)) 2 (0 : Int32)) 3 (0 : Int32)) 4 (0 : Int32)) (2 : Int32)) := (bI_inj _ _).mp c14
          refine g_aload X at_162 rfl (q := 164) rfl rfl ?_
          refine g_aload X at_164 rfl (q := 166) rfl rfl ?_
          refine g_iload X at_166 rfl (q := 168) rfl ?_
          refine g_callS X [(.ref b25), (.ref b27), (.int (2 : Int32))] [] (tw18 hw) (tw19 hw) (tw3 hw) (tw20 hw) (by decide) (rm6_n2 l Z a0 hw [] b25 b27 (nx2F (bld2 (own_up (own_up (own_up (own_up (own_up (fun _ => 0) 0 r20) 1 (0 : Int32)) 2 (0 : Int32)) 3 (0 : Int32)) 4 (0 : Int32)))) (bld2 (own_up (own_up (own_up (own_up (own_up (fun _ => 0) 0 r20) 1 (0 : Int32)) 2 (0 : Int32)) 3 (0 : Int32)) 4 (0 : Int32))) _ n0 X.size A_b25 A_b27) pd7 rfl rfl rfl at_168 (q := 171) rfl (W := 0) rfl (by decide) (by decide) (c2 := 6) (s2 := 24) rfl rfl (by decide) (by decide) (fun v T h' X hQ => ?_)
          obtain ⟨rfl, rfl⟩ := hQ
          show Goes p e below s _ n0 _ (T.setTop (mkF m 171 #[.val (.int p1), .val (.int p2), .val (.int p3), .val (.int p4), .val (.int p5), .val (.int (2 : Int32)), .val (.ref b23), .val (.ref b24), .val (.int (bI (incR (own_up (own_up (own_up (own_up (own_up (fun _ => 0) 0 r20) 1 (0 : Int32)) 2 (0 : Int32)) 3 (0 : Int32)) 4 (0 : Int32)) (2 : Int32)))), .val (.ref b25), .val (.ref b27), .val (.int (bI (nx2R (bld2 (own_up (own_up (own_up (own_up (own_up (fun _ => 0) 0 r20) 1 (0 : Int32)) 2 (0 : Int32)) 3 (0 : Int32)) 4 (0 : Int32))))))] [(.int (bI ((((nx2F (bld2 (own_up (own_up (own_up (own_up (own_up (fun _ => 0) 0 r20) 1 (0 : Int32)) 2 (0 : Int32)) 3 (0 : Int32)) 4 (0 : Int32)))) 0) = ((bld2 (own_up (own_up (own_up (own_up (own_up (fun _ => 0) 0 r20) 1 (0 : Int32)) 2 (0 : Int32)) 3 (0 : Int32)) 4 (0 : Int32))) 0)) ∧ (((nx2F (bld2 (own_up (own_up (own_up (own_up (own_up (fun _ => 0) 0 r20) 1 (0 : Int32)) 2 (0 : Int32)) 3 (0 : Int32)) 4 (0 : Int32)))) 1) = ((bld2 (own_up (own_up (own_up (own_up (own_up (fun _ => 0) 0 r20) 1 (0 : Int32)) 2 (0 : Int32)) 3 (0 : Int32)) 4 (0 : Int32))) 1)))))]))
          refine g_beq X at_171 (q := 174) rfl (by decide) (t := 178) rfl (fun (c15 : (((nx2F (bld2 (own_up (own_up (own_up (own_up (own_up (fun _ => 0) 0 r20) 1 (0 : Int32)) 2 (0 : Int32)) 3 (0 : Int32)) 4 (0 : Int32)))) 0) = ((bld2 (own_up (own_up (own_up (own_up (own_up (fun _ => 0) 0 r20) 1 (0 : Int32)) 2 (0 : Int32)) 3 (0 : Int32)) 4 (0 : Int32))) 0)) ∧ (((nx2F (bld2 (own_up (own_up (own_up (own_up (own_up (fun _ => 0) 0 r20) 1 (0 : Int32)) 2 (0 : Int32)) 3 (0 : Int32)) 4 (0 : Int32)))) 1) = ((bld2 (own_up (own_up (own_up (own_up (own_up (fun _ => 0) 0 r20) 1 (0 : Int32)) 2 (0 : Int32)) 3 (0 : Int32)) 4 (0 : Int32))) 1))) => ?_) (fun (c15 : ¬ ((((nx2F (bld2 (own_up (own_up (own_up (own_up (own_up (fun _ => 0) 0 r20) 1 (0 : Int32)) 2 (0 : Int32)) 3 (0 : Int32)) 4 (0 : Int32)))) 0) = ((bld2 (own_up (own_up (own_up (own_up (own_up (fun _ => 0) 0 r20) 1 (0 : Int32)) 2 (0 : Int32)) 3 (0 : Int32)) 4 (0 : Int32))) 0)) ∧ (((nx2F (bld2 (own_up (own_up (own_up (own_up (own_up (fun _ => 0) 0 r20) 1 (0 : Int32)) 2 (0 : Int32)) 3 (0 : Int32)) 4 (0 : Int32)))) 1) = ((bld2 (own_up (own_up (own_up (own_up (own_up (fun _ => 0) 0 r20) 1 (0 : Int32)) 2 (0 : Int32)) 3 (0 : Int32)) 4 (0 : Int32))) 1)))) => ?_)
          · skip
            refine g_iconst X at_174 rfl (q := 175) (v := 1) rfl ?_
            refine g_goto X at_175 (by decide) (q := 179) rfl ?_
            exact J179_13 T X _ (bI_t ⟨c14, c15⟩)
          · skip
            refine g_iconst X at_178 rfl (q := 179) (v := 0) rfl ?_
            exact J179_13 T X _ (bI_f (fun z => c15 z.2))
        · replace c14 : ¬ ((nx2R (bld2 (own_up (own_up (own_up (own_up (own_up (fun _ => 0) 0 r20) 1 (0 : Int32)) 2 (0 : Int32)) 3 (0 : Int32)) 4 (0 : Int32)))) ↔ (incR (own_up (own_up (own_up (own_up (own_up (fun _ => 0) 0 r20) 1 (0 : Int32)) 2 (0 : Int32)) 3 (0 : Int32)) 4 (0 : Int32)) (2 : Int32))) := fun z => c14 ((bI_inj _ _).mpr z)
          refine g_iconst X at_178 rfl (q := 179) (v := 0) rfl ?_
          exact J179_13 T X _ (bI_f (fun z => c14 z.1))
  · subst q7
    show Goes p e below s _ n0 _ (T.setTop (mkF m 9 #[.val (.int p1), .val (.int p2), .val (.int p3), .val (.int p4), .val (.int p5), .val (.int (3 : Int32)), .unset, .unset, .unset, .unset, .unset, .unset] []))
    refine g_iconst X at_9 rfl (q := 10) (v := 5) rfl ?_
    refine g_newarrI X (aty := .int) rfl (tw0 hw) at_10 (q := 12) rfl (by decide) (cap := 5) (by decide) (by decide) (c2 := 1) (s2 := 5) rfl rfl (by decide) (by decide) (fun T h' b28 X gz_b28 g_b28 E A_new => ?_)
    have A_b28 : AI Z h' b28 .int 5 (fun _ => 0) := A_new
    refine g_astore X at_12 rfl (q := 14) (L' := #[.val (.int p1), .val (.int p2), .val (.int p3), .val (.int p4), .val (.int p5), .val (.int (3 : Int32)), .val (.ref b28), .unset, .unset, .unset, .unset, .unset]) rfl rfl ?_
    refine g_aload X at_14 rfl (q := 16) rfl rfl ?_
    refine g_iconst X at_16 rfl (q := 17) (v := 0) rfl ?_
    refine g_iloadN X at_17 rfl (q := 18) rfl ?_
    refine g_iload X at_18 rfl (q := 20) rfl ?_
    refine g_callS X [(.int p2), (.int (3 : Int32))] [(.int (0 : Int32)), (.ref b28)] (tw1 hw) (tw2 hw) (tw3 hw) (tw4 hw) (by decide) (rm1_r3 l Z a0 hw [] p2 _ n0 X.size) pd3 rfl rfl rfl at_20 (q := 23) rfl (W := 2) rfl (by decide) (by decide) (c2 := 1) (s2 := 5) rfl rfl (by decide) (by decide) (fun v T h' X hQ => ?_)
    obtain ⟨rfl, rfl⟩ := hQ
    show Goes p e below s _ n0 _ (T.setTop (mkF m 23 #[.val (.int p1), .val (.int p2), .val (.int p3), .val (.int p4), .val (.int p5), .val (.int (3 : Int32)), .val (.ref b28), .unset, .unset, .unset, .unset, .unset] [(.int ((p2 &&& (2147483647 : Int32)) % (3 : Int32))), (.int (0 : Int32)), (.ref b28)]))
    refine g_letI (fun r20 hr20 => ?_)
    have b_r20 : (0 : Int) ≤ r20.toInt ∧ r20.toInt ≤ 2 := by
      have z0 := hr20
      have f1 := rng32 p2
      obtain ⟨n1_, hn1_⟩ : ∃ z, z = (p2 &&& (2147483647 : Int32)) := ⟨_, rfl⟩
      (try simp only [← hn1_] at z0)
      have f2 := own_mB p2 (2147483647 : Int32) 31 (by decide) (by decide) 2147483647 (by decide)
      (try rw [← hn1_] at f2)
      obtain ⟨n2_, hn2_⟩ : ∃ z, z = (n1_ % (3 : Int32)) := ⟨_, rfl⟩
      (try simp only [← hn2_] at z0)
      have f3 := own_iremB n1_ (3 : Int32) 3 (by decide) (by decide) (by omega)
      (try rw [← hn2_] at f3)
      (try simp only [Int64.reduceToInt, Int32.reduceToInt] at f3)
      have e0 := congrArg Int32.toInt z0
      (try simp only [Int64.lt_iff_toInt_lt, Int32.lt_iff_toInt_lt, Int64.le_iff_toInt_le, Int32.le_iff_toInt_le, ← Int64.toInt_inj, ← Int32.toInt_inj, apply_ite Int64.toInt, apply_ite Int32.toInt, Int64.reduceToInt, Int32.reduceToInt, ne_eq, true_and, and_true, false_or, or_false, iff_self, and_self, not_true_eq_false, not_false_eq_true] at e0)
      omega
    refine g_iastore X A_b28 ⟨by decide, by decide⟩ g_b28 at_23 (q := 24) rfl (fun T h X W => ?_)
    have A_b28 : AI Z h b28 .int 5 (own_up (fun _ => 0) 0 r20) := A_b28.set W
    refine g_aload X at_24 rfl (q := 26) rfl rfl ?_
    refine g_iconst X at_26 rfl (q := 27) (v := 1) rfl ?_
    refine g_iloadN X at_27 rfl (q := 28) rfl ?_
    refine g_iload X at_28 rfl (q := 30) rfl ?_
    refine g_iconst X at_30 rfl (q := 31) (v := 1) rfl ?_
    refine g_isub X at_31 rfl (q := 32) ?_
    refine g_eqI (y := (2 : Int32)) (by decide) ?_
    refine g_callS X [(.int p3), (.int (2 : Int32))] [(.int (1 : Int32)), (.ref b28)] (tw1 hw) (tw2 hw) (tw3 hw) (tw4 hw) (by decide) (rm1_r2 l Z a0 hw [] p3 _ n0 X.size) pd3 rfl rfl rfl at_32 (q := 35) rfl (W := 2) rfl (by decide) (by decide) (c2 := 1) (s2 := 5) rfl rfl (by decide) (by decide) (fun v T h' X hQ => ?_)
    obtain ⟨rfl, rfl⟩ := hQ
    show Goes p e below s _ n0 _ (T.setTop (mkF m 35 #[.val (.int p1), .val (.int p2), .val (.int p3), .val (.int p4), .val (.int p5), .val (.int (3 : Int32)), .val (.ref b28), .unset, .unset, .unset, .unset, .unset] [(.int ((p3 &&& (2147483647 : Int32)) % (2 : Int32))), (.int (1 : Int32)), (.ref b28)]))
    refine g_letI (fun r32 hr32 => ?_)
    have b_r32 : (0 : Int) ≤ r32.toInt ∧ r32.toInt ≤ 1 := by
      have z0 := hr32
      have f1 := rng32 p3
      obtain ⟨n1_, hn1_⟩ : ∃ z, z = (p3 &&& (2147483647 : Int32)) := ⟨_, rfl⟩
      (try simp only [← hn1_] at z0)
      have f2 := own_mB p3 (2147483647 : Int32) 31 (by decide) (by decide) 2147483647 (by decide)
      (try rw [← hn1_] at f2)
      obtain ⟨n2_, hn2_⟩ : ∃ z, z = (n1_ % (2 : Int32)) := ⟨_, rfl⟩
      (try simp only [← hn2_] at z0)
      have f3 := own_iremB n1_ (2 : Int32) 2 (by decide) (by decide) (by omega)
      (try rw [← hn2_] at f3)
      (try simp only [Int64.reduceToInt, Int32.reduceToInt] at f3)
      have e0 := congrArg Int32.toInt z0
      (try simp only [Int64.lt_iff_toInt_lt, Int32.lt_iff_toInt_lt, Int64.le_iff_toInt_le, Int32.le_iff_toInt_le, ← Int64.toInt_inj, ← Int32.toInt_inj, apply_ite Int64.toInt, apply_ite Int32.toInt, Int64.reduceToInt, Int32.reduceToInt, ne_eq, true_and, and_true, false_or, or_false, iff_self, and_self, not_true_eq_false, not_false_eq_true] at e0)
      omega
    refine g_iastore X A_b28 ⟨by decide, by decide⟩ g_b28 at_35 (q := 36) rfl (fun T h X W => ?_)
    have A_b28 : AI Z h b28 .int 5 (own_up (own_up (fun _ => 0) 0 r20) 1 r32) := A_b28.set W
    refine g_aload X at_36 rfl (q := 38) rfl rfl ?_
    refine g_iconst X at_38 rfl (q := 39) (v := 2) rfl ?_
    refine g_iloadN X at_39 rfl (q := 40) rfl ?_
    refine g_iload X at_40 rfl (q := 42) rfl ?_
    refine g_iconst X at_42 rfl (q := 43) (v := 2) rfl ?_
    refine g_isub X at_43 rfl (q := 44) ?_
    refine g_eqI (y := (1 : Int32)) (by decide) ?_
    refine g_callS X [(.int p4), (.int (1 : Int32))] [(.int (2 : Int32)), (.ref b28)] (tw1 hw) (tw2 hw) (tw3 hw) (tw4 hw) (by decide) (rm1_r1 l Z a0 hw [] p4 _ n0 X.size) pd3 rfl rfl rfl at_44 (q := 47) rfl (W := 2) rfl (by decide) (by decide) (c2 := 1) (s2 := 5) rfl rfl (by decide) (by decide) (fun v T h' X hQ => ?_)
    obtain ⟨rfl, rfl⟩ := hQ
    show Goes p e below s _ n0 _ (T.setTop (mkF m 47 #[.val (.int p1), .val (.int p2), .val (.int p3), .val (.int p4), .val (.int p5), .val (.int (3 : Int32)), .val (.ref b28), .unset, .unset, .unset, .unset, .unset] [(.int (0 : Int32)), (.int (2 : Int32)), (.ref b28)]))
    refine g_iastore X A_b28 ⟨by decide, by decide⟩ g_b28 at_47 (q := 48) rfl (fun T h X W => ?_)
    have A_b28 : AI Z h b28 .int 5 (own_up (own_up (own_up (fun _ => 0) 0 r20) 1 r32) 2 (0 : Int32)) := A_b28.set W
    refine g_aload X at_48 rfl (q := 50) rfl rfl ?_
    refine g_iconst X at_50 rfl (q := 51) (v := 3) rfl ?_
    refine g_iload X at_51 rfl (q := 53) rfl ?_
    refine g_iload X at_53 rfl (q := 55) rfl ?_
    refine g_iconst X at_55 rfl (q := 56) (v := 3) rfl ?_
    refine g_isub X at_56 rfl (q := 57) ?_
    refine g_eqI (y := (0 : Int32)) (by decide) ?_
    refine g_callS X [(.int p5), (.int (0 : Int32))] [(.int (3 : Int32)), (.ref b28)] (tw1 hw) (tw2 hw) (tw3 hw) (tw4 hw) (by decide) (rm1_r0 l Z a0 hw [] p5 _ n0 X.size) pd3 rfl rfl rfl at_57 (q := 60) rfl (W := 2) rfl (by decide) (by decide) (c2 := 1) (s2 := 5) rfl rfl (by decide) (by decide) (fun v T h' X hQ => ?_)
    obtain ⟨rfl, rfl⟩ := hQ
    show Goes p e below s _ n0 _ (T.setTop (mkF m 60 #[.val (.int p1), .val (.int p2), .val (.int p3), .val (.int p4), .val (.int p5), .val (.int (3 : Int32)), .val (.ref b28), .unset, .unset, .unset, .unset, .unset] [(.int (0 : Int32)), (.int (3 : Int32)), (.ref b28)]))
    refine g_iastore X A_b28 ⟨by decide, by decide⟩ g_b28 at_60 (q := 61) rfl (fun T h X W => ?_)
    have A_b28 : AI Z h b28 .int 5 (own_up (own_up (own_up (own_up (fun _ => 0) 0 r20) 1 r32) 2 (0 : Int32)) 3 (0 : Int32)) := A_b28.set W
    refine g_aload X at_61 rfl (q := 63) rfl rfl ?_
    refine g_iconst X at_63 rfl (q := 64) (v := 4) rfl ?_
    refine g_iconst X at_64 rfl (q := 65) (v := 0) rfl ?_
    refine g_iastore X A_b28 ⟨by decide, by decide⟩ g_b28 at_65 (q := 66) rfl (fun T h X W => ?_)
    have A_b28 : AI Z h b28 .int 5 (own_up (own_up (own_up (own_up (own_up (fun _ => 0) 0 r20) 1 r32) 2 (0 : Int32)) 3 (0 : Int32)) 4 (0 : Int32)) := A_b28.set W
    refine g_iconst X at_66 rfl (q := 67) (v := 5) rfl ?_
    refine g_newarrI X (aty := .int) rfl (tw0 hw) at_67 (q := 69) rfl (by decide) (cap := 5) (by decide) (by decide) (c2 := 2) (s2 := 10) rfl rfl (by decide) (by decide) (fun T h' b29 X gz_b29 g_b29 E A_new => ?_)
    have ne_b28_b29 := own_new gz_b29 A_b28.lt
    have ne_b29_b28 := own_apS ne_b28_b29
    have A_b28 := A_b28.ext E
    have A_b29 : AI Z h' b29 .int 5 (fun _ => 0) := A_new
    refine g_dup X at_69 rfl (q := 70) rfl ?_
    refine g_iconst X at_70 rfl (q := 71) (v := 0) rfl ?_
    refine g_aload X at_71 rfl (q := 73) rfl rfl ?_
    refine g_iconst X at_73 rfl (q := 74) (v := 0) rfl ?_
    refine g_iaload X A_b28 ⟨by decide, by decide⟩ at_74 (q := 75) rfl ?_
    refine g_eqI (y := r20) rfl ?_
    refine g_iastore X A_b29 ⟨by decide, by decide⟩ g_b29 at_75 (q := 76) rfl (fun T h X W => ?_)
    have A_b28 := A_b28.other W ne_b28_b29
    have A_b29 : AI Z h b29 .int 5 (own_up (fun _ => 0) 0 r20) := A_b29.set W
    refine g_dup X at_76 rfl (q := 77) rfl ?_
    refine g_iconst X at_77 rfl (q := 78) (v := 1) rfl ?_
    refine g_aload X at_78 rfl (q := 80) rfl rfl ?_
    refine g_iconst X at_80 rfl (q := 81) (v := 1) rfl ?_
    refine g_iaload X A_b28 ⟨by decide, by decide⟩ at_81 (q := 82) rfl ?_
    refine g_eqI (y := r32) rfl ?_
    refine g_iastore X A_b29 ⟨by decide, by decide⟩ g_b29 at_82 (q := 83) rfl (fun T h X W => ?_)
    have A_b28 := A_b28.other W ne_b28_b29
    have A_b29 : AI Z h b29 .int 5 (own_up (own_up (fun _ => 0) 0 r20) 1 r32) := A_b29.set W
    refine g_dup X at_83 rfl (q := 84) rfl ?_
    refine g_iconst X at_84 rfl (q := 85) (v := 2) rfl ?_
    refine g_aload X at_85 rfl (q := 87) rfl rfl ?_
    refine g_iconst X at_87 rfl (q := 88) (v := 2) rfl ?_
    refine g_iaload X A_b28 ⟨by decide, by decide⟩ at_88 (q := 89) rfl ?_
    refine g_eqI (y := (0 : Int32)) rfl ?_
    refine g_iastore X A_b29 ⟨by decide, by decide⟩ g_b29 at_89 (q := 90) rfl (fun T h X W => ?_)
    have A_b28 := A_b28.other W ne_b28_b29
    have A_b29 : AI Z h b29 .int 5 (own_up (own_up (own_up (fun _ => 0) 0 r20) 1 r32) 2 (0 : Int32)) := A_b29.set W
    refine g_dup X at_90 rfl (q := 91) rfl ?_
    refine g_iconst X at_91 rfl (q := 92) (v := 3) rfl ?_
    refine g_aload X at_92 rfl (q := 94) rfl rfl ?_
    refine g_iconst X at_94 rfl (q := 95) (v := 3) rfl ?_
    refine g_iaload X A_b28 ⟨by decide, by decide⟩ at_95 (q := 96) rfl ?_
    refine g_eqI (y := (0 : Int32)) rfl ?_
    refine g_iastore X A_b29 ⟨by decide, by decide⟩ g_b29 at_96 (q := 97) rfl (fun T h X W => ?_)
    have A_b28 := A_b28.other W ne_b28_b29
    have A_b29 : AI Z h b29 .int 5 (own_up (own_up (own_up (own_up (fun _ => 0) 0 r20) 1 r32) 2 (0 : Int32)) 3 (0 : Int32)) := A_b29.set W
    refine g_dup X at_97 rfl (q := 98) rfl ?_
    refine g_iconst X at_98 rfl (q := 99) (v := 4) rfl ?_
    refine g_aload X at_99 rfl (q := 101) rfl rfl ?_
    refine g_iconst X at_101 rfl (q := 102) (v := 4) rfl ?_
    refine g_iaload X A_b28 ⟨by decide, by decide⟩ at_102 (q := 103) rfl ?_
    refine g_eqI (y := (0 : Int32)) rfl ?_
    refine g_iastore X A_b29 ⟨by decide, by decide⟩ g_b29 at_103 (q := 104) rfl (fun T h X W => ?_)
    have A_b28 := A_b28.other W ne_b28_b29
    have A_b29 : AI Z h b29 .int 5 (own_up (own_up (own_up (own_up (own_up (fun _ => 0) 0 r20) 1 r32) 2 (0 : Int32)) 3 (0 : Int32)) 4 (0 : Int32)) := A_b29.set W
    refine g_astore X at_104 rfl (q := 106) (L' := #[.val (.int p1), .val (.int p2), .val (.int p3), .val (.int p4), .val (.int p5), .val (.int (3 : Int32)), .val (.ref b28), .val (.ref b29), .unset, .unset, .unset, .unset]) rfl rfl ?_
    refine g_aload X at_106 rfl (q := 108) rfl rfl ?_
    refine g_iload X at_108 rfl (q := 110) rfl ?_
    refine g_callS X [(.ref b29), (.int (3 : Int32))] [] (tw5 hw) (tw6 hw) (tw3 hw) (tw7 hw) (by decide) (rm2 l Z a0 hw [] b29 (3 : Int32) (own_up (own_up (own_up (own_up (own_up (fun _ => 0) 0 r20) 1 r32) 2 (0 : Int32)) 3 (0 : Int32)) 4 (0 : Int32)) _ n0 X.size A_b29 g_b29) pd4 rfl rfl rfl at_110 (q := 113) rfl (W := 0) rfl (by decide) (by decide) (c2 := 2) (s2 := 10) rfl rfl (by decide) (by decide) (fun v T h' X hQ => ?_)
    obtain ⟨rfl, Kc, A_b29'⟩ := hQ
    have A_b28 := A_b28.keep Kc (ninS ne_b28_b29 nin0)
    have A_b29 : AI Z h' b29 .int 5 (incF (own_up (own_up (own_up (own_up (own_up (fun _ => 0) 0 r20) 1 r32) 2 (0 : Int32)) 3 (0 : Int32)) 4 (0 : Int32)) (3 : Int32)) := A_b29'
    show Goes p e below s _ n0 _ (T.setTop (mkF m 113 #[.val (.int p1), .val (.int p2), .val (.int p3), .val (.int p4), .val (.int p5), .val (.int (3 : Int32)), .val (.ref b28), .val (.ref b29), .unset, .unset, .unset, .unset] [(.int (bI (incR (own_up (own_up (own_up (own_up (own_up (fun _ => 0) 0 r20) 1 r32) 2 (0 : Int32)) 3 (0 : Int32)) 4 (0 : Int32)) (3 : Int32))))]))
    refine g_istore X at_113 rfl (q := 115) (L' := #[.val (.int p1), .val (.int p2), .val (.int p3), .val (.int p4), .val (.int p5), .val (.int (3 : Int32)), .val (.ref b28), .val (.ref b29), .val (.int (bI (incR (own_up (own_up (own_up (own_up (own_up (fun _ => 0) 0 r20) 1 r32) 2 (0 : Int32)) 3 (0 : Int32)) 4 (0 : Int32)) (3 : Int32)))), .unset, .unset, .unset]) rfl ?_
    refine g_aload X at_115 rfl (q := 117) rfl rfl ?_
    refine g_iload X at_117 rfl (q := 119) rfl ?_
    refine g_callS X [(.ref b28), (.int (3 : Int32))] [] (tw11 hw) (tw12 hw) (tw3 hw) (tw13 hw) (by decide) (rm4_n3 l Z a0 hw [] b28 (own_up (own_up (own_up (own_up (own_up (fun _ => 0) 0 r20) 1 r32) 2 (0 : Int32)) 3 (0 : Int32)) 4 (0 : Int32)) _ n0 X.size A_b28 (own_chB (own_chB (own_chB (own_chB (own_chB (fun _ _ => by decide) (i := 0) (x := r20) (by omega)) (i := 1) (x := r32) (by omega)) (i := 2) (x := 0) (by decide)) (i := 3) (x := 0) (by decide)) (i := 4) (x := 0) (by decide))) pd5 rfl rfl rfl at_119 (q := 122) rfl (W := 0) rfl (by decide) (by decide) (c2 := 4) (s2 := 18) rfl rfl (by decide) (by decide) (fun v T h' X hQ => ?_)
    obtain ⟨b30, rfl, g_b30, sq_b30, Kc, M_b30⟩ := hQ
    have ne_b28_b30 := own_far A_b28.lt sq_b30
    have ne_b30_b28 := own_apS ne_b28_b30
    have ne_b29_b30 := own_far A_b29.lt sq_b30
    have ne_b30_b29 := own_apS ne_b29_b30
    have A_b28 := A_b28.keep Kc nin0
    have A_b29 := A_b29.keep Kc nin0
    have A_b30 : AI Z h' b30 .int 3 (bld3 (own_up (own_up (own_up (own_up (own_up (fun _ => 0) 0 r20) 1 r32) 2 (0 : Int32)) 3 (0 : Int32)) 4 (0 : Int32))) := M_b30
    show Goes p e below s _ n0 _ (T.setTop (mkF m 122 #[.val (.int p1), .val (.int p2), .val (.int p3), .val (.int p4), .val (.int p5), .val (.int (3 : Int32)), .val (.ref b28), .val (.ref b29), .val (.int (bI (incR (own_up (own_up (own_up (own_up (own_up (fun _ => 0) 0 r20) 1 r32) 2 (0 : Int32)) 3 (0 : Int32)) 4 (0 : Int32)) (3 : Int32)))), .unset, .unset, .unset] [(.ref b30)]))
    refine g_astore X at_122 rfl (q := 124) (L' := #[.val (.int p1), .val (.int p2), .val (.int p3), .val (.int p4), .val (.int p5), .val (.int (3 : Int32)), .val (.ref b28), .val (.ref b29), .val (.int (bI (incR (own_up (own_up (own_up (own_up (own_up (fun _ => 0) 0 r20) 1 r32) 2 (0 : Int32)) 3 (0 : Int32)) 4 (0 : Int32)) (3 : Int32)))), .val (.ref b30), .unset, .unset]) rfl rfl ?_
    refine g_iload X at_124 rfl (q := 126) rfl ?_
    refine g_beq X at_126 (q := 129) rfl (by decide) (t := 139) rfl (fun (c16 : incR (own_up (own_up (own_up (own_up (own_up (fun _ => 0) 0 r20) 1 r32) 2 (0 : Int32)) 3 (0 : Int32)) 4 (0 : Int32)) (3 : Int32)) => ?_) (fun (c16 : ¬ (incR (own_up (own_up (own_up (own_up (own_up (fun _ => 0) 0 r20) 1 r32) 2 (0 : Int32)) 3 (0 : Int32)) 4 (0 : Int32)) (3 : Int32))) => ?_)
    · skip
      refine g_aload X at_129 rfl (q := 131) rfl rfl ?_
      refine g_iload X at_131 rfl (q := 133) rfl ?_
      refine g_callS X [(.ref b29), (.int (3 : Int32))] [] (tw11 hw) (tw12 hw) (tw3 hw) (tw13 hw) (by decide) (rm4_n3 l Z a0 hw [] b29 (incF (own_up (own_up (own_up (own_up (own_up (fun _ => 0) 0 r20) 1 r32) 2 (0 : Int32)) 3 (0 : Int32)) 4 (0 : Int32)) (3 : Int32)) _ n0 X.size A_b29 (own_incB (own_chB (own_chB (own_chB (own_chB (own_chB (fun _ _ => by decide) (i := 0) (x := r20) (by omega)) (i := 1) (x := r32) (by omega)) (i := 2) (x := 0) (by decide)) (i := 3) (x := 0) (by decide)) (i := 4) (x := 0) (by decide)) (by decide))) pd5 rfl rfl rfl at_133 (q := 136) rfl (W := 0) rfl (by decide) (by decide) (c2 := 6) (s2 := 26) rfl rfl (by decide) (by decide) (fun v T h' X hQ => ?_)
      obtain ⟨b31, rfl, g_b31, sq_b31, Kc, M_b31⟩ := hQ
      have ne_b28_b31 := own_far A_b28.lt sq_b31
      have ne_b31_b28 := own_apS ne_b28_b31
      have ne_b29_b31 := own_far A_b29.lt sq_b31
      have ne_b31_b29 := own_apS ne_b29_b31
      have ne_b30_b31 := own_far A_b30.lt sq_b31
      have ne_b31_b30 := own_apS ne_b30_b31
      have A_b28 := A_b28.keep Kc nin0
      have A_b29 := A_b29.keep Kc nin0
      have A_b30 := A_b30.keep Kc nin0
      have A_b31 : AI Z h' b31 .int 3 (bld3 (incF (own_up (own_up (own_up (own_up (own_up (fun _ => 0) 0 r20) 1 r32) 2 (0 : Int32)) 3 (0 : Int32)) 4 (0 : Int32)) (3 : Int32))) := M_b31
      show Goes p e below s _ n0 _ (T.setTop (mkF m 136 #[.val (.int p1), .val (.int p2), .val (.int p3), .val (.int p4), .val (.int p5), .val (.int (3 : Int32)), .val (.ref b28), .val (.ref b29), .val (.int (bI (incR (own_up (own_up (own_up (own_up (own_up (fun _ => 0) 0 r20) 1 r32) 2 (0 : Int32)) 3 (0 : Int32)) 4 (0 : Int32)) (3 : Int32)))), .val (.ref b30), .unset, .unset] [(.ref b31)]))
      refine g_goto X at_136 (by decide) (q := 146) rfl ?_
      refine g_astore X at_146 rfl (q := 148) (L' := #[.val (.int p1), .val (.int p2), .val (.int p3), .val (.int p4), .val (.int p5), .val (.int (3 : Int32)), .val (.ref b28), .val (.ref b29), .val (.int (bI (incR (own_up (own_up (own_up (own_up (own_up (fun _ => 0) 0 r20) 1 r32) 2 (0 : Int32)) 3 (0 : Int32)) 4 (0 : Int32)) (3 : Int32)))), .val (.ref b30), .val (.ref b31), .unset]) rfl rfl ?_
      refine g_aload X at_148 rfl (q := 150) rfl rfl ?_
      refine g_callS X [(.ref b30)] [] (tw14 hw) (tw15 hw) (tw16 hw) (tw17 hw) (by decide) (rm5_n3 l Z a0 hw [] b30 (bld3 (own_up (own_up (own_up (own_up (own_up (fun _ => 0) 0 r20) 1 r32) 2 (0 : Int32)) 3 (0 : Int32)) 4 (0 : Int32))) _ n0 X.size A_b30 g_b30) pd6 rfl rfl rfl at_150 (q := 153) rfl (W := 0) rfl (by decide) (by decide) (c2 := 6) (s2 := 26) rfl rfl (by decide) (by decide) (fun v T h' X hQ => ?_)
      obtain ⟨rfl, Kc, A_b30'⟩ := hQ
      have A_b28 := A_b28.keep Kc (ninS ne_b28_b30 nin0)
      have A_b29 := A_b29.keep Kc (ninS ne_b29_b30 nin0)
      have A_b31 := A_b31.keep Kc (ninS ne_b31_b30 nin0)
      have A_b30 : AI Z h' b30 .int 3 (nx3F (bld3 (own_up (own_up (own_up (own_up (own_up (fun _ => 0) 0 r20) 1 r32) 2 (0 : Int32)) 3 (0 : Int32)) 4 (0 : Int32)))) := A_b30'
      show Goes p e below s _ n0 _ (T.setTop (mkF m 153 #[.val (.int p1), .val (.int p2), .val (.int p3), .val (.int p4), .val (.int p5), .val (.int (3 : Int32)), .val (.ref b28), .val (.ref b29), .val (.int (bI (incR (own_up (own_up (own_up (own_up (own_up (fun _ => 0) 0 r20) 1 r32) 2 (0 : Int32)) 3 (0 : Int32)) 4 (0 : Int32)) (3 : Int32)))), .val (.ref b30), .val (.ref b31), .unset] [(.int (bI (nx3R (bld3 (own_up (own_up (own_up (own_up (own_up (fun _ => 0) 0 r20) 1 r32) 2 (0 : Int32)) 3 (0 : Int32)) 4 (0 : Int32))))))]))
      refine g_istore X at_153 rfl (q := 155) (L' := #[.val (.int p1), .val (.int p2), .val (.int p3), .val (.int p4), .val (.int p5), .val (.int (3 : Int32)), .val (.ref b28), .val (.ref b29), .val (.int (bI (incR (own_up (own_up (own_up (own_up (own_up (fun _ => 0) 0 r20) 1 r32) 2 (0 : Int32)) 3 (0 : Int32)) 4 (0 : Int32)) (3 : Int32)))), .val (.ref b30), .val (.ref b31), .val (.int (bI (nx3R (bld3 (own_up (own_up (own_up (own_up (own_up (fun _ => 0) 0 r20) 1 r32) 2 (0 : Int32)) 3 (0 : Int32)) 4 (0 : Int32))))))]) rfl ?_
      refine g_iload X at_155 rfl (q := 157) rfl ?_
      refine g_iload X at_157 rfl (q := 159) rfl ?_
      refine g_jT1 X (J := 179) (P := fun (s0_179 : Int32) => s0_179 = (bI (((nx3R (bld3 (own_up (own_up (own_up (own_up (own_up (fun _ => 0) 0 r20) 1 r32) 2 (0 : Int32)) 3 (0 : Int32)) 4 (0 : Int32)))) ↔ (incR (own_up (own_up (own_up (own_up (own_up (fun _ => 0) 0 r20) 1 r32) 2 (0 : Int32)) 3 (0 : Int32)) 4 (0 : Int32)) (3 : Int32))) ∧ ((((nx3F (bld3 (own_up (own_up (own_up (own_up (own_up (fun _ => 0) 0 r20) 1 r32) 2 (0 : Int32)) 3 (0 : Int32)) 4 (0 : Int32)))) 0) = ((bld3 (incF (own_up (own_up (own_up (own_up (own_up (fun _ => 0) 0 r20) 1 r32) 2 (0 : Int32)) 3 (0 : Int32)) 4 (0 : Int32)) (3 : Int32))) 0)) ∧ ((((nx3F (bld3 (own_up (own_up (own_up (own_up (own_up (fun _ => 0) 0 r20) 1 r32) 2 (0 : Int32)) 3 (0 : Int32)) 4 (0 : Int32)))) 1) = ((bld3 (incF (own_up (own_up (own_up (own_up (own_up (fun _ => 0) 0 r20) 1 r32) 2 (0 : Int32)) 3 (0 : Int32)) 4 (0 : Int32)) (3 : Int32))) 1)) ∧ (((nx3F (bld3 (own_up (own_up (own_up (own_up (own_up (fun _ => 0) 0 r20) 1 r32) 2 (0 : Int32)) 3 (0 : Int32)) 4 (0 : Int32)))) 2) = ((bld3 (incF (own_up (own_up (own_up (own_up (own_up (fun _ => 0) 0 r20) 1 r32) 2 (0 : Int32)) 3 (0 : Int32)) 4 (0 : Int32)) (3 : Int32))) 2))))))) (L := fun s0_179 => #[.val (.int p1), .val (.int p2), .val (.int p3), .val (.int p4), .val (.int p5), .val (.int (3 : Int32)), .val (.ref b28), .val (.ref b29), .val (.int (bI (incR (own_up (own_up (own_up (own_up (own_up (fun _ => 0) 0 r20) 1 r32) 2 (0 : Int32)) 3 (0 : Int32)) 4 (0 : Int32)) (3 : Int32)))), .val (.ref b30), .val (.ref b31), .val (.int (bI (nx3R (bld3 (own_up (own_up (own_up (own_up (own_up (fun _ => 0) 0 r20) 1 r32) 2 (0 : Int32)) 3 (0 : Int32)) 4 (0 : Int32))))))]) (S := fun s0_179 => [(.int s0_179)]) ?_ ?_
      · intro T X s0_179 hs0_179
        replace hs0_179 : s0_179 = (bI (((nx3R (bld3 (own_up (own_up (own_up (own_up (own_up (fun _ => 0) 0 r20) 1 r32) 2 (0 : Int32)) 3 (0 : Int32)) 4 (0 : Int32)))) ↔ (incR (own_up (own_up (own_up (own_up (own_up (fun _ => 0) 0 r20) 1 r32) 2 (0 : Int32)) 3 (0 : Int32)) 4 (0 : Int32)) (3 : Int32))) ∧ ((((nx3F (bld3 (own_up (own_up (own_up (own_up (own_up (fun _ => 0) 0 r20) 1 r32) 2 (0 : Int32)) 3 (0 : Int32)) 4 (0 : Int32)))) 0) = ((bld3 (incF (own_up (own_up (own_up (own_up (own_up (fun _ => 0) 0 r20) 1 r32) 2 (0 : Int32)) 3 (0 : Int32)) 4 (0 : Int32)) (3 : Int32))) 0)) ∧ ((((nx3F (bld3 (own_up (own_up (own_up (own_up (own_up (fun _ => 0) 0 r20) 1 r32) 2 (0 : Int32)) 3 (0 : Int32)) 4 (0 : Int32)))) 1) = ((bld3 (incF (own_up (own_up (own_up (own_up (own_up (fun _ => 0) 0 r20) 1 r32) 2 (0 : Int32)) 3 (0 : Int32)) 4 (0 : Int32)) (3 : Int32))) 1)) ∧ (((nx3F (bld3 (own_up (own_up (own_up (own_up (own_up (fun _ => 0) 0 r20) 1 r32) 2 (0 : Int32)) 3 (0 : Int32)) 4 (0 : Int32)))) 2) = ((bld3 (incF (own_up (own_up (own_up (own_up (own_up (fun _ => 0) 0 r20) 1 r32) 2 (0 : Int32)) 3 (0 : Int32)) 4 (0 : Int32)) (3 : Int32))) 2)))))) := hs0_179
        subst hs0_179
        show Goes p e below s _ n0 _ (T.setTop (mkF m 179 #[.val (.int p1), .val (.int p2), .val (.int p3), .val (.int p4), .val (.int p5), .val (.int (3 : Int32)), .val (.ref b28), .val (.ref b29), .val (.int (bI (incR (own_up (own_up (own_up (own_up (own_up (fun _ => 0) 0 r20) 1 r32) 2 (0 : Int32)) 3 (0 : Int32)) 4 (0 : Int32)) (3 : Int32)))), .val (.ref b30), .val (.ref b31), .val (.int (bI (nx3R (bld3 (own_up (own_up (own_up (own_up (own_up (fun _ => 0) 0 r20) 1 r32) 2 (0 : Int32)) 3 (0 : Int32)) 4 (0 : Int32))))))] [(.int (bI (((nx3R (bld3 (own_up (own_up (own_up (own_up (own_up (fun _ => 0) 0 r20) 1 r32) 2 (0 : Int32)) 3 (0 : Int32)) 4 (0 : Int32)))) ↔ (incR (own_up (own_up (own_up (own_up (own_up (fun _ => 0) 0 r20) 1 r32) 2 (0 : Int32)) 3 (0 : Int32)) 4 (0 : Int32)) (3 : Int32))) ∧ ((((nx3F (bld3 (own_up (own_up (own_up (own_up (own_up (fun _ => 0) 0 r20) 1 r32) 2 (0 : Int32)) 3 (0 : Int32)) 4 (0 : Int32)))) 0) = ((bld3 (incF (own_up (own_up (own_up (own_up (own_up (fun _ => 0) 0 r20) 1 r32) 2 (0 : Int32)) 3 (0 : Int32)) 4 (0 : Int32)) (3 : Int32))) 0)) ∧ ((((nx3F (bld3 (own_up (own_up (own_up (own_up (own_up (fun _ => 0) 0 r20) 1 r32) 2 (0 : Int32)) 3 (0 : Int32)) 4 (0 : Int32)))) 1) = ((bld3 (incF (own_up (own_up (own_up (own_up (own_up (fun _ => 0) 0 r20) 1 r32) 2 (0 : Int32)) 3 (0 : Int32)) 4 (0 : Int32)) (3 : Int32))) 1)) ∧ (((nx3F (bld3 (own_up (own_up (own_up (own_up (own_up (fun _ => 0) 0 r20) 1 r32) 2 (0 : Int32)) 3 (0 : Int32)) 4 (0 : Int32)))) 2) = ((bld3 (incF (own_up (own_up (own_up (own_up (own_up (fun _ => 0) 0 r20) 1 r32) 2 (0 : Int32)) 3 (0 : Int32)) 4 (0 : Int32)) (3 : Int32))) 2)))))))]))
        refine g_retZ X at_179 (by decide) (by decide) (bI_01 _) (own_fin ?_)
        show ((nx3R (bld3 (own_up (own_up (own_up (own_up (own_up (fun _ => 0) 0 r20) 1 r32) 2 (0 : Int32)) 3 (0 : Int32)) 4 (0 : Int32)))) ↔ (incR (own_up (own_up (own_up (own_up (own_up (fun _ => 0) 0 r20) 1 r32) 2 (0 : Int32)) 3 (0 : Int32)) 4 (0 : Int32)) (3 : Int32))) ∧ ((((nx3F (bld3 (own_up (own_up (own_up (own_up (own_up (fun _ => 0) 0 r20) 1 r32) 2 (0 : Int32)) 3 (0 : Int32)) 4 (0 : Int32)))) 0) = ((bld3 (incF (own_up (own_up (own_up (own_up (own_up (fun _ => 0) 0 r20) 1 r32) 2 (0 : Int32)) 3 (0 : Int32)) 4 (0 : Int32)) (3 : Int32))) 0)) ∧ ((((nx3F (bld3 (own_up (own_up (own_up (own_up (own_up (fun _ => 0) 0 r20) 1 r32) 2 (0 : Int32)) 3 (0 : Int32)) 4 (0 : Int32)))) 1) = ((bld3 (incF (own_up (own_up (own_up (own_up (own_up (fun _ => 0) 0 r20) 1 r32) 2 (0 : Int32)) 3 (0 : Int32)) 4 (0 : Int32)) (3 : Int32))) 1)) ∧ (((nx3F (bld3 (own_up (own_up (own_up (own_up (own_up (fun _ => 0) 0 r20) 1 r32) 2 (0 : Int32)) 3 (0 : Int32)) 4 (0 : Int32)))) 2) = ((bld3 (incF (own_up (own_up (own_up (own_up (own_up (fun _ => 0) 0 r20) 1 r32) 2 (0 : Int32)) 3 (0 : Int32)) 4 (0 : Int32)) (3 : Int32))) 2))))
        obtain ⟨kr20, er20⟩ := own_toFin (x := r20) 3 (by decide) (by omega)
        subst er20
        obtain ⟨kr32, er32⟩ := own_toFin (x := r32) 2 (by decide) (by omega)
        subst er32
        exact own_fin7 kr20 kr32 c16
      · intro J179_16
        refine g_icmpB X at_159 (Or.inr (Or.inr rfl)) (q := 162) rfl (by decide) (t := 178) rfl (fun c17 => ?_) (fun c17 => ?_)
        · replace c17 : (nx3R (bld3 (own_up (own_up (own_up (own_up (own_up (fun _ => 0) 0 r20) 1 r32) 2 (0 : Int32)) 3 (0 : Int32)) 4 (0 : Int32)))) ↔ (incR (own_up (own_up (own_up (own_up (own_up (fun _ => 0) 0 r20) 1 r32) 2 (0 : Int32)) 3 (0 : Int32)) 4 (0 : Int32)) (3 : Int32)) := (bI_inj _ _).mp c17
          refine g_aload X at_162 rfl (q := 164) rfl rfl ?_
          refine g_aload X at_164 rfl (q := 166) rfl rfl ?_
          refine g_iload X at_166 rfl (q := 168) rfl ?_
          refine g_callS X [(.ref b30), (.ref b31), (.int (3 : Int32))] [] (tw18 hw) (tw19 hw) (tw3 hw) (tw20 hw) (by decide) (rm6_n3 l Z a0 hw [] b30 b31 (nx3F (bld3 (own_up (own_up (own_up (own_up (own_up (fun _ => 0) 0 r20) 1 r32) 2 (0 : Int32)) 3 (0 : Int32)) 4 (0 : Int32)))) (bld3 (incF (own_up (own_up (own_up (own_up (own_up (fun _ => 0) 0 r20) 1 r32) 2 (0 : Int32)) 3 (0 : Int32)) 4 (0 : Int32)) (3 : Int32))) _ n0 X.size A_b30 A_b31) pd7 rfl rfl rfl at_168 (q := 171) rfl (W := 0) rfl (by decide) (by decide) (c2 := 6) (s2 := 26) rfl rfl (by decide) (by decide) (fun v T h' X hQ => ?_)
          obtain ⟨rfl, rfl⟩ := hQ
          show Goes p e below s _ n0 _ (T.setTop (mkF m 171 #[.val (.int p1), .val (.int p2), .val (.int p3), .val (.int p4), .val (.int p5), .val (.int (3 : Int32)), .val (.ref b28), .val (.ref b29), .val (.int (bI (incR (own_up (own_up (own_up (own_up (own_up (fun _ => 0) 0 r20) 1 r32) 2 (0 : Int32)) 3 (0 : Int32)) 4 (0 : Int32)) (3 : Int32)))), .val (.ref b30), .val (.ref b31), .val (.int (bI (nx3R (bld3 (own_up (own_up (own_up (own_up (own_up (fun _ => 0) 0 r20) 1 r32) 2 (0 : Int32)) 3 (0 : Int32)) 4 (0 : Int32))))))] [(.int (bI ((((nx3F (bld3 (own_up (own_up (own_up (own_up (own_up (fun _ => 0) 0 r20) 1 r32) 2 (0 : Int32)) 3 (0 : Int32)) 4 (0 : Int32)))) 0) = ((bld3 (incF (own_up (own_up (own_up (own_up (own_up (fun _ => 0) 0 r20) 1 r32) 2 (0 : Int32)) 3 (0 : Int32)) 4 (0 : Int32)) (3 : Int32))) 0)) ∧ ((((nx3F (bld3 (own_up (own_up (own_up (own_up (own_up (fun _ => 0) 0 r20) 1 r32) 2 (0 : Int32)) 3 (0 : Int32)) 4 (0 : Int32)))) 1) = ((bld3 (incF (own_up (own_up (own_up (own_up (own_up (fun _ => 0) 0 r20) 1 r32) 2 (0 : Int32)) 3 (0 : Int32)) 4 (0 : Int32)) (3 : Int32))) 1)) ∧ (((nx3F (bld3 (own_up (own_up (own_up (own_up (own_up (fun _ => 0) 0 r20) 1 r32) 2 (0 : Int32)) 3 (0 : Int32)) 4 (0 : Int32)))) 2) = ((bld3 (incF (own_up (own_up (own_up (own_up (own_up (fun _ => 0) 0 r20) 1 r32) 2 (0 : Int32)) 3 (0 : Int32)) 4 (0 : Int32)) (3 : Int32))) 2))))))]))
          refine g_beq X at_171 (q := 174) rfl (by decide) (t := 178) rfl (fun (c18 : (((nx3F (bld3 (own_up (own_up (own_up (own_up (own_up (fun _ => 0) 0 r20) 1 r32) 2 (0 : Int32)) 3 (0 : Int32)) 4 (0 : Int32)))) 0) = ((bld3 (incF (own_up (own_up (own_up (own_up (own_up (fun _ => 0) 0 r20) 1 r32) 2 (0 : Int32)) 3 (0 : Int32)) 4 (0 : Int32)) (3 : Int32))) 0)) ∧ ((((nx3F (bld3 (own_up (own_up (own_up (own_up (own_up (fun _ => 0) 0 r20) 1 r32) 2 (0 : Int32)) 3 (0 : Int32)) 4 (0 : Int32)))) 1) = ((bld3 (incF (own_up (own_up (own_up (own_up (own_up (fun _ => 0) 0 r20) 1 r32) 2 (0 : Int32)) 3 (0 : Int32)) 4 (0 : Int32)) (3 : Int32))) 1)) ∧ (((nx3F (bld3 (own_up (own_up (own_up (own_up (own_up (fun _ => 0) 0 r20) 1 r32) 2 (0 : Int32)) 3 (0 : Int32)) 4 (0 : Int32)))) 2) = ((bld3 (incF (own_up (own_up (own_up (own_up (own_up (fun _ => 0) 0 r20) 1 r32) 2 (0 : Int32)) 3 (0 : Int32)) 4 (0 : Int32)) (3 : Int32))) 2)))) => ?_) (fun (c18 : ¬ ((((nx3F (bld3 (own_up (own_up (own_up (own_up (own_up (fun _ => 0) 0 r20) 1 r32) 2 (0 : Int32)) 3 (0 : Int32)) 4 (0 : Int32)))) 0) = ((bld3 (incF (own_up (own_up (own_up (own_up (own_up (fun _ => 0) 0 r20) 1 r32) 2 (0 : Int32)) 3 (0 : Int32)) 4 (0 : Int32)) (3 : Int32))) 0)) ∧ ((((nx3F (bld3 (own_up (own_up (own_up (own_up (own_up (fun _ => 0) 0 r20) 1 r32) 2 (0 : Int32)) 3 (0 : Int32)) 4 (0 : Int32)))) 1) = ((bld3 (incF (own_up (own_up (own_up (own_up (own_up (fun _ => 0) 0 r20) 1 r32) 2 (0 : Int32)) 3 (0 : Int32)) 4 (0 : Int32)) (3 : Int32))) 1)) ∧ (((nx3F (bld3 (own_up (own_up (own_up (own_up (own_up (fun _ => 0) 0 r20) 1 r32) 2 (0 : Int32)) 3 (0 : Int32)) 4 (0 : Int32)))) 2) = ((bld3 (incF (own_up (own_up (own_up (own_up (own_up (fun _ => 0) 0 r20) 1 r32) 2 (0 : Int32)) 3 (0 : Int32)) 4 (0 : Int32)) (3 : Int32))) 2))))) => ?_)
          · skip
            refine g_iconst X at_174 rfl (q := 175) (v := 1) rfl ?_
            refine g_goto X at_175 (by decide) (q := 179) rfl ?_
            exact J179_16 T X _ (bI_t ⟨c17, c18⟩)
          · skip
            refine g_iconst X at_178 rfl (q := 179) (v := 0) rfl ?_
            exact J179_16 T X _ (bI_f (fun z => c18 z.2))
        · replace c17 : ¬ ((nx3R (bld3 (own_up (own_up (own_up (own_up (own_up (fun _ => 0) 0 r20) 1 r32) 2 (0 : Int32)) 3 (0 : Int32)) 4 (0 : Int32)))) ↔ (incR (own_up (own_up (own_up (own_up (own_up (fun _ => 0) 0 r20) 1 r32) 2 (0 : Int32)) 3 (0 : Int32)) 4 (0 : Int32)) (3 : Int32))) := fun z => c17 ((bI_inj _ _).mpr z)
          refine g_iconst X at_178 rfl (q := 179) (v := 0) rfl ?_
          exact J179_16 T X _ (bI_f (fun z => c17 z.1))
    · skip
      refine g_aload X at_139 rfl (q := 141) rfl rfl ?_
      refine g_iload X at_141 rfl (q := 143) rfl ?_
      refine g_callS X [(.ref b28), (.int (3 : Int32))] [] (tw11 hw) (tw12 hw) (tw3 hw) (tw13 hw) (by decide) (rm4_n3 l Z a0 hw [] b28 (own_up (own_up (own_up (own_up (own_up (fun _ => 0) 0 r20) 1 r32) 2 (0 : Int32)) 3 (0 : Int32)) 4 (0 : Int32)) _ n0 X.size A_b28 (own_chB (own_chB (own_chB (own_chB (own_chB (fun _ _ => by decide) (i := 0) (x := r20) (by omega)) (i := 1) (x := r32) (by omega)) (i := 2) (x := 0) (by decide)) (i := 3) (x := 0) (by decide)) (i := 4) (x := 0) (by decide))) pd5 rfl rfl rfl at_143 (q := 146) rfl (W := 0) rfl (by decide) (by decide) (c2 := 6) (s2 := 26) rfl rfl (by decide) (by decide) (fun v T h' X hQ => ?_)
      obtain ⟨b32, rfl, g_b32, sq_b32, Kc, M_b32⟩ := hQ
      have ne_b28_b32 := own_far A_b28.lt sq_b32
      have ne_b32_b28 := own_apS ne_b28_b32
      have ne_b29_b32 := own_far A_b29.lt sq_b32
      have ne_b32_b29 := own_apS ne_b29_b32
      have ne_b30_b32 := own_far A_b30.lt sq_b32
      have ne_b32_b30 := own_apS ne_b30_b32
      have A_b28 := A_b28.keep Kc nin0
      have A_b29 := A_b29.keep Kc nin0
      have A_b30 := A_b30.keep Kc nin0
      have A_b32 : AI Z h' b32 .int 3 (bld3 (own_up (own_up (own_up (own_up (own_up (fun _ => 0) 0 r20) 1 r32) 2 (0 : Int32)) 3 (0 : Int32)) 4 (0 : Int32))) := M_b32
      show Goes p e below s _ n0 _ (T.setTop (mkF m 146 #[.val (.int p1), .val (.int p2), .val (.int p3), .val (.int p4), .val (.int p5), .val (.int (3 : Int32)), .val (.ref b28), .val (.ref b29), .val (.int (bI (incR (own_up (own_up (own_up (own_up (own_up (fun _ => 0) 0 r20) 1 r32) 2 (0 : Int32)) 3 (0 : Int32)) 4 (0 : Int32)) (3 : Int32)))), .val (.ref b30), .unset, .unset] [(.ref b32)]))
      refine g_astore X at_146 rfl (q := 148) (L' := #[.val (.int p1), .val (.int p2), .val (.int p3), .val (.int p4), .val (.int p5), .val (.int (3 : Int32)), .val (.ref b28), .val (.ref b29), .val (.int (bI (incR (own_up (own_up (own_up (own_up (own_up (fun _ => 0) 0 r20) 1 r32) 2 (0 : Int32)) 3 (0 : Int32)) 4 (0 : Int32)) (3 : Int32)))), .val (.ref b30), .val (.ref b32), .unset]) rfl rfl ?_
      refine g_aload X at_148 rfl (q := 150) rfl rfl ?_
      refine g_callS X [(.ref b30)] [] (tw14 hw) (tw15 hw) (tw16 hw) (tw17 hw) (by decide) (rm5_n3 l Z a0 hw [] b30 (bld3 (own_up (own_up (own_up (own_up (own_up (fun _ => 0) 0 r20) 1 r32) 2 (0 : Int32)) 3 (0 : Int32)) 4 (0 : Int32))) _ n0 X.size A_b30 g_b30) pd6 rfl rfl rfl at_150 (q := 153) rfl (W := 0) rfl (by decide) (by decide) (c2 := 6) (s2 := 26) rfl rfl (by decide) (by decide) (fun v T h' X hQ => ?_)
      obtain ⟨rfl, Kc, A_b30'⟩ := hQ
      have A_b28 := A_b28.keep Kc (ninS ne_b28_b30 nin0)
      have A_b29 := A_b29.keep Kc (ninS ne_b29_b30 nin0)
      have A_b32 := A_b32.keep Kc (ninS ne_b32_b30 nin0)
      have A_b30 : AI Z h' b30 .int 3 (nx3F (bld3 (own_up (own_up (own_up (own_up (own_up (fun _ => 0) 0 r20) 1 r32) 2 (0 : Int32)) 3 (0 : Int32)) 4 (0 : Int32)))) := A_b30'
      show Goes p e below s _ n0 _ (T.setTop (mkF m 153 #[.val (.int p1), .val (.int p2), .val (.int p3), .val (.int p4), .val (.int p5), .val (.int (3 : Int32)), .val (.ref b28), .val (.ref b29), .val (.int (bI (incR (own_up (own_up (own_up (own_up (own_up (fun _ => 0) 0 r20) 1 r32) 2 (0 : Int32)) 3 (0 : Int32)) 4 (0 : Int32)) (3 : Int32)))), .val (.ref b30), .val (.ref b32), .unset] [(.int (bI (nx3R (bld3 (own_up (own_up (own_up (own_up (own_up (fun _ => 0) 0 r20) 1 r32) 2 (0 : Int32)) 3 (0 : Int32)) 4 (0 : Int32))))))]))
      refine g_istore X at_153 rfl (q := 155) (L' := #[.val (.int p1), .val (.int p2), .val (.int p3), .val (.int p4), .val (.int p5), .val (.int (3 : Int32)), .val (.ref b28), .val (.ref b29), .val (.int (bI (incR (own_up (own_up (own_up (own_up (own_up (fun _ => 0) 0 r20) 1 r32) 2 (0 : Int32)) 3 (0 : Int32)) 4 (0 : Int32)) (3 : Int32)))), .val (.ref b30), .val (.ref b32), .val (.int (bI (nx3R (bld3 (own_up (own_up (own_up (own_up (own_up (fun _ => 0) 0 r20) 1 r32) 2 (0 : Int32)) 3 (0 : Int32)) 4 (0 : Int32))))))]) rfl ?_
      refine g_iload X at_155 rfl (q := 157) rfl ?_
      refine g_iload X at_157 rfl (q := 159) rfl ?_
      refine g_jT1 X (J := 179) (P := fun (s0_179 : Int32) => s0_179 = (bI (((nx3R (bld3 (own_up (own_up (own_up (own_up (own_up (fun _ => 0) 0 r20) 1 r32) 2 (0 : Int32)) 3 (0 : Int32)) 4 (0 : Int32)))) ↔ (incR (own_up (own_up (own_up (own_up (own_up (fun _ => 0) 0 r20) 1 r32) 2 (0 : Int32)) 3 (0 : Int32)) 4 (0 : Int32)) (3 : Int32))) ∧ ((((nx3F (bld3 (own_up (own_up (own_up (own_up (own_up (fun _ => 0) 0 r20) 1 r32) 2 (0 : Int32)) 3 (0 : Int32)) 4 (0 : Int32)))) 0) = ((bld3 (own_up (own_up (own_up (own_up (own_up (fun _ => 0) 0 r20) 1 r32) 2 (0 : Int32)) 3 (0 : Int32)) 4 (0 : Int32))) 0)) ∧ ((((nx3F (bld3 (own_up (own_up (own_up (own_up (own_up (fun _ => 0) 0 r20) 1 r32) 2 (0 : Int32)) 3 (0 : Int32)) 4 (0 : Int32)))) 1) = ((bld3 (own_up (own_up (own_up (own_up (own_up (fun _ => 0) 0 r20) 1 r32) 2 (0 : Int32)) 3 (0 : Int32)) 4 (0 : Int32))) 1)) ∧ (((nx3F (bld3 (own_up (own_up (own_up (own_up (own_up (fun _ => 0) 0 r20) 1 r32) 2 (0 : Int32)) 3 (0 : Int32)) 4 (0 : Int32)))) 2) = ((bld3 (own_up (own_up (own_up (own_up (own_up (fun _ => 0) 0 r20) 1 r32) 2 (0 : Int32)) 3 (0 : Int32)) 4 (0 : Int32))) 2))))))) (L := fun s0_179 => #[.val (.int p1), .val (.int p2), .val (.int p3), .val (.int p4), .val (.int p5), .val (.int (3 : Int32)), .val (.ref b28), .val (.ref b29), .val (.int (bI (incR (own_up (own_up (own_up (own_up (own_up (fun _ => 0) 0 r20) 1 r32) 2 (0 : Int32)) 3 (0 : Int32)) 4 (0 : Int32)) (3 : Int32)))), .val (.ref b30), .val (.ref b32), .val (.int (bI (nx3R (bld3 (own_up (own_up (own_up (own_up (own_up (fun _ => 0) 0 r20) 1 r32) 2 (0 : Int32)) 3 (0 : Int32)) 4 (0 : Int32))))))]) (S := fun s0_179 => [(.int s0_179)]) ?_ ?_
      · intro T X s0_179 hs0_179
        replace hs0_179 : s0_179 = (bI (((nx3R (bld3 (own_up (own_up (own_up (own_up (own_up (fun _ => 0) 0 r20) 1 r32) 2 (0 : Int32)) 3 (0 : Int32)) 4 (0 : Int32)))) ↔ (incR (own_up (own_up (own_up (own_up (own_up (fun _ => 0) 0 r20) 1 r32) 2 (0 : Int32)) 3 (0 : Int32)) 4 (0 : Int32)) (3 : Int32))) ∧ ((((nx3F (bld3 (own_up (own_up (own_up (own_up (own_up (fun _ => 0) 0 r20) 1 r32) 2 (0 : Int32)) 3 (0 : Int32)) 4 (0 : Int32)))) 0) = ((bld3 (own_up (own_up (own_up (own_up (own_up (fun _ => 0) 0 r20) 1 r32) 2 (0 : Int32)) 3 (0 : Int32)) 4 (0 : Int32))) 0)) ∧ ((((nx3F (bld3 (own_up (own_up (own_up (own_up (own_up (fun _ => 0) 0 r20) 1 r32) 2 (0 : Int32)) 3 (0 : Int32)) 4 (0 : Int32)))) 1) = ((bld3 (own_up (own_up (own_up (own_up (own_up (fun _ => 0) 0 r20) 1 r32) 2 (0 : Int32)) 3 (0 : Int32)) 4 (0 : Int32))) 1)) ∧ (((nx3F (bld3 (own_up (own_up (own_up (own_up (own_up (fun _ => 0) 0 r20) 1 r32) 2 (0 : Int32)) 3 (0 : Int32)) 4 (0 : Int32)))) 2) = ((bld3 (own_up (own_up (own_up (own_up (own_up (fun _ => 0) 0 r20) 1 r32) 2 (0 : Int32)) 3 (0 : Int32)) 4 (0 : Int32))) 2)))))) := hs0_179
        subst hs0_179
        show Goes p e below s _ n0 _ (T.setTop (mkF m 179 #[.val (.int p1), .val (.int p2), .val (.int p3), .val (.int p4), .val (.int p5), .val (.int (3 : Int32)), .val (.ref b28), .val (.ref b29), .val (.int (bI (incR (own_up (own_up (own_up (own_up (own_up (fun _ => 0) 0 r20) 1 r32) 2 (0 : Int32)) 3 (0 : Int32)) 4 (0 : Int32)) (3 : Int32)))), .val (.ref b30), .val (.ref b32), .val (.int (bI (nx3R (bld3 (own_up (own_up (own_up (own_up (own_up (fun _ => 0) 0 r20) 1 r32) 2 (0 : Int32)) 3 (0 : Int32)) 4 (0 : Int32))))))] [(.int (bI (((nx3R (bld3 (own_up (own_up (own_up (own_up (own_up (fun _ => 0) 0 r20) 1 r32) 2 (0 : Int32)) 3 (0 : Int32)) 4 (0 : Int32)))) ↔ (incR (own_up (own_up (own_up (own_up (own_up (fun _ => 0) 0 r20) 1 r32) 2 (0 : Int32)) 3 (0 : Int32)) 4 (0 : Int32)) (3 : Int32))) ∧ ((((nx3F (bld3 (own_up (own_up (own_up (own_up (own_up (fun _ => 0) 0 r20) 1 r32) 2 (0 : Int32)) 3 (0 : Int32)) 4 (0 : Int32)))) 0) = ((bld3 (own_up (own_up (own_up (own_up (own_up (fun _ => 0) 0 r20) 1 r32) 2 (0 : Int32)) 3 (0 : Int32)) 4 (0 : Int32))) 0)) ∧ ((((nx3F (bld3 (own_up (own_up (own_up (own_up (own_up (fun _ => 0) 0 r20) 1 r32) 2 (0 : Int32)) 3 (0 : Int32)) 4 (0 : Int32)))) 1) = ((bld3 (own_up (own_up (own_up (own_up (own_up (fun _ => 0) 0 r20) 1 r32) 2 (0 : Int32)) 3 (0 : Int32)) 4 (0 : Int32))) 1)) ∧ (((nx3F (bld3 (own_up (own_up (own_up (own_up (own_up (fun _ => 0) 0 r20) 1 r32) 2 (0 : Int32)) 3 (0 : Int32)) 4 (0 : Int32)))) 2) = ((bld3 (own_up (own_up (own_up (own_up (own_up (fun _ => 0) 0 r20) 1 r32) 2 (0 : Int32)) 3 (0 : Int32)) 4 (0 : Int32))) 2)))))))]))
        refine g_retZ X at_179 (by decide) (by decide) (bI_01 _) (own_fin ?_)
        show ((nx3R (bld3 (own_up (own_up (own_up (own_up (own_up (fun _ => 0) 0 r20) 1 r32) 2 (0 : Int32)) 3 (0 : Int32)) 4 (0 : Int32)))) ↔ (incR (own_up (own_up (own_up (own_up (own_up (fun _ => 0) 0 r20) 1 r32) 2 (0 : Int32)) 3 (0 : Int32)) 4 (0 : Int32)) (3 : Int32))) ∧ ((((nx3F (bld3 (own_up (own_up (own_up (own_up (own_up (fun _ => 0) 0 r20) 1 r32) 2 (0 : Int32)) 3 (0 : Int32)) 4 (0 : Int32)))) 0) = ((bld3 (own_up (own_up (own_up (own_up (own_up (fun _ => 0) 0 r20) 1 r32) 2 (0 : Int32)) 3 (0 : Int32)) 4 (0 : Int32))) 0)) ∧ ((((nx3F (bld3 (own_up (own_up (own_up (own_up (own_up (fun _ => 0) 0 r20) 1 r32) 2 (0 : Int32)) 3 (0 : Int32)) 4 (0 : Int32)))) 1) = ((bld3 (own_up (own_up (own_up (own_up (own_up (fun _ => 0) 0 r20) 1 r32) 2 (0 : Int32)) 3 (0 : Int32)) 4 (0 : Int32))) 1)) ∧ (((nx3F (bld3 (own_up (own_up (own_up (own_up (own_up (fun _ => 0) 0 r20) 1 r32) 2 (0 : Int32)) 3 (0 : Int32)) 4 (0 : Int32)))) 2) = ((bld3 (own_up (own_up (own_up (own_up (own_up (fun _ => 0) 0 r20) 1 r32) 2 (0 : Int32)) 3 (0 : Int32)) 4 (0 : Int32))) 2))))
        obtain ⟨kr20, er20⟩ := own_toFin (x := r20) 3 (by decide) (by omega)
        subst er20
        obtain ⟨kr32, er32⟩ := own_toFin (x := r32) 2 (by decide) (by omega)
        subst er32
        exact own_fin8 kr20 kr32 c16
      · intro J179_18
        refine g_icmpB X at_159 (Or.inr (Or.inr rfl)) (q := 162) rfl (by decide) (t := 178) rfl (fun c19 => ?_) (fun c19 => ?_)
        · replace c19 : (nx3R (bld3 (own_up (own_up (own_up (own_up (own_up (fun _ => 0) 0 r20) 1 r32) 2 (0 : Int32)) 3 (0 : Int32)) 4 (0 : Int32)))) ↔ (incR (own_up (own_up (own_up (own_up (own_up (fun _ => 0) 0 r20) 1 r32) 2 (0 : Int32)) 3 (0 : Int32)) 4 (0 : Int32)) (3 : Int32)) := (bI_inj _ _).mp c19
          refine g_aload X at_162 rfl (q := 164) rfl rfl ?_
          refine g_aload X at_164 rfl (q := 166) rfl rfl ?_
          refine g_iload X at_166 rfl (q := 168) rfl ?_
          refine g_callS X [(.ref b30), (.ref b32), (.int (3 : Int32))] [] (tw18 hw) (tw19 hw) (tw3 hw) (tw20 hw) (by decide) (rm6_n3 l Z a0 hw [] b30 b32 (nx3F (bld3 (own_up (own_up (own_up (own_up (own_up (fun _ => 0) 0 r20) 1 r32) 2 (0 : Int32)) 3 (0 : Int32)) 4 (0 : Int32)))) (bld3 (own_up (own_up (own_up (own_up (own_up (fun _ => 0) 0 r20) 1 r32) 2 (0 : Int32)) 3 (0 : Int32)) 4 (0 : Int32))) _ n0 X.size A_b30 A_b32) pd7 rfl rfl rfl at_168 (q := 171) rfl (W := 0) rfl (by decide) (by decide) (c2 := 6) (s2 := 26) rfl rfl (by decide) (by decide) (fun v T h' X hQ => ?_)
          obtain ⟨rfl, rfl⟩ := hQ
          show Goes p e below s _ n0 _ (T.setTop (mkF m 171 #[.val (.int p1), .val (.int p2), .val (.int p3), .val (.int p4), .val (.int p5), .val (.int (3 : Int32)), .val (.ref b28), .val (.ref b29), .val (.int (bI (incR (own_up (own_up (own_up (own_up (own_up (fun _ => 0) 0 r20) 1 r32) 2 (0 : Int32)) 3 (0 : Int32)) 4 (0 : Int32)) (3 : Int32)))), .val (.ref b30), .val (.ref b32), .val (.int (bI (nx3R (bld3 (own_up (own_up (own_up (own_up (own_up (fun _ => 0) 0 r20) 1 r32) 2 (0 : Int32)) 3 (0 : Int32)) 4 (0 : Int32))))))] [(.int (bI ((((nx3F (bld3 (own_up (own_up (own_up (own_up (own_up (fun _ => 0) 0 r20) 1 r32) 2 (0 : Int32)) 3 (0 : Int32)) 4 (0 : Int32)))) 0) = ((bld3 (own_up (own_up (own_up (own_up (own_up (fun _ => 0) 0 r20) 1 r32) 2 (0 : Int32)) 3 (0 : Int32)) 4 (0 : Int32))) 0)) ∧ ((((nx3F (bld3 (own_up (own_up (own_up (own_up (own_up (fun _ => 0) 0 r20) 1 r32) 2 (0 : Int32)) 3 (0 : Int32)) 4 (0 : Int32)))) 1) = ((bld3 (own_up (own_up (own_up (own_up (own_up (fun _ => 0) 0 r20) 1 r32) 2 (0 : Int32)) 3 (0 : Int32)) 4 (0 : Int32))) 1)) ∧ (((nx3F (bld3 (own_up (own_up (own_up (own_up (own_up (fun _ => 0) 0 r20) 1 r32) 2 (0 : Int32)) 3 (0 : Int32)) 4 (0 : Int32)))) 2) = ((bld3 (own_up (own_up (own_up (own_up (own_up (fun _ => 0) 0 r20) 1 r32) 2 (0 : Int32)) 3 (0 : Int32)) 4 (0 : Int32))) 2))))))]))
          refine g_beq X at_171 (q := 174) rfl (by decide) (t := 178) rfl (fun (c20 : (((nx3F (bld3 (own_up (own_up (own_up (own_up (own_up (fun _ => 0) 0 r20) 1 r32) 2 (0 : Int32)) 3 (0 : Int32)) 4 (0 : Int32)))) 0) = ((bld3 (own_up (own_up (own_up (own_up (own_up (fun _ => 0) 0 r20) 1 r32) 2 (0 : Int32)) 3 (0 : Int32)) 4 (0 : Int32))) 0)) ∧ ((((nx3F (bld3 (own_up (own_up (own_up (own_up (own_up (fun _ => 0) 0 r20) 1 r32) 2 (0 : Int32)) 3 (0 : Int32)) 4 (0 : Int32)))) 1) = ((bld3 (own_up (own_up (own_up (own_up (own_up (fun _ => 0) 0 r20) 1 r32) 2 (0 : Int32)) 3 (0 : Int32)) 4 (0 : Int32))) 1)) ∧ (((nx3F (bld3 (own_up (own_up (own_up (own_up (own_up (fun _ => 0) 0 r20) 1 r32) 2 (0 : Int32)) 3 (0 : Int32)) 4 (0 : Int32)))) 2) = ((bld3 (own_up (own_up (own_up (own_up (own_up (fun _ => 0) 0 r20) 1 r32) 2 (0 : Int32)) 3 (0 : Int32)) 4 (0 : Int32))) 2)))) => ?_) (fun (c20 : ¬ ((((nx3F (bld3 (own_up (own_up (own_up (own_up (own_up (fun _ => 0) 0 r20) 1 r32) 2 (0 : Int32)) 3 (0 : Int32)) 4 (0 : Int32)))) 0) = ((bld3 (own_up (own_up (own_up (own_up (own_up (fun _ => 0) 0 r20) 1 r32) 2 (0 : Int32)) 3 (0 : Int32)) 4 (0 : Int32))) 0)) ∧ ((((nx3F (bld3 (own_up (own_up (own_up (own_up (own_up (fun _ => 0) 0 r20) 1 r32) 2 (0 : Int32)) 3 (0 : Int32)) 4 (0 : Int32)))) 1) = ((bld3 (own_up (own_up (own_up (own_up (own_up (fun _ => 0) 0 r20) 1 r32) 2 (0 : Int32)) 3 (0 : Int32)) 4 (0 : Int32))) 1)) ∧ (((nx3F (bld3 (own_up (own_up (own_up (own_up (own_up (fun _ => 0) 0 r20) 1 r32) 2 (0 : Int32)) 3 (0 : Int32)) 4 (0 : Int32)))) 2) = ((bld3 (own_up (own_up (own_up (own_up (own_up (fun _ => 0) 0 r20) 1 r32) 2 (0 : Int32)) 3 (0 : Int32)) 4 (0 : Int32))) 2))))) => ?_)
          · skip
            refine g_iconst X at_174 rfl (q := 175) (v := 1) rfl ?_
            refine g_goto X at_175 (by decide) (q := 179) rfl ?_
            exact J179_18 T X _ (bI_t ⟨c19, c20⟩)
          · skip
            refine g_iconst X at_178 rfl (q := 179) (v := 0) rfl ?_
            exact J179_18 T X _ (bI_f (fun z => c20 z.2))
        · replace c19 : ¬ ((nx3R (bld3 (own_up (own_up (own_up (own_up (own_up (fun _ => 0) 0 r20) 1 r32) 2 (0 : Int32)) 3 (0 : Int32)) 4 (0 : Int32)))) ↔ (incR (own_up (own_up (own_up (own_up (own_up (fun _ => 0) 0 r20) 1 r32) 2 (0 : Int32)) 3 (0 : Int32)) 4 (0 : Int32)) (3 : Int32))) := fun z => c19 ((bI_inj _ _).mpr z)
          refine g_iconst X at_178 rfl (q := 179) (v := 0) rfl ?_
          exact J179_18 T X _ (bI_f (fun z => c19 z.1))
  · subst q7
    show Goes p e below s _ n0 _ (T.setTop (mkF m 9 #[.val (.int p1), .val (.int p2), .val (.int p3), .val (.int p4), .val (.int p5), .val (.int (4 : Int32)), .unset, .unset, .unset, .unset, .unset, .unset] []))
    refine g_iconst X at_9 rfl (q := 10) (v := 5) rfl ?_
    refine g_newarrI X (aty := .int) rfl (tw0 hw) at_10 (q := 12) rfl (by decide) (cap := 5) (by decide) (by decide) (c2 := 1) (s2 := 5) rfl rfl (by decide) (by decide) (fun T h' b33 X gz_b33 g_b33 E A_new => ?_)
    have A_b33 : AI Z h' b33 .int 5 (fun _ => 0) := A_new
    refine g_astore X at_12 rfl (q := 14) (L' := #[.val (.int p1), .val (.int p2), .val (.int p3), .val (.int p4), .val (.int p5), .val (.int (4 : Int32)), .val (.ref b33), .unset, .unset, .unset, .unset, .unset]) rfl rfl ?_
    refine g_aload X at_14 rfl (q := 16) rfl rfl ?_
    refine g_iconst X at_16 rfl (q := 17) (v := 0) rfl ?_
    refine g_iloadN X at_17 rfl (q := 18) rfl ?_
    refine g_iload X at_18 rfl (q := 20) rfl ?_
    refine g_callS X [(.int p2), (.int (4 : Int32))] [(.int (0 : Int32)), (.ref b33)] (tw1 hw) (tw2 hw) (tw3 hw) (tw4 hw) (by decide) (rm1_r4 l Z a0 hw [] p2 _ n0 X.size) pd3 rfl rfl rfl at_20 (q := 23) rfl (W := 2) rfl (by decide) (by decide) (c2 := 1) (s2 := 5) rfl rfl (by decide) (by decide) (fun v T h' X hQ => ?_)
    obtain ⟨rfl, rfl⟩ := hQ
    show Goes p e below s _ n0 _ (T.setTop (mkF m 23 #[.val (.int p1), .val (.int p2), .val (.int p3), .val (.int p4), .val (.int p5), .val (.int (4 : Int32)), .val (.ref b33), .unset, .unset, .unset, .unset, .unset] [(.int ((p2 &&& (2147483647 : Int32)) % (4 : Int32))), (.int (0 : Int32)), (.ref b33)]))
    refine g_letI (fun r20 hr20 => ?_)
    have b_r20 : (0 : Int) ≤ r20.toInt ∧ r20.toInt ≤ 3 := by
      have z0 := hr20
      have f1 := rng32 p2
      obtain ⟨n1_, hn1_⟩ : ∃ z, z = (p2 &&& (2147483647 : Int32)) := ⟨_, rfl⟩
      (try simp only [← hn1_] at z0)
      have f2 := own_mB p2 (2147483647 : Int32) 31 (by decide) (by decide) 2147483647 (by decide)
      (try rw [← hn1_] at f2)
      obtain ⟨n2_, hn2_⟩ : ∃ z, z = (n1_ % (4 : Int32)) := ⟨_, rfl⟩
      (try simp only [← hn2_] at z0)
      have f3 := own_iremB n1_ (4 : Int32) 4 (by decide) (by decide) (by omega)
      (try rw [← hn2_] at f3)
      (try simp only [Int64.reduceToInt, Int32.reduceToInt] at f3)
      have e0 := congrArg Int32.toInt z0
      (try simp only [Int64.lt_iff_toInt_lt, Int32.lt_iff_toInt_lt, Int64.le_iff_toInt_le, Int32.le_iff_toInt_le, ← Int64.toInt_inj, ← Int32.toInt_inj, apply_ite Int64.toInt, apply_ite Int32.toInt, Int64.reduceToInt, Int32.reduceToInt, ne_eq, true_and, and_true, false_or, or_false, iff_self, and_self, not_true_eq_false, not_false_eq_true] at e0)
      omega
    refine g_iastore X A_b33 ⟨by decide, by decide⟩ g_b33 at_23 (q := 24) rfl (fun T h X W => ?_)
    have A_b33 : AI Z h b33 .int 5 (own_up (fun _ => 0) 0 r20) := A_b33.set W
    refine g_aload X at_24 rfl (q := 26) rfl rfl ?_
    refine g_iconst X at_26 rfl (q := 27) (v := 1) rfl ?_
    refine g_iloadN X at_27 rfl (q := 28) rfl ?_
    refine g_iload X at_28 rfl (q := 30) rfl ?_
    refine g_iconst X at_30 rfl (q := 31) (v := 1) rfl ?_
    refine g_isub X at_31 rfl (q := 32) ?_
    refine g_eqI (y := (3 : Int32)) (by decide) ?_
    refine g_callS X [(.int p3), (.int (3 : Int32))] [(.int (1 : Int32)), (.ref b33)] (tw1 hw) (tw2 hw) (tw3 hw) (tw4 hw) (by decide) (rm1_r3 l Z a0 hw [] p3 _ n0 X.size) pd3 rfl rfl rfl at_32 (q := 35) rfl (W := 2) rfl (by decide) (by decide) (c2 := 1) (s2 := 5) rfl rfl (by decide) (by decide) (fun v T h' X hQ => ?_)
    obtain ⟨rfl, rfl⟩ := hQ
    show Goes p e below s _ n0 _ (T.setTop (mkF m 35 #[.val (.int p1), .val (.int p2), .val (.int p3), .val (.int p4), .val (.int p5), .val (.int (4 : Int32)), .val (.ref b33), .unset, .unset, .unset, .unset, .unset] [(.int ((p3 &&& (2147483647 : Int32)) % (3 : Int32))), (.int (1 : Int32)), (.ref b33)]))
    refine g_letI (fun r32 hr32 => ?_)
    have b_r32 : (0 : Int) ≤ r32.toInt ∧ r32.toInt ≤ 2 := by
      have z0 := hr32
      have f1 := rng32 p3
      obtain ⟨n1_, hn1_⟩ : ∃ z, z = (p3 &&& (2147483647 : Int32)) := ⟨_, rfl⟩
      (try simp only [← hn1_] at z0)
      have f2 := own_mB p3 (2147483647 : Int32) 31 (by decide) (by decide) 2147483647 (by decide)
      (try rw [← hn1_] at f2)
      obtain ⟨n2_, hn2_⟩ : ∃ z, z = (n1_ % (3 : Int32)) := ⟨_, rfl⟩
      (try simp only [← hn2_] at z0)
      have f3 := own_iremB n1_ (3 : Int32) 3 (by decide) (by decide) (by omega)
      (try rw [← hn2_] at f3)
      (try simp only [Int64.reduceToInt, Int32.reduceToInt] at f3)
      have e0 := congrArg Int32.toInt z0
      (try simp only [Int64.lt_iff_toInt_lt, Int32.lt_iff_toInt_lt, Int64.le_iff_toInt_le, Int32.le_iff_toInt_le, ← Int64.toInt_inj, ← Int32.toInt_inj, apply_ite Int64.toInt, apply_ite Int32.toInt, Int64.reduceToInt, Int32.reduceToInt, ne_eq, true_and, and_true, false_or, or_false, iff_self, and_self, not_true_eq_false, not_false_eq_true] at e0)
      omega
    refine g_iastore X A_b33 ⟨by decide, by decide⟩ g_b33 at_35 (q := 36) rfl (fun T h X W => ?_)
    have A_b33 : AI Z h b33 .int 5 (own_up (own_up (fun _ => 0) 0 r20) 1 r32) := A_b33.set W
    refine g_aload X at_36 rfl (q := 38) rfl rfl ?_
    refine g_iconst X at_38 rfl (q := 39) (v := 2) rfl ?_
    refine g_iloadN X at_39 rfl (q := 40) rfl ?_
    refine g_iload X at_40 rfl (q := 42) rfl ?_
    refine g_iconst X at_42 rfl (q := 43) (v := 2) rfl ?_
    refine g_isub X at_43 rfl (q := 44) ?_
    refine g_eqI (y := (2 : Int32)) (by decide) ?_
    refine g_callS X [(.int p4), (.int (2 : Int32))] [(.int (2 : Int32)), (.ref b33)] (tw1 hw) (tw2 hw) (tw3 hw) (tw4 hw) (by decide) (rm1_r2 l Z a0 hw [] p4 _ n0 X.size) pd3 rfl rfl rfl at_44 (q := 47) rfl (W := 2) rfl (by decide) (by decide) (c2 := 1) (s2 := 5) rfl rfl (by decide) (by decide) (fun v T h' X hQ => ?_)
    obtain ⟨rfl, rfl⟩ := hQ
    show Goes p e below s _ n0 _ (T.setTop (mkF m 47 #[.val (.int p1), .val (.int p2), .val (.int p3), .val (.int p4), .val (.int p5), .val (.int (4 : Int32)), .val (.ref b33), .unset, .unset, .unset, .unset, .unset] [(.int ((p4 &&& (2147483647 : Int32)) % (2 : Int32))), (.int (2 : Int32)), (.ref b33)]))
    refine g_letI (fun r44 hr44 => ?_)
    have b_r44 : (0 : Int) ≤ r44.toInt ∧ r44.toInt ≤ 1 := by
      have z0 := hr44
      have f1 := rng32 p4
      obtain ⟨n1_, hn1_⟩ : ∃ z, z = (p4 &&& (2147483647 : Int32)) := ⟨_, rfl⟩
      (try simp only [← hn1_] at z0)
      have f2 := own_mB p4 (2147483647 : Int32) 31 (by decide) (by decide) 2147483647 (by decide)
      (try rw [← hn1_] at f2)
      obtain ⟨n2_, hn2_⟩ : ∃ z, z = (n1_ % (2 : Int32)) := ⟨_, rfl⟩
      (try simp only [← hn2_] at z0)
      have f3 := own_iremB n1_ (2 : Int32) 2 (by decide) (by decide) (by omega)
      (try rw [← hn2_] at f3)
      (try simp only [Int64.reduceToInt, Int32.reduceToInt] at f3)
      have e0 := congrArg Int32.toInt z0
      (try simp only [Int64.lt_iff_toInt_lt, Int32.lt_iff_toInt_lt, Int64.le_iff_toInt_le, Int32.le_iff_toInt_le, ← Int64.toInt_inj, ← Int32.toInt_inj, apply_ite Int64.toInt, apply_ite Int32.toInt, Int64.reduceToInt, Int32.reduceToInt, ne_eq, true_and, and_true, false_or, or_false, iff_self, and_self, not_true_eq_false, not_false_eq_true] at e0)
      omega
    refine g_iastore X A_b33 ⟨by decide, by decide⟩ g_b33 at_47 (q := 48) rfl (fun T h X W => ?_)
    have A_b33 : AI Z h b33 .int 5 (own_up (own_up (own_up (fun _ => 0) 0 r20) 1 r32) 2 r44) := A_b33.set W
    refine g_aload X at_48 rfl (q := 50) rfl rfl ?_
    refine g_iconst X at_50 rfl (q := 51) (v := 3) rfl ?_
    refine g_iload X at_51 rfl (q := 53) rfl ?_
    refine g_iload X at_53 rfl (q := 55) rfl ?_
    refine g_iconst X at_55 rfl (q := 56) (v := 3) rfl ?_
    refine g_isub X at_56 rfl (q := 57) ?_
    refine g_eqI (y := (1 : Int32)) (by decide) ?_
    refine g_callS X [(.int p5), (.int (1 : Int32))] [(.int (3 : Int32)), (.ref b33)] (tw1 hw) (tw2 hw) (tw3 hw) (tw4 hw) (by decide) (rm1_r1 l Z a0 hw [] p5 _ n0 X.size) pd3 rfl rfl rfl at_57 (q := 60) rfl (W := 2) rfl (by decide) (by decide) (c2 := 1) (s2 := 5) rfl rfl (by decide) (by decide) (fun v T h' X hQ => ?_)
    obtain ⟨rfl, rfl⟩ := hQ
    show Goes p e below s _ n0 _ (T.setTop (mkF m 60 #[.val (.int p1), .val (.int p2), .val (.int p3), .val (.int p4), .val (.int p5), .val (.int (4 : Int32)), .val (.ref b33), .unset, .unset, .unset, .unset, .unset] [(.int (0 : Int32)), (.int (3 : Int32)), (.ref b33)]))
    refine g_iastore X A_b33 ⟨by decide, by decide⟩ g_b33 at_60 (q := 61) rfl (fun T h X W => ?_)
    have A_b33 : AI Z h b33 .int 5 (own_up (own_up (own_up (own_up (fun _ => 0) 0 r20) 1 r32) 2 r44) 3 (0 : Int32)) := A_b33.set W
    refine g_aload X at_61 rfl (q := 63) rfl rfl ?_
    refine g_iconst X at_63 rfl (q := 64) (v := 4) rfl ?_
    refine g_iconst X at_64 rfl (q := 65) (v := 0) rfl ?_
    refine g_iastore X A_b33 ⟨by decide, by decide⟩ g_b33 at_65 (q := 66) rfl (fun T h X W => ?_)
    have A_b33 : AI Z h b33 .int 5 (own_up (own_up (own_up (own_up (own_up (fun _ => 0) 0 r20) 1 r32) 2 r44) 3 (0 : Int32)) 4 (0 : Int32)) := A_b33.set W
    refine g_iconst X at_66 rfl (q := 67) (v := 5) rfl ?_
    refine g_newarrI X (aty := .int) rfl (tw0 hw) at_67 (q := 69) rfl (by decide) (cap := 5) (by decide) (by decide) (c2 := 2) (s2 := 10) rfl rfl (by decide) (by decide) (fun T h' b34 X gz_b34 g_b34 E A_new => ?_)
    have ne_b33_b34 := own_new gz_b34 A_b33.lt
    have ne_b34_b33 := own_apS ne_b33_b34
    have A_b33 := A_b33.ext E
    have A_b34 : AI Z h' b34 .int 5 (fun _ => 0) := A_new
    refine g_dup X at_69 rfl (q := 70) rfl ?_
    refine g_iconst X at_70 rfl (q := 71) (v := 0) rfl ?_
    refine g_aload X at_71 rfl (q := 73) rfl rfl ?_
    refine g_iconst X at_73 rfl (q := 74) (v := 0) rfl ?_
    refine g_iaload X A_b33 ⟨by decide, by decide⟩ at_74 (q := 75) rfl ?_
    refine g_eqI (y := r20) rfl ?_
    refine g_iastore X A_b34 ⟨by decide, by decide⟩ g_b34 at_75 (q := 76) rfl (fun T h X W => ?_)
    have A_b33 := A_b33.other W ne_b33_b34
    have A_b34 : AI Z h b34 .int 5 (own_up (fun _ => 0) 0 r20) := A_b34.set W
    refine g_dup X at_76 rfl (q := 77) rfl ?_
    refine g_iconst X at_77 rfl (q := 78) (v := 1) rfl ?_
    refine g_aload X at_78 rfl (q := 80) rfl rfl ?_
    refine g_iconst X at_80 rfl (q := 81) (v := 1) rfl ?_
    refine g_iaload X A_b33 ⟨by decide, by decide⟩ at_81 (q := 82) rfl ?_
    refine g_eqI (y := r32) rfl ?_
    refine g_iastore X A_b34 ⟨by decide, by decide⟩ g_b34 at_82 (q := 83) rfl (fun T h X W => ?_)
    have A_b33 := A_b33.other W ne_b33_b34
    have A_b34 : AI Z h b34 .int 5 (own_up (own_up (fun _ => 0) 0 r20) 1 r32) := A_b34.set W
    refine g_dup X at_83 rfl (q := 84) rfl ?_
    refine g_iconst X at_84 rfl (q := 85) (v := 2) rfl ?_
    refine g_aload X at_85 rfl (q := 87) rfl rfl ?_
    refine g_iconst X at_87 rfl (q := 88) (v := 2) rfl ?_
    refine g_iaload X A_b33 ⟨by decide, by decide⟩ at_88 (q := 89) rfl ?_
    refine g_eqI (y := r44) rfl ?_
    refine g_iastore X A_b34 ⟨by decide, by decide⟩ g_b34 at_89 (q := 90) rfl (fun T h X W => ?_)
    have A_b33 := A_b33.other W ne_b33_b34
    have A_b34 : AI Z h b34 .int 5 (own_up (own_up (own_up (fun _ => 0) 0 r20) 1 r32) 2 r44) := A_b34.set W
    refine g_dup X at_90 rfl (q := 91) rfl ?_
    refine g_iconst X at_91 rfl (q := 92) (v := 3) rfl ?_
    refine g_aload X at_92 rfl (q := 94) rfl rfl ?_
    refine g_iconst X at_94 rfl (q := 95) (v := 3) rfl ?_
    refine g_iaload X A_b33 ⟨by decide, by decide⟩ at_95 (q := 96) rfl ?_
    refine g_eqI (y := (0 : Int32)) rfl ?_
    refine g_iastore X A_b34 ⟨by decide, by decide⟩ g_b34 at_96 (q := 97) rfl (fun T h X W => ?_)
    have A_b33 := A_b33.other W ne_b33_b34
    have A_b34 : AI Z h b34 .int 5 (own_up (own_up (own_up (own_up (fun _ => 0) 0 r20) 1 r32) 2 r44) 3 (0 : Int32)) := A_b34.set W
    refine g_dup X at_97 rfl (q := 98) rfl ?_
    refine g_iconst X at_98 rfl (q := 99) (v := 4) rfl ?_
    refine g_aload X at_99 rfl (q := 101) rfl rfl ?_
    refine g_iconst X at_101 rfl (q := 102) (v := 4) rfl ?_
    refine g_iaload X A_b33 ⟨by decide, by decide⟩ at_102 (q := 103) rfl ?_
    refine g_eqI (y := (0 : Int32)) rfl ?_
    refine g_iastore X A_b34 ⟨by decide, by decide⟩ g_b34 at_103 (q := 104) rfl (fun T h X W => ?_)
    have A_b33 := A_b33.other W ne_b33_b34
    have A_b34 : AI Z h b34 .int 5 (own_up (own_up (own_up (own_up (own_up (fun _ => 0) 0 r20) 1 r32) 2 r44) 3 (0 : Int32)) 4 (0 : Int32)) := A_b34.set W
    refine g_astore X at_104 rfl (q := 106) (L' := #[.val (.int p1), .val (.int p2), .val (.int p3), .val (.int p4), .val (.int p5), .val (.int (4 : Int32)), .val (.ref b33), .val (.ref b34), .unset, .unset, .unset, .unset]) rfl rfl ?_
    refine g_aload X at_106 rfl (q := 108) rfl rfl ?_
    refine g_iload X at_108 rfl (q := 110) rfl ?_
    refine g_callS X [(.ref b34), (.int (4 : Int32))] [] (tw5 hw) (tw6 hw) (tw3 hw) (tw7 hw) (by decide) (rm2 l Z a0 hw [] b34 (4 : Int32) (own_up (own_up (own_up (own_up (own_up (fun _ => 0) 0 r20) 1 r32) 2 r44) 3 (0 : Int32)) 4 (0 : Int32)) _ n0 X.size A_b34 g_b34) pd4 rfl rfl rfl at_110 (q := 113) rfl (W := 0) rfl (by decide) (by decide) (c2 := 2) (s2 := 10) rfl rfl (by decide) (by decide) (fun v T h' X hQ => ?_)
    obtain ⟨rfl, Kc, A_b34'⟩ := hQ
    have A_b33 := A_b33.keep Kc (ninS ne_b33_b34 nin0)
    have A_b34 : AI Z h' b34 .int 5 (incF (own_up (own_up (own_up (own_up (own_up (fun _ => 0) 0 r20) 1 r32) 2 r44) 3 (0 : Int32)) 4 (0 : Int32)) (4 : Int32)) := A_b34'
    show Goes p e below s _ n0 _ (T.setTop (mkF m 113 #[.val (.int p1), .val (.int p2), .val (.int p3), .val (.int p4), .val (.int p5), .val (.int (4 : Int32)), .val (.ref b33), .val (.ref b34), .unset, .unset, .unset, .unset] [(.int (bI (incR (own_up (own_up (own_up (own_up (own_up (fun _ => 0) 0 r20) 1 r32) 2 r44) 3 (0 : Int32)) 4 (0 : Int32)) (4 : Int32))))]))
    refine g_istore X at_113 rfl (q := 115) (L' := #[.val (.int p1), .val (.int p2), .val (.int p3), .val (.int p4), .val (.int p5), .val (.int (4 : Int32)), .val (.ref b33), .val (.ref b34), .val (.int (bI (incR (own_up (own_up (own_up (own_up (own_up (fun _ => 0) 0 r20) 1 r32) 2 r44) 3 (0 : Int32)) 4 (0 : Int32)) (4 : Int32)))), .unset, .unset, .unset]) rfl ?_
    refine g_aload X at_115 rfl (q := 117) rfl rfl ?_
    refine g_iload X at_117 rfl (q := 119) rfl ?_
    refine g_callS X [(.ref b33), (.int (4 : Int32))] [] (tw11 hw) (tw12 hw) (tw3 hw) (tw13 hw) (by decide) (rm4_n4 l Z a0 hw [] b33 (own_up (own_up (own_up (own_up (own_up (fun _ => 0) 0 r20) 1 r32) 2 r44) 3 (0 : Int32)) 4 (0 : Int32)) _ n0 X.size A_b33 (own_chB (own_chB (own_chB (own_chB (own_chB (fun _ _ => by decide) (i := 0) (x := r20) (by omega)) (i := 1) (x := r32) (by omega)) (i := 2) (x := r44) (by omega)) (i := 3) (x := 0) (by decide)) (i := 4) (x := 0) (by decide))) pd5 rfl rfl rfl at_119 (q := 122) rfl (W := 0) rfl (by decide) (by decide) (c2 := 4) (s2 := 19) rfl rfl (by decide) (by decide) (fun v T h' X hQ => ?_)
    obtain ⟨b35, rfl, g_b35, sq_b35, Kc, M_b35⟩ := hQ
    have ne_b33_b35 := own_far A_b33.lt sq_b35
    have ne_b35_b33 := own_apS ne_b33_b35
    have ne_b34_b35 := own_far A_b34.lt sq_b35
    have ne_b35_b34 := own_apS ne_b34_b35
    have A_b33 := A_b33.keep Kc nin0
    have A_b34 := A_b34.keep Kc nin0
    have A_b35 : AI Z h' b35 .int 4 (bld4 (own_up (own_up (own_up (own_up (own_up (fun _ => 0) 0 r20) 1 r32) 2 r44) 3 (0 : Int32)) 4 (0 : Int32))) := M_b35
    show Goes p e below s _ n0 _ (T.setTop (mkF m 122 #[.val (.int p1), .val (.int p2), .val (.int p3), .val (.int p4), .val (.int p5), .val (.int (4 : Int32)), .val (.ref b33), .val (.ref b34), .val (.int (bI (incR (own_up (own_up (own_up (own_up (own_up (fun _ => 0) 0 r20) 1 r32) 2 r44) 3 (0 : Int32)) 4 (0 : Int32)) (4 : Int32)))), .unset, .unset, .unset] [(.ref b35)]))
    refine g_astore X at_122 rfl (q := 124) (L' := #[.val (.int p1), .val (.int p2), .val (.int p3), .val (.int p4), .val (.int p5), .val (.int (4 : Int32)), .val (.ref b33), .val (.ref b34), .val (.int (bI (incR (own_up (own_up (own_up (own_up (own_up (fun _ => 0) 0 r20) 1 r32) 2 r44) 3 (0 : Int32)) 4 (0 : Int32)) (4 : Int32)))), .val (.ref b35), .unset, .unset]) rfl rfl ?_
    refine g_iload X at_124 rfl (q := 126) rfl ?_
    refine g_beq X at_126 (q := 129) rfl (by decide) (t := 139) rfl (fun (c21 : incR (own_up (own_up (own_up (own_up (own_up (fun _ => 0) 0 r20) 1 r32) 2 r44) 3 (0 : Int32)) 4 (0 : Int32)) (4 : Int32)) => ?_) (fun (c21 : ¬ (incR (own_up (own_up (own_up (own_up (own_up (fun _ => 0) 0 r20) 1 r32) 2 r44) 3 (0 : Int32)) 4 (0 : Int32)) (4 : Int32))) => ?_)
    · skip
      refine g_aload X at_129 rfl (q := 131) rfl rfl ?_
      refine g_iload X at_131 rfl (q := 133) rfl ?_
      refine g_callS X [(.ref b34), (.int (4 : Int32))] [] (tw11 hw) (tw12 hw) (tw3 hw) (tw13 hw) (by decide) (rm4_n4 l Z a0 hw [] b34 (incF (own_up (own_up (own_up (own_up (own_up (fun _ => 0) 0 r20) 1 r32) 2 r44) 3 (0 : Int32)) 4 (0 : Int32)) (4 : Int32)) _ n0 X.size A_b34 (own_incB (own_chB (own_chB (own_chB (own_chB (own_chB (fun _ _ => by decide) (i := 0) (x := r20) (by omega)) (i := 1) (x := r32) (by omega)) (i := 2) (x := r44) (by omega)) (i := 3) (x := 0) (by decide)) (i := 4) (x := 0) (by decide)) (by decide))) pd5 rfl rfl rfl at_133 (q := 136) rfl (W := 0) rfl (by decide) (by decide) (c2 := 6) (s2 := 28) rfl rfl (by decide) (by decide) (fun v T h' X hQ => ?_)
      obtain ⟨b36, rfl, g_b36, sq_b36, Kc, M_b36⟩ := hQ
      have ne_b33_b36 := own_far A_b33.lt sq_b36
      have ne_b36_b33 := own_apS ne_b33_b36
      have ne_b34_b36 := own_far A_b34.lt sq_b36
      have ne_b36_b34 := own_apS ne_b34_b36
      have ne_b35_b36 := own_far A_b35.lt sq_b36
      have ne_b36_b35 := own_apS ne_b35_b36
      have A_b33 := A_b33.keep Kc nin0
      have A_b34 := A_b34.keep Kc nin0
      have A_b35 := A_b35.keep Kc nin0
      have A_b36 : AI Z h' b36 .int 4 (bld4 (incF (own_up (own_up (own_up (own_up (own_up (fun _ => 0) 0 r20) 1 r32) 2 r44) 3 (0 : Int32)) 4 (0 : Int32)) (4 : Int32))) := M_b36
      show Goes p e below s _ n0 _ (T.setTop (mkF m 136 #[.val (.int p1), .val (.int p2), .val (.int p3), .val (.int p4), .val (.int p5), .val (.int (4 : Int32)), .val (.ref b33), .val (.ref b34), .val (.int (bI (incR (own_up (own_up (own_up (own_up (own_up (fun _ => 0) 0 r20) 1 r32) 2 r44) 3 (0 : Int32)) 4 (0 : Int32)) (4 : Int32)))), .val (.ref b35), .unset, .unset] [(.ref b36)]))
      refine g_goto X at_136 (by decide) (q := 146) rfl ?_
      refine g_astore X at_146 rfl (q := 148) (L' := #[.val (.int p1), .val (.int p2), .val (.int p3), .val (.int p4), .val (.int p5), .val (.int (4 : Int32)), .val (.ref b33), .val (.ref b34), .val (.int (bI (incR (own_up (own_up (own_up (own_up (own_up (fun _ => 0) 0 r20) 1 r32) 2 r44) 3 (0 : Int32)) 4 (0 : Int32)) (4 : Int32)))), .val (.ref b35), .val (.ref b36), .unset]) rfl rfl ?_
      refine g_aload X at_148 rfl (q := 150) rfl rfl ?_
      refine g_callS X [(.ref b35)] [] (tw14 hw) (tw15 hw) (tw16 hw) (tw17 hw) (by decide) (rm5_n4 l Z a0 hw [] b35 (bld4 (own_up (own_up (own_up (own_up (own_up (fun _ => 0) 0 r20) 1 r32) 2 r44) 3 (0 : Int32)) 4 (0 : Int32))) _ n0 X.size A_b35 g_b35) pd6 rfl rfl rfl at_150 (q := 153) rfl (W := 0) rfl (by decide) (by decide) (c2 := 6) (s2 := 28) rfl rfl (by decide) (by decide) (fun v T h' X hQ => ?_)
      obtain ⟨rfl, Kc, A_b35'⟩ := hQ
      have A_b33 := A_b33.keep Kc (ninS ne_b33_b35 nin0)
      have A_b34 := A_b34.keep Kc (ninS ne_b34_b35 nin0)
      have A_b36 := A_b36.keep Kc (ninS ne_b36_b35 nin0)
      have A_b35 : AI Z h' b35 .int 4 (nx4F (bld4 (own_up (own_up (own_up (own_up (own_up (fun _ => 0) 0 r20) 1 r32) 2 r44) 3 (0 : Int32)) 4 (0 : Int32)))) := A_b35'
      show Goes p e below s _ n0 _ (T.setTop (mkF m 153 #[.val (.int p1), .val (.int p2), .val (.int p3), .val (.int p4), .val (.int p5), .val (.int (4 : Int32)), .val (.ref b33), .val (.ref b34), .val (.int (bI (incR (own_up (own_up (own_up (own_up (own_up (fun _ => 0) 0 r20) 1 r32) 2 r44) 3 (0 : Int32)) 4 (0 : Int32)) (4 : Int32)))), .val (.ref b35), .val (.ref b36), .unset] [(.int (bI (nx4R (bld4 (own_up (own_up (own_up (own_up (own_up (fun _ => 0) 0 r20) 1 r32) 2 r44) 3 (0 : Int32)) 4 (0 : Int32))))))]))
      refine g_istore X at_153 rfl (q := 155) (L' := #[.val (.int p1), .val (.int p2), .val (.int p3), .val (.int p4), .val (.int p5), .val (.int (4 : Int32)), .val (.ref b33), .val (.ref b34), .val (.int (bI (incR (own_up (own_up (own_up (own_up (own_up (fun _ => 0) 0 r20) 1 r32) 2 r44) 3 (0 : Int32)) 4 (0 : Int32)) (4 : Int32)))), .val (.ref b35), .val (.ref b36), .val (.int (bI (nx4R (bld4 (own_up (own_up (own_up (own_up (own_up (fun _ => 0) 0 r20) 1 r32) 2 r44) 3 (0 : Int32)) 4 (0 : Int32))))))]) rfl ?_
      refine g_iload X at_155 rfl (q := 157) rfl ?_
      refine g_iload X at_157 rfl (q := 159) rfl ?_
      refine g_jT1 X (J := 179) (P := fun (s0_179 : Int32) => s0_179 = (bI (((nx4R (bld4 (own_up (own_up (own_up (own_up (own_up (fun _ => 0) 0 r20) 1 r32) 2 r44) 3 (0 : Int32)) 4 (0 : Int32)))) ↔ (incR (own_up (own_up (own_up (own_up (own_up (fun _ => 0) 0 r20) 1 r32) 2 r44) 3 (0 : Int32)) 4 (0 : Int32)) (4 : Int32))) ∧ ((((nx4F (bld4 (own_up (own_up (own_up (own_up (own_up (fun _ => 0) 0 r20) 1 r32) 2 r44) 3 (0 : Int32)) 4 (0 : Int32)))) 0) = ((bld4 (incF (own_up (own_up (own_up (own_up (own_up (fun _ => 0) 0 r20) 1 r32) 2 r44) 3 (0 : Int32)) 4 (0 : Int32)) (4 : Int32))) 0)) ∧ ((((nx4F (bld4 (own_up (own_up (own_up (own_up (own_up (fun _ => 0) 0 r20) 1 r32) 2 r44) 3 (0 : Int32)) 4 (0 : Int32)))) 1) = ((bld4 (incF (own_up (own_up (own_up (own_up (own_up (fun _ => 0) 0 r20) 1 r32) 2 r44) 3 (0 : Int32)) 4 (0 : Int32)) (4 : Int32))) 1)) ∧ ((((nx4F (bld4 (own_up (own_up (own_up (own_up (own_up (fun _ => 0) 0 r20) 1 r32) 2 r44) 3 (0 : Int32)) 4 (0 : Int32)))) 2) = ((bld4 (incF (own_up (own_up (own_up (own_up (own_up (fun _ => 0) 0 r20) 1 r32) 2 r44) 3 (0 : Int32)) 4 (0 : Int32)) (4 : Int32))) 2)) ∧ (((nx4F (bld4 (own_up (own_up (own_up (own_up (own_up (fun _ => 0) 0 r20) 1 r32) 2 r44) 3 (0 : Int32)) 4 (0 : Int32)))) 3) = ((bld4 (incF (own_up (own_up (own_up (own_up (own_up (fun _ => 0) 0 r20) 1 r32) 2 r44) 3 (0 : Int32)) 4 (0 : Int32)) (4 : Int32))) 3)))))))) (L := fun s0_179 => #[.val (.int p1), .val (.int p2), .val (.int p3), .val (.int p4), .val (.int p5), .val (.int (4 : Int32)), .val (.ref b33), .val (.ref b34), .val (.int (bI (incR (own_up (own_up (own_up (own_up (own_up (fun _ => 0) 0 r20) 1 r32) 2 r44) 3 (0 : Int32)) 4 (0 : Int32)) (4 : Int32)))), .val (.ref b35), .val (.ref b36), .val (.int (bI (nx4R (bld4 (own_up (own_up (own_up (own_up (own_up (fun _ => 0) 0 r20) 1 r32) 2 r44) 3 (0 : Int32)) 4 (0 : Int32))))))]) (S := fun s0_179 => [(.int s0_179)]) ?_ ?_
      · intro T X s0_179 hs0_179
        replace hs0_179 : s0_179 = (bI (((nx4R (bld4 (own_up (own_up (own_up (own_up (own_up (fun _ => 0) 0 r20) 1 r32) 2 r44) 3 (0 : Int32)) 4 (0 : Int32)))) ↔ (incR (own_up (own_up (own_up (own_up (own_up (fun _ => 0) 0 r20) 1 r32) 2 r44) 3 (0 : Int32)) 4 (0 : Int32)) (4 : Int32))) ∧ ((((nx4F (bld4 (own_up (own_up (own_up (own_up (own_up (fun _ => 0) 0 r20) 1 r32) 2 r44) 3 (0 : Int32)) 4 (0 : Int32)))) 0) = ((bld4 (incF (own_up (own_up (own_up (own_up (own_up (fun _ => 0) 0 r20) 1 r32) 2 r44) 3 (0 : Int32)) 4 (0 : Int32)) (4 : Int32))) 0)) ∧ ((((nx4F (bld4 (own_up (own_up (own_up (own_up (own_up (fun _ => 0) 0 r20) 1 r32) 2 r44) 3 (0 : Int32)) 4 (0 : Int32)))) 1) = ((bld4 (incF (own_up (own_up (own_up (own_up (own_up (fun _ => 0) 0 r20) 1 r32) 2 r44) 3 (0 : Int32)) 4 (0 : Int32)) (4 : Int32))) 1)) ∧ ((((nx4F (bld4 (own_up (own_up (own_up (own_up (own_up (fun _ => 0) 0 r20) 1 r32) 2 r44) 3 (0 : Int32)) 4 (0 : Int32)))) 2) = ((bld4 (incF (own_up (own_up (own_up (own_up (own_up (fun _ => 0) 0 r20) 1 r32) 2 r44) 3 (0 : Int32)) 4 (0 : Int32)) (4 : Int32))) 2)) ∧ (((nx4F (bld4 (own_up (own_up (own_up (own_up (own_up (fun _ => 0) 0 r20) 1 r32) 2 r44) 3 (0 : Int32)) 4 (0 : Int32)))) 3) = ((bld4 (incF (own_up (own_up (own_up (own_up (own_up (fun _ => 0) 0 r20) 1 r32) 2 r44) 3 (0 : Int32)) 4 (0 : Int32)) (4 : Int32))) 3))))))) := hs0_179
        subst hs0_179
        show Goes p e below s _ n0 _ (T.setTop (mkF m 179 #[.val (.int p1), .val (.int p2), .val (.int p3), .val (.int p4), .val (.int p5), .val (.int (4 : Int32)), .val (.ref b33), .val (.ref b34), .val (.int (bI (incR (own_up (own_up (own_up (own_up (own_up (fun _ => 0) 0 r20) 1 r32) 2 r44) 3 (0 : Int32)) 4 (0 : Int32)) (4 : Int32)))), .val (.ref b35), .val (.ref b36), .val (.int (bI (nx4R (bld4 (own_up (own_up (own_up (own_up (own_up (fun _ => 0) 0 r20) 1 r32) 2 r44) 3 (0 : Int32)) 4 (0 : Int32))))))] [(.int (bI (((nx4R (bld4 (own_up (own_up (own_up (own_up (own_up (fun _ => 0) 0 r20) 1 r32) 2 r44) 3 (0 : Int32)) 4 (0 : Int32)))) ↔ (incR (own_up (own_up (own_up (own_up (own_up (fun _ => 0) 0 r20) 1 r32) 2 r44) 3 (0 : Int32)) 4 (0 : Int32)) (4 : Int32))) ∧ ((((nx4F (bld4 (own_up (own_up (own_up (own_up (own_up (fun _ => 0) 0 r20) 1 r32) 2 r44) 3 (0 : Int32)) 4 (0 : Int32)))) 0) = ((bld4 (incF (own_up (own_up (own_up (own_up (own_up (fun _ => 0) 0 r20) 1 r32) 2 r44) 3 (0 : Int32)) 4 (0 : Int32)) (4 : Int32))) 0)) ∧ ((((nx4F (bld4 (own_up (own_up (own_up (own_up (own_up (fun _ => 0) 0 r20) 1 r32) 2 r44) 3 (0 : Int32)) 4 (0 : Int32)))) 1) = ((bld4 (incF (own_up (own_up (own_up (own_up (own_up (fun _ => 0) 0 r20) 1 r32) 2 r44) 3 (0 : Int32)) 4 (0 : Int32)) (4 : Int32))) 1)) ∧ ((((nx4F (bld4 (own_up (own_up (own_up (own_up (own_up (fun _ => 0) 0 r20) 1 r32) 2 r44) 3 (0 : Int32)) 4 (0 : Int32)))) 2) = ((bld4 (incF (own_up (own_up (own_up (own_up (own_up (fun _ => 0) 0 r20) 1 r32) 2 r44) 3 (0 : Int32)) 4 (0 : Int32)) (4 : Int32))) 2)) ∧ (((nx4F (bld4 (own_up (own_up (own_up (own_up (own_up (fun _ => 0) 0 r20) 1 r32) 2 r44) 3 (0 : Int32)) 4 (0 : Int32)))) 3) = ((bld4 (incF (own_up (own_up (own_up (own_up (own_up (fun _ => 0) 0 r20) 1 r32) 2 r44) 3 (0 : Int32)) 4 (0 : Int32)) (4 : Int32))) 3))))))))]))
        refine g_retZ X at_179 (by decide) (by decide) (bI_01 _) (own_fin ?_)
        show ((nx4R (bld4 (own_up (own_up (own_up (own_up (own_up (fun _ => 0) 0 r20) 1 r32) 2 r44) 3 (0 : Int32)) 4 (0 : Int32)))) ↔ (incR (own_up (own_up (own_up (own_up (own_up (fun _ => 0) 0 r20) 1 r32) 2 r44) 3 (0 : Int32)) 4 (0 : Int32)) (4 : Int32))) ∧ ((((nx4F (bld4 (own_up (own_up (own_up (own_up (own_up (fun _ => 0) 0 r20) 1 r32) 2 r44) 3 (0 : Int32)) 4 (0 : Int32)))) 0) = ((bld4 (incF (own_up (own_up (own_up (own_up (own_up (fun _ => 0) 0 r20) 1 r32) 2 r44) 3 (0 : Int32)) 4 (0 : Int32)) (4 : Int32))) 0)) ∧ ((((nx4F (bld4 (own_up (own_up (own_up (own_up (own_up (fun _ => 0) 0 r20) 1 r32) 2 r44) 3 (0 : Int32)) 4 (0 : Int32)))) 1) = ((bld4 (incF (own_up (own_up (own_up (own_up (own_up (fun _ => 0) 0 r20) 1 r32) 2 r44) 3 (0 : Int32)) 4 (0 : Int32)) (4 : Int32))) 1)) ∧ ((((nx4F (bld4 (own_up (own_up (own_up (own_up (own_up (fun _ => 0) 0 r20) 1 r32) 2 r44) 3 (0 : Int32)) 4 (0 : Int32)))) 2) = ((bld4 (incF (own_up (own_up (own_up (own_up (own_up (fun _ => 0) 0 r20) 1 r32) 2 r44) 3 (0 : Int32)) 4 (0 : Int32)) (4 : Int32))) 2)) ∧ (((nx4F (bld4 (own_up (own_up (own_up (own_up (own_up (fun _ => 0) 0 r20) 1 r32) 2 r44) 3 (0 : Int32)) 4 (0 : Int32)))) 3) = ((bld4 (incF (own_up (own_up (own_up (own_up (own_up (fun _ => 0) 0 r20) 1 r32) 2 r44) 3 (0 : Int32)) 4 (0 : Int32)) (4 : Int32))) 3)))))
        obtain ⟨kr20, er20⟩ := own_toFin (x := r20) 4 (by decide) (by omega)
        subst er20
        obtain ⟨kr32, er32⟩ := own_toFin (x := r32) 3 (by decide) (by omega)
        subst er32
        obtain ⟨kr44, er44⟩ := own_toFin (x := r44) 2 (by decide) (by omega)
        subst er44
        exact own_fin9 kr20 kr32 kr44 c21
      · intro J179_21
        refine g_icmpB X at_159 (Or.inr (Or.inr rfl)) (q := 162) rfl (by decide) (t := 178) rfl (fun c22 => ?_) (fun c22 => ?_)
        · replace c22 : (nx4R (bld4 (own_up (own_up (own_up (own_up (own_up (fun _ => 0) 0 r20) 1 r32) 2 r44) 3 (0 : Int32)) 4 (0 : Int32)))) ↔ (incR (own_up (own_up (own_up (own_up (own_up (fun _ => 0) 0 r20) 1 r32) 2 r44) 3 (0 : Int32)) 4 (0 : Int32)) (4 : Int32)) := (bI_inj _ _).mp c22
          refine g_aload X at_162 rfl (q := 164) rfl rfl ?_
          refine g_aload X at_164 rfl (q := 166) rfl rfl ?_
          refine g_iload X at_166 rfl (q := 168) rfl ?_
          refine g_callS X [(.ref b35), (.ref b36), (.int (4 : Int32))] [] (tw18 hw) (tw19 hw) (tw3 hw) (tw20 hw) (by decide) (rm6_n4 l Z a0 hw [] b35 b36 (nx4F (bld4 (own_up (own_up (own_up (own_up (own_up (fun _ => 0) 0 r20) 1 r32) 2 r44) 3 (0 : Int32)) 4 (0 : Int32)))) (bld4 (incF (own_up (own_up (own_up (own_up (own_up (fun _ => 0) 0 r20) 1 r32) 2 r44) 3 (0 : Int32)) 4 (0 : Int32)) (4 : Int32))) _ n0 X.size A_b35 A_b36) pd7 rfl rfl rfl at_168 (q := 171) rfl (W := 0) rfl (by decide) (by decide) (c2 := 6) (s2 := 28) rfl rfl (by decide) (by decide) (fun v T h' X hQ => ?_)
          obtain ⟨rfl, rfl⟩ := hQ
          show Goes p e below s _ n0 _ (T.setTop (mkF m 171 #[.val (.int p1), .val (.int p2), .val (.int p3), .val (.int p4), .val (.int p5), .val (.int (4 : Int32)), .val (.ref b33), .val (.ref b34), .val (.int (bI (incR (own_up (own_up (own_up (own_up (own_up (fun _ => 0) 0 r20) 1 r32) 2 r44) 3 (0 : Int32)) 4 (0 : Int32)) (4 : Int32)))), .val (.ref b35), .val (.ref b36), .val (.int (bI (nx4R (bld4 (own_up (own_up (own_up (own_up (own_up (fun _ => 0) 0 r20) 1 r32) 2 r44) 3 (0 : Int32)) 4 (0 : Int32))))))] [(.int (bI ((((nx4F (bld4 (own_up (own_up (own_up (own_up (own_up (fun _ => 0) 0 r20) 1 r32) 2 r44) 3 (0 : Int32)) 4 (0 : Int32)))) 0) = ((bld4 (incF (own_up (own_up (own_up (own_up (own_up (fun _ => 0) 0 r20) 1 r32) 2 r44) 3 (0 : Int32)) 4 (0 : Int32)) (4 : Int32))) 0)) ∧ ((((nx4F (bld4 (own_up (own_up (own_up (own_up (own_up (fun _ => 0) 0 r20) 1 r32) 2 r44) 3 (0 : Int32)) 4 (0 : Int32)))) 1) = ((bld4 (incF (own_up (own_up (own_up (own_up (own_up (fun _ => 0) 0 r20) 1 r32) 2 r44) 3 (0 : Int32)) 4 (0 : Int32)) (4 : Int32))) 1)) ∧ ((((nx4F (bld4 (own_up (own_up (own_up (own_up (own_up (fun _ => 0) 0 r20) 1 r32) 2 r44) 3 (0 : Int32)) 4 (0 : Int32)))) 2) = ((bld4 (incF (own_up (own_up (own_up (own_up (own_up (fun _ => 0) 0 r20) 1 r32) 2 r44) 3 (0 : Int32)) 4 (0 : Int32)) (4 : Int32))) 2)) ∧ (((nx4F (bld4 (own_up (own_up (own_up (own_up (own_up (fun _ => 0) 0 r20) 1 r32) 2 r44) 3 (0 : Int32)) 4 (0 : Int32)))) 3) = ((bld4 (incF (own_up (own_up (own_up (own_up (own_up (fun _ => 0) 0 r20) 1 r32) 2 r44) 3 (0 : Int32)) 4 (0 : Int32)) (4 : Int32))) 3)))))))]))
          refine g_beq X at_171 (q := 174) rfl (by decide) (t := 178) rfl (fun (c23 : (((nx4F (bld4 (own_up (own_up (own_up (own_up (own_up (fun _ => 0) 0 r20) 1 r32) 2 r44) 3 (0 : Int32)) 4 (0 : Int32)))) 0) = ((bld4 (incF (own_up (own_up (own_up (own_up (own_up (fun _ => 0) 0 r20) 1 r32) 2 r44) 3 (0 : Int32)) 4 (0 : Int32)) (4 : Int32))) 0)) ∧ ((((nx4F (bld4 (own_up (own_up (own_up (own_up (own_up (fun _ => 0) 0 r20) 1 r32) 2 r44) 3 (0 : Int32)) 4 (0 : Int32)))) 1) = ((bld4 (incF (own_up (own_up (own_up (own_up (own_up (fun _ => 0) 0 r20) 1 r32) 2 r44) 3 (0 : Int32)) 4 (0 : Int32)) (4 : Int32))) 1)) ∧ ((((nx4F (bld4 (own_up (own_up (own_up (own_up (own_up (fun _ => 0) 0 r20) 1 r32) 2 r44) 3 (0 : Int32)) 4 (0 : Int32)))) 2) = ((bld4 (incF (own_up (own_up (own_up (own_up (own_up (fun _ => 0) 0 r20) 1 r32) 2 r44) 3 (0 : Int32)) 4 (0 : Int32)) (4 : Int32))) 2)) ∧ (((nx4F (bld4 (own_up (own_up (own_up (own_up (own_up (fun _ => 0) 0 r20) 1 r32) 2 r44) 3 (0 : Int32)) 4 (0 : Int32)))) 3) = ((bld4 (incF (own_up (own_up (own_up (own_up (own_up (fun _ => 0) 0 r20) 1 r32) 2 r44) 3 (0 : Int32)) 4 (0 : Int32)) (4 : Int32))) 3))))) => ?_) (fun (c23 : ¬ ((((nx4F (bld4 (own_up (own_up (own_up (own_up (own_up (fun _ => 0) 0 r20) 1 r32) 2 r44) 3 (0 : Int32)) 4 (0 : Int32)))) 0) = ((bld4 (incF (own_up (own_up (own_up (own_up (own_up (fun _ => 0) 0 r20) 1 r32) 2 r44) 3 (0 : Int32)) 4 (0 : Int32)) (4 : Int32))) 0)) ∧ ((((nx4F (bld4 (own_up (own_up (own_up (own_up (own_up (fun _ => 0) 0 r20) 1 r32) 2 r44) 3 (0 : Int32)) 4 (0 : Int32)))) 1) = ((bld4 (incF (own_up (own_up (own_up (own_up (own_up (fun _ => 0) 0 r20) 1 r32) 2 r44) 3 (0 : Int32)) 4 (0 : Int32)) (4 : Int32))) 1)) ∧ ((((nx4F (bld4 (own_up (own_up (own_up (own_up (own_up (fun _ => 0) 0 r20) 1 r32) 2 r44) 3 (0 : Int32)) 4 (0 : Int32)))) 2) = ((bld4 (incF (own_up (own_up (own_up (own_up (own_up (fun _ => 0) 0 r20) 1 r32) 2 r44) 3 (0 : Int32)) 4 (0 : Int32)) (4 : Int32))) 2)) ∧ (((nx4F (bld4 (own_up (own_up (own_up (own_up (own_up (fun _ => 0) 0 r20) 1 r32) 2 r44) 3 (0 : Int32)) 4 (0 : Int32)))) 3) = ((bld4 (incF (own_up (own_up (own_up (own_up (own_up (fun _ => 0) 0 r20) 1 r32) 2 r44) 3 (0 : Int32)) 4 (0 : Int32)) (4 : Int32))) 3)))))) => ?_)
          · skip
            refine g_iconst X at_174 rfl (q := 175) (v := 1) rfl ?_
            refine g_goto X at_175 (by decide) (q := 179) rfl ?_
            exact J179_21 T X _ (bI_t ⟨c22, c23⟩)
          · skip
            refine g_iconst X at_178 rfl (q := 179) (v := 0) rfl ?_
            exact J179_21 T X _ (bI_f (fun z => c23 z.2))
        · replace c22 : ¬ ((nx4R (bld4 (own_up (own_up (own_up (own_up (own_up (fun _ => 0) 0 r20) 1 r32) 2 r44) 3 (0 : Int32)) 4 (0 : Int32)))) ↔ (incR (own_up (own_up (own_up (own_up (own_up (fun _ => 0) 0 r20) 1 r32) 2 r44) 3 (0 : Int32)) 4 (0 : Int32)) (4 : Int32))) := fun z => c22 ((bI_inj _ _).mpr z)
          refine g_iconst X at_178 rfl (q := 179) (v := 0) rfl ?_
          exact J179_21 T X _ (bI_f (fun z => c22 z.1))
    · skip
      refine g_aload X at_139 rfl (q := 141) rfl rfl ?_
      refine g_iload X at_141 rfl (q := 143) rfl ?_
      refine g_callS X [(.ref b33), (.int (4 : Int32))] [] (tw11 hw) (tw12 hw) (tw3 hw) (tw13 hw) (by decide) (rm4_n4 l Z a0 hw [] b33 (own_up (own_up (own_up (own_up (own_up (fun _ => 0) 0 r20) 1 r32) 2 r44) 3 (0 : Int32)) 4 (0 : Int32)) _ n0 X.size A_b33 (own_chB (own_chB (own_chB (own_chB (own_chB (fun _ _ => by decide) (i := 0) (x := r20) (by omega)) (i := 1) (x := r32) (by omega)) (i := 2) (x := r44) (by omega)) (i := 3) (x := 0) (by decide)) (i := 4) (x := 0) (by decide))) pd5 rfl rfl rfl at_143 (q := 146) rfl (W := 0) rfl (by decide) (by decide) (c2 := 6) (s2 := 28) rfl rfl (by decide) (by decide) (fun v T h' X hQ => ?_)
      obtain ⟨b37, rfl, g_b37, sq_b37, Kc, M_b37⟩ := hQ
      have ne_b33_b37 := own_far A_b33.lt sq_b37
      have ne_b37_b33 := own_apS ne_b33_b37
      have ne_b34_b37 := own_far A_b34.lt sq_b37
      have ne_b37_b34 := own_apS ne_b34_b37
      have ne_b35_b37 := own_far A_b35.lt sq_b37
      have ne_b37_b35 := own_apS ne_b35_b37
      have A_b33 := A_b33.keep Kc nin0
      have A_b34 := A_b34.keep Kc nin0
      have A_b35 := A_b35.keep Kc nin0
      have A_b37 : AI Z h' b37 .int 4 (bld4 (own_up (own_up (own_up (own_up (own_up (fun _ => 0) 0 r20) 1 r32) 2 r44) 3 (0 : Int32)) 4 (0 : Int32))) := M_b37
      show Goes p e below s _ n0 _ (T.setTop (mkF m 146 #[.val (.int p1), .val (.int p2), .val (.int p3), .val (.int p4), .val (.int p5), .val (.int (4 : Int32)), .val (.ref b33), .val (.ref b34), .val (.int (bI (incR (own_up (own_up (own_up (own_up (own_up (fun _ => 0) 0 r20) 1 r32) 2 r44) 3 (0 : Int32)) 4 (0 : Int32)) (4 : Int32)))), .val (.ref b35), .unset, .unset] [(.ref b37)]))
      refine g_astore X at_146 rfl (q := 148) (L' := #[.val (.int p1), .val (.int p2), .val (.int p3), .val (.int p4), .val (.int p5), .val (.int (4 : Int32)), .val (.ref b33), .val (.ref b34), .val (.int (bI (incR (own_up (own_up (own_up (own_up (own_up (fun _ => 0) 0 r20) 1 r32) 2 r44) 3 (0 : Int32)) 4 (0 : Int32)) (4 : Int32)))), .val (.ref b35), .val (.ref b37), .unset]) rfl rfl ?_
      refine g_aload X at_148 rfl (q := 150) rfl rfl ?_
      refine g_callS X [(.ref b35)] [] (tw14 hw) (tw15 hw) (tw16 hw) (tw17 hw) (by decide) (rm5_n4 l Z a0 hw [] b35 (bld4 (own_up (own_up (own_up (own_up (own_up (fun _ => 0) 0 r20) 1 r32) 2 r44) 3 (0 : Int32)) 4 (0 : Int32))) _ n0 X.size A_b35 g_b35) pd6 rfl rfl rfl at_150 (q := 153) rfl (W := 0) rfl (by decide) (by decide) (c2 := 6) (s2 := 28) rfl rfl (by decide) (by decide) (fun v T h' X hQ => ?_)
      obtain ⟨rfl, Kc, A_b35'⟩ := hQ
      have A_b33 := A_b33.keep Kc (ninS ne_b33_b35 nin0)
      have A_b34 := A_b34.keep Kc (ninS ne_b34_b35 nin0)
      have A_b37 := A_b37.keep Kc (ninS ne_b37_b35 nin0)
      have A_b35 : AI Z h' b35 .int 4 (nx4F (bld4 (own_up (own_up (own_up (own_up (own_up (fun _ => 0) 0 r20) 1 r32) 2 r44) 3 (0 : Int32)) 4 (0 : Int32)))) := A_b35'
      show Goes p e below s _ n0 _ (T.setTop (mkF m 153 #[.val (.int p1), .val (.int p2), .val (.int p3), .val (.int p4), .val (.int p5), .val (.int (4 : Int32)), .val (.ref b33), .val (.ref b34), .val (.int (bI (incR (own_up (own_up (own_up (own_up (own_up (fun _ => 0) 0 r20) 1 r32) 2 r44) 3 (0 : Int32)) 4 (0 : Int32)) (4 : Int32)))), .val (.ref b35), .val (.ref b37), .unset] [(.int (bI (nx4R (bld4 (own_up (own_up (own_up (own_up (own_up (fun _ => 0) 0 r20) 1 r32) 2 r44) 3 (0 : Int32)) 4 (0 : Int32))))))]))
      refine g_istore X at_153 rfl (q := 155) (L' := #[.val (.int p1), .val (.int p2), .val (.int p3), .val (.int p4), .val (.int p5), .val (.int (4 : Int32)), .val (.ref b33), .val (.ref b34), .val (.int (bI (incR (own_up (own_up (own_up (own_up (own_up (fun _ => 0) 0 r20) 1 r32) 2 r44) 3 (0 : Int32)) 4 (0 : Int32)) (4 : Int32)))), .val (.ref b35), .val (.ref b37), .val (.int (bI (nx4R (bld4 (own_up (own_up (own_up (own_up (own_up (fun _ => 0) 0 r20) 1 r32) 2 r44) 3 (0 : Int32)) 4 (0 : Int32))))))]) rfl ?_
      refine g_iload X at_155 rfl (q := 157) rfl ?_
      refine g_iload X at_157 rfl (q := 159) rfl ?_
      refine g_jT1 X (J := 179) (P := fun (s0_179 : Int32) => s0_179 = (bI (((nx4R (bld4 (own_up (own_up (own_up (own_up (own_up (fun _ => 0) 0 r20) 1 r32) 2 r44) 3 (0 : Int32)) 4 (0 : Int32)))) ↔ (incR (own_up (own_up (own_up (own_up (own_up (fun _ => 0) 0 r20) 1 r32) 2 r44) 3 (0 : Int32)) 4 (0 : Int32)) (4 : Int32))) ∧ ((((nx4F (bld4 (own_up (own_up (own_up (own_up (own_up (fun _ => 0) 0 r20) 1 r32) 2 r44) 3 (0 : Int32)) 4 (0 : Int32)))) 0) = ((bld4 (own_up (own_up (own_up (own_up (own_up (fun _ => 0) 0 r20) 1 r32) 2 r44) 3 (0 : Int32)) 4 (0 : Int32))) 0)) ∧ ((((nx4F (bld4 (own_up (own_up (own_up (own_up (own_up (fun _ => 0) 0 r20) 1 r32) 2 r44) 3 (0 : Int32)) 4 (0 : Int32)))) 1) = ((bld4 (own_up (own_up (own_up (own_up (own_up (fun _ => 0) 0 r20) 1 r32) 2 r44) 3 (0 : Int32)) 4 (0 : Int32))) 1)) ∧ ((((nx4F (bld4 (own_up (own_up (own_up (own_up (own_up (fun _ => 0) 0 r20) 1 r32) 2 r44) 3 (0 : Int32)) 4 (0 : Int32)))) 2) = ((bld4 (own_up (own_up (own_up (own_up (own_up (fun _ => 0) 0 r20) 1 r32) 2 r44) 3 (0 : Int32)) 4 (0 : Int32))) 2)) ∧ (((nx4F (bld4 (own_up (own_up (own_up (own_up (own_up (fun _ => 0) 0 r20) 1 r32) 2 r44) 3 (0 : Int32)) 4 (0 : Int32)))) 3) = ((bld4 (own_up (own_up (own_up (own_up (own_up (fun _ => 0) 0 r20) 1 r32) 2 r44) 3 (0 : Int32)) 4 (0 : Int32))) 3)))))))) (L := fun s0_179 => #[.val (.int p1), .val (.int p2), .val (.int p3), .val (.int p4), .val (.int p5), .val (.int (4 : Int32)), .val (.ref b33), .val (.ref b34), .val (.int (bI (incR (own_up (own_up (own_up (own_up (own_up (fun _ => 0) 0 r20) 1 r32) 2 r44) 3 (0 : Int32)) 4 (0 : Int32)) (4 : Int32)))), .val (.ref b35), .val (.ref b37), .val (.int (bI (nx4R (bld4 (own_up (own_up (own_up (own_up (own_up (fun _ => 0) 0 r20) 1 r32) 2 r44) 3 (0 : Int32)) 4 (0 : Int32))))))]) (S := fun s0_179 => [(.int s0_179)]) ?_ ?_
      · intro T X s0_179 hs0_179
        replace hs0_179 : s0_179 = (bI (((nx4R (bld4 (own_up (own_up (own_up (own_up (own_up (fun _ => 0) 0 r20) 1 r32) 2 r44) 3 (0 : Int32)) 4 (0 : Int32)))) ↔ (incR (own_up (own_up (own_up (own_up (own_up (fun _ => 0) 0 r20) 1 r32) 2 r44) 3 (0 : Int32)) 4 (0 : Int32)) (4 : Int32))) ∧ ((((nx4F (bld4 (own_up (own_up (own_up (own_up (own_up (fun _ => 0) 0 r20) 1 r32) 2 r44) 3 (0 : Int32)) 4 (0 : Int32)))) 0) = ((bld4 (own_up (own_up (own_up (own_up (own_up (fun _ => 0) 0 r20) 1 r32) 2 r44) 3 (0 : Int32)) 4 (0 : Int32))) 0)) ∧ ((((nx4F (bld4 (own_up (own_up (own_up (own_up (own_up (fun _ => 0) 0 r20) 1 r32) 2 r44) 3 (0 : Int32)) 4 (0 : Int32)))) 1) = ((bld4 (own_up (own_up (own_up (own_up (own_up (fun _ => 0) 0 r20) 1 r32) 2 r44) 3 (0 : Int32)) 4 (0 : Int32))) 1)) ∧ ((((nx4F (bld4 (own_up (own_up (own_up (own_up (own_up (fun _ => 0) 0 r20) 1 r32) 2 r44) 3 (0 : Int32)) 4 (0 : Int32)))) 2) = ((bld4 (own_up (own_up (own_up (own_up (own_up (fun _ => 0) 0 r20) 1 r32) 2 r44) 3 (0 : Int32)) 4 (0 : Int32))) 2)) ∧ (((nx4F (bld4 (own_up (own_up (own_up (own_up (own_up (fun _ => 0) 0 r20) 1 r32) 2 r44) 3 (0 : Int32)) 4 (0 : Int32)))) 3) = ((bld4 (own_up (own_up (own_up (own_up (own_up (fun _ => 0) 0 r20) 1 r32) 2 r44) 3 (0 : Int32)) 4 (0 : Int32))) 3))))))) := hs0_179
        subst hs0_179
        show Goes p e below s _ n0 _ (T.setTop (mkF m 179 #[.val (.int p1), .val (.int p2), .val (.int p3), .val (.int p4), .val (.int p5), .val (.int (4 : Int32)), .val (.ref b33), .val (.ref b34), .val (.int (bI (incR (own_up (own_up (own_up (own_up (own_up (fun _ => 0) 0 r20) 1 r32) 2 r44) 3 (0 : Int32)) 4 (0 : Int32)) (4 : Int32)))), .val (.ref b35), .val (.ref b37), .val (.int (bI (nx4R (bld4 (own_up (own_up (own_up (own_up (own_up (fun _ => 0) 0 r20) 1 r32) 2 r44) 3 (0 : Int32)) 4 (0 : Int32))))))] [(.int (bI (((nx4R (bld4 (own_up (own_up (own_up (own_up (own_up (fun _ => 0) 0 r20) 1 r32) 2 r44) 3 (0 : Int32)) 4 (0 : Int32)))) ↔ (incR (own_up (own_up (own_up (own_up (own_up (fun _ => 0) 0 r20) 1 r32) 2 r44) 3 (0 : Int32)) 4 (0 : Int32)) (4 : Int32))) ∧ ((((nx4F (bld4 (own_up (own_up (own_up (own_up (own_up (fun _ => 0) 0 r20) 1 r32) 2 r44) 3 (0 : Int32)) 4 (0 : Int32)))) 0) = ((bld4 (own_up (own_up (own_up (own_up (own_up (fun _ => 0) 0 r20) 1 r32) 2 r44) 3 (0 : Int32)) 4 (0 : Int32))) 0)) ∧ ((((nx4F (bld4 (own_up (own_up (own_up (own_up (own_up (fun _ => 0) 0 r20) 1 r32) 2 r44) 3 (0 : Int32)) 4 (0 : Int32)))) 1) = ((bld4 (own_up (own_up (own_up (own_up (own_up (fun _ => 0) 0 r20) 1 r32) 2 r44) 3 (0 : Int32)) 4 (0 : Int32))) 1)) ∧ ((((nx4F (bld4 (own_up (own_up (own_up (own_up (own_up (fun _ => 0) 0 r20) 1 r32) 2 r44) 3 (0 : Int32)) 4 (0 : Int32)))) 2) = ((bld4 (own_up (own_up (own_up (own_up (own_up (fun _ => 0) 0 r20) 1 r32) 2 r44) 3 (0 : Int32)) 4 (0 : Int32))) 2)) ∧ (((nx4F (bld4 (own_up (own_up (own_up (own_up (own_up (fun _ => 0) 0 r20) 1 r32) 2 r44) 3 (0 : Int32)) 4 (0 : Int32)))) 3) = ((bld4 (own_up (own_up (own_up (own_up (own_up (fun _ => 0) 0 r20) 1 r32) 2 r44) 3 (0 : Int32)) 4 (0 : Int32))) 3))))))))]))
        refine g_retZ X at_179 (by decide) (by decide) (bI_01 _) (own_fin ?_)
        show ((nx4R (bld4 (own_up (own_up (own_up (own_up (own_up (fun _ => 0) 0 r20) 1 r32) 2 r44) 3 (0 : Int32)) 4 (0 : Int32)))) ↔ (incR (own_up (own_up (own_up (own_up (own_up (fun _ => 0) 0 r20) 1 r32) 2 r44) 3 (0 : Int32)) 4 (0 : Int32)) (4 : Int32))) ∧ ((((nx4F (bld4 (own_up (own_up (own_up (own_up (own_up (fun _ => 0) 0 r20) 1 r32) 2 r44) 3 (0 : Int32)) 4 (0 : Int32)))) 0) = ((bld4 (own_up (own_up (own_up (own_up (own_up (fun _ => 0) 0 r20) 1 r32) 2 r44) 3 (0 : Int32)) 4 (0 : Int32))) 0)) ∧ ((((nx4F (bld4 (own_up (own_up (own_up (own_up (own_up (fun _ => 0) 0 r20) 1 r32) 2 r44) 3 (0 : Int32)) 4 (0 : Int32)))) 1) = ((bld4 (own_up (own_up (own_up (own_up (own_up (fun _ => 0) 0 r20) 1 r32) 2 r44) 3 (0 : Int32)) 4 (0 : Int32))) 1)) ∧ ((((nx4F (bld4 (own_up (own_up (own_up (own_up (own_up (fun _ => 0) 0 r20) 1 r32) 2 r44) 3 (0 : Int32)) 4 (0 : Int32)))) 2) = ((bld4 (own_up (own_up (own_up (own_up (own_up (fun _ => 0) 0 r20) 1 r32) 2 r44) 3 (0 : Int32)) 4 (0 : Int32))) 2)) ∧ (((nx4F (bld4 (own_up (own_up (own_up (own_up (own_up (fun _ => 0) 0 r20) 1 r32) 2 r44) 3 (0 : Int32)) 4 (0 : Int32)))) 3) = ((bld4 (own_up (own_up (own_up (own_up (own_up (fun _ => 0) 0 r20) 1 r32) 2 r44) 3 (0 : Int32)) 4 (0 : Int32))) 3)))))
        obtain ⟨kr20, er20⟩ := own_toFin (x := r20) 4 (by decide) (by omega)
        subst er20
        obtain ⟨kr32, er32⟩ := own_toFin (x := r32) 3 (by decide) (by omega)
        subst er32
        obtain ⟨kr44, er44⟩ := own_toFin (x := r44) 2 (by decide) (by omega)
        subst er44
        exact own_fin10 kr20 kr32 kr44 c21
      · intro J179_23
        refine g_icmpB X at_159 (Or.inr (Or.inr rfl)) (q := 162) rfl (by decide) (t := 178) rfl (fun c24 => ?_) (fun c24 => ?_)
        · replace c24 : (nx4R (bld4 (own_up (own_up (own_up (own_up (own_up (fun _ => 0) 0 r20) 1 r32) 2 r44) 3 (0 : Int32)) 4 (0 : Int32)))) ↔ (incR (own_up (own_up (own_up (own_up (own_up (fun _ => 0) 0 r20) 1 r32) 2 r44) 3 (0 : Int32)) 4 (0 : Int32)) (4 : Int32)) := (bI_inj _ _).mp c24
          refine g_aload X at_162 rfl (q := 164) rfl rfl ?_
          refine g_aload X at_164 rfl (q := 166) rfl rfl ?_
          refine g_iload X at_166 rfl (q := 168) rfl ?_
          refine g_callS X [(.ref b35), (.ref b37), (.int (4 : Int32))] [] (tw18 hw) (tw19 hw) (tw3 hw) (tw20 hw) (by decide) (rm6_n4 l Z a0 hw [] b35 b37 (nx4F (bld4 (own_up (own_up (own_up (own_up (own_up (fun _ => 0) 0 r20) 1 r32) 2 r44) 3 (0 : Int32)) 4 (0 : Int32)))) (bld4 (own_up (own_up (own_up (own_up (own_up (fun _ => 0) 0 r20) 1 r32) 2 r44) 3 (0 : Int32)) 4 (0 : Int32))) _ n0 X.size A_b35 A_b37) pd7 rfl rfl rfl at_168 (q := 171) rfl (W := 0) rfl (by decide) (by decide) (c2 := 6) (s2 := 28) rfl rfl (by decide) (by decide) (fun v T h' X hQ => ?_)
          obtain ⟨rfl, rfl⟩ := hQ
          show Goes p e below s _ n0 _ (T.setTop (mkF m 171 #[.val (.int p1), .val (.int p2), .val (.int p3), .val (.int p4), .val (.int p5), .val (.int (4 : Int32)), .val (.ref b33), .val (.ref b34), .val (.int (bI (incR (own_up (own_up (own_up (own_up (own_up (fun _ => 0) 0 r20) 1 r32) 2 r44) 3 (0 : Int32)) 4 (0 : Int32)) (4 : Int32)))), .val (.ref b35), .val (.ref b37), .val (.int (bI (nx4R (bld4 (own_up (own_up (own_up (own_up (own_up (fun _ => 0) 0 r20) 1 r32) 2 r44) 3 (0 : Int32)) 4 (0 : Int32))))))] [(.int (bI ((((nx4F (bld4 (own_up (own_up (own_up (own_up (own_up (fun _ => 0) 0 r20) 1 r32) 2 r44) 3 (0 : Int32)) 4 (0 : Int32)))) 0) = ((bld4 (own_up (own_up (own_up (own_up (own_up (fun _ => 0) 0 r20) 1 r32) 2 r44) 3 (0 : Int32)) 4 (0 : Int32))) 0)) ∧ ((((nx4F (bld4 (own_up (own_up (own_up (own_up (own_up (fun _ => 0) 0 r20) 1 r32) 2 r44) 3 (0 : Int32)) 4 (0 : Int32)))) 1) = ((bld4 (own_up (own_up (own_up (own_up (own_up (fun _ => 0) 0 r20) 1 r32) 2 r44) 3 (0 : Int32)) 4 (0 : Int32))) 1)) ∧ ((((nx4F (bld4 (own_up (own_up (own_up (own_up (own_up (fun _ => 0) 0 r20) 1 r32) 2 r44) 3 (0 : Int32)) 4 (0 : Int32)))) 2) = ((bld4 (own_up (own_up (own_up (own_up (own_up (fun _ => 0) 0 r20) 1 r32) 2 r44) 3 (0 : Int32)) 4 (0 : Int32))) 2)) ∧ (((nx4F (bld4 (own_up (own_up (own_up (own_up (own_up (fun _ => 0) 0 r20) 1 r32) 2 r44) 3 (0 : Int32)) 4 (0 : Int32)))) 3) = ((bld4 (own_up (own_up (own_up (own_up (own_up (fun _ => 0) 0 r20) 1 r32) 2 r44) 3 (0 : Int32)) 4 (0 : Int32))) 3)))))))]))
          refine g_beq X at_171 (q := 174) rfl (by decide) (t := 178) rfl (fun (c25 : (((nx4F (bld4 (own_up (own_up (own_up (own_up (own_up (fun _ => 0) 0 r20) 1 r32) 2 r44) 3 (0 : Int32)) 4 (0 : Int32)))) 0) = ((bld4 (own_up (own_up (own_up (own_up (own_up (fun _ => 0) 0 r20) 1 r32) 2 r44) 3 (0 : Int32)) 4 (0 : Int32))) 0)) ∧ ((((nx4F (bld4 (own_up (own_up (own_up (own_up (own_up (fun _ => 0) 0 r20) 1 r32) 2 r44) 3 (0 : Int32)) 4 (0 : Int32)))) 1) = ((bld4 (own_up (own_up (own_up (own_up (own_up (fun _ => 0) 0 r20) 1 r32) 2 r44) 3 (0 : Int32)) 4 (0 : Int32))) 1)) ∧ ((((nx4F (bld4 (own_up (own_up (own_up (own_up (own_up (fun _ => 0) 0 r20) 1 r32) 2 r44) 3 (0 : Int32)) 4 (0 : Int32)))) 2) = ((bld4 (own_up (own_up (own_up (own_up (own_up (fun _ => 0) 0 r20) 1 r32) 2 r44) 3 (0 : Int32)) 4 (0 : Int32))) 2)) ∧ (((nx4F (bld4 (own_up (own_up (own_up (own_up (own_up (fun _ => 0) 0 r20) 1 r32) 2 r44) 3 (0 : Int32)) 4 (0 : Int32)))) 3) = ((bld4 (own_up (own_up (own_up (own_up (own_up (fun _ => 0) 0 r20) 1 r32) 2 r44) 3 (0 : Int32)) 4 (0 : Int32))) 3))))) => ?_) (fun (c25 : ¬ ((((nx4F (bld4 (own_up (own_up (own_up (own_up (own_up (fun _ => 0) 0 r20) 1 r32) 2 r44) 3 (0 : Int32)) 4 (0 : Int32)))) 0) = ((bld4 (own_up (own_up (own_up (own_up (own_up (fun _ => 0) 0 r20) 1 r32) 2 r44) 3 (0 : Int32)) 4 (0 : Int32))) 0)) ∧ ((((nx4F (bld4 (own_up (own_up (own_up (own_up (own_up (fun _ => 0) 0 r20) 1 r32) 2 r44) 3 (0 : Int32)) 4 (0 : Int32)))) 1) = ((bld4 (own_up (own_up (own_up (own_up (own_up (fun _ => 0) 0 r20) 1 r32) 2 r44) 3 (0 : Int32)) 4 (0 : Int32))) 1)) ∧ ((((nx4F (bld4 (own_up (own_up (own_up (own_up (own_up (fun _ => 0) 0 r20) 1 r32) 2 r44) 3 (0 : Int32)) 4 (0 : Int32)))) 2) = ((bld4 (own_up (own_up (own_up (own_up (own_up (fun _ => 0) 0 r20) 1 r32) 2 r44) 3 (0 : Int32)) 4 (0 : Int32))) 2)) ∧ (((nx4F (bld4 (own_up (own_up (own_up (own_up (own_up (fun _ => 0) 0 r20) 1 r32) 2 r44) 3 (0 : Int32)) 4 (0 : Int32)))) 3) = ((bld4 (own_up (own_up (own_up (own_up (own_up (fun _ => 0) 0 r20) 1 r32) 2 r44) 3 (0 : Int32)) 4 (0 : Int32))) 3)))))) => ?_)
          · skip
            refine g_iconst X at_174 rfl (q := 175) (v := 1) rfl ?_
            refine g_goto X at_175 (by decide) (q := 179) rfl ?_
            exact J179_23 T X _ (bI_t ⟨c24, c25⟩)
          · skip
            refine g_iconst X at_178 rfl (q := 179) (v := 0) rfl ?_
            exact J179_23 T X _ (bI_f (fun z => c25 z.2))
        · replace c24 : ¬ ((nx4R (bld4 (own_up (own_up (own_up (own_up (own_up (fun _ => 0) 0 r20) 1 r32) 2 r44) 3 (0 : Int32)) 4 (0 : Int32)))) ↔ (incR (own_up (own_up (own_up (own_up (own_up (fun _ => 0) 0 r20) 1 r32) 2 r44) 3 (0 : Int32)) 4 (0 : Int32)) (4 : Int32))) := fun z => c24 ((bI_inj _ _).mpr z)
          refine g_iconst X at_178 rfl (q := 179) (v := 0) rfl ?_
          exact J179_23 T X _ (bI_f (fun z => c24 z.1))
  · subst q7
    show Goes p e below s _ n0 _ (T.setTop (mkF m 9 #[.val (.int p1), .val (.int p2), .val (.int p3), .val (.int p4), .val (.int p5), .val (.int (5 : Int32)), .unset, .unset, .unset, .unset, .unset, .unset] []))
    refine g_iconst X at_9 rfl (q := 10) (v := 5) rfl ?_
    refine g_newarrI X (aty := .int) rfl (tw0 hw) at_10 (q := 12) rfl (by decide) (cap := 5) (by decide) (by decide) (c2 := 1) (s2 := 5) rfl rfl (by decide) (by decide) (fun T h' b38 X gz_b38 g_b38 E A_new => ?_)
    have A_b38 : AI Z h' b38 .int 5 (fun _ => 0) := A_new
    refine g_astore X at_12 rfl (q := 14) (L' := #[.val (.int p1), .val (.int p2), .val (.int p3), .val (.int p4), .val (.int p5), .val (.int (5 : Int32)), .val (.ref b38), .unset, .unset, .unset, .unset, .unset]) rfl rfl ?_
    refine g_aload X at_14 rfl (q := 16) rfl rfl ?_
    refine g_iconst X at_16 rfl (q := 17) (v := 0) rfl ?_
    refine g_iloadN X at_17 rfl (q := 18) rfl ?_
    refine g_iload X at_18 rfl (q := 20) rfl ?_
    refine g_callS X [(.int p2), (.int (5 : Int32))] [(.int (0 : Int32)), (.ref b38)] (tw1 hw) (tw2 hw) (tw3 hw) (tw4 hw) (by decide) (rm1_r5 l Z a0 hw [] p2 _ n0 X.size) pd3 rfl rfl rfl at_20 (q := 23) rfl (W := 2) rfl (by decide) (by decide) (c2 := 1) (s2 := 5) rfl rfl (by decide) (by decide) (fun v T h' X hQ => ?_)
    obtain ⟨rfl, rfl⟩ := hQ
    show Goes p e below s _ n0 _ (T.setTop (mkF m 23 #[.val (.int p1), .val (.int p2), .val (.int p3), .val (.int p4), .val (.int p5), .val (.int (5 : Int32)), .val (.ref b38), .unset, .unset, .unset, .unset, .unset] [(.int ((p2 &&& (2147483647 : Int32)) % (5 : Int32))), (.int (0 : Int32)), (.ref b38)]))
    refine g_letI (fun r20 hr20 => ?_)
    have b_r20 : (0 : Int) ≤ r20.toInt ∧ r20.toInt ≤ 4 := by
      have z0 := hr20
      have f1 := rng32 p2
      obtain ⟨n1_, hn1_⟩ : ∃ z, z = (p2 &&& (2147483647 : Int32)) := ⟨_, rfl⟩
      (try simp only [← hn1_] at z0)
      have f2 := own_mB p2 (2147483647 : Int32) 31 (by decide) (by decide) 2147483647 (by decide)
      (try rw [← hn1_] at f2)
      obtain ⟨n2_, hn2_⟩ : ∃ z, z = (n1_ % (5 : Int32)) := ⟨_, rfl⟩
      (try simp only [← hn2_] at z0)
      have f3 := own_iremB n1_ (5 : Int32) 5 (by decide) (by decide) (by omega)
      (try rw [← hn2_] at f3)
      (try simp only [Int64.reduceToInt, Int32.reduceToInt] at f3)
      have e0 := congrArg Int32.toInt z0
      (try simp only [Int64.lt_iff_toInt_lt, Int32.lt_iff_toInt_lt, Int64.le_iff_toInt_le, Int32.le_iff_toInt_le, ← Int64.toInt_inj, ← Int32.toInt_inj, apply_ite Int64.toInt, apply_ite Int32.toInt, Int64.reduceToInt, Int32.reduceToInt, ne_eq, true_and, and_true, false_or, or_false, iff_self, and_self, not_true_eq_false, not_false_eq_true] at e0)
      omega
    refine g_iastore X A_b38 ⟨by decide, by decide⟩ g_b38 at_23 (q := 24) rfl (fun T h X W => ?_)
    have A_b38 : AI Z h b38 .int 5 (own_up (fun _ => 0) 0 r20) := A_b38.set W
    refine g_aload X at_24 rfl (q := 26) rfl rfl ?_
    refine g_iconst X at_26 rfl (q := 27) (v := 1) rfl ?_
    refine g_iloadN X at_27 rfl (q := 28) rfl ?_
    refine g_iload X at_28 rfl (q := 30) rfl ?_
    refine g_iconst X at_30 rfl (q := 31) (v := 1) rfl ?_
    refine g_isub X at_31 rfl (q := 32) ?_
    refine g_eqI (y := (4 : Int32)) (by decide) ?_
    refine g_callS X [(.int p3), (.int (4 : Int32))] [(.int (1 : Int32)), (.ref b38)] (tw1 hw) (tw2 hw) (tw3 hw) (tw4 hw) (by decide) (rm1_r4 l Z a0 hw [] p3 _ n0 X.size) pd3 rfl rfl rfl at_32 (q := 35) rfl (W := 2) rfl (by decide) (by decide) (c2 := 1) (s2 := 5) rfl rfl (by decide) (by decide) (fun v T h' X hQ => ?_)
    obtain ⟨rfl, rfl⟩ := hQ
    show Goes p e below s _ n0 _ (T.setTop (mkF m 35 #[.val (.int p1), .val (.int p2), .val (.int p3), .val (.int p4), .val (.int p5), .val (.int (5 : Int32)), .val (.ref b38), .unset, .unset, .unset, .unset, .unset] [(.int ((p3 &&& (2147483647 : Int32)) % (4 : Int32))), (.int (1 : Int32)), (.ref b38)]))
    refine g_letI (fun r32 hr32 => ?_)
    have b_r32 : (0 : Int) ≤ r32.toInt ∧ r32.toInt ≤ 3 := by
      have z0 := hr32
      have f1 := rng32 p3
      obtain ⟨n1_, hn1_⟩ : ∃ z, z = (p3 &&& (2147483647 : Int32)) := ⟨_, rfl⟩
      (try simp only [← hn1_] at z0)
      have f2 := own_mB p3 (2147483647 : Int32) 31 (by decide) (by decide) 2147483647 (by decide)
      (try rw [← hn1_] at f2)
      obtain ⟨n2_, hn2_⟩ : ∃ z, z = (n1_ % (4 : Int32)) := ⟨_, rfl⟩
      (try simp only [← hn2_] at z0)
      have f3 := own_iremB n1_ (4 : Int32) 4 (by decide) (by decide) (by omega)
      (try rw [← hn2_] at f3)
      (try simp only [Int64.reduceToInt, Int32.reduceToInt] at f3)
      have e0 := congrArg Int32.toInt z0
      (try simp only [Int64.lt_iff_toInt_lt, Int32.lt_iff_toInt_lt, Int64.le_iff_toInt_le, Int32.le_iff_toInt_le, ← Int64.toInt_inj, ← Int32.toInt_inj, apply_ite Int64.toInt, apply_ite Int32.toInt, Int64.reduceToInt, Int32.reduceToInt, ne_eq, true_and, and_true, false_or, or_false, iff_self, and_self, not_true_eq_false, not_false_eq_true] at e0)
      omega
    refine g_iastore X A_b38 ⟨by decide, by decide⟩ g_b38 at_35 (q := 36) rfl (fun T h X W => ?_)
    have A_b38 : AI Z h b38 .int 5 (own_up (own_up (fun _ => 0) 0 r20) 1 r32) := A_b38.set W
    refine g_aload X at_36 rfl (q := 38) rfl rfl ?_
    refine g_iconst X at_38 rfl (q := 39) (v := 2) rfl ?_
    refine g_iloadN X at_39 rfl (q := 40) rfl ?_
    refine g_iload X at_40 rfl (q := 42) rfl ?_
    refine g_iconst X at_42 rfl (q := 43) (v := 2) rfl ?_
    refine g_isub X at_43 rfl (q := 44) ?_
    refine g_eqI (y := (3 : Int32)) (by decide) ?_
    refine g_callS X [(.int p4), (.int (3 : Int32))] [(.int (2 : Int32)), (.ref b38)] (tw1 hw) (tw2 hw) (tw3 hw) (tw4 hw) (by decide) (rm1_r3 l Z a0 hw [] p4 _ n0 X.size) pd3 rfl rfl rfl at_44 (q := 47) rfl (W := 2) rfl (by decide) (by decide) (c2 := 1) (s2 := 5) rfl rfl (by decide) (by decide) (fun v T h' X hQ => ?_)
    obtain ⟨rfl, rfl⟩ := hQ
    show Goes p e below s _ n0 _ (T.setTop (mkF m 47 #[.val (.int p1), .val (.int p2), .val (.int p3), .val (.int p4), .val (.int p5), .val (.int (5 : Int32)), .val (.ref b38), .unset, .unset, .unset, .unset, .unset] [(.int ((p4 &&& (2147483647 : Int32)) % (3 : Int32))), (.int (2 : Int32)), (.ref b38)]))
    refine g_letI (fun r44 hr44 => ?_)
    have b_r44 : (0 : Int) ≤ r44.toInt ∧ r44.toInt ≤ 2 := by
      have z0 := hr44
      have f1 := rng32 p4
      obtain ⟨n1_, hn1_⟩ : ∃ z, z = (p4 &&& (2147483647 : Int32)) := ⟨_, rfl⟩
      (try simp only [← hn1_] at z0)
      have f2 := own_mB p4 (2147483647 : Int32) 31 (by decide) (by decide) 2147483647 (by decide)
      (try rw [← hn1_] at f2)
      obtain ⟨n2_, hn2_⟩ : ∃ z, z = (n1_ % (3 : Int32)) := ⟨_, rfl⟩
      (try simp only [← hn2_] at z0)
      have f3 := own_iremB n1_ (3 : Int32) 3 (by decide) (by decide) (by omega)
      (try rw [← hn2_] at f3)
      (try simp only [Int64.reduceToInt, Int32.reduceToInt] at f3)
      have e0 := congrArg Int32.toInt z0
      (try simp only [Int64.lt_iff_toInt_lt, Int32.lt_iff_toInt_lt, Int64.le_iff_toInt_le, Int32.le_iff_toInt_le, ← Int64.toInt_inj, ← Int32.toInt_inj, apply_ite Int64.toInt, apply_ite Int32.toInt, Int64.reduceToInt, Int32.reduceToInt, ne_eq, true_and, and_true, false_or, or_false, iff_self, and_self, not_true_eq_false, not_false_eq_true] at e0)
      omega
    refine g_iastore X A_b38 ⟨by decide, by decide⟩ g_b38 at_47 (q := 48) rfl (fun T h X W => ?_)
    have A_b38 : AI Z h b38 .int 5 (own_up (own_up (own_up (fun _ => 0) 0 r20) 1 r32) 2 r44) := A_b38.set W
    refine g_aload X at_48 rfl (q := 50) rfl rfl ?_
    refine g_iconst X at_50 rfl (q := 51) (v := 3) rfl ?_
    refine g_iload X at_51 rfl (q := 53) rfl ?_
    refine g_iload X at_53 rfl (q := 55) rfl ?_
    refine g_iconst X at_55 rfl (q := 56) (v := 3) rfl ?_
    refine g_isub X at_56 rfl (q := 57) ?_
    refine g_eqI (y := (2 : Int32)) (by decide) ?_
    refine g_callS X [(.int p5), (.int (2 : Int32))] [(.int (3 : Int32)), (.ref b38)] (tw1 hw) (tw2 hw) (tw3 hw) (tw4 hw) (by decide) (rm1_r2 l Z a0 hw [] p5 _ n0 X.size) pd3 rfl rfl rfl at_57 (q := 60) rfl (W := 2) rfl (by decide) (by decide) (c2 := 1) (s2 := 5) rfl rfl (by decide) (by decide) (fun v T h' X hQ => ?_)
    obtain ⟨rfl, rfl⟩ := hQ
    show Goes p e below s _ n0 _ (T.setTop (mkF m 60 #[.val (.int p1), .val (.int p2), .val (.int p3), .val (.int p4), .val (.int p5), .val (.int (5 : Int32)), .val (.ref b38), .unset, .unset, .unset, .unset, .unset] [(.int ((p5 &&& (2147483647 : Int32)) % (2 : Int32))), (.int (3 : Int32)), (.ref b38)]))
    refine g_letI (fun r57 hr57 => ?_)
    have b_r57 : (0 : Int) ≤ r57.toInt ∧ r57.toInt ≤ 1 := by
      have z0 := hr57
      have f1 := rng32 p5
      obtain ⟨n1_, hn1_⟩ : ∃ z, z = (p5 &&& (2147483647 : Int32)) := ⟨_, rfl⟩
      (try simp only [← hn1_] at z0)
      have f2 := own_mB p5 (2147483647 : Int32) 31 (by decide) (by decide) 2147483647 (by decide)
      (try rw [← hn1_] at f2)
      obtain ⟨n2_, hn2_⟩ : ∃ z, z = (n1_ % (2 : Int32)) := ⟨_, rfl⟩
      (try simp only [← hn2_] at z0)
      have f3 := own_iremB n1_ (2 : Int32) 2 (by decide) (by decide) (by omega)
      (try rw [← hn2_] at f3)
      (try simp only [Int64.reduceToInt, Int32.reduceToInt] at f3)
      have e0 := congrArg Int32.toInt z0
      (try simp only [Int64.lt_iff_toInt_lt, Int32.lt_iff_toInt_lt, Int64.le_iff_toInt_le, Int32.le_iff_toInt_le, ← Int64.toInt_inj, ← Int32.toInt_inj, apply_ite Int64.toInt, apply_ite Int32.toInt, Int64.reduceToInt, Int32.reduceToInt, ne_eq, true_and, and_true, false_or, or_false, iff_self, and_self, not_true_eq_false, not_false_eq_true] at e0)
      omega
    refine g_iastore X A_b38 ⟨by decide, by decide⟩ g_b38 at_60 (q := 61) rfl (fun T h X W => ?_)
    have A_b38 : AI Z h b38 .int 5 (own_up (own_up (own_up (own_up (fun _ => 0) 0 r20) 1 r32) 2 r44) 3 r57) := A_b38.set W
    refine g_aload X at_61 rfl (q := 63) rfl rfl ?_
    refine g_iconst X at_63 rfl (q := 64) (v := 4) rfl ?_
    refine g_iconst X at_64 rfl (q := 65) (v := 0) rfl ?_
    refine g_iastore X A_b38 ⟨by decide, by decide⟩ g_b38 at_65 (q := 66) rfl (fun T h X W => ?_)
    have A_b38 : AI Z h b38 .int 5 (own_up (own_up (own_up (own_up (own_up (fun _ => 0) 0 r20) 1 r32) 2 r44) 3 r57) 4 (0 : Int32)) := A_b38.set W
    refine g_iconst X at_66 rfl (q := 67) (v := 5) rfl ?_
    refine g_newarrI X (aty := .int) rfl (tw0 hw) at_67 (q := 69) rfl (by decide) (cap := 5) (by decide) (by decide) (c2 := 2) (s2 := 10) rfl rfl (by decide) (by decide) (fun T h' b39 X gz_b39 g_b39 E A_new => ?_)
    have ne_b38_b39 := own_new gz_b39 A_b38.lt
    have ne_b39_b38 := own_apS ne_b38_b39
    have A_b38 := A_b38.ext E
    have A_b39 : AI Z h' b39 .int 5 (fun _ => 0) := A_new
    refine g_dup X at_69 rfl (q := 70) rfl ?_
    refine g_iconst X at_70 rfl (q := 71) (v := 0) rfl ?_
    refine g_aload X at_71 rfl (q := 73) rfl rfl ?_
    refine g_iconst X at_73 rfl (q := 74) (v := 0) rfl ?_
    refine g_iaload X A_b38 ⟨by decide, by decide⟩ at_74 (q := 75) rfl ?_
    refine g_eqI (y := r20) rfl ?_
    refine g_iastore X A_b39 ⟨by decide, by decide⟩ g_b39 at_75 (q := 76) rfl (fun T h X W => ?_)
    have A_b38 := A_b38.other W ne_b38_b39
    have A_b39 : AI Z h b39 .int 5 (own_up (fun _ => 0) 0 r20) := A_b39.set W
    refine g_dup X at_76 rfl (q := 77) rfl ?_
    refine g_iconst X at_77 rfl (q := 78) (v := 1) rfl ?_
    refine g_aload X at_78 rfl (q := 80) rfl rfl ?_
    refine g_iconst X at_80 rfl (q := 81) (v := 1) rfl ?_
    refine g_iaload X A_b38 ⟨by decide, by decide⟩ at_81 (q := 82) rfl ?_
    refine g_eqI (y := r32) rfl ?_
    refine g_iastore X A_b39 ⟨by decide, by decide⟩ g_b39 at_82 (q := 83) rfl (fun T h X W => ?_)
    have A_b38 := A_b38.other W ne_b38_b39
    have A_b39 : AI Z h b39 .int 5 (own_up (own_up (fun _ => 0) 0 r20) 1 r32) := A_b39.set W
    refine g_dup X at_83 rfl (q := 84) rfl ?_
    refine g_iconst X at_84 rfl (q := 85) (v := 2) rfl ?_
    refine g_aload X at_85 rfl (q := 87) rfl rfl ?_
    refine g_iconst X at_87 rfl (q := 88) (v := 2) rfl ?_
    refine g_iaload X A_b38 ⟨by decide, by decide⟩ at_88 (q := 89) rfl ?_
    refine g_eqI (y := r44) rfl ?_
    refine g_iastore X A_b39 ⟨by decide, by decide⟩ g_b39 at_89 (q := 90) rfl (fun T h X W => ?_)
    have A_b38 := A_b38.other W ne_b38_b39
    have A_b39 : AI Z h b39 .int 5 (own_up (own_up (own_up (fun _ => 0) 0 r20) 1 r32) 2 r44) := A_b39.set W
    refine g_dup X at_90 rfl (q := 91) rfl ?_
    refine g_iconst X at_91 rfl (q := 92) (v := 3) rfl ?_
    refine g_aload X at_92 rfl (q := 94) rfl rfl ?_
    refine g_iconst X at_94 rfl (q := 95) (v := 3) rfl ?_
    refine g_iaload X A_b38 ⟨by decide, by decide⟩ at_95 (q := 96) rfl ?_
    refine g_eqI (y := r57) rfl ?_
    refine g_iastore X A_b39 ⟨by decide, by decide⟩ g_b39 at_96 (q := 97) rfl (fun T h X W => ?_)
    have A_b38 := A_b38.other W ne_b38_b39
    have A_b39 : AI Z h b39 .int 5 (own_up (own_up (own_up (own_up (fun _ => 0) 0 r20) 1 r32) 2 r44) 3 r57) := A_b39.set W
    refine g_dup X at_97 rfl (q := 98) rfl ?_
    refine g_iconst X at_98 rfl (q := 99) (v := 4) rfl ?_
    refine g_aload X at_99 rfl (q := 101) rfl rfl ?_
    refine g_iconst X at_101 rfl (q := 102) (v := 4) rfl ?_
    refine g_iaload X A_b38 ⟨by decide, by decide⟩ at_102 (q := 103) rfl ?_
    refine g_eqI (y := (0 : Int32)) rfl ?_
    refine g_iastore X A_b39 ⟨by decide, by decide⟩ g_b39 at_103 (q := 104) rfl (fun T h X W => ?_)
    have A_b38 := A_b38.other W ne_b38_b39
    have A_b39 : AI Z h b39 .int 5 (own_up (own_up (own_up (own_up (own_up (fun _ => 0) 0 r20) 1 r32) 2 r44) 3 r57) 4 (0 : Int32)) := A_b39.set W
    refine g_astore X at_104 rfl (q := 106) (L' := #[.val (.int p1), .val (.int p2), .val (.int p3), .val (.int p4), .val (.int p5), .val (.int (5 : Int32)), .val (.ref b38), .val (.ref b39), .unset, .unset, .unset, .unset]) rfl rfl ?_
    refine g_aload X at_106 rfl (q := 108) rfl rfl ?_
    refine g_iload X at_108 rfl (q := 110) rfl ?_
    refine g_callS X [(.ref b39), (.int (5 : Int32))] [] (tw5 hw) (tw6 hw) (tw3 hw) (tw7 hw) (by decide) (rm2 l Z a0 hw [] b39 (5 : Int32) (own_up (own_up (own_up (own_up (own_up (fun _ => 0) 0 r20) 1 r32) 2 r44) 3 r57) 4 (0 : Int32)) _ n0 X.size A_b39 g_b39) pd4 rfl rfl rfl at_110 (q := 113) rfl (W := 0) rfl (by decide) (by decide) (c2 := 2) (s2 := 10) rfl rfl (by decide) (by decide) (fun v T h' X hQ => ?_)
    obtain ⟨rfl, Kc, A_b39'⟩ := hQ
    have A_b38 := A_b38.keep Kc (ninS ne_b38_b39 nin0)
    have A_b39 : AI Z h' b39 .int 5 (incF (own_up (own_up (own_up (own_up (own_up (fun _ => 0) 0 r20) 1 r32) 2 r44) 3 r57) 4 (0 : Int32)) (5 : Int32)) := A_b39'
    show Goes p e below s _ n0 _ (T.setTop (mkF m 113 #[.val (.int p1), .val (.int p2), .val (.int p3), .val (.int p4), .val (.int p5), .val (.int (5 : Int32)), .val (.ref b38), .val (.ref b39), .unset, .unset, .unset, .unset] [(.int (bI (incR (own_up (own_up (own_up (own_up (own_up (fun _ => 0) 0 r20) 1 r32) 2 r44) 3 r57) 4 (0 : Int32)) (5 : Int32))))]))
    refine g_istore X at_113 rfl (q := 115) (L' := #[.val (.int p1), .val (.int p2), .val (.int p3), .val (.int p4), .val (.int p5), .val (.int (5 : Int32)), .val (.ref b38), .val (.ref b39), .val (.int (bI (incR (own_up (own_up (own_up (own_up (own_up (fun _ => 0) 0 r20) 1 r32) 2 r44) 3 r57) 4 (0 : Int32)) (5 : Int32)))), .unset, .unset, .unset]) rfl ?_
    refine g_aload X at_115 rfl (q := 117) rfl rfl ?_
    refine g_iload X at_117 rfl (q := 119) rfl ?_
    refine g_callS X [(.ref b38), (.int (5 : Int32))] [] (tw11 hw) (tw12 hw) (tw3 hw) (tw13 hw) (by decide) (rm4_n5 l Z a0 hw [] b38 (own_up (own_up (own_up (own_up (own_up (fun _ => 0) 0 r20) 1 r32) 2 r44) 3 r57) 4 (0 : Int32)) _ n0 X.size A_b38 (own_chB (own_chB (own_chB (own_chB (own_chB (fun _ _ => by decide) (i := 0) (x := r20) (by omega)) (i := 1) (x := r32) (by omega)) (i := 2) (x := r44) (by omega)) (i := 3) (x := r57) (by omega)) (i := 4) (x := 0) (by decide))) pd5 rfl rfl rfl at_119 (q := 122) rfl (W := 0) rfl (by decide) (by decide) (c2 := 4) (s2 := 20) rfl rfl (by decide) (by decide) (fun v T h' X hQ => ?_)
    obtain ⟨b40, rfl, g_b40, sq_b40, Kc, M_b40⟩ := hQ
    have ne_b38_b40 := own_far A_b38.lt sq_b40
    have ne_b40_b38 := own_apS ne_b38_b40
    have ne_b39_b40 := own_far A_b39.lt sq_b40
    have ne_b40_b39 := own_apS ne_b39_b40
    have A_b38 := A_b38.keep Kc nin0
    have A_b39 := A_b39.keep Kc nin0
    have A_b40 : AI Z h' b40 .int 5 (bld5 (own_up (own_up (own_up (own_up (own_up (fun _ => 0) 0 r20) 1 r32) 2 r44) 3 r57) 4 (0 : Int32))) := M_b40
    show Goes p e below s _ n0 _ (T.setTop (mkF m 122 #[.val (.int p1), .val (.int p2), .val (.int p3), .val (.int p4), .val (.int p5), .val (.int (5 : Int32)), .val (.ref b38), .val (.ref b39), .val (.int (bI (incR (own_up (own_up (own_up (own_up (own_up (fun _ => 0) 0 r20) 1 r32) 2 r44) 3 r57) 4 (0 : Int32)) (5 : Int32)))), .unset, .unset, .unset] [(.ref b40)]))
    refine g_astore X at_122 rfl (q := 124) (L' := #[.val (.int p1), .val (.int p2), .val (.int p3), .val (.int p4), .val (.int p5), .val (.int (5 : Int32)), .val (.ref b38), .val (.ref b39), .val (.int (bI (incR (own_up (own_up (own_up (own_up (own_up (fun _ => 0) 0 r20) 1 r32) 2 r44) 3 r57) 4 (0 : Int32)) (5 : Int32)))), .val (.ref b40), .unset, .unset]) rfl rfl ?_
    refine g_iload X at_124 rfl (q := 126) rfl ?_
    refine g_beq X at_126 (q := 129) rfl (by decide) (t := 139) rfl (fun (c26 : incR (own_up (own_up (own_up (own_up (own_up (fun _ => 0) 0 r20) 1 r32) 2 r44) 3 r57) 4 (0 : Int32)) (5 : Int32)) => ?_) (fun (c26 : ¬ (incR (own_up (own_up (own_up (own_up (own_up (fun _ => 0) 0 r20) 1 r32) 2 r44) 3 r57) 4 (0 : Int32)) (5 : Int32))) => ?_)
    · skip
      refine g_aload X at_129 rfl (q := 131) rfl rfl ?_
      refine g_iload X at_131 rfl (q := 133) rfl ?_
      refine g_callS X [(.ref b39), (.int (5 : Int32))] [] (tw11 hw) (tw12 hw) (tw3 hw) (tw13 hw) (by decide) (rm4_n5 l Z a0 hw [] b39 (incF (own_up (own_up (own_up (own_up (own_up (fun _ => 0) 0 r20) 1 r32) 2 r44) 3 r57) 4 (0 : Int32)) (5 : Int32)) _ n0 X.size A_b39 (own_incB (own_chB (own_chB (own_chB (own_chB (own_chB (fun _ _ => by decide) (i := 0) (x := r20) (by omega)) (i := 1) (x := r32) (by omega)) (i := 2) (x := r44) (by omega)) (i := 3) (x := r57) (by omega)) (i := 4) (x := 0) (by decide)) (by decide))) pd5 rfl rfl rfl at_133 (q := 136) rfl (W := 0) rfl (by decide) (by decide) (c2 := 6) (s2 := 30) rfl rfl (by decide) (by decide) (fun v T h' X hQ => ?_)
      obtain ⟨b41, rfl, g_b41, sq_b41, Kc, M_b41⟩ := hQ
      have ne_b38_b41 := own_far A_b38.lt sq_b41
      have ne_b41_b38 := own_apS ne_b38_b41
      have ne_b39_b41 := own_far A_b39.lt sq_b41
      have ne_b41_b39 := own_apS ne_b39_b41
      have ne_b40_b41 := own_far A_b40.lt sq_b41
      have ne_b41_b40 := own_apS ne_b40_b41
      have A_b38 := A_b38.keep Kc nin0
      have A_b39 := A_b39.keep Kc nin0
      have A_b40 := A_b40.keep Kc nin0
      have A_b41 : AI Z h' b41 .int 5 (bld5 (incF (own_up (own_up (own_up (own_up (own_up (fun _ => 0) 0 r20) 1 r32) 2 r44) 3 r57) 4 (0 : Int32)) (5 : Int32))) := M_b41
      show Goes p e below s _ n0 _ (T.setTop (mkF m 136 #[.val (.int p1), .val (.int p2), .val (.int p3), .val (.int p4), .val (.int p5), .val (.int (5 : Int32)), .val (.ref b38), .val (.ref b39), .val (.int (bI (incR (own_up (own_up (own_up (own_up (own_up (fun _ => 0) 0 r20) 1 r32) 2 r44) 3 r57) 4 (0 : Int32)) (5 : Int32)))), .val (.ref b40), .unset, .unset] [(.ref b41)]))
      refine g_goto X at_136 (by decide) (q := 146) rfl ?_
      refine g_astore X at_146 rfl (q := 148) (L' := #[.val (.int p1), .val (.int p2), .val (.int p3), .val (.int p4), .val (.int p5), .val (.int (5 : Int32)), .val (.ref b38), .val (.ref b39), .val (.int (bI (incR (own_up (own_up (own_up (own_up (own_up (fun _ => 0) 0 r20) 1 r32) 2 r44) 3 r57) 4 (0 : Int32)) (5 : Int32)))), .val (.ref b40), .val (.ref b41), .unset]) rfl rfl ?_
      refine g_aload X at_148 rfl (q := 150) rfl rfl ?_
      refine g_callS X [(.ref b40)] [] (tw14 hw) (tw15 hw) (tw16 hw) (tw17 hw) (by decide) (rm5_n5 l Z a0 hw [] b40 (bld5 (own_up (own_up (own_up (own_up (own_up (fun _ => 0) 0 r20) 1 r32) 2 r44) 3 r57) 4 (0 : Int32))) _ n0 X.size A_b40 g_b40) pd6 rfl rfl rfl at_150 (q := 153) rfl (W := 0) rfl (by decide) (by decide) (c2 := 6) (s2 := 30) rfl rfl (by decide) (by decide) (fun v T h' X hQ => ?_)
      obtain ⟨rfl, Kc, A_b40'⟩ := hQ
      have A_b38 := A_b38.keep Kc (ninS ne_b38_b40 nin0)
      have A_b39 := A_b39.keep Kc (ninS ne_b39_b40 nin0)
      have A_b41 := A_b41.keep Kc (ninS ne_b41_b40 nin0)
      have A_b40 : AI Z h' b40 .int 5 (nx5F (bld5 (own_up (own_up (own_up (own_up (own_up (fun _ => 0) 0 r20) 1 r32) 2 r44) 3 r57) 4 (0 : Int32)))) := A_b40'
      show Goes p e below s _ n0 _ (T.setTop (mkF m 153 #[.val (.int p1), .val (.int p2), .val (.int p3), .val (.int p4), .val (.int p5), .val (.int (5 : Int32)), .val (.ref b38), .val (.ref b39), .val (.int (bI (incR (own_up (own_up (own_up (own_up (own_up (fun _ => 0) 0 r20) 1 r32) 2 r44) 3 r57) 4 (0 : Int32)) (5 : Int32)))), .val (.ref b40), .val (.ref b41), .unset] [(.int (bI (nx5R (bld5 (own_up (own_up (own_up (own_up (own_up (fun _ => 0) 0 r20) 1 r32) 2 r44) 3 r57) 4 (0 : Int32))))))]))
      refine g_istore X at_153 rfl (q := 155) (L' := #[.val (.int p1), .val (.int p2), .val (.int p3), .val (.int p4), .val (.int p5), .val (.int (5 : Int32)), .val (.ref b38), .val (.ref b39), .val (.int (bI (incR (own_up (own_up (own_up (own_up (own_up (fun _ => 0) 0 r20) 1 r32) 2 r44) 3 r57) 4 (0 : Int32)) (5 : Int32)))), .val (.ref b40), .val (.ref b41), .val (.int (bI (nx5R (bld5 (own_up (own_up (own_up (own_up (own_up (fun _ => 0) 0 r20) 1 r32) 2 r44) 3 r57) 4 (0 : Int32))))))]) rfl ?_
      refine g_iload X at_155 rfl (q := 157) rfl ?_
      refine g_iload X at_157 rfl (q := 159) rfl ?_
      refine g_jT1 X (J := 179) (P := fun (s0_179 : Int32) => s0_179 = (bI (((nx5R (bld5 (own_up (own_up (own_up (own_up (own_up (fun _ => 0) 0 r20) 1 r32) 2 r44) 3 r57) 4 (0 : Int32)))) ↔ (incR (own_up (own_up (own_up (own_up (own_up (fun _ => 0) 0 r20) 1 r32) 2 r44) 3 r57) 4 (0 : Int32)) (5 : Int32))) ∧ ((((nx5F (bld5 (own_up (own_up (own_up (own_up (own_up (fun _ => 0) 0 r20) 1 r32) 2 r44) 3 r57) 4 (0 : Int32)))) 0) = ((bld5 (incF (own_up (own_up (own_up (own_up (own_up (fun _ => 0) 0 r20) 1 r32) 2 r44) 3 r57) 4 (0 : Int32)) (5 : Int32))) 0)) ∧ ((((nx5F (bld5 (own_up (own_up (own_up (own_up (own_up (fun _ => 0) 0 r20) 1 r32) 2 r44) 3 r57) 4 (0 : Int32)))) 1) = ((bld5 (incF (own_up (own_up (own_up (own_up (own_up (fun _ => 0) 0 r20) 1 r32) 2 r44) 3 r57) 4 (0 : Int32)) (5 : Int32))) 1)) ∧ ((((nx5F (bld5 (own_up (own_up (own_up (own_up (own_up (fun _ => 0) 0 r20) 1 r32) 2 r44) 3 r57) 4 (0 : Int32)))) 2) = ((bld5 (incF (own_up (own_up (own_up (own_up (own_up (fun _ => 0) 0 r20) 1 r32) 2 r44) 3 r57) 4 (0 : Int32)) (5 : Int32))) 2)) ∧ ((((nx5F (bld5 (own_up (own_up (own_up (own_up (own_up (fun _ => 0) 0 r20) 1 r32) 2 r44) 3 r57) 4 (0 : Int32)))) 3) = ((bld5 (incF (own_up (own_up (own_up (own_up (own_up (fun _ => 0) 0 r20) 1 r32) 2 r44) 3 r57) 4 (0 : Int32)) (5 : Int32))) 3)) ∧ (((nx5F (bld5 (own_up (own_up (own_up (own_up (own_up (fun _ => 0) 0 r20) 1 r32) 2 r44) 3 r57) 4 (0 : Int32)))) 4) = ((bld5 (incF (own_up (own_up (own_up (own_up (own_up (fun _ => 0) 0 r20) 1 r32) 2 r44) 3 r57) 4 (0 : Int32)) (5 : Int32))) 4))))))))) (L := fun s0_179 => #[.val (.int p1), .val (.int p2), .val (.int p3), .val (.int p4), .val (.int p5), .val (.int (5 : Int32)), .val (.ref b38), .val (.ref b39), .val (.int (bI (incR (own_up (own_up (own_up (own_up (own_up (fun _ => 0) 0 r20) 1 r32) 2 r44) 3 r57) 4 (0 : Int32)) (5 : Int32)))), .val (.ref b40), .val (.ref b41), .val (.int (bI (nx5R (bld5 (own_up (own_up (own_up (own_up (own_up (fun _ => 0) 0 r20) 1 r32) 2 r44) 3 r57) 4 (0 : Int32))))))]) (S := fun s0_179 => [(.int s0_179)]) ?_ ?_
      · intro T X s0_179 hs0_179
        replace hs0_179 : s0_179 = (bI (((nx5R (bld5 (own_up (own_up (own_up (own_up (own_up (fun _ => 0) 0 r20) 1 r32) 2 r44) 3 r57) 4 (0 : Int32)))) ↔ (incR (own_up (own_up (own_up (own_up (own_up (fun _ => 0) 0 r20) 1 r32) 2 r44) 3 r57) 4 (0 : Int32)) (5 : Int32))) ∧ ((((nx5F (bld5 (own_up (own_up (own_up (own_up (own_up (fun _ => 0) 0 r20) 1 r32) 2 r44) 3 r57) 4 (0 : Int32)))) 0) = ((bld5 (incF (own_up (own_up (own_up (own_up (own_up (fun _ => 0) 0 r20) 1 r32) 2 r44) 3 r57) 4 (0 : Int32)) (5 : Int32))) 0)) ∧ ((((nx5F (bld5 (own_up (own_up (own_up (own_up (own_up (fun _ => 0) 0 r20) 1 r32) 2 r44) 3 r57) 4 (0 : Int32)))) 1) = ((bld5 (incF (own_up (own_up (own_up (own_up (own_up (fun _ => 0) 0 r20) 1 r32) 2 r44) 3 r57) 4 (0 : Int32)) (5 : Int32))) 1)) ∧ ((((nx5F (bld5 (own_up (own_up (own_up (own_up (own_up (fun _ => 0) 0 r20) 1 r32) 2 r44) 3 r57) 4 (0 : Int32)))) 2) = ((bld5 (incF (own_up (own_up (own_up (own_up (own_up (fun _ => 0) 0 r20) 1 r32) 2 r44) 3 r57) 4 (0 : Int32)) (5 : Int32))) 2)) ∧ ((((nx5F (bld5 (own_up (own_up (own_up (own_up (own_up (fun _ => 0) 0 r20) 1 r32) 2 r44) 3 r57) 4 (0 : Int32)))) 3) = ((bld5 (incF (own_up (own_up (own_up (own_up (own_up (fun _ => 0) 0 r20) 1 r32) 2 r44) 3 r57) 4 (0 : Int32)) (5 : Int32))) 3)) ∧ (((nx5F (bld5 (own_up (own_up (own_up (own_up (own_up (fun _ => 0) 0 r20) 1 r32) 2 r44) 3 r57) 4 (0 : Int32)))) 4) = ((bld5 (incF (own_up (own_up (own_up (own_up (own_up (fun _ => 0) 0 r20) 1 r32) 2 r44) 3 r57) 4 (0 : Int32)) (5 : Int32))) 4)))))))) := hs0_179
        subst hs0_179
        show Goes p e below s _ n0 _ (T.setTop (mkF m 179 #[.val (.int p1), .val (.int p2), .val (.int p3), .val (.int p4), .val (.int p5), .val (.int (5 : Int32)), .val (.ref b38), .val (.ref b39), .val (.int (bI (incR (own_up (own_up (own_up (own_up (own_up (fun _ => 0) 0 r20) 1 r32) 2 r44) 3 r57) 4 (0 : Int32)) (5 : Int32)))), .val (.ref b40), .val (.ref b41), .val (.int (bI (nx5R (bld5 (own_up (own_up (own_up (own_up (own_up (fun _ => 0) 0 r20) 1 r32) 2 r44) 3 r57) 4 (0 : Int32))))))] [(.int (bI (((nx5R (bld5 (own_up (own_up (own_up (own_up (own_up (fun _ => 0) 0 r20) 1 r32) 2 r44) 3 r57) 4 (0 : Int32)))) ↔ (incR (own_up (own_up (own_up (own_up (own_up (fun _ => 0) 0 r20) 1 r32) 2 r44) 3 r57) 4 (0 : Int32)) (5 : Int32))) ∧ ((((nx5F (bld5 (own_up (own_up (own_up (own_up (own_up (fun _ => 0) 0 r20) 1 r32) 2 r44) 3 r57) 4 (0 : Int32)))) 0) = ((bld5 (incF (own_up (own_up (own_up (own_up (own_up (fun _ => 0) 0 r20) 1 r32) 2 r44) 3 r57) 4 (0 : Int32)) (5 : Int32))) 0)) ∧ ((((nx5F (bld5 (own_up (own_up (own_up (own_up (own_up (fun _ => 0) 0 r20) 1 r32) 2 r44) 3 r57) 4 (0 : Int32)))) 1) = ((bld5 (incF (own_up (own_up (own_up (own_up (own_up (fun _ => 0) 0 r20) 1 r32) 2 r44) 3 r57) 4 (0 : Int32)) (5 : Int32))) 1)) ∧ ((((nx5F (bld5 (own_up (own_up (own_up (own_up (own_up (fun _ => 0) 0 r20) 1 r32) 2 r44) 3 r57) 4 (0 : Int32)))) 2) = ((bld5 (incF (own_up (own_up (own_up (own_up (own_up (fun _ => 0) 0 r20) 1 r32) 2 r44) 3 r57) 4 (0 : Int32)) (5 : Int32))) 2)) ∧ ((((nx5F (bld5 (own_up (own_up (own_up (own_up (own_up (fun _ => 0) 0 r20) 1 r32) 2 r44) 3 r57) 4 (0 : Int32)))) 3) = ((bld5 (incF (own_up (own_up (own_up (own_up (own_up (fun _ => 0) 0 r20) 1 r32) 2 r44) 3 r57) 4 (0 : Int32)) (5 : Int32))) 3)) ∧ (((nx5F (bld5 (own_up (own_up (own_up (own_up (own_up (fun _ => 0) 0 r20) 1 r32) 2 r44) 3 r57) 4 (0 : Int32)))) 4) = ((bld5 (incF (own_up (own_up (own_up (own_up (own_up (fun _ => 0) 0 r20) 1 r32) 2 r44) 3 r57) 4 (0 : Int32)) (5 : Int32))) 4)))))))))]))
        refine g_retZ X at_179 (by decide) (by decide) (bI_01 _) (own_fin ?_)
        show ((nx5R (bld5 (own_up (own_up (own_up (own_up (own_up (fun _ => 0) 0 r20) 1 r32) 2 r44) 3 r57) 4 (0 : Int32)))) ↔ (incR (own_up (own_up (own_up (own_up (own_up (fun _ => 0) 0 r20) 1 r32) 2 r44) 3 r57) 4 (0 : Int32)) (5 : Int32))) ∧ ((((nx5F (bld5 (own_up (own_up (own_up (own_up (own_up (fun _ => 0) 0 r20) 1 r32) 2 r44) 3 r57) 4 (0 : Int32)))) 0) = ((bld5 (incF (own_up (own_up (own_up (own_up (own_up (fun _ => 0) 0 r20) 1 r32) 2 r44) 3 r57) 4 (0 : Int32)) (5 : Int32))) 0)) ∧ ((((nx5F (bld5 (own_up (own_up (own_up (own_up (own_up (fun _ => 0) 0 r20) 1 r32) 2 r44) 3 r57) 4 (0 : Int32)))) 1) = ((bld5 (incF (own_up (own_up (own_up (own_up (own_up (fun _ => 0) 0 r20) 1 r32) 2 r44) 3 r57) 4 (0 : Int32)) (5 : Int32))) 1)) ∧ ((((nx5F (bld5 (own_up (own_up (own_up (own_up (own_up (fun _ => 0) 0 r20) 1 r32) 2 r44) 3 r57) 4 (0 : Int32)))) 2) = ((bld5 (incF (own_up (own_up (own_up (own_up (own_up (fun _ => 0) 0 r20) 1 r32) 2 r44) 3 r57) 4 (0 : Int32)) (5 : Int32))) 2)) ∧ ((((nx5F (bld5 (own_up (own_up (own_up (own_up (own_up (fun _ => 0) 0 r20) 1 r32) 2 r44) 3 r57) 4 (0 : Int32)))) 3) = ((bld5 (incF (own_up (own_up (own_up (own_up (own_up (fun _ => 0) 0 r20) 1 r32) 2 r44) 3 r57) 4 (0 : Int32)) (5 : Int32))) 3)) ∧ (((nx5F (bld5 (own_up (own_up (own_up (own_up (own_up (fun _ => 0) 0 r20) 1 r32) 2 r44) 3 r57) 4 (0 : Int32)))) 4) = ((bld5 (incF (own_up (own_up (own_up (own_up (own_up (fun _ => 0) 0 r20) 1 r32) 2 r44) 3 r57) 4 (0 : Int32)) (5 : Int32))) 4))))))
        obtain ⟨kr20, er20⟩ := own_toFin (x := r20) 5 (by decide) (by omega)
        subst er20
        obtain ⟨kr32, er32⟩ := own_toFin (x := r32) 4 (by decide) (by omega)
        subst er32
        obtain ⟨kr44, er44⟩ := own_toFin (x := r44) 3 (by decide) (by omega)
        subst er44
        obtain ⟨kr57, er57⟩ := own_toFin (x := r57) 2 (by decide) (by omega)
        subst er57
        exact own_fin11 kr20 kr32 kr44 kr57 c26
      · intro J179_26
        refine g_icmpB X at_159 (Or.inr (Or.inr rfl)) (q := 162) rfl (by decide) (t := 178) rfl (fun c27 => ?_) (fun c27 => ?_)
        · replace c27 : (nx5R (bld5 (own_up (own_up (own_up (own_up (own_up (fun _ => 0) 0 r20) 1 r32) 2 r44) 3 r57) 4 (0 : Int32)))) ↔ (incR (own_up (own_up (own_up (own_up (own_up (fun _ => 0) 0 r20) 1 r32) 2 r44) 3 r57) 4 (0 : Int32)) (5 : Int32)) := (bI_inj _ _).mp c27
          refine g_aload X at_162 rfl (q := 164) rfl rfl ?_
          refine g_aload X at_164 rfl (q := 166) rfl rfl ?_
          refine g_iload X at_166 rfl (q := 168) rfl ?_
          refine g_callS X [(.ref b40), (.ref b41), (.int (5 : Int32))] [] (tw18 hw) (tw19 hw) (tw3 hw) (tw20 hw) (by decide) (rm6_n5 l Z a0 hw [] b40 b41 (nx5F (bld5 (own_up (own_up (own_up (own_up (own_up (fun _ => 0) 0 r20) 1 r32) 2 r44) 3 r57) 4 (0 : Int32)))) (bld5 (incF (own_up (own_up (own_up (own_up (own_up (fun _ => 0) 0 r20) 1 r32) 2 r44) 3 r57) 4 (0 : Int32)) (5 : Int32))) _ n0 X.size A_b40 A_b41) pd7 rfl rfl rfl at_168 (q := 171) rfl (W := 0) rfl (by decide) (by decide) (c2 := 6) (s2 := 30) rfl rfl (by decide) (by decide) (fun v T h' X hQ => ?_)
          obtain ⟨rfl, rfl⟩ := hQ
          show Goes p e below s _ n0 _ (T.setTop (mkF m 171 #[.val (.int p1), .val (.int p2), .val (.int p3), .val (.int p4), .val (.int p5), .val (.int (5 : Int32)), .val (.ref b38), .val (.ref b39), .val (.int (bI (incR (own_up (own_up (own_up (own_up (own_up (fun _ => 0) 0 r20) 1 r32) 2 r44) 3 r57) 4 (0 : Int32)) (5 : Int32)))), .val (.ref b40), .val (.ref b41), .val (.int (bI (nx5R (bld5 (own_up (own_up (own_up (own_up (own_up (fun _ => 0) 0 r20) 1 r32) 2 r44) 3 r57) 4 (0 : Int32))))))] [(.int (bI ((((nx5F (bld5 (own_up (own_up (own_up (own_up (own_up (fun _ => 0) 0 r20) 1 r32) 2 r44) 3 r57) 4 (0 : Int32)))) 0) = ((bld5 (incF (own_up (own_up (own_up (own_up (own_up (fun _ => 0) 0 r20) 1 r32) 2 r44) 3 r57) 4 (0 : Int32)) (5 : Int32))) 0)) ∧ ((((nx5F (bld5 (own_up (own_up (own_up (own_up (own_up (fun _ => 0) 0 r20) 1 r32) 2 r44) 3 r57) 4 (0 : Int32)))) 1) = ((bld5 (incF (own_up (own_up (own_up (own_up (own_up (fun _ => 0) 0 r20) 1 r32) 2 r44) 3 r57) 4 (0 : Int32)) (5 : Int32))) 1)) ∧ ((((nx5F (bld5 (own_up (own_up (own_up (own_up (own_up (fun _ => 0) 0 r20) 1 r32) 2 r44) 3 r57) 4 (0 : Int32)))) 2) = ((bld5 (incF (own_up (own_up (own_up (own_up (own_up (fun _ => 0) 0 r20) 1 r32) 2 r44) 3 r57) 4 (0 : Int32)) (5 : Int32))) 2)) ∧ ((((nx5F (bld5 (own_up (own_up (own_up (own_up (own_up (fun _ => 0) 0 r20) 1 r32) 2 r44) 3 r57) 4 (0 : Int32)))) 3) = ((bld5 (incF (own_up (own_up (own_up (own_up (own_up (fun _ => 0) 0 r20) 1 r32) 2 r44) 3 r57) 4 (0 : Int32)) (5 : Int32))) 3)) ∧ (((nx5F (bld5 (own_up (own_up (own_up (own_up (own_up (fun _ => 0) 0 r20) 1 r32) 2 r44) 3 r57) 4 (0 : Int32)))) 4) = ((bld5 (incF (own_up (own_up (own_up (own_up (own_up (fun _ => 0) 0 r20) 1 r32) 2 r44) 3 r57) 4 (0 : Int32)) (5 : Int32))) 4))))))))]))
          refine g_beq X at_171 (q := 174) rfl (by decide) (t := 178) rfl (fun (c28 : (((nx5F (bld5 (own_up (own_up (own_up (own_up (own_up (fun _ => 0) 0 r20) 1 r32) 2 r44) 3 r57) 4 (0 : Int32)))) 0) = ((bld5 (incF (own_up (own_up (own_up (own_up (own_up (fun _ => 0) 0 r20) 1 r32) 2 r44) 3 r57) 4 (0 : Int32)) (5 : Int32))) 0)) ∧ ((((nx5F (bld5 (own_up (own_up (own_up (own_up (own_up (fun _ => 0) 0 r20) 1 r32) 2 r44) 3 r57) 4 (0 : Int32)))) 1) = ((bld5 (incF (own_up (own_up (own_up (own_up (own_up (fun _ => 0) 0 r20) 1 r32) 2 r44) 3 r57) 4 (0 : Int32)) (5 : Int32))) 1)) ∧ ((((nx5F (bld5 (own_up (own_up (own_up (own_up (own_up (fun _ => 0) 0 r20) 1 r32) 2 r44) 3 r57) 4 (0 : Int32)))) 2) = ((bld5 (incF (own_up (own_up (own_up (own_up (own_up (fun _ => 0) 0 r20) 1 r32) 2 r44) 3 r57) 4 (0 : Int32)) (5 : Int32))) 2)) ∧ ((((nx5F (bld5 (own_up (own_up (own_up (own_up (own_up (fun _ => 0) 0 r20) 1 r32) 2 r44) 3 r57) 4 (0 : Int32)))) 3) = ((bld5 (incF (own_up (own_up (own_up (own_up (own_up (fun _ => 0) 0 r20) 1 r32) 2 r44) 3 r57) 4 (0 : Int32)) (5 : Int32))) 3)) ∧ (((nx5F (bld5 (own_up (own_up (own_up (own_up (own_up (fun _ => 0) 0 r20) 1 r32) 2 r44) 3 r57) 4 (0 : Int32)))) 4) = ((bld5 (incF (own_up (own_up (own_up (own_up (own_up (fun _ => 0) 0 r20) 1 r32) 2 r44) 3 r57) 4 (0 : Int32)) (5 : Int32))) 4)))))) => ?_) (fun (c28 : ¬ ((((nx5F (bld5 (own_up (own_up (own_up (own_up (own_up (fun _ => 0) 0 r20) 1 r32) 2 r44) 3 r57) 4 (0 : Int32)))) 0) = ((bld5 (incF (own_up (own_up (own_up (own_up (own_up (fun _ => 0) 0 r20) 1 r32) 2 r44) 3 r57) 4 (0 : Int32)) (5 : Int32))) 0)) ∧ ((((nx5F (bld5 (own_up (own_up (own_up (own_up (own_up (fun _ => 0) 0 r20) 1 r32) 2 r44) 3 r57) 4 (0 : Int32)))) 1) = ((bld5 (incF (own_up (own_up (own_up (own_up (own_up (fun _ => 0) 0 r20) 1 r32) 2 r44) 3 r57) 4 (0 : Int32)) (5 : Int32))) 1)) ∧ ((((nx5F (bld5 (own_up (own_up (own_up (own_up (own_up (fun _ => 0) 0 r20) 1 r32) 2 r44) 3 r57) 4 (0 : Int32)))) 2) = ((bld5 (incF (own_up (own_up (own_up (own_up (own_up (fun _ => 0) 0 r20) 1 r32) 2 r44) 3 r57) 4 (0 : Int32)) (5 : Int32))) 2)) ∧ ((((nx5F (bld5 (own_up (own_up (own_up (own_up (own_up (fun _ => 0) 0 r20) 1 r32) 2 r44) 3 r57) 4 (0 : Int32)))) 3) = ((bld5 (incF (own_up (own_up (own_up (own_up (own_up (fun _ => 0) 0 r20) 1 r32) 2 r44) 3 r57) 4 (0 : Int32)) (5 : Int32))) 3)) ∧ (((nx5F (bld5 (own_up (own_up (own_up (own_up (own_up (fun _ => 0) 0 r20) 1 r32) 2 r44) 3 r57) 4 (0 : Int32)))) 4) = ((bld5 (incF (own_up (own_up (own_up (own_up (own_up (fun _ => 0) 0 r20) 1 r32) 2 r44) 3 r57) 4 (0 : Int32)) (5 : Int32))) 4))))))) => ?_)
          · skip
            refine g_iconst X at_174 rfl (q := 175) (v := 1) rfl ?_
            refine g_goto X at_175 (by decide) (q := 179) rfl ?_
            exact J179_26 T X _ (bI_t ⟨c27, c28⟩)
          · skip
            refine g_iconst X at_178 rfl (q := 179) (v := 0) rfl ?_
            exact J179_26 T X _ (bI_f (fun z => c28 z.2))
        · replace c27 : ¬ ((nx5R (bld5 (own_up (own_up (own_up (own_up (own_up (fun _ => 0) 0 r20) 1 r32) 2 r44) 3 r57) 4 (0 : Int32)))) ↔ (incR (own_up (own_up (own_up (own_up (own_up (fun _ => 0) 0 r20) 1 r32) 2 r44) 3 r57) 4 (0 : Int32)) (5 : Int32))) := fun z => c27 ((bI_inj _ _).mpr z)
          refine g_iconst X at_178 rfl (q := 179) (v := 0) rfl ?_
          exact J179_26 T X _ (bI_f (fun z => c27 z.1))
    · skip
      refine g_aload X at_139 rfl (q := 141) rfl rfl ?_
      refine g_iload X at_141 rfl (q := 143) rfl ?_
      refine g_callS X [(.ref b38), (.int (5 : Int32))] [] (tw11 hw) (tw12 hw) (tw3 hw) (tw13 hw) (by decide) (rm4_n5 l Z a0 hw [] b38 (own_up (own_up (own_up (own_up (own_up (fun _ => 0) 0 r20) 1 r32) 2 r44) 3 r57) 4 (0 : Int32)) _ n0 X.size A_b38 (own_chB (own_chB (own_chB (own_chB (own_chB (fun _ _ => by decide) (i := 0) (x := r20) (by omega)) (i := 1) (x := r32) (by omega)) (i := 2) (x := r44) (by omega)) (i := 3) (x := r57) (by omega)) (i := 4) (x := 0) (by decide))) pd5 rfl rfl rfl at_143 (q := 146) rfl (W := 0) rfl (by decide) (by decide) (c2 := 6) (s2 := 30) rfl rfl (by decide) (by decide) (fun v T h' X hQ => ?_)
      obtain ⟨b42, rfl, g_b42, sq_b42, Kc, M_b42⟩ := hQ
      have ne_b38_b42 := own_far A_b38.lt sq_b42
      have ne_b42_b38 := own_apS ne_b38_b42
      have ne_b39_b42 := own_far A_b39.lt sq_b42
      have ne_b42_b39 := own_apS ne_b39_b42
      have ne_b40_b42 := own_far A_b40.lt sq_b42
      have ne_b42_b40 := own_apS ne_b40_b42
      have A_b38 := A_b38.keep Kc nin0
      have A_b39 := A_b39.keep Kc nin0
      have A_b40 := A_b40.keep Kc nin0
      have A_b42 : AI Z h' b42 .int 5 (bld5 (own_up (own_up (own_up (own_up (own_up (fun _ => 0) 0 r20) 1 r32) 2 r44) 3 r57) 4 (0 : Int32))) := M_b42
      show Goes p e below s _ n0 _ (T.setTop (mkF m 146 #[.val (.int p1), .val (.int p2), .val (.int p3), .val (.int p4), .val (.int p5), .val (.int (5 : Int32)), .val (.ref b38), .val (.ref b39), .val (.int (bI (incR (own_up (own_up (own_up (own_up (own_up (fun _ => 0) 0 r20) 1 r32) 2 r44) 3 r57) 4 (0 : Int32)) (5 : Int32)))), .val (.ref b40), .unset, .unset] [(.ref b42)]))
      refine g_astore X at_146 rfl (q := 148) (L' := #[.val (.int p1), .val (.int p2), .val (.int p3), .val (.int p4), .val (.int p5), .val (.int (5 : Int32)), .val (.ref b38), .val (.ref b39), .val (.int (bI (incR (own_up (own_up (own_up (own_up (own_up (fun _ => 0) 0 r20) 1 r32) 2 r44) 3 r57) 4 (0 : Int32)) (5 : Int32)))), .val (.ref b40), .val (.ref b42), .unset]) rfl rfl ?_
      refine g_aload X at_148 rfl (q := 150) rfl rfl ?_
      refine g_callS X [(.ref b40)] [] (tw14 hw) (tw15 hw) (tw16 hw) (tw17 hw) (by decide) (rm5_n5 l Z a0 hw [] b40 (bld5 (own_up (own_up (own_up (own_up (own_up (fun _ => 0) 0 r20) 1 r32) 2 r44) 3 r57) 4 (0 : Int32))) _ n0 X.size A_b40 g_b40) pd6 rfl rfl rfl at_150 (q := 153) rfl (W := 0) rfl (by decide) (by decide) (c2 := 6) (s2 := 30) rfl rfl (by decide) (by decide) (fun v T h' X hQ => ?_)
      obtain ⟨rfl, Kc, A_b40'⟩ := hQ
      have A_b38 := A_b38.keep Kc (ninS ne_b38_b40 nin0)
      have A_b39 := A_b39.keep Kc (ninS ne_b39_b40 nin0)
      have A_b42 := A_b42.keep Kc (ninS ne_b42_b40 nin0)
      have A_b40 : AI Z h' b40 .int 5 (nx5F (bld5 (own_up (own_up (own_up (own_up (own_up (fun _ => 0) 0 r20) 1 r32) 2 r44) 3 r57) 4 (0 : Int32)))) := A_b40'
      show Goes p e below s _ n0 _ (T.setTop (mkF m 153 #[.val (.int p1), .val (.int p2), .val (.int p3), .val (.int p4), .val (.int p5), .val (.int (5 : Int32)), .val (.ref b38), .val (.ref b39), .val (.int (bI (incR (own_up (own_up (own_up (own_up (own_up (fun _ => 0) 0 r20) 1 r32) 2 r44) 3 r57) 4 (0 : Int32)) (5 : Int32)))), .val (.ref b40), .val (.ref b42), .unset] [(.int (bI (nx5R (bld5 (own_up (own_up (own_up (own_up (own_up (fun _ => 0) 0 r20) 1 r32) 2 r44) 3 r57) 4 (0 : Int32))))))]))
      refine g_istore X at_153 rfl (q := 155) (L' := #[.val (.int p1), .val (.int p2), .val (.int p3), .val (.int p4), .val (.int p5), .val (.int (5 : Int32)), .val (.ref b38), .val (.ref b39), .val (.int (bI (incR (own_up (own_up (own_up (own_up (own_up (fun _ => 0) 0 r20) 1 r32) 2 r44) 3 r57) 4 (0 : Int32)) (5 : Int32)))), .val (.ref b40), .val (.ref b42), .val (.int (bI (nx5R (bld5 (own_up (own_up (own_up (own_up (own_up (fun _ => 0) 0 r20) 1 r32) 2 r44) 3 r57) 4 (0 : Int32))))))]) rfl ?_
      refine g_iload X at_155 rfl (q := 157) rfl ?_
      refine g_iload X at_157 rfl (q := 159) rfl ?_
      refine g_jT1 X (J := 179) (P := fun (s0_179 : Int32) => s0_179 = (bI (((nx5R (bld5 (own_up (own_up (own_up (own_up (own_up (fun _ => 0) 0 r20) 1 r32) 2 r44) 3 r57) 4 (0 : Int32)))) ↔ (incR (own_up (own_up (own_up (own_up (own_up (fun _ => 0) 0 r20) 1 r32) 2 r44) 3 r57) 4 (0 : Int32)) (5 : Int32))) ∧ ((((nx5F (bld5 (own_up (own_up (own_up (own_up (own_up (fun _ => 0) 0 r20) 1 r32) 2 r44) 3 r57) 4 (0 : Int32)))) 0) = ((bld5 (own_up (own_up (own_up (own_up (own_up (fun _ => 0) 0 r20) 1 r32) 2 r44) 3 r57) 4 (0 : Int32))) 0)) ∧ ((((nx5F (bld5 (own_up (own_up (own_up (own_up (own_up (fun _ => 0) 0 r20) 1 r32) 2 r44) 3 r57) 4 (0 : Int32)))) 1) = ((bld5 (own_up (own_up (own_up (own_up (own_up (fun _ => 0) 0 r20) 1 r32) 2 r44) 3 r57) 4 (0 : Int32))) 1)) ∧ ((((nx5F (bld5 (own_up (own_up (own_up (own_up (own_up (fun _ => 0) 0 r20) 1 r32) 2 r44) 3 r57) 4 (0 : Int32)))) 2) = ((bld5 (own_up (own_up (own_up (own_up (own_up (fun _ => 0) 0 r20) 1 r32) 2 r44) 3 r57) 4 (0 : Int32))) 2)) ∧ ((((nx5F (bld5 (own_up (own_up (own_up (own_up (own_up (fun _ => 0) 0 r20) 1 r32) 2 r44) 3 r57) 4 (0 : Int32)))) 3) = ((bld5 (own_up (own_up (own_up (own_up (own_up (fun _ => 0) 0 r20) 1 r32) 2 r44) 3 r57) 4 (0 : Int32))) 3)) ∧ (((nx5F (bld5 (own_up (own_up (own_up (own_up (own_up (fun _ => 0) 0 r20) 1 r32) 2 r44) 3 r57) 4 (0 : Int32)))) 4) = ((bld5 (own_up (own_up (own_up (own_up (own_up (fun _ => 0) 0 r20) 1 r32) 2 r44) 3 r57) 4 (0 : Int32))) 4))))))))) (L := fun s0_179 => #[.val (.int p1), .val (.int p2), .val (.int p3), .val (.int p4), .val (.int p5), .val (.int (5 : Int32)), .val (.ref b38), .val (.ref b39), .val (.int (bI (incR (own_up (own_up (own_up (own_up (own_up (fun _ => 0) 0 r20) 1 r32) 2 r44) 3 r57) 4 (0 : Int32)) (5 : Int32)))), .val (.ref b40), .val (.ref b42), .val (.int (bI (nx5R (bld5 (own_up (own_up (own_up (own_up (own_up (fun _ => 0) 0 r20) 1 r32) 2 r44) 3 r57) 4 (0 : Int32))))))]) (S := fun s0_179 => [(.int s0_179)]) ?_ ?_
      · intro T X s0_179 hs0_179
        replace hs0_179 : s0_179 = (bI (((nx5R (bld5 (own_up (own_up (own_up (own_up (own_up (fun _ => 0) 0 r20) 1 r32) 2 r44) 3 r57) 4 (0 : Int32)))) ↔ (incR (own_up (own_up (own_up (own_up (own_up (fun _ => 0) 0 r20) 1 r32) 2 r44) 3 r57) 4 (0 : Int32)) (5 : Int32))) ∧ ((((nx5F (bld5 (own_up (own_up (own_up (own_up (own_up (fun _ => 0) 0 r20) 1 r32) 2 r44) 3 r57) 4 (0 : Int32)))) 0) = ((bld5 (own_up (own_up (own_up (own_up (own_up (fun _ => 0) 0 r20) 1 r32) 2 r44) 3 r57) 4 (0 : Int32))) 0)) ∧ ((((nx5F (bld5 (own_up (own_up (own_up (own_up (own_up (fun _ => 0) 0 r20) 1 r32) 2 r44) 3 r57) 4 (0 : Int32)))) 1) = ((bld5 (own_up (own_up (own_up (own_up (own_up (fun _ => 0) 0 r20) 1 r32) 2 r44) 3 r57) 4 (0 : Int32))) 1)) ∧ ((((nx5F (bld5 (own_up (own_up (own_up (own_up (own_up (fun _ => 0) 0 r20) 1 r32) 2 r44) 3 r57) 4 (0 : Int32)))) 2) = ((bld5 (own_up (own_up (own_up (own_up (own_up (fun _ => 0) 0 r20) 1 r32) 2 r44) 3 r57) 4 (0 : Int32))) 2)) ∧ ((((nx5F (bld5 (own_up (own_up (own_up (own_up (own_up (fun _ => 0) 0 r20) 1 r32) 2 r44) 3 r57) 4 (0 : Int32)))) 3) = ((bld5 (own_up (own_up (own_up (own_up (own_up (fun _ => 0) 0 r20) 1 r32) 2 r44) 3 r57) 4 (0 : Int32))) 3)) ∧ (((nx5F (bld5 (own_up (own_up (own_up (own_up (own_up (fun _ => 0) 0 r20) 1 r32) 2 r44) 3 r57) 4 (0 : Int32)))) 4) = ((bld5 (own_up (own_up (own_up (own_up (own_up (fun _ => 0) 0 r20) 1 r32) 2 r44) 3 r57) 4 (0 : Int32))) 4)))))))) := hs0_179
        subst hs0_179
        show Goes p e below s _ n0 _ (T.setTop (mkF m 179 #[.val (.int p1), .val (.int p2), .val (.int p3), .val (.int p4), .val (.int p5), .val (.int (5 : Int32)), .val (.ref b38), .val (.ref b39), .val (.int (bI (incR (own_up (own_up (own_up (own_up (own_up (fun _ => 0) 0 r20) 1 r32) 2 r44) 3 r57) 4 (0 : Int32)) (5 : Int32)))), .val (.ref b40), .val (.ref b42), .val (.int (bI (nx5R (bld5 (own_up (own_up (own_up (own_up (own_up (fun _ => 0) 0 r20) 1 r32) 2 r44) 3 r57) 4 (0 : Int32))))))] [(.int (bI (((nx5R (bld5 (own_up (own_up (own_up (own_up (own_up (fun _ => 0) 0 r20) 1 r32) 2 r44) 3 r57) 4 (0 : Int32)))) ↔ (incR (own_up (own_up (own_up (own_up (own_up (fun _ => 0) 0 r20) 1 r32) 2 r44) 3 r57) 4 (0 : Int32)) (5 : Int32))) ∧ ((((nx5F (bld5 (own_up (own_up (own_up (own_up (own_up (fun _ => 0) 0 r20) 1 r32) 2 r44) 3 r57) 4 (0 : Int32)))) 0) = ((bld5 (own_up (own_up (own_up (own_up (own_up (fun _ => 0) 0 r20) 1 r32) 2 r44) 3 r57) 4 (0 : Int32))) 0)) ∧ ((((nx5F (bld5 (own_up (own_up (own_up (own_up (own_up (fun _ => 0) 0 r20) 1 r32) 2 r44) 3 r57) 4 (0 : Int32)))) 1) = ((bld5 (own_up (own_up (own_up (own_up (own_up (fun _ => 0) 0 r20) 1 r32) 2 r44) 3 r57) 4 (0 : Int32))) 1)) ∧ ((((nx5F (bld5 (own_up (own_up (own_up (own_up (own_up (fun _ => 0) 0 r20) 1 r32) 2 r44) 3 r57) 4 (0 : Int32)))) 2) = ((bld5 (own_up (own_up (own_up (own_up (own_up (fun _ => 0) 0 r20) 1 r32) 2 r44) 3 r57) 4 (0 : Int32))) 2)) ∧ ((((nx5F (bld5 (own_up (own_up (own_up (own_up (own_up (fun _ => 0) 0 r20) 1 r32) 2 r44) 3 r57) 4 (0 : Int32)))) 3) = ((bld5 (own_up (own_up (own_up (own_up (own_up (fun _ => 0) 0 r20) 1 r32) 2 r44) 3 r57) 4 (0 : Int32))) 3)) ∧ (((nx5F (bld5 (own_up (own_up (own_up (own_up (own_up (fun _ => 0) 0 r20) 1 r32) 2 r44) 3 r57) 4 (0 : Int32)))) 4) = ((bld5 (own_up (own_up (own_up (own_up (own_up (fun _ => 0) 0 r20) 1 r32) 2 r44) 3 r57) 4 (0 : Int32))) 4)))))))))]))
        refine g_retZ X at_179 (by decide) (by decide) (bI_01 _) (own_fin ?_)
        show ((nx5R (bld5 (own_up (own_up (own_up (own_up (own_up (fun _ => 0) 0 r20) 1 r32) 2 r44) 3 r57) 4 (0 : Int32)))) ↔ (incR (own_up (own_up (own_up (own_up (own_up (fun _ => 0) 0 r20) 1 r32) 2 r44) 3 r57) 4 (0 : Int32)) (5 : Int32))) ∧ ((((nx5F (bld5 (own_up (own_up (own_up (own_up (own_up (fun _ => 0) 0 r20) 1 r32) 2 r44) 3 r57) 4 (0 : Int32)))) 0) = ((bld5 (own_up (own_up (own_up (own_up (own_up (fun _ => 0) 0 r20) 1 r32) 2 r44) 3 r57) 4 (0 : Int32))) 0)) ∧ ((((nx5F (bld5 (own_up (own_up (own_up (own_up (own_up (fun _ => 0) 0 r20) 1 r32) 2 r44) 3 r57) 4 (0 : Int32)))) 1) = ((bld5 (own_up (own_up (own_up (own_up (own_up (fun _ => 0) 0 r20) 1 r32) 2 r44) 3 r57) 4 (0 : Int32))) 1)) ∧ ((((nx5F (bld5 (own_up (own_up (own_up (own_up (own_up (fun _ => 0) 0 r20) 1 r32) 2 r44) 3 r57) 4 (0 : Int32)))) 2) = ((bld5 (own_up (own_up (own_up (own_up (own_up (fun _ => 0) 0 r20) 1 r32) 2 r44) 3 r57) 4 (0 : Int32))) 2)) ∧ ((((nx5F (bld5 (own_up (own_up (own_up (own_up (own_up (fun _ => 0) 0 r20) 1 r32) 2 r44) 3 r57) 4 (0 : Int32)))) 3) = ((bld5 (own_up (own_up (own_up (own_up (own_up (fun _ => 0) 0 r20) 1 r32) 2 r44) 3 r57) 4 (0 : Int32))) 3)) ∧ (((nx5F (bld5 (own_up (own_up (own_up (own_up (own_up (fun _ => 0) 0 r20) 1 r32) 2 r44) 3 r57) 4 (0 : Int32)))) 4) = ((bld5 (own_up (own_up (own_up (own_up (own_up (fun _ => 0) 0 r20) 1 r32) 2 r44) 3 r57) 4 (0 : Int32))) 4))))))
        obtain ⟨kr20, er20⟩ := own_toFin (x := r20) 5 (by decide) (by omega)
        subst er20
        obtain ⟨kr32, er32⟩ := own_toFin (x := r32) 4 (by decide) (by omega)
        subst er32
        obtain ⟨kr44, er44⟩ := own_toFin (x := r44) 3 (by decide) (by omega)
        subst er44
        obtain ⟨kr57, er57⟩ := own_toFin (x := r57) 2 (by decide) (by omega)
        subst er57
        exact own_fin12 kr20 kr32 kr44 kr57 c26
      · intro J179_28
        refine g_icmpB X at_159 (Or.inr (Or.inr rfl)) (q := 162) rfl (by decide) (t := 178) rfl (fun c29 => ?_) (fun c29 => ?_)
        · replace c29 : (nx5R (bld5 (own_up (own_up (own_up (own_up (own_up (fun _ => 0) 0 r20) 1 r32) 2 r44) 3 r57) 4 (0 : Int32)))) ↔ (incR (own_up (own_up (own_up (own_up (own_up (fun _ => 0) 0 r20) 1 r32) 2 r44) 3 r57) 4 (0 : Int32)) (5 : Int32)) := (bI_inj _ _).mp c29
          refine g_aload X at_162 rfl (q := 164) rfl rfl ?_
          refine g_aload X at_164 rfl (q := 166) rfl rfl ?_
          refine g_iload X at_166 rfl (q := 168) rfl ?_
          refine g_callS X [(.ref b40), (.ref b42), (.int (5 : Int32))] [] (tw18 hw) (tw19 hw) (tw3 hw) (tw20 hw) (by decide) (rm6_n5 l Z a0 hw [] b40 b42 (nx5F (bld5 (own_up (own_up (own_up (own_up (own_up (fun _ => 0) 0 r20) 1 r32) 2 r44) 3 r57) 4 (0 : Int32)))) (bld5 (own_up (own_up (own_up (own_up (own_up (fun _ => 0) 0 r20) 1 r32) 2 r44) 3 r57) 4 (0 : Int32))) _ n0 X.size A_b40 A_b42) pd7 rfl rfl rfl at_168 (q := 171) rfl (W := 0) rfl (by decide) (by decide) (c2 := 6) (s2 := 30) rfl rfl (by decide) (by decide) (fun v T h' X hQ => ?_)
          obtain ⟨rfl, rfl⟩ := hQ
          show Goes p e below s _ n0 _ (T.setTop (mkF m 171 #[.val (.int p1), .val (.int p2), .val (.int p3), .val (.int p4), .val (.int p5), .val (.int (5 : Int32)), .val (.ref b38), .val (.ref b39), .val (.int (bI (incR (own_up (own_up (own_up (own_up (own_up (fun _ => 0) 0 r20) 1 r32) 2 r44) 3 r57) 4 (0 : Int32)) (5 : Int32)))), .val (.ref b40), .val (.ref b42), .val (.int (bI (nx5R (bld5 (own_up (own_up (own_up (own_up (own_up (fun _ => 0) 0 r20) 1 r32) 2 r44) 3 r57) 4 (0 : Int32))))))] [(.int (bI ((((nx5F (bld5 (own_up (own_up (own_up (own_up (own_up (fun _ => 0) 0 r20) 1 r32) 2 r44) 3 r57) 4 (0 : Int32)))) 0) = ((bld5 (own_up (own_up (own_up (own_up (own_up (fun _ => 0) 0 r20) 1 r32) 2 r44) 3 r57) 4 (0 : Int32))) 0)) ∧ ((((nx5F (bld5 (own_up (own_up (own_up (own_up (own_up (fun _ => 0) 0 r20) 1 r32) 2 r44) 3 r57) 4 (0 : Int32)))) 1) = ((bld5 (own_up (own_up (own_up (own_up (own_up (fun _ => 0) 0 r20) 1 r32) 2 r44) 3 r57) 4 (0 : Int32))) 1)) ∧ ((((nx5F (bld5 (own_up (own_up (own_up (own_up (own_up (fun _ => 0) 0 r20) 1 r32) 2 r44) 3 r57) 4 (0 : Int32)))) 2) = ((bld5 (own_up (own_up (own_up (own_up (own_up (fun _ => 0) 0 r20) 1 r32) 2 r44) 3 r57) 4 (0 : Int32))) 2)) ∧ ((((nx5F (bld5 (own_up (own_up (own_up (own_up (own_up (fun _ => 0) 0 r20) 1 r32) 2 r44) 3 r57) 4 (0 : Int32)))) 3) = ((bld5 (own_up (own_up (own_up (own_up (own_up (fun _ => 0) 0 r20) 1 r32) 2 r44) 3 r57) 4 (0 : Int32))) 3)) ∧ (((nx5F (bld5 (own_up (own_up (own_up (own_up (own_up (fun _ => 0) 0 r20) 1 r32) 2 r44) 3 r57) 4 (0 : Int32)))) 4) = ((bld5 (own_up (own_up (own_up (own_up (own_up (fun _ => 0) 0 r20) 1 r32) 2 r44) 3 r57) 4 (0 : Int32))) 4))))))))]))
          refine g_beq X at_171 (q := 174) rfl (by decide) (t := 178) rfl (fun (c30 : (((nx5F (bld5 (own_up (own_up (own_up (own_up (own_up (fun _ => 0) 0 r20) 1 r32) 2 r44) 3 r57) 4 (0 : Int32)))) 0) = ((bld5 (own_up (own_up (own_up (own_up (own_up (fun _ => 0) 0 r20) 1 r32) 2 r44) 3 r57) 4 (0 : Int32))) 0)) ∧ ((((nx5F (bld5 (own_up (own_up (own_up (own_up (own_up (fun _ => 0) 0 r20) 1 r32) 2 r44) 3 r57) 4 (0 : Int32)))) 1) = ((bld5 (own_up (own_up (own_up (own_up (own_up (fun _ => 0) 0 r20) 1 r32) 2 r44) 3 r57) 4 (0 : Int32))) 1)) ∧ ((((nx5F (bld5 (own_up (own_up (own_up (own_up (own_up (fun _ => 0) 0 r20) 1 r32) 2 r44) 3 r57) 4 (0 : Int32)))) 2) = ((bld5 (own_up (own_up (own_up (own_up (own_up (fun _ => 0) 0 r20) 1 r32) 2 r44) 3 r57) 4 (0 : Int32))) 2)) ∧ ((((nx5F (bld5 (own_up (own_up (own_up (own_up (own_up (fun _ => 0) 0 r20) 1 r32) 2 r44) 3 r57) 4 (0 : Int32)))) 3) = ((bld5 (own_up (own_up (own_up (own_up (own_up (fun _ => 0) 0 r20) 1 r32) 2 r44) 3 r57) 4 (0 : Int32))) 3)) ∧ (((nx5F (bld5 (own_up (own_up (own_up (own_up (own_up (fun _ => 0) 0 r20) 1 r32) 2 r44) 3 r57) 4 (0 : Int32)))) 4) = ((bld5 (own_up (own_up (own_up (own_up (own_up (fun _ => 0) 0 r20) 1 r32) 2 r44) 3 r57) 4 (0 : Int32))) 4)))))) => ?_) (fun (c30 : ¬ ((((nx5F (bld5 (own_up (own_up (own_up (own_up (own_up (fun _ => 0) 0 r20) 1 r32) 2 r44) 3 r57) 4 (0 : Int32)))) 0) = ((bld5 (own_up (own_up (own_up (own_up (own_up (fun _ => 0) 0 r20) 1 r32) 2 r44) 3 r57) 4 (0 : Int32))) 0)) ∧ ((((nx5F (bld5 (own_up (own_up (own_up (own_up (own_up (fun _ => 0) 0 r20) 1 r32) 2 r44) 3 r57) 4 (0 : Int32)))) 1) = ((bld5 (own_up (own_up (own_up (own_up (own_up (fun _ => 0) 0 r20) 1 r32) 2 r44) 3 r57) 4 (0 : Int32))) 1)) ∧ ((((nx5F (bld5 (own_up (own_up (own_up (own_up (own_up (fun _ => 0) 0 r20) 1 r32) 2 r44) 3 r57) 4 (0 : Int32)))) 2) = ((bld5 (own_up (own_up (own_up (own_up (own_up (fun _ => 0) 0 r20) 1 r32) 2 r44) 3 r57) 4 (0 : Int32))) 2)) ∧ ((((nx5F (bld5 (own_up (own_up (own_up (own_up (own_up (fun _ => 0) 0 r20) 1 r32) 2 r44) 3 r57) 4 (0 : Int32)))) 3) = ((bld5 (own_up (own_up (own_up (own_up (own_up (fun _ => 0) 0 r20) 1 r32) 2 r44) 3 r57) 4 (0 : Int32))) 3)) ∧ (((nx5F (bld5 (own_up (own_up (own_up (own_up (own_up (fun _ => 0) 0 r20) 1 r32) 2 r44) 3 r57) 4 (0 : Int32)))) 4) = ((bld5 (own_up (own_up (own_up (own_up (own_up (fun _ => 0) 0 r20) 1 r32) 2 r44) 3 r57) 4 (0 : Int32))) 4))))))) => ?_)
          · skip
            refine g_iconst X at_174 rfl (q := 175) (v := 1) rfl ?_
            refine g_goto X at_175 (by decide) (q := 179) rfl ?_
            exact J179_28 T X _ (bI_t ⟨c29, c30⟩)
          · skip
            refine g_iconst X at_178 rfl (q := 179) (v := 0) rfl ?_
            exact J179_28 T X _ (bI_f (fun z => c30 z.2))
        · replace c29 : ¬ ((nx5R (bld5 (own_up (own_up (own_up (own_up (own_up (fun _ => 0) 0 r20) 1 r32) 2 r44) 3 r57) 4 (0 : Int32)))) ↔ (incR (own_up (own_up (own_up (own_up (own_up (fun _ => 0) 0 r20) 1 r32) 2 r44) 3 r57) 4 (0 : Int32)) (5 : Int32))) := fun z => c29 ((bI_inj _ _).mpr z)
          refine g_iconst X at_178 rfl (q := 179) (v := 0) rfl ?_
          exact J179_28 T X _ (bI_f (fun z => c29 z.1))
set_option maxRecDepth 65536 in
set_option maxHeartbeats 40000000 in
theorem comes_1 {Post : Tables → Env → Array Value → State → Outcome → State → Prop} (hpost : ∀ tb e args s v u, (limb_1_1.after args s (.returned v) u = true ∧ limb_1_2.after args s (.returned v) u = true ∧ True) → FrameEnd s (.returned v) u (Jvm.fieldLocs frame_1_writes args s ++ Jvm.arrayLocs frame_1_arrays args s ++ Jvm.staticLocs frame_1_statics s) 24 128 → Post tb e args s (.returned v) u) :
    ArmFor flags0 classFile x code maxLocals ret World_1 tables_1 room_1 Calls_1 rest_1 Pre_1 Post := by
  intro l hfl _ _ p e ha hc hk s m args below hf hA hF happ hP
  obtain ⟨hcalls, hrest, hpre⟩ := hP
  obtain ⟨-, -, -, hnamed, -, -, -, hat⟩ := (Spec.applies_iff hf).mp happ
  obtain ⟨hg, hn⟩ := and_e (Cond.before_iff.mp (show (Jvm.Cond.and given_1 narrow_1).before args s = true from hpre))
  obtain ⟨u1, w1⟩ := and_e hg
  obtain ⟨u2, w2⟩ := and_e w1
  obtain ⟨u3, w3⟩ := and_e w2
  obtain ⟨u4, w4⟩ := and_e w3
  obtain ⟨u5, w5⟩ := and_e w4
  obtain ⟨z0, z1, z2, z3, z4, rfl⟩ : ∃ z0 z1 z2 z3 z4 : Value, args = #[z0, z1, z2, z3, z4] := by
    have hs : args.size = 5 := by simpa [Cond.value, given_1] using u1
    obtain ⟨L⟩ := args
    match L, hs with
    | [z0, z1, z2, z3, z4], _ => exact ⟨z0, z1, z2, z3, z4, rfl⟩
  have hw := fun d (hd : d ∈ tables_1) => atoms_spec (ws := Jvm.Cond.code x code maxLocals ret :: tables_1) hat d (List.mem_cons_of_mem _ hd)
  obtain ⟨i0, ei0⟩ := is_v u2
  obtain rfl : z0 = (.int i0) := Option.some.inj ei0
  obtain ⟨i1, ei1⟩ := is_v u3
  obtain rfl : z1 = (.int i1) := Option.some.inj ei1
  obtain ⟨i2, ei2⟩ := is_v u4
  obtain rfl : z2 = (.int i2) := Option.some.inj ei2
  obtain ⟨i3, ei3⟩ := is_v u5
  obtain rfl : z3 = (.int i3) := Option.some.inj ei3
  obtain ⟨i4, ei4⟩ := is_v w5
  obtain rfl : z4 = (.int i4) := Option.some.inj ei4
  obtain ⟨n, o, h1, h2, h3, _, L, rfl, ⟨N, rfl⟩, hq⟩ := rm0 l s _ hw tables_1 i0 i1 i2 i3 i4 s.heap s.heap.size (Nat.le_refl _) p e ha hc hk s m _ below hf ((Spec.applies_iff_loose hf).mp happ).1 ⟨rfl, State.Warmed39.refl s, rfl⟩ trivial
  refine ⟨n, _, h1, h2, h3, hpost _ _ _ _ _ _ ⟨Cond.after_iff.mpr rfl, Cond.after_iff.mpr (eq_i res_at (Term.int_eval (1)) rfl), trivial⟩ ⟨hq.1, hq.2.1, (hq.2.2.sift fun y hy => Or.inr (N y hy)).mono (by decide) (by decide)⟩⟩
theorem main_1_1 : Claimed_1_1 := comes_1 fun _ _ _ _ _ _ h hF => ⟨h.1, hF⟩
theorem main_1_2 : Claimed_1_2 := comes_1 fun _ _ _ _ _ _ h hF => ⟨h.2.1, hF⟩
end Jvm.Pilot.@@N@@
namespace Jvm.Pilot.@@N@@
open Jvm Jvm.ClassFile Sem Op Lib Jvm.Free Jvm.Stand Jvm.Pilot.@@N@@.Jvm.D
/-! MADE BY PROGRAM (witnessworld.py) out of the Statement's table words and the real class files: 9 classes; the members and pool entries that the words name. The judged class is class 1, her method 1. -/
namespace start1
open Jvm.ClassFile
def u (s : String) : CpInfo := .utf8 (stringToUtf16 s)
/-- a pool by its gaps: so many unusable entries, then the entry; so many at the end -/
def gap : Nat → List CpInfo → List CpInfo
  | 0, r => r
  | n + 1, r => .unusable :: gap n r
def poolList (es : List (Nat × CpInfo)) (last : Nat) : List CpInfo := es.foldr (fun e r => gap e.1 (e.2 :: r)) (gap last [])
def pool (es : List (Nat × CpInfo)) (last : Nat) : Array CpInfo := ⟨poolList es last⟩
def fileOf (pool : Array CpInfo) (this : Nat) (attrs : Array Attribute := #[]) (ms : Array MethodInfo := #[]) (fl : Nat := 33) (sup : Nat := 0) (ifs : Array Nat := #[]) (fds : Array FieldInfo := #[]) : ClassFile where
  minorVersion := 0
  majorVersion := 65
  constantPool := pool
  accessFlags := fl
  thisClass := this
  superClass := sup
  interfaces := ifs
  fields := fds
  methods := ms
  attributes := attrs
def plain (name : String) (sup : Option ClassId) : Class where
  name := name
  kind := .ordinary
  loader := none
  accessFlags := 33
  super := sup
  interfaces := #[]
  cf := none
  fields := #[]
  methods := #[]
  instanceTypes := #[]
  staticTypes := #[]
  resolved := #[]
  callSites := []
  init := .initialized
  statics := none
  mirror := none

def pool0 : Array CpInfo := pool [(5, u "<init>"), (0, u "()V"), (1, .class_ 10), (1, u "java/lang/Object")] 113

def k0m0 : Method := { name := "<init>", desc := "()V", sig := { parameters := [], returnType := none }, accessFlags := 1, code := none }
/-- java/lang/Object -/
def k0 : Class := { plain "java/lang/Object" none with
  accessFlags := 33
  interfaces := #[]
  cf := some (fileOf pool0 8 #[] #[{ accessFlags := 1, nameIndex := 5, descriptorIndex := 6, attributes := #[] }] 33 0 #[] #[])
  fields := #[]
  methods := #[k0m0]
  instanceTypes := #[]
  staticTypes := #[]
  resolved := Array.replicate 124 none
  statics := none }

def pool1 : Array CpInfo := pool [(2, .class_ 4), (1, u "java/lang/Object"), (0, u "<init>"), (0, u "()V"), (0, .methodref 8 9), (0, .class_ 10), (0, .nameAndType 11 12), (0, u "com/example/eulay/eulay/generation/PermutationsNextPinLaw"), (0, u "digit"), (0, u "(II)I"), (0, .methodref 8 14), (0, .nameAndType 15 16), (0, u "increment"), (0, u "([II)Z"), (0, .methodref 8 18), (0, .nameAndType 19 20), (0, u "build"), (0, u "([II)[I"), (0, .methodref 22 23), (0, .class_ 24), (0, .nameAndType 25 26), (0, u "com/example/eulay/eulay/generation/Permutations"), (0, u "next"), (0, u "([I)Z"), (0, .methodref 8 28), (0, .nameAndType 29 30), (0, u "same"), (0, u "([I[II)Z"), (0, .integer 2147483647), (0, .methodref 8 33), (0, .nameAndType 34 35), (0, u "take"), (0, u "([II)I"), (0, .methodref 8 37), (0, .nameAndType 38 39), (0, u "step"), (0, u "([IIIZ)Z"), (2, u "law"), (0, u "(IIIII)Z")] 5

def k1m0 : Method := { name := "<init>", desc := "()V", sig := { parameters := [], returnType := none }, accessFlags := 2, code := none }
def k1c1 : Code := { maxStack := 5, maxLocals := 12, code := code, exceptionTable := #[], attributes := #[] }
def k1m1 : Method := { name := "law", desc := "(IIIII)Z", sig := { parameters := [.int, .int, .int, .int, .int], returnType := some .boolean }, accessFlags := 9, code := some k1c1 }
def k1c2 : Code := { maxStack := 2, maxLocals := 2, code := method_3_code, exceptionTable := #[], attributes := #[] }
def k1m2 : Method := { name := "digit", desc := "(II)I", sig := { parameters := [.int, .int], returnType := some .int }, accessFlags := 10, code := some k1c2 }
def k1c3 : Code := { maxStack := 4, maxLocals := 3, code := method_4_code, exceptionTable := #[], attributes := #[] }
def k1m3 : Method := { name := "take", desc := "([II)I", sig := { parameters := [(.array .int), .int], returnType := some .int }, accessFlags := 10, code := some k1c3 }
def k1c4 : Code := { maxStack := 5, maxLocals := 4, code := method_5_code, exceptionTable := #[], attributes := #[] }
def k1m4 : Method := { name := "build", desc := "([II)[I", sig := { parameters := [(.array .int), .int], returnType := some (.array .int) }, accessFlags := 10, code := some k1c4 }
def k1c5 : Code := { maxStack := 4, maxLocals := 4, code := method_6_code, exceptionTable := #[], attributes := #[] }
def k1m5 : Method := { name := "step", desc := "([IIIZ)Z", sig := { parameters := [(.array .int), .int, .int, .boolean], returnType := some .boolean }, accessFlags := 10, code := some k1c5 }
def k1c6 : Code := { maxStack := 4, maxLocals := 3, code := method_7_code, exceptionTable := #[], attributes := #[] }
def k1m6 : Method := { name := "increment", desc := "([II)Z", sig := { parameters := [(.array .int), .int], returnType := some .boolean }, accessFlags := 10, code := some k1c6 }
def k1c7 : Code := { maxStack := 3, maxLocals := 3, code := method_8_code, exceptionTable := #[], attributes := #[] }
def k1m7 : Method := { name := "same", desc := "([I[II)Z", sig := { parameters := [(.array .int), (.array .int), .int], returnType := some .boolean }, accessFlags := 10, code := some k1c7 }
/-- com/example/eulay/eulay/generation/PermutationsNextPinLaw -/
def k1 : Class := { plain "com/example/eulay/eulay/generation/PermutationsNextPinLaw" (some 0) with
  accessFlags := 49
  interfaces := #[]
  cf := some (fileOf pool1 8 #[] #[{ accessFlags := 2, nameIndex := 5, descriptorIndex := 6, attributes := #[] }, { accessFlags := 9, nameIndex := 42, descriptorIndex := 43, attributes := #[] }, { accessFlags := 10, nameIndex := 11, descriptorIndex := 12, attributes := #[] }, { accessFlags := 10, nameIndex := 34, descriptorIndex := 35, attributes := #[] }, { accessFlags := 10, nameIndex := 19, descriptorIndex := 20, attributes := #[] }, { accessFlags := 10, nameIndex := 38, descriptorIndex := 39, attributes := #[] }, { accessFlags := 10, nameIndex := 15, descriptorIndex := 16, attributes := #[] }, { accessFlags := 10, nameIndex := 29, descriptorIndex := 30, attributes := #[] }] 49 2 #[] #[])
  fields := #[]
  methods := #[k1m0, k1m1, k1m2, k1m3, k1m4, k1m5, k1m6, k1m7]
  instanceTypes := #[]
  staticTypes := #[]
  resolved := Array.replicate 49 none
  statics := none }

def pool2 : Array CpInfo := pool [(2, .class_ 4), (1, u "java/lang/Object"), (0, u "<init>"), (0, u "()V"), (0, .methodref 8 9), (0, .class_ 10), (0, .nameAndType 11 12), (0, u "com/example/eulay/eulay/generation/Permutations"), (0, u "swap"), (0, u "([III)V"), (7, u "next"), (0, u "([I)Z")] 2

def k2m0 : Method := { name := "<init>", desc := "()V", sig := { parameters := [], returnType := none }, accessFlags := 2, code := none }
def k2c1 : Code := { maxStack := 4, maxLocals := 5, code := prog_18_method_3_code, exceptionTable := #[], attributes := #[] }
def k2m1 : Method := { name := "next", desc := "([I)Z", sig := { parameters := [(.array .int)], returnType := some .boolean }, accessFlags := 8, code := some k2c1 }
def k2c2 : Code := { maxStack := 4, maxLocals := 4, code := prog_18_method_4_code, exceptionTable := #[], attributes := #[] }
def k2m2 : Method := { name := "swap", desc := "([III)V", sig := { parameters := [(.array .int), .int, .int], returnType := none }, accessFlags := 10, code := some k2c2 }
/-- com/example/eulay/eulay/generation/Permutations -/
def k2 : Class := { plain "com/example/eulay/eulay/generation/Permutations" (some 0) with
  accessFlags := 48
  interfaces := #[]
  cf := some (fileOf pool2 8 #[] #[{ accessFlags := 2, nameIndex := 5, descriptorIndex := 6, attributes := #[] }, { accessFlags := 8, nameIndex := 20, descriptorIndex := 21, attributes := #[] }, { accessFlags := 10, nameIndex := 11, descriptorIndex := 12, attributes := #[] }] 48 2 #[] #[])
  fields := #[]
  methods := #[k2m0, k2m1, k2m2]
  instanceTypes := #[]
  staticTypes := #[]
  resolved := Array.replicate 24 none
  statics := none }

def pool3 : Array CpInfo := pool [(1, u "java/lang/Cloneable"), (0, .class_ 1), (0, u "java/lang/Object"), (0, .class_ 3)] 3

/-- java/lang/Cloneable -/
def k3 : Class := { plain "java/lang/Cloneable" (some 0) with
  accessFlags := 1537
  interfaces := #[]
  cf := some (fileOf pool3 2 #[] #[] 1537 4 #[] #[])
  fields := #[]
  methods := #[]
  instanceTypes := #[]
  staticTypes := #[]
  resolved := Array.replicate 8 none
  statics := none }

def pool4 : Array CpInfo := pool [(1, u "java/io/Serializable"), (0, .class_ 1), (0, u "java/lang/Object"), (0, .class_ 3)] 3

/-- java/io/Serializable -/
def k4 : Class := { plain "java/io/Serializable" (some 0) with
  accessFlags := 1537
  interfaces := #[]
  cf := some (fileOf pool4 2 #[] #[] 1537 4 #[] #[])
  fields := #[]
  methods := #[]
  instanceTypes := #[]
  staticTypes := #[]
  resolved := Array.replicate 8 none
  statics := none }

/-- the primitive byte -/
def k5 : Class := { plain "byte" none with kind := .primitive 'B', accessFlags := 0x411 }
/-- [B -/
def k6 : Class := { plain "[B" (some 0) with kind := .array 5 .byte, interfaces := #[3, 4], accessFlags := 1041 }

/-- the primitive int -/
def k7 : Class := { plain "int" none with kind := .primitive 'I', accessFlags := 0x411 }
/-- [I -/
def k8 : Class := { plain "[I" (some 0) with kind := .array 7 .int, interfaces := #[3, 4], accessFlags := 1041 }

def heap : Heap := #[]
def classes : Array Class := #[k0, k1, k2, k3, k4, k5, k6, k7, k8]
def interned : List (Array UInt16 × Addr) := []
def slotsUsed : Nat := 0
def theMethod : MethodId := ⟨1, 1⟩
def args0 : Array Value := #[.int 5, .int 7, .int 3, .int 2, .int 1]
def aboutOver (below : List Frame) : State where
  vm := { classes := classes, interned := interned.toArray }
  heap := heap
  slotsUsed := slotsUsed
  threads := #[{ frames := .invoking theMethod args0 :: below }]
def below0 : List Frame := [.native { method := ⟨0, 0⟩, args := #[] }]
def about1 : State := aboutOver below0
def p0 : Program := .bare "" "" ""
def e0 : Env := launch0.env 0 0 0
theorem w_frames : about1.frames = Frame.invoking theMethod args0 :: below0 := rfl
set_option maxRecDepth 65536 in
theorem w_args : argsFit about1.vm theMethod args0 = true := by decide +kernel
set_option maxRecDepth 65536 in
theorem w_heap : heapFits about1 = true := by decide +kernel
set_option maxRecDepth 65536 in
theorem w_runnable : about1.curStatus? = some .runnable := by decide +kernel
set_option maxRecDepth 65536 in
theorem w_alone : about1.alone = true := by decide +kernel
set_option maxRecDepth 65536 in
theorem w_named : about1.methodNamed? x = some theMethod := by decide +kernel
set_option maxRecDepth 65536 in
theorem w_hears : about1.hears theMethod below0 = true := by decide +kernel
set_option maxRecDepth 65536 in
theorem w_ripe : about1.ripe theMethod args0 below0 = true := by decide +kernel
theorem w_running : about1.status = .running := rfl
set_option maxRecDepth 65536 in
theorem w_room : about1.hasRoom e0.platform room_1 = true :=
  launch0.hasRoom_least _ room_1 (by decide +kernel) (by decide +kernel) (by decide +kernel) (by decide +kernel) (by decide +kernel) (by decide +kernel)
theorem allAtoms_all (ts : List Jvm.Cond) (a : Array Jvm.Value) (st : Jvm.State) : (allAtoms ts).before a st = ts.all (fun c => c.before a st) := by
  induction ts with
  | nil => rfl
  | cons c t ih =>
    show (Jvm.Cond.and c (allAtoms t)).before a st = _
    rw [Jvm.Cond.before_and, ih, List.all_cons]
def words1 : List Jvm.Cond := Jvm.Cond.code x code maxLocals ret :: tables_1
/-- a 'code' word, met by the world's own term for the bytes: nothing is compared byte by byte -/
theorem code_word {y : MethodName} {bytes : ByteArray} {mx : Nat} {rt : Option FieldType} {a : Array Value} {s : State} {m : MethodId} {meth : Method} {c : Code} (h1 : s.methodNamed? y = some m) (h2 : s.vm.method? m = some meth) (h3 : meth.code = some c) (h4 : c.code = bytes)
    (h5 : (c.maxLocals == mx && c.exceptionTable.isEmpty && decide (c.maxStack ≤ mostOperands) && decide (meth.sig.returnType = rt) && !meth.locks && decide (parseMethodDescriptor y.desc = some meth.sig)) = true) : (Jvm.Cond.code y bytes mx rt).before a s = true := by
  simp only [Bool.and_eq_true, beq_iff_eq, Bool.not_eq_true', decide_eq_true_eq] at h5
  obtain ⟨⟨⟨⟨⟨g1, g2⟩, g3⟩, g4⟩, g5⟩, g6⟩ := h5
  simp [Cond.before, Cond.holds, Cond.value, h1, h2, h3, h4, g1, g2, g3, g4, g5, g6]
def isCode : Jvm.Cond → Bool
  | .code _ _ _ _ => true
  | _ => false
theorem all_split {L : List Jvm.Cond} {P : Jvm.Cond → Bool} (h1 : L.all (fun c => isCode c || P c) = true) (h2 : ∀ c ∈ L.filter isCode, P c = true) : L.all P = true := by
  refine List.all_eq_true.mpr fun c hc => ?_
  have h := List.all_eq_true.mp h1 c hc
  rcases Bool.eq_false_or_eq_true (isCode c) with hi | hi
  · exact h2 c (List.mem_filter.mpr ⟨hc, hi⟩)
  · simpa [hi] using h
set_option maxRecDepth 65536 in
theorem w_c0 : (Jvm.Cond.code x code maxLocals ret).before args0 about1 = true := code_word (m := ⟨1, 1⟩) (meth := k1m1) (c := k1c1) (by decide +kernel) rfl rfl rfl (by decide +kernel)
set_option maxRecDepth 65536 in
theorem w_c1 : (Jvm.Cond.code ({ cls := "com/example/eulay/eulay/generation/PermutationsNextPinLaw", name := "digit", desc := "(II)I" } : Jvm.MethodName) method_3_code (2 : Nat) (Option.some Jvm.ClassFile.FieldType.int)).before args0 about1 = true := code_word (m := ⟨1, 2⟩) (meth := k1m2) (c := k1c2) (by decide +kernel) rfl rfl rfl (by decide +kernel)
set_option maxRecDepth 65536 in
theorem w_c2 : (Jvm.Cond.code ({ cls := "com/example/eulay/eulay/generation/PermutationsNextPinLaw", name := "increment", desc := "([II)Z" } : Jvm.MethodName) method_7_code (3 : Nat) (Option.some Jvm.ClassFile.FieldType.boolean)).before args0 about1 = true := code_word (m := ⟨1, 6⟩) (meth := k1m6) (c := k1c6) (by decide +kernel) rfl rfl rfl (by decide +kernel)
set_option maxRecDepth 65536 in
theorem w_c3 : (Jvm.Cond.code ({ cls := "com/example/eulay/eulay/generation/PermutationsNextPinLaw", name := "step", desc := "([IIIZ)Z" } : Jvm.MethodName) method_6_code (4 : Nat) (Option.some Jvm.ClassFile.FieldType.boolean)).before args0 about1 = true := code_word (m := ⟨1, 5⟩) (meth := k1m5) (c := k1c5) (by decide +kernel) rfl rfl rfl (by decide +kernel)
set_option maxRecDepth 65536 in
theorem w_c4 : (Jvm.Cond.code ({ cls := "com/example/eulay/eulay/generation/PermutationsNextPinLaw", name := "build", desc := "([II)[I" } : Jvm.MethodName) method_5_code (4 : Nat) (Option.some (Jvm.ClassFile.FieldType.array Jvm.ClassFile.FieldType.int))).before args0 about1 = true := code_word (m := ⟨1, 4⟩) (meth := k1m4) (c := k1c4) (by decide +kernel) rfl rfl rfl (by decide +kernel)
set_option maxRecDepth 65536 in
theorem w_c5 : (Jvm.Cond.code ({ cls := "com/example/eulay/eulay/generation/Permutations", name := "next", desc := "([I)Z" } : Jvm.MethodName) prog_18_method_3_code (5 : Nat) (Option.some Jvm.ClassFile.FieldType.boolean)).before args0 about1 = true := code_word (m := ⟨2, 1⟩) (meth := k2m1) (c := k2c1) (by decide +kernel) rfl rfl rfl (by decide +kernel)
set_option maxRecDepth 65536 in
theorem w_c6 : (Jvm.Cond.code ({ cls := "com/example/eulay/eulay/generation/PermutationsNextPinLaw", name := "same", desc := "([I[II)Z" } : Jvm.MethodName) method_8_code (3 : Nat) (Option.some Jvm.ClassFile.FieldType.boolean)).before args0 about1 = true := code_word (m := ⟨1, 7⟩) (meth := k1m7) (c := k1c7) (by decide +kernel) rfl rfl rfl (by decide +kernel)
set_option maxRecDepth 65536 in
theorem w_c7 : (Jvm.Cond.code ({ cls := "com/example/eulay/eulay/generation/PermutationsNextPinLaw", name := "take", desc := "([II)I" } : Jvm.MethodName) method_4_code (3 : Nat) (Option.some Jvm.ClassFile.FieldType.int)).before args0 about1 = true := code_word (m := ⟨1, 3⟩) (meth := k1m3) (c := k1c3) (by decide +kernel) rfl rfl rfl (by decide +kernel)
set_option maxRecDepth 65536 in
theorem w_c8 : (Jvm.Cond.code ({ cls := "com/example/eulay/eulay/generation/Permutations", name := "swap", desc := "([III)V" } : Jvm.MethodName) prog_18_method_4_code (4 : Nat) (Option.none : Option Jvm.ClassFile.FieldType)).before args0 about1 = true := code_word (m := ⟨2, 2⟩) (meth := k2m2) (c := k2c2) (by decide +kernel) rfl rfl rfl (by decide +kernel)
def codes1 : List Jvm.Cond := [Jvm.Cond.code x code maxLocals ret, Jvm.Cond.code ({ cls := "com/example/eulay/eulay/generation/PermutationsNextPinLaw", name := "digit", desc := "(II)I" } : Jvm.MethodName) method_3_code (2 : Nat) (Option.some Jvm.ClassFile.FieldType.int), Jvm.Cond.code ({ cls := "com/example/eulay/eulay/generation/PermutationsNextPinLaw", name := "increment", desc := "([II)Z" } : Jvm.MethodName) method_7_code (3 : Nat) (Option.some Jvm.ClassFile.FieldType.boolean), Jvm.Cond.code ({ cls := "com/example/eulay/eulay/generation/PermutationsNextPinLaw", name := "step", desc := "([IIIZ)Z" } : Jvm.MethodName) method_6_code (4 : Nat) (Option.some Jvm.ClassFile.FieldType.boolean), Jvm.Cond.code ({ cls := "com/example/eulay/eulay/generation/PermutationsNextPinLaw", name := "build", desc := "([II)[I" } : Jvm.MethodName) method_5_code (4 : Nat) (Option.some (Jvm.ClassFile.FieldType.array Jvm.ClassFile.FieldType.int)), Jvm.Cond.code ({ cls := "com/example/eulay/eulay/generation/Permutations", name := "next", desc := "([I)Z" } : Jvm.MethodName) prog_18_method_3_code (5 : Nat) (Option.some Jvm.ClassFile.FieldType.boolean), Jvm.Cond.code ({ cls := "com/example/eulay/eulay/generation/PermutationsNextPinLaw", name := "same", desc := "([I[II)Z" } : Jvm.MethodName) method_8_code (3 : Nat) (Option.some Jvm.ClassFile.FieldType.boolean), Jvm.Cond.code ({ cls := "com/example/eulay/eulay/generation/PermutationsNextPinLaw", name := "take", desc := "([II)I" } : Jvm.MethodName) method_4_code (3 : Nat) (Option.some Jvm.ClassFile.FieldType.int), Jvm.Cond.code ({ cls := "com/example/eulay/eulay/generation/Permutations", name := "swap", desc := "([III)V" } : Jvm.MethodName) prog_18_method_4_code (4 : Nat) (Option.none : Option Jvm.ClassFile.FieldType)]
set_option maxRecDepth 65536 in
theorem codes_eq : words1.filter isCode = codes1 := rfl
theorem w_codes : ∀ c ∈ words1.filter isCode, c.before args0 about1 = true := by
  rw [codes_eq]
  intro c hc
  simp only [codes1, List.mem_cons, List.not_mem_nil, or_false] at hc
  rcases hc with rfl | rfl | rfl | rfl | rfl | rfl | rfl | rfl | rfl
  · exact w_c0
  · exact w_c1
  · exact w_c2
  · exact w_c3
  · exact w_c4
  · exact w_c5
  · exact w_c6
  · exact w_c7
  · exact w_c8
set_option maxRecDepth 65536 in
theorem w_t1 : (words1.take 24).all (fun c => isCode c || c.before args0 about1) = true := by decide +kernel
set_option maxRecDepth 65536 in
theorem w_t2 : (words1.drop 24).all (fun c => isCode c || c.before args0 about1) = true := by decide +kernel
theorem w_tables : (allAtoms (Jvm.Cond.code x code maxLocals ret :: tables_1)).before args0 about1 = true := by
  rw [allAtoms_all]
  show words1.all (fun c => c.before args0 about1) = true
  refine all_split ?_ w_codes
  rw [← List.take_append_drop 24 words1, List.all_append, w_t1, w_t2]
  rfl
set_option maxRecDepth 65536 in
theorem w_case : (Jvm.Cond.and given_1 narrow_1).before args0 about1 = true := by decide +kernel
theorem w_applies : (headSpec (Jvm.Cond.code x code maxLocals ret :: tables_1) room_1).applies x e0.platform about1 = true :=
  (Spec.applies_iff w_frames).mpr ⟨w_running, w_runnable, w_alone, w_named, w_hears, w_ripe, w_room, w_tables⟩
theorem atStart : AtStart classFile x code maxLocals ret World_1 tables_1 room_1 Calls_1 rest_1 Pre_1 launch0 p0 e0 about1 theMethod args0 below0 :=
  ⟨lists_1, trivial, launch0.admits_env _ _ _, launch0.least_env, fairChoices_fair.cas, fairChoices_fair.clock, w_frames, w_args, w_heap, w_applies, trivial, trivial, w_case⟩
end start1
theorem witness_1 : WitnessClaimed_1 := ⟨start1.p0, start1.e0, start1.about1, start1.theMethod, start1.args0, start1.below0, start1.atStart⟩
end Jvm.Pilot.@@N@@
