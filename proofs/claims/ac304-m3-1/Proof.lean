import JvmDerived
import JvmDerived.Pilot.@@N@@Statement
import JvmDerived.Pilot.@@N@@Code
set_option linter.unusedVariables false
set_option linter.unusedSimpArgs false
namespace Jvm.Own
open Jvm Jvm.ClassFile Sem Op Lib Jvm.Free Jvm.Stand Jvm.LawKit Jvm.RoadKit Bundle

/-! a calculus of walks, over the library's step laws -/
def Wk (Z : State) (own nm : String) (bytes : ByteArray) (ml : Nat) (ret : Option FieldType) (R : Room) (n0 : Nat) (p : Program) (l : Launch) (e : Env) (s : State) (m : MethodId) (args : Array Value) (below : List Frame) (meth : Method) (c : Code) (T : State) (cells slots : Nat) (h : Heap) : Prop :=
  ∃ locs, Stand p l e R s m args below meth c T locs cells slots ∧ Fr n0 locs ∧ T.heap = h ∧ n0 ≤ s.heap.size ∧ p.tables.exec = Jvm.exec ∧ Z.Warmed39 s.vm ∧ c.code = bytes ∧ c.maxLocals = ml ∧ s.vm.findClass own = some m.cls ∧ meth.name = nm ∧ meth.sig.returnType = ret ∧ meth.locks = false
def Goes (p : Program) (e : Env) (below : List Frame) (s : State) (R : Room) (n0 : Nat) (Q : Option Value → Heap → Prop) (t : State) : Prop :=
  ∃ s₂ o, Steps p.tables e below t s₂ ∧ s₂.status = .running ∧ Ended s₂ below o ∧ ∃ v L, o = .returned v ∧ (Fr n0 L ∧ Q v s₂.heap) ∧ FrameEnd s o s₂ L R.cells R.slots
def Met (l : Launch) (Z : State) (y : MethodName) (bytes : ByteArray) (ml : Nat) (ret : Option FieldType) (R : Room) (ws : List Jvm.Cond) (n0 : Nat) (as : Array Value) (h0 : Heap) (Q : Option Value → Heap → Prop) : Prop :=
  MetFree l y (head1 (Jvm.Cond.code y bytes ml ret :: ws) R) (fun a U => a = as ∧ Z.Warmed39 U.vm ∧ U.heap = h0) (fun _ _ _ _ _ => True) (fun _ U o U' => ∃ v L, o = .returned v ∧ (Fr n0 L ∧ Q v U'.heap) ∧ FrameEnd U o U' L R.cells R.slots)
def bI (c : Prop) [Decidable c] : Int32 := if c then 1 else 0
theorem bI_t {c : Prop} [Decidable c] (h : c) : (1 : Int32) = bI c := (if_pos h).symm
theorem bI_f {c : Prop} [Decidable c] (h : ¬ c) : (0 : Int32) = bI c := (if_neg h).symm
theorem bI_01 (c : Prop) [Decidable c] : bI c = 0 ∨ bI c = 1 := by unfold bI; split <;> simp
theorem bI_eq0 (c : Prop) [Decidable c] : bI c = 0 ↔ ¬ c := by unfold bI; split <;> simp_all
theorem bI_eq1 (c : Prop) [Decidable c] : bI c = 1 ↔ c := by unfold bI; split <;> simp_all
theorem bI_inj (c d : Prop) [Decidable c] [Decidable d] : bI c = bI d ↔ (c ↔ d) := by unfold bI; split <;> split <;> simp_all
theorem bI_cong {c d : Prop} [Decidable c] [Decidable d] (h : c ↔ d) : bI c = bI d := (bI_inj c d).mpr h
def pcI (cd : ClassFile.Cond) (x y : Int32) : Prop := match cd with
  | .lt | .ge => x < y
  | .gt | .le => y < x
  | .eq | .ne => x = y
def pcJ (cd : ClassFile.Cond) (x y : Int64) : Prop := match cd with
  | .lt | .ge => x < y
  | .gt | .le => y < x
  | .eq | .ne => x = y

theorem own_selP {Z : State} {a0 : Array Value} {y : MethodName} {n : Nat} (wi : (Jvm.Cond.instantiable y.cls n).before a0 Z = true) (w6 : (Jvm.Cond.instanceMethod y).before a0 Z = true) (w7 : (Jvm.Cond.privateMethod y).before a0 Z = true) (hy : y.cls ≠ "java/lang/invoke/MethodHandle" ∧ y.cls ≠ "java/lang/invoke/VarHandle") : (Jvm.Cond.selects y.cls y y).before a0 Z = true := by
  obtain ⟨c, k, hc, hk, -, hf, -⟩ := Cond.instantiable_spec (show (Jvm.Cond.instantiable y.cls n).holds a0 Z none Z [] = true from wi)
  exact selects_self_of_private hc hk ((Bool.or_eq_false_iff.mp hf).1) (Cond.privateMethod_at w7) w6 hy
theorem own_bI01 (c : Prop) [Decidable c] : (c ∧ (bI c).toInt = 1) ∨ (¬ c ∧ (bI c).toInt = 0) := by unfold bI; split <;> simp_all
theorem own_mask' (m x : Int32) (k : Nat) (hk : k ≤ 31) (hm : m.toBitVec.toNat = 2 ^ k - 1) : (m &&& x).toInt = x.toInt % (2 ^ k : Nat) := by rw [Int32.and_comm]; exact c_mask x m k hk hm
theorem own_maskL' (m x : Int64) (k : Nat) (hk : k ≤ 63) (hm : m.toBitVec.toNat = 2 ^ k - 1) : (m &&& x).toInt = x.toInt % (2 ^ k : Nat) := by rw [Int64.and_comm]; exact c_maskL x m k hk hm
theorem own_mB (x m : Int32) (k : Nat) (hk : k ≤ 31) (hm : m.toBitVec.toNat = 2 ^ k - 1) (M : Nat) (hM : M + 1 = 2 ^ k) : 0 ≤ (x &&& m).toInt ∧ (x &&& m).toInt ≤ M := by
  rw [c_mask x m k hk hm, ← hM]; have a := Int.emod_nonneg x.toInt (b := ((M + 1 : Nat) : Int)) (by omega); have b := Int.emod_lt_of_pos x.toInt (b := ((M + 1 : Nat) : Int)) (by omega); omega
theorem own_mBL (x m : Int64) (k : Nat) (hk : k ≤ 63) (hm : m.toBitVec.toNat = 2 ^ k - 1) (M : Nat) (hM : M + 1 = 2 ^ k) : 0 ≤ (x &&& m).toInt ∧ (x &&& m).toInt ≤ M := by
  rw [c_maskL x m k hk hm, ← hM]; have a := Int.emod_nonneg x.toInt (b := ((M + 1 : Nat) : Int)) (by omega); have b := Int.emod_lt_of_pos x.toInt (b := ((M + 1 : Nat) : Int)) (by omega); omega
theorem own_mB' (m x : Int32) (k : Nat) (hk : k ≤ 31) (hm : m.toBitVec.toNat = 2 ^ k - 1) (M : Nat) (hM : M + 1 = 2 ^ k) : 0 ≤ (m &&& x).toInt ∧ (m &&& x).toInt ≤ M := by rw [Int32.and_comm]; exact own_mB x m k hk hm M hM
theorem own_mBL' (m x : Int64) (k : Nat) (hk : k ≤ 63) (hm : m.toBitVec.toNat = 2 ^ k - 1) (M : Nat) (hM : M + 1 = 2 ^ k) : 0 ≤ (m &&& x).toInt ∧ (m &&& x).toInt ≤ M := by rw [Int64.and_comm]; exact own_mBL x m k hk hm M hM
theorem own_iaddE (x y : Int32) (h : -2147483648 ≤ x.toInt + y.toInt ∧ x.toInt + y.toInt < 2147483648) : (x + y).toInt = x.toInt + y.toInt := by
  have a := c_iadd x y; have b := rng32 (x + y); omega
theorem own_isubE (x y : Int32) (h : -2147483648 ≤ x.toInt - y.toInt ∧ x.toInt - y.toInt < 2147483648) : (x - y).toInt = x.toInt - y.toInt := by
  have a := c_isub x y; have b := rng32 (x - y); omega
theorem own_imulE (x y : Int32) (h : -2147483648 ≤ x.toInt * y.toInt ∧ x.toInt * y.toInt < 2147483648) : (x * y).toInt = x.toInt * y.toInt := by
  have a := c_imul x y; have b := rng32 (x * y); omega
theorem own_inegE (x : Int32) (h : -2147483648 ≤ -x.toInt ∧ -x.toInt < 2147483648) : (-x).toInt = -x.toInt := by
  have a := c_ineg x; have b := rng32 (-x); omega
theorem own_laddE (x y : Int64) (h : -9223372036854775808 ≤ x.toInt + y.toInt ∧ x.toInt + y.toInt < 9223372036854775808) : (x + y).toInt = x.toInt + y.toInt := by
  have a := c_ladd x y; have b := rng64 (x + y); omega
theorem own_lsubE (x y : Int64) (h : -9223372036854775808 ≤ x.toInt - y.toInt ∧ x.toInt - y.toInt < 9223372036854775808) : (x - y).toInt = x.toInt - y.toInt := by
  have a := c_lsub x y; have b := rng64 (x - y); omega
theorem own_lmulE (x y : Int64) (h : -9223372036854775808 ≤ x.toInt * y.toInt ∧ x.toInt * y.toInt < 9223372036854775808) : (x * y).toInt = x.toInt * y.toInt := by
  have a := c_lmul x y; have b := rng64 (x * y); omega
theorem own_lnegE (x : Int64) (h : -9223372036854775808 ≤ -x.toInt ∧ -x.toInt < 9223372036854775808) : (-x).toInt = -x.toInt := by
  have a := c_lneg x; have b := rng64 (-x); omega
theorem own_l2iE (x : Int64) (h : -2147483648 ≤ x.toInt ∧ x.toInt < 2147483648) : x.toInt32.toInt = x.toInt := by
  have a := c_l2i x; have b := rng32 x.toInt32; omega
theorem own_ushB (x q : Int32) (k : Nat) (hk : q.toBitVec.toNat % 32 = k) (h0 : 0 < k) (M : Nat) (hM : M * 2 ^ k = 4294967296) : 0 ≤ ((x.toUInt32 >>> (q &&& 31).toUInt32).toInt32).toInt ∧ ((x.toUInt32 >>> (q &&& 31).toUInt32).toInt32).toInt < M := by
  rw [c_iushr x q k hk h0]
  have h2 : (0 : Int) < ((2 ^ k : Nat) : Int) := Int.natCast_pos.mpr (Nat.pow_pos (by decide))
  refine ⟨Int.ediv_nonneg (by omega) (Int.le_of_lt h2), Int.ediv_lt_of_lt_mul h2 ?_⟩
  have q : ((M : Int)) * ((2 ^ k : Nat) : Int) = 4294967296 := by rw [← Int.natCast_mul, hM]; rfl
  omega
theorem own_irem (x y : Int32) (d : Int) (hy : y.toInt = d) : (0 ≤ x.toInt → (x % y).toInt = x.toInt % d) ∧ (x.toInt < 0 → (x % y).toInt = -((-x.toInt) % d)) := c_irem x y d hy
theorem own_lrem (x y : Int64) (d : Int) (hy : y.toInt = d) : (0 ≤ x.toInt → (x % y).toInt = x.toInt % d) ∧ (x.toInt < 0 → (x % y).toInt = -((-x.toInt) % d)) := by rw [← lrem_mod]; exact c_lrem x y d hy
theorem own_iremV (x y : Int32) : (0 ≤ x.toInt → 0 < y.toInt → 0 ≤ (x % y).toInt ∧ (x % y).toInt < y.toInt ∧ (x % y).toInt ≤ x.toInt) := fun h1 h2 => ⟨((c_iremV x y).1 h1 h2).1, ((c_iremV x y).1 h1 h2).2.1, ((c_iremV x y).1 h1 h2).2.2.1⟩
theorem own_emod_le {a b : Int} (h1 : 0 ≤ a) (h2 : 0 < b) : a % b ≤ a := by
  have q := Int.emod_add_mul_ediv a b; have z : 0 ≤ b * (a / b) := Int.mul_nonneg (Int.le_of_lt h2) (Int.ediv_nonneg h1 (Int.le_of_lt h2)); omega
theorem own_lremV (x y : Int64) : (0 ≤ x.toInt → 0 < y.toInt → 0 ≤ (x % y).toInt ∧ (x % y).toInt < y.toInt ∧ (x % y).toInt ≤ x.toInt) := fun h1 h2 => by
  rw [Int64.toInt_mod, Int.tmod_eq_emod_of_nonneg h1]
  exact ⟨Int.emod_nonneg _ (by omega), Int.emod_lt_of_pos _ h2, own_emod_le h1 h2⟩
theorem own_iremP (x y : Int32) (d : Int) (hy : y.toInt = d) (h0 : 0 ≤ x.toInt) : (x % y).toInt = x.toInt % d := (own_irem x y d hy).1 h0
theorem own_iremB (x y : Int32) (d : Int) (hy : y.toInt = d) (hd : 0 < d) (h0 : 0 ≤ x.toInt) : 0 ≤ (x % y).toInt ∧ (x % y).toInt < d ∧ (x % y).toInt ≤ x.toInt := by
  rw [own_iremP x y d hy h0]; exact ⟨Int.emod_nonneg _ (by omega), Int.emod_lt_of_pos _ hd, own_emod_le h0 hd⟩
theorem own_iremM (x y : Int32) (d : Int) (hy : y.toInt = d) (hd : 0 < d) : -d < (x % y).toInt ∧ (x % y).toInt < d := by
  rcases Int.lt_or_le x.toInt 0 with h | h
  · rw [(own_irem x y d hy).2 h]; have a := Int.emod_nonneg (-x.toInt) (b := d) (by omega); have b := Int.emod_lt_of_pos (-x.toInt) hd; omega
  · have q := own_iremB x y d hy hd h; omega
theorem own_lremP (x y : Int64) (d : Int) (hy : y.toInt = d) (h0 : 0 ≤ x.toInt) : (x % y).toInt = x.toInt % d := (own_lrem x y d hy).1 h0
theorem own_lremB (x y : Int64) (d : Int) (hy : y.toInt = d) (hd : 0 < d) (h0 : 0 ≤ x.toInt) : 0 ≤ (x % y).toInt ∧ (x % y).toInt < d ∧ (x % y).toInt ≤ x.toInt := by
  rw [own_lremP x y d hy h0]; exact ⟨Int.emod_nonneg _ (by omega), Int.emod_lt_of_pos _ hd, own_emod_le h0 hd⟩
theorem own_lremM (x y : Int64) (d : Int) (hy : y.toInt = d) (hd : 0 < d) : -d < (x % y).toInt ∧ (x % y).toInt < d := by
  rcases Int.lt_or_le x.toInt 0 with h | h
  · rw [(own_lrem x y d hy).2 h]; have a := Int.emod_nonneg (-x.toInt) (b := d) (by omega); have b := Int.emod_lt_of_pos (-x.toInt) hd; omega
  · have q := own_lremB x y d hy hd h; omega
theorem own_bor (A B : Prop) [Decidable A] [Decidable B] : bI A ||| bI B = bI (A ∨ B) := by unfold bI; by_cases a : A <;> by_cases b : B <;> simp [a, b] <;> decide
theorem own_band (A B : Prop) [Decidable A] [Decidable B] : bI A &&& bI B = bI (A ∧ B) := by unfold bI; by_cases a : A <;> by_cases b : B <;> simp [a, b] <;> decide
def Apart (a b : Addr) : Prop := a ≠ b
theorem own_apS {a b : Addr} (h : Apart a b) : Apart b a := Ne.symm h
theorem own_new {h : Heap} {a b : Addr} (hb : b = h.size) (ha : a < h.size) : Apart a b := by subst hb; exact Nat.ne_of_lt ha
theorem own_sz {h0 h : Heap} {b : Addr} {ws : List Addr} (hb : b = h.size) (K : Keep h0 h ws) : h0.size ≤ b := by subst hb; exact K.1
theorem own_far {h : Heap} {a b : Addr} (ha : a < h.size) (hb : h.size ≤ b) : Apart a b := Nat.ne_of_lt (Nat.lt_of_lt_of_le ha hb)
theorem own_narZ {z : Int32} (hz : z = 0 ∨ z = 1) : narrow .boolean (.int z) = .int z := by rcases hz with rfl | rfl <;> rfl
theorem own_fitZ {z : Int32} (hz : z = 0 ∨ z = 1) : fits .boolean (.int z) = true := by rcases hz with rfl | rfl <;> rfl
theorem own_narZ' {z : Int32} (hz : z = 0 ∨ z = 1) : nar .boolean z = z := by rcases hz with rfl | rfl <;> rfl
theorem own_fin {c : Prop} [Decidable c] (h : c) : (some (Value.int (bI c))) = some (Value.int 1) := by rw [← bI_t h]
def own_up {α : Type} (f : Nat → α) (i : Nat) (x : α) : Nat → α := fun k => if k = i then x else f k
def AI (Z : State) (h : Heap) (a : Addr) (ty : FieldType) (n : Nat) (f : Nat → Int32) : Prop := n < 2 ^ 31 ∧ ∃ c : Cell, Arr Z h a c ty ∧ c.slots.size = n ∧ ∀ j, j < n → c.slots[j]? = some (.int (f j))
def AJ (Z : State) (h : Heap) (a : Addr) (n : Nat) (f : Nat → Int64) : Prop := n < 2 ^ 31 ∧ ∃ c : Cell, Arr Z h a c .long ∧ c.slots.size = n ∧ ∀ j, j < n → c.slots[j]? = some (.long (f j))
theorem AI.lt {Z : State} {h : Heap} {a : Addr} {ty : FieldType} {n : Nat} {f : Nat → Int32} (A : AI Z h a ty n f) : a < h.size := by obtain ⟨_, c, A, _⟩ := A; exact A.lt
theorem AI.ext {Z : State} {h h' : Heap} {a : Addr} {ty : FieldType} {n : Nat} {f : Nat → Int32} (A : AI Z h a ty n f) (E : Ext h h') : AI Z h' a ty n f := by obtain ⟨q, c, A, r⟩ := A; exact ⟨q, c, A.ext E, r⟩
theorem AI.keep {Z : State} {h h' : Heap} {a : Addr} {ws : List Addr} {ty : FieldType} {n : Nat} {f : Nat → Int32} (A : AI Z h a ty n f) (K : Keep h h' ws) (q : a ∉ ws) : AI Z h' a ty n f := by obtain ⟨z, c, A, r⟩ := A; exact ⟨z, c, ⟨K.2.1 a c A.1 q, A.2⟩, r⟩
theorem AI.other {Z : State} {h h' : Heap} {a b : Addr} {sl : Nat} {w : Value} {ty : FieldType} {n : Nat} {f : Nat → Int32} (A : AI Z h a ty n f) (W : Wr h h' b sl w) (q : a ≠ b) : AI Z h' a ty n f := by obtain ⟨z, c, A, r⟩ := A; exact ⟨z, c, A.other W q, r⟩
theorem AI.set {Z : State} {h h' : Heap} {a : Addr} {i : Nat} {x : Int32} {ty : FieldType} {n : Nat} {f : Nat → Int32} (A : AI Z h a ty n f) (W : Wr h h' a i (.int x)) : AI Z h' a ty n (own_up f i x) := by
  obtain ⟨z, c, A, r1, r2⟩ := A
  refine ⟨z, _, A.same W, by rw [sz_set]; exact r1, fun j hj => ?_⟩
  by_cases q : j = i
  · subst q; simp [Cell.setSlot, own_up, r1, hj]
  · simp only [Cell.setSlot, own_up, if_neg q]; rw [Array.getElem?_setIfInBounds_ne (Ne.symm q)]; exact r2 j hj
theorem AI.to {Z : State} {h : Heap} {a : Addr} {ty : FieldType} {n : Nat} {f g : Nat → Int32} (A : AI Z h a ty n f) (q : ∀ j, j < n → f j = g j) : AI Z h a ty n g := by obtain ⟨z, c, A, r1, r2⟩ := A; exact ⟨z, c, A, r1, fun j hj => by rw [← q j hj]; exact r2 j hj⟩
theorem AJ.lt {Z : State} {h : Heap} {a : Addr} {n : Nat} {f : Nat → Int64} (A : AJ Z h a n f) : a < h.size := by obtain ⟨_, c, A, _⟩ := A; exact A.lt
theorem AJ.ext {Z : State} {h h' : Heap} {a : Addr} {n : Nat} {f : Nat → Int64} (A : AJ Z h a n f) (E : Ext h h') : AJ Z h' a n f := by obtain ⟨q, c, A, r⟩ := A; exact ⟨q, c, A.ext E, r⟩
theorem AJ.keep {Z : State} {h h' : Heap} {a : Addr} {ws : List Addr} {n : Nat} {f : Nat → Int64} (A : AJ Z h a n f) (K : Keep h h' ws) (q : a ∉ ws) : AJ Z h' a n f := by obtain ⟨z, c, A, r⟩ := A; exact ⟨z, c, ⟨K.2.1 a c A.1 q, A.2⟩, r⟩
theorem AJ.other {Z : State} {h h' : Heap} {a b : Addr} {sl : Nat} {w : Value} {n : Nat} {f : Nat → Int64} (A : AJ Z h a n f) (W : Wr h h' b sl w) (q : a ≠ b) : AJ Z h' a n f := by obtain ⟨z, c, A, r⟩ := A; exact ⟨z, c, A.other W q, r⟩
theorem AJ.set {Z : State} {h h' : Heap} {a : Addr} {i : Nat} {x : Int64} {n : Nat} {f : Nat → Int64} (A : AJ Z h a n f) (W : Wr h h' a i (.long x)) : AJ Z h' a n (own_up f i x) := by
  obtain ⟨z, c, A, r1, r2⟩ := A
  refine ⟨z, _, A.same W, by rw [sz_set]; exact r1, fun j hj => ?_⟩
  by_cases q : j = i
  · subst q; simp [Cell.setSlot, own_up, r1, hj]
  · simp only [Cell.setSlot, own_up, if_neg q]; rw [Array.getElem?_setIfInBounds_ne (Ne.symm q)]; exact r2 j hj
theorem AJ.to {Z : State} {h : Heap} {a : Addr} {n : Nat} {f g : Nat → Int64} (A : AJ Z h a n f) (q : ∀ j, j < n → f j = g j) : AJ Z h a n g := by obtain ⟨z, c, A, r1, r2⟩ := A; exact ⟨z, c, A, r1, fun j hj => by rw [← q j hj]; exact r2 j hj⟩
theorem own_clN {n : Nat} (z : n < 2 ^ 31) : (Int32.ofNat n).toNatClampNeg = n ∧ ¬ Int32.ofNat n < 0 := by
  have q : (Int32.ofNat n).toInt = n := Int32.toInt_ofNat_small z
  constructor
  · simp only [Int32.toNatClampNeg, q]; omega
  · rw [Int32.lt_iff_toInt_lt, q]; simp only [Int32.reduceToInt]; omega
theorem own_rg (n : Nat) (f : Nat → Value) (d : Value) (i : Nat) (hi : i < n) : ((List.range n).map f).getD i d = f i := by simp [List.getD_eq_getElem?_getD, hi]
theorem own_arv {Z : State} {h : Heap} {a : Addr} {n : Nat} {f : Nat → Int64} (A : AJ Z h a n f) : ∃ k, Arv Z h a k .long (Int32.ofNat n) ((List.range n).map fun j => Value.long (f j)) (.long 0) := by
  obtain ⟨z, c, A, s1, e1⟩ := A
  have q := own_clN z
  refine ⟨c.cls, c, A, rfl, by rw [q.1]; exact s1, q.2, fun i hi => ?_, fun i hi => ?_⟩
  · rw [own_rg n _ _ i (by omega)]; exact e1 i (by omega)
  · rw [own_rg n _ _ i (by omega)]; rfl
theorem own_arvB {Z : State} {h : Heap} {b : Addr} {k : ClassId} {n : Nat} {vs : List Value} {f : Nat → Int64} (z : n < 2 ^ 31) (B : Arv Z h b k .long (Int32.ofNat n) vs (.long 0)) (q : ∀ j, j < n → vs.getD j (.long 0) = .long (f j)) : AJ Z h b n f := by
  obtain ⟨c, B1, -, s, -, H, -⟩ := B
  rw [(own_clN z).1] at s
  exact ⟨z, c, B1, s, fun j hj => by rw [H j (by omega), q j hj]⟩
theorem own_cpl (n n' k : Nat) (f f' : Nat → Int64) (h1 : k ≤ n) (h2 : k ≤ n') (j : Nat) (hj : j < n') : (((List.range n').map fun j => Value.long (f' j)).take 0 ++ ((List.range k).map fun i => ((List.range n).map fun j => Value.long (f j)).getD (0 + i) (.long 0)) ++ ((List.range n').map fun j => Value.long (f' j)).drop (0 + k)).getD j (.long 0) = .long (if j < k then f j else f' j) := by
  rw [List.take_zero, List.nil_append, List.getD_eq_getElem?_getD]
  by_cases q : j < k
  · rw [List.getElem?_append_left (by simpa using q), if_pos q, List.getElem?_map, List.getElem?_range q, Option.map_some, Option.getD_some, Nat.zero_add, own_rg n _ _ j (by omega)]
  · rw [List.getElem?_append_right (by simpa using q), if_neg q, List.getElem?_drop, List.length_map, List.length_range, Nat.zero_add, List.getElem?_map, show k + (j - k) = j by omega, List.getElem?_range hj, Option.map_some, Option.getD_some]
theorem own_ix {j : Int32} {n k : Nat} (hk : k = n) (q : 0 ≤ j.toInt ∧ j.toInt < n) : ¬ (j < 0 ∨ k ≤ j.toNatClampNeg) := by
  simp only [Int32.lt_iff_toInt_lt, Int32.toNatClampNeg, Int32.reduceToInt]; omega
theorem own_ixn {j : Int32} {n : Nat} (q : 0 ≤ j.toInt ∧ j.toInt < n) : j.toNatClampNeg < n := by simp only [Int32.toNatClampNeg]; omega
section Walk
variable {Z : State} {a0 : Array Value} {own nm : String} {bytes : ByteArray} {ml : Nat} {ret : Option FieldType} {R : Room} {n0 : Nat} {p : Program} {l : Launch} {e : Env} {s : State} {m : MethodId} {args : Array Value} {below : List Frame} {meth : Method} {c : Code} {T : State} {cells slots : Nat} {h : Heap} {Q : Option Value → Heap → Prop}
theorem Met.intro {y : MethodName} {as : Array Value} {h0 : Heap} {ws : List Jvm.Cond} (hp : plainFor y = true) (hn : n0 ≤ h0.size)
    (body : ∀ p e s m below meth c T, Wk Z y.cls y.name bytes ml ret R n0 p l e s m as below meth c T 0 0 h0 → Goes p e below s R n0 Q (T.setTop (entryFrame m as ml))) : Met l Z y bytes ml ret R ws n0 as h0 Q := by
  refine MetFree.of_bodySF hp hisR ?_
  intro p e s m args below meth c s₁ Bd hml0 hP hK
  obtain ⟨rfl, hZ, hh⟩ := hP
  have e0 : s₁.heap = h0 := by rw [← hh, Bd.state]; rfl
  exact body p e s m below meth c s₁ ⟨[], Stand.of_body Bd, Fr.nil n0, e0, by rw [hh]; exact hn, Bd.exec, hZ, Bd.bytes, hml0, findClass_of_methodNamed Bd.named, (name_of_methodNamed Bd.named Bd.method).1, Bd.returns, Bd.notSynchronized⟩
theorem g_of {A B : State} (hs : ∀ t, Steps p.tables e below A t → Steps p.tables e below B t) (k : Goes p e below s R n0 Q A) : Goes p e below s R n0 Q B := by
  obtain ⟨s2, o, h1, h2⟩ := k
  exact ⟨s2, o, hs _ h1, h2⟩
theorem g_cast {g g' : JFrame} (q : g = g') (k : Goes p e below s R n0 Q (T.setTop g')) : Goes p e below s R n0 Q (T.setTop g) := q ▸ k
theorem g_eqI {pc : Nat} {Ls : Array Slot} {x y : Int32} {rest : List Value} (q : x = y) (k : Goes p e below s R n0 Q (T.setTop (mkF m pc Ls (.int y :: rest)))) : Goes p e below s R n0 Q (T.setTop (mkF m pc Ls (.int x :: rest))) := q ▸ k
theorem g_eqJ {pc : Nat} {Ls : Array Slot} {x y : Int64} {rest : List Value} (q : x = y) (k : Goes p e below s R n0 Q (T.setTop (mkF m pc Ls (.long y :: rest)))) : Goes p e below s R n0 Q (T.setTop (mkF m pc Ls (.long x :: rest))) := q ▸ k
theorem g_letJ {pc : Nat} {Ls : Array Slot} {x : Int64} {rest : List Value} (k : ∀ y, y = x → Goes p e below s R n0 Q (T.setTop (mkF m pc Ls (.long y :: rest)))) : Goes p e below s R n0 Q (T.setTop (mkF m pc Ls (.long x :: rest))) := k x rfl
theorem g_letI {pc : Nat} {Ls : Array Slot} {x : Int32} {rest : List Value} (k : ∀ y, y = x → Goes p e below s R n0 Q (T.setTop (mkF m pc Ls (.int y :: rest)))) : Goes p e below s R n0 Q (T.setTop (mkF m pc Ls (.int x :: rest))) := k x rfl
theorem Wk.size (X : Wk Z own nm bytes ml ret R n0 p l e s m args below meth c T cells slots h) : n0 ≤ h.size := by
  obtain ⟨locs, X, N, eh, hn, hx, hZ, hby, hml, hown, hnm, hret, hlk⟩ := X
  have q : s.heap.size ≤ T.heap.size := X.same.2.1
  rw [eh] at q
  exact Nat.le_trans hn q
theorem Wk.mono (X : Wk Z own nm bytes ml ret R n0 p l e s m args below meth c T cells slots h) {cells' slots' : Nat} (hc : cells ≤ cells') (hs : slots ≤ slots') : Wk Z own nm bytes ml ret R n0 p l e s m args below meth c T cells' slots' h := by
  obtain ⟨locs, X, N, eh, hn, hx, hZ, hby, hml, hown, hnm, hret, hlk⟩ := X
  exact ⟨locs, X.mono hc hs, N, eh, hn, hx, hZ, hby, hml, hown, hnm, hret, hlk⟩
theorem g_out (X : Wk Z own nm bytes ml ret R n0 p l e s m args below meth c T cells slots h) {g : JFrame} {v : Option Value} (hv : ret = none → v = none) (hc : cells ≤ R.cells) (hs : slots ≤ R.slots)
    (st : ∀ locs, Stand p l e R s m args below meth c T locs cells slots → p.tables.exec = Jvm.exec → meth.sig.returnType = ret → c.code = bytes → ∀ fs, (∀ (f : JFrame) (acts : List Action), f.method = m → f.locked = none → f.entered = [] → (doReturn e (T.setTop f) acts v).1 = T.setFrames fs) → Steps p.tables e below (T.setTop g) (T.setFrames fs))
    (hQ : Q v h) : Goes p e below s R n0 Q (T.setTop g) := by
  obtain ⟨locs, X, N, eh, hn, hx, hZ, hby, hml, hown, hnm, hret, hlk⟩ := X
  obtain ⟨fs, hr, hrun, hended, hW, hsame⟩ := X.leave (v := v) (fun q => hv (hret ▸ q)) hlk
  exact ⟨_, _, st _ X hx hret hby fs hr, hrun, hended, _, _, rfl, ⟨N, by rw [show (T.setFrames fs).heap = T.heap from rfl, eh]; exact hQ⟩, ⟨_, rfl⟩, hW, hsame.mono hc hs⟩
theorem g_retI (X : Wk Z own nm bytes ml (some .int) R n0 p l e s m args below meth c T cells slots h) {pc : Nat} {Ls : Array Slot} {z : Int32} {rest : List Value} (hd : decode bytes pc = .ok (.ireturn, 1)) (hc : cells ≤ R.cells) (hs : slots ≤ R.slots) (hQ : Q (some (.int z)) h) : Goes p e below s R n0 Q (T.setTop (mkF m pc Ls (.int z :: rest))) :=
  g_out X nofun hc hs (fun _ Y hx hr hb fs hl => retOut Y hx hr rfl (Or.inl ⟨rfl, Or.inl rfl, _, rfl⟩) (hb ▸ hd) hl) hQ
theorem g_retZ (X : Wk Z own nm bytes ml (some .boolean) R n0 p l e s m args below meth c T cells slots h) {pc : Nat} {Ls : Array Slot} {z : Int32} {rest : List Value} (hd : decode bytes pc = .ok (.ireturn, 1)) (hc : cells ≤ R.cells) (hs : slots ≤ R.slots) (hz : z = 0 ∨ z = 1) (hQ : Q (some (.int z)) h) : Goes p e below s R n0 Q (T.setTop (mkF m pc Ls (.int z :: rest))) :=
  g_out X nofun hc hs (fun _ Y hx hr hb fs hl => retOut Y hx hr (by rcases hz with rfl | rfl <;> rfl) (Or.inl ⟨rfl, Or.inr (Or.inl rfl), _, rfl⟩) (hb ▸ hd) hl) hQ
theorem g_retJ (X : Wk Z own nm bytes ml (some .long) R n0 p l e s m args below meth c T cells slots h) {pc : Nat} {Ls : Array Slot} {z : Int64} {rest : List Value} (hd : decode bytes pc = .ok (.lreturn, 1)) (hc : cells ≤ R.cells) (hs : slots ≤ R.slots) (hQ : Q (some (.long z)) h) : Goes p e below s R n0 Q (T.setTop (mkF m pc Ls (.long z :: rest))) :=
  g_out X nofun hc hs (fun _ Y hx hr hb fs hl => retOut Y hx hr rfl (Or.inr (Or.inl ⟨rfl, rfl, _, rfl⟩)) (hb ▸ hd) hl) hQ
theorem g_retA {t : FieldType} (X : Wk Z own nm bytes ml (some t) R n0 p l e s m args below meth c T cells slots h) (ht : t.isReference = true) {pc : Nat} {Ls : Array Slot} {w : Value} (hw : w.isRef = true) {rest : List Value} (hd : decode bytes pc = .ok (.areturn, 1)) (hc : cells ≤ R.cells) (hs : slots ≤ R.slots) (hQ : Q (some w) h) : Goes p e below s R n0 Q (T.setTop (mkF m pc Ls (w :: rest))) :=
  g_out X nofun hc hs (fun _ Y hx hr hb fs hl => retOut Y hx hr (by cases t <;> simp_all [narrow, FieldType.isReference]) (Or.inr (Or.inr (Or.inr (Or.inr ⟨rfl, ht, hw⟩)))) (hb ▸ hd) hl) hQ
theorem g_ret0 (X : Wk Z own nm bytes ml none R n0 p l e s m args below meth c T cells slots h) {pc : Nat} {Ls : Array Slot} (hd : decode bytes pc = .ok (.return_, 1)) (hc : cells ≤ R.cells) (hs : slots ≤ R.slots) (hQ : Q none h) : Goes p e below s R n0 Q (T.setTop (mkF m pc Ls [])) :=
  g_out X (fun _ => rfl) hc hs (fun _ Y hx hr hb fs hl => Y.returnOut hx hr (hb ▸ hd) hl) hQ
theorem g_lcmp (X : Wk Z own nm bytes ml ret R n0 p l e s m args below meth c T cells slots h) {pc q : Nat} {Ls : Array Slot} {rest : List Value} {x y : Int64} (hd : decode bytes pc = .ok (.lcmp, 1)) (hq : pc + 1 = q) (k : Goes p e below s R n0 Q (T.setTop (mkF m q Ls (.int (lcmpW x y) :: rest)))) : Goes p e below s R n0 Q (T.setTop (mkF m pc Ls (.long y :: .long x :: rest))) := by
  obtain ⟨locs, X, N, eh, hn, hx, hZ, hby, hml, hown, hnm, hret, hlk⟩ := X
  subst hby hq
  exact g_of (fun t r => XS.lcmp X.here hx rfl hd rfl r) k
theorem g_iadd (X : Wk Z own nm bytes ml ret R n0 p l e s m args below meth c T cells slots h) {pc q : Nat} {Ls : Array Slot} {rest : List Value} {x y : Int32} (hd : decode bytes pc = .ok (.iadd, 1)) (hq : pc + 1 = q) (k : Goes p e below s R n0 Q (T.setTop (mkF m q Ls (.int (x + y) :: rest)))) : Goes p e below s R n0 Q (T.setTop (mkF m pc Ls (.int y :: .int x :: rest))) := by
  obtain ⟨locs, X, N, eh, hn, hx, hZ, hby, hml, hown, hnm, hret, hlk⟩ := X
  subst hby hq
  exact g_of (fun t r => XS.iadd X.here hx rfl hd rfl r) k
theorem g_isub (X : Wk Z own nm bytes ml ret R n0 p l e s m args below meth c T cells slots h) {pc q : Nat} {Ls : Array Slot} {rest : List Value} {x y : Int32} (hd : decode bytes pc = .ok (.isub, 1)) (hq : pc + 1 = q) (k : Goes p e below s R n0 Q (T.setTop (mkF m q Ls (.int (x - y) :: rest)))) : Goes p e below s R n0 Q (T.setTop (mkF m pc Ls (.int y :: .int x :: rest))) := by
  obtain ⟨locs, X, N, eh, hn, hx, hZ, hby, hml, hown, hnm, hret, hlk⟩ := X
  subst hby hq
  exact g_of (fun t r => XS.isub X.here hx rfl hd rfl r) k
theorem g_imul (X : Wk Z own nm bytes ml ret R n0 p l e s m args below meth c T cells slots h) {pc q : Nat} {Ls : Array Slot} {rest : List Value} {x y : Int32} (hd : decode bytes pc = .ok (.imul, 1)) (hq : pc + 1 = q) (k : Goes p e below s R n0 Q (T.setTop (mkF m q Ls (.int (x * y) :: rest)))) : Goes p e below s R n0 Q (T.setTop (mkF m pc Ls (.int y :: .int x :: rest))) := by
  obtain ⟨locs, X, N, eh, hn, hx, hZ, hby, hml, hown, hnm, hret, hlk⟩ := X
  subst hby hq
  exact g_of (fun t r => XS.imul X.here hx rfl hd rfl r) k
theorem g_iand (X : Wk Z own nm bytes ml ret R n0 p l e s m args below meth c T cells slots h) {pc q : Nat} {Ls : Array Slot} {rest : List Value} {x y : Int32} (hd : decode bytes pc = .ok (.iand, 1)) (hq : pc + 1 = q) (k : Goes p e below s R n0 Q (T.setTop (mkF m q Ls (.int (x &&& y) :: rest)))) : Goes p e below s R n0 Q (T.setTop (mkF m pc Ls (.int y :: .int x :: rest))) := by
  obtain ⟨locs, X, N, eh, hn, hx, hZ, hby, hml, hown, hnm, hret, hlk⟩ := X
  subst hby hq
  exact g_of (fun t r => XS.iand X.here hx rfl hd rfl r) k
theorem g_ior (X : Wk Z own nm bytes ml ret R n0 p l e s m args below meth c T cells slots h) {pc q : Nat} {Ls : Array Slot} {rest : List Value} {x y : Int32} (hd : decode bytes pc = .ok (.ior, 1)) (hq : pc + 1 = q) (k : Goes p e below s R n0 Q (T.setTop (mkF m q Ls (.int (x ||| y) :: rest)))) : Goes p e below s R n0 Q (T.setTop (mkF m pc Ls (.int y :: .int x :: rest))) := by
  obtain ⟨locs, X, N, eh, hn, hx, hZ, hby, hml, hown, hnm, hret, hlk⟩ := X
  subst hby hq
  exact g_of (fun t r => XS.ior X.here hx rfl hd rfl r) k
theorem g_ixor (X : Wk Z own nm bytes ml ret R n0 p l e s m args below meth c T cells slots h) {pc q : Nat} {Ls : Array Slot} {rest : List Value} {x y : Int32} (hd : decode bytes pc = .ok (.ixor, 1)) (hq : pc + 1 = q) (k : Goes p e below s R n0 Q (T.setTop (mkF m q Ls (.int (x ^^^ y) :: rest)))) : Goes p e below s R n0 Q (T.setTop (mkF m pc Ls (.int y :: .int x :: rest))) := by
  obtain ⟨locs, X, N, eh, hn, hx, hZ, hby, hml, hown, hnm, hret, hlk⟩ := X
  subst hby hq
  exact g_of (fun t r => XS.ixor X.here hx rfl hd rfl r) k
theorem g_ladd (X : Wk Z own nm bytes ml ret R n0 p l e s m args below meth c T cells slots h) {pc q : Nat} {Ls : Array Slot} {rest : List Value} {x y : Int64} (hd : decode bytes pc = .ok (.ladd, 1)) (hq : pc + 1 = q) (k : Goes p e below s R n0 Q (T.setTop (mkF m q Ls (.long (x + y) :: rest)))) : Goes p e below s R n0 Q (T.setTop (mkF m pc Ls (.long y :: .long x :: rest))) := by
  obtain ⟨locs, X, N, eh, hn, hx, hZ, hby, hml, hown, hnm, hret, hlk⟩ := X
  subst hby hq
  exact g_of (fun t r => XS.ladd X.here hx rfl hd rfl r) k
theorem g_lsub (X : Wk Z own nm bytes ml ret R n0 p l e s m args below meth c T cells slots h) {pc q : Nat} {Ls : Array Slot} {rest : List Value} {x y : Int64} (hd : decode bytes pc = .ok (.lsub, 1)) (hq : pc + 1 = q) (k : Goes p e below s R n0 Q (T.setTop (mkF m q Ls (.long (x - y) :: rest)))) : Goes p e below s R n0 Q (T.setTop (mkF m pc Ls (.long y :: .long x :: rest))) := by
  obtain ⟨locs, X, N, eh, hn, hx, hZ, hby, hml, hown, hnm, hret, hlk⟩ := X
  subst hby hq
  exact g_of (fun t r => XS.lsub X.here hx rfl hd rfl r) k
theorem g_lmul (X : Wk Z own nm bytes ml ret R n0 p l e s m args below meth c T cells slots h) {pc q : Nat} {Ls : Array Slot} {rest : List Value} {x y : Int64} (hd : decode bytes pc = .ok (.lmul, 1)) (hq : pc + 1 = q) (k : Goes p e below s R n0 Q (T.setTop (mkF m q Ls (.long (x * y) :: rest)))) : Goes p e below s R n0 Q (T.setTop (mkF m pc Ls (.long y :: .long x :: rest))) := by
  obtain ⟨locs, X, N, eh, hn, hx, hZ, hby, hml, hown, hnm, hret, hlk⟩ := X
  subst hby hq
  exact g_of (fun t r => XS.lmul X.here hx rfl hd rfl r) k
theorem g_land (X : Wk Z own nm bytes ml ret R n0 p l e s m args below meth c T cells slots h) {pc q : Nat} {Ls : Array Slot} {rest : List Value} {x y : Int64} (hd : decode bytes pc = .ok (.land, 1)) (hq : pc + 1 = q) (k : Goes p e below s R n0 Q (T.setTop (mkF m q Ls (.long (x &&& y) :: rest)))) : Goes p e below s R n0 Q (T.setTop (mkF m pc Ls (.long y :: .long x :: rest))) := by
  obtain ⟨locs, X, N, eh, hn, hx, hZ, hby, hml, hown, hnm, hret, hlk⟩ := X
  subst hby hq
  exact g_of (fun t r => XS.land X.here hx rfl hd rfl r) k
theorem g_lor (X : Wk Z own nm bytes ml ret R n0 p l e s m args below meth c T cells slots h) {pc q : Nat} {Ls : Array Slot} {rest : List Value} {x y : Int64} (hd : decode bytes pc = .ok (.lor, 1)) (hq : pc + 1 = q) (k : Goes p e below s R n0 Q (T.setTop (mkF m q Ls (.long (x ||| y) :: rest)))) : Goes p e below s R n0 Q (T.setTop (mkF m pc Ls (.long y :: .long x :: rest))) := by
  obtain ⟨locs, X, N, eh, hn, hx, hZ, hby, hml, hown, hnm, hret, hlk⟩ := X
  subst hby hq
  exact g_of (fun t r => XS.lor X.here hx rfl hd rfl r) k
theorem g_lxor (X : Wk Z own nm bytes ml ret R n0 p l e s m args below meth c T cells slots h) {pc q : Nat} {Ls : Array Slot} {rest : List Value} {x y : Int64} (hd : decode bytes pc = .ok (.lxor, 1)) (hq : pc + 1 = q) (k : Goes p e below s R n0 Q (T.setTop (mkF m q Ls (.long (x ^^^ y) :: rest)))) : Goes p e below s R n0 Q (T.setTop (mkF m pc Ls (.long y :: .long x :: rest))) := by
  obtain ⟨locs, X, N, eh, hn, hx, hZ, hby, hml, hown, hnm, hret, hlk⟩ := X
  subst hby hq
  exact g_of (fun t r => XS.lxor X.here hx rfl hd rfl r) k
theorem g_idiv (X : Wk Z own nm bytes ml ret R n0 p l e s m args below meth c T cells slots h) {pc q : Nat} {Ls : Array Slot} {rest : List Value} {x y : Int32} (hd : decode bytes pc = .ok (.idiv, 1)) (hq : pc + 1 = q) (hy : y ≠ 0) (k : Goes p e below s R n0 Q (T.setTop (mkF m q Ls (.int (x / y) :: rest)))) : Goes p e below s R n0 Q (T.setTop (mkF m pc Ls (.int y :: .int x :: rest))) := by
  obtain ⟨locs, X, N, eh, hn, hx, hZ, hby, hml, hown, hnm, hret, hlk⟩ := X
  subst hby hq
  exact g_of (fun t r => XS.idiv X.here hx rfl hd rfl hy r) k
theorem g_irem (X : Wk Z own nm bytes ml ret R n0 p l e s m args below meth c T cells slots h) {pc q : Nat} {Ls : Array Slot} {rest : List Value} {x y : Int32} (hd : decode bytes pc = .ok (.irem, 1)) (hq : pc + 1 = q) (hy : y ≠ 0) (k : Goes p e below s R n0 Q (T.setTop (mkF m q Ls (.int (x % y) :: rest)))) : Goes p e below s R n0 Q (T.setTop (mkF m pc Ls (.int y :: .int x :: rest))) := by
  obtain ⟨locs, X, N, eh, hn, hx, hZ, hby, hml, hown, hnm, hret, hlk⟩ := X
  subst hby hq
  exact g_of (fun t r => XS.irem X.here hx rfl hd rfl hy (by rw [irem_eq_mod x y]; exact r)) k
theorem g_ldiv (X : Wk Z own nm bytes ml ret R n0 p l e s m args below meth c T cells slots h) {pc q : Nat} {Ls : Array Slot} {rest : List Value} {x y : Int64} (hd : decode bytes pc = .ok (.ldiv, 1)) (hq : pc + 1 = q) (hy : y ≠ 0) (k : Goes p e below s R n0 Q (T.setTop (mkF m q Ls (.long (x / y) :: rest)))) : Goes p e below s R n0 Q (T.setTop (mkF m pc Ls (.long y :: .long x :: rest))) := by
  obtain ⟨locs, X, N, eh, hn, hx, hZ, hby, hml, hown, hnm, hret, hlk⟩ := X
  subst hby hq
  exact g_of (fun t r => XS.ldiv X.here hx rfl hd rfl hy r) k
theorem g_lrem (X : Wk Z own nm bytes ml ret R n0 p l e s m args below meth c T cells slots h) {pc q : Nat} {Ls : Array Slot} {rest : List Value} {x y : Int64} (hd : decode bytes pc = .ok (.lrem, 1)) (hq : pc + 1 = q) (hy : y ≠ 0) (k : Goes p e below s R n0 Q (T.setTop (mkF m q Ls (.long (x % y) :: rest)))) : Goes p e below s R n0 Q (T.setTop (mkF m pc Ls (.long y :: .long x :: rest))) := by
  obtain ⟨locs, X, N, eh, hn, hx, hZ, hby, hml, hown, hnm, hret, hlk⟩ := X
  subst hby hq
  exact g_of (fun t r => XS.lrem X.here hx rfl hd rfl hy (by rw [lrem_mod x y]; exact r)) k
theorem g_ineg (X : Wk Z own nm bytes ml ret R n0 p l e s m args below meth c T cells slots h) {pc q : Nat} {Ls : Array Slot} {rest : List Value} {x : Int32} (hd : decode bytes pc = .ok (.ineg, 1)) (hq : pc + 1 = q) (k : Goes p e below s R n0 Q (T.setTop (mkF m q Ls (.int (-x) :: rest)))) : Goes p e below s R n0 Q (T.setTop (mkF m pc Ls (.int x :: rest))) := by
  obtain ⟨locs, X, N, eh, hn, hx, hZ, hby, hml, hown, hnm, hret, hlk⟩ := X
  subst hby hq
  exact g_of (fun t r => XS.ineg X.here hx rfl hd rfl r) k
theorem g_lneg (X : Wk Z own nm bytes ml ret R n0 p l e s m args below meth c T cells slots h) {pc q : Nat} {Ls : Array Slot} {rest : List Value} {x : Int64} (hd : decode bytes pc = .ok (.lneg, 1)) (hq : pc + 1 = q) (k : Goes p e below s R n0 Q (T.setTop (mkF m q Ls (.long (-x) :: rest)))) : Goes p e below s R n0 Q (T.setTop (mkF m pc Ls (.long x :: rest))) := by
  obtain ⟨locs, X, N, eh, hn, hx, hZ, hby, hml, hown, hnm, hret, hlk⟩ := X
  subst hby hq
  exact g_of (fun t r => XS.lneg X.here hx rfl hd rfl r) k
theorem g_i2l (X : Wk Z own nm bytes ml ret R n0 p l e s m args below meth c T cells slots h) {pc q : Nat} {Ls : Array Slot} {rest : List Value} {x : Int32} (hd : decode bytes pc = .ok (.i2l, 1)) (hq : pc + 1 = q) (k : Goes p e below s R n0 Q (T.setTop (mkF m q Ls (.long x.toInt64 :: rest)))) : Goes p e below s R n0 Q (T.setTop (mkF m pc Ls (.int x :: rest))) := by
  obtain ⟨locs, X, N, eh, hn, hx, hZ, hby, hml, hown, hnm, hret, hlk⟩ := X
  subst hby hq
  exact g_of (fun t r => XS.i2l X.here hx rfl hd rfl r) k
theorem g_l2i (X : Wk Z own nm bytes ml ret R n0 p l e s m args below meth c T cells slots h) {pc q : Nat} {Ls : Array Slot} {rest : List Value} {x : Int64} (hd : decode bytes pc = .ok (.l2i, 1)) (hq : pc + 1 = q) (k : Goes p e below s R n0 Q (T.setTop (mkF m q Ls (.int x.toInt32 :: rest)))) : Goes p e below s R n0 Q (T.setTop (mkF m pc Ls (.long x :: rest))) := by
  obtain ⟨locs, X, N, eh, hn, hx, hZ, hby, hml, hown, hnm, hret, hlk⟩ := X
  subst hby hq
  exact g_of (fun t r => XS.l2i X.here hx rfl hd rfl r) k
theorem g_i2b (X : Wk Z own nm bytes ml ret R n0 p l e s m args below meth c T cells slots h) {pc q : Nat} {Ls : Array Slot} {rest : List Value} {x : Int32} (hd : decode bytes pc = .ok (.i2b, 1)) (hq : pc + 1 = q) (k : Goes p e below s R n0 Q (T.setTop (mkF m q Ls (.int x.toInt8.toInt32 :: rest)))) : Goes p e below s R n0 Q (T.setTop (mkF m pc Ls (.int x :: rest))) := by
  obtain ⟨locs, X, N, eh, hn, hx, hZ, hby, hml, hown, hnm, hret, hlk⟩ := X
  subst hby hq
  exact g_of (fun t r => XS.i2b X.here hx rfl hd rfl r) k
theorem g_i2s (X : Wk Z own nm bytes ml ret R n0 p l e s m args below meth c T cells slots h) {pc q : Nat} {Ls : Array Slot} {rest : List Value} {x : Int32} (hd : decode bytes pc = .ok (.i2s, 1)) (hq : pc + 1 = q) (k : Goes p e below s R n0 Q (T.setTop (mkF m q Ls (.int x.toInt16.toInt32 :: rest)))) : Goes p e below s R n0 Q (T.setTop (mkF m pc Ls (.int x :: rest))) := by
  obtain ⟨locs, X, N, eh, hn, hx, hZ, hby, hml, hown, hnm, hret, hlk⟩ := X
  subst hby hq
  exact g_of (fun t r => XS.i2s X.here hx rfl hd rfl r) k
theorem g_ishl (X : Wk Z own nm bytes ml ret R n0 p l e s m args below meth c T cells slots h) {pc q : Nat} {Ls : Array Slot} {rest : List Value} {x y : Int32} (hd : decode bytes pc = .ok (.ishl, 1)) (hq : pc + 1 = q) (k : Goes p e below s R n0 Q (T.setTop (mkF m q Ls (.int (x <<< (y &&& 31)) :: rest)))) : Goes p e below s R n0 Q (T.setTop (mkF m pc Ls (.int y :: .int x :: rest))) := by
  obtain ⟨locs, X, N, eh, hn, hx, hZ, hby, hml, hown, hnm, hret, hlk⟩ := X
  subst hby hq
  exact g_of (fun t r => XS.ishl X.here hx rfl hd rfl r) k
theorem g_ishr (X : Wk Z own nm bytes ml ret R n0 p l e s m args below meth c T cells slots h) {pc q : Nat} {Ls : Array Slot} {rest : List Value} {x y : Int32} (hd : decode bytes pc = .ok (.ishr, 1)) (hq : pc + 1 = q) (k : Goes p e below s R n0 Q (T.setTop (mkF m q Ls (.int (x >>> (y &&& 31)) :: rest)))) : Goes p e below s R n0 Q (T.setTop (mkF m pc Ls (.int y :: .int x :: rest))) := by
  obtain ⟨locs, X, N, eh, hn, hx, hZ, hby, hml, hown, hnm, hret, hlk⟩ := X
  subst hby hq
  exact g_of (fun t r => XS.ishr X.here hx rfl hd rfl r) k
theorem g_iushr (X : Wk Z own nm bytes ml ret R n0 p l e s m args below meth c T cells slots h) {pc q : Nat} {Ls : Array Slot} {rest : List Value} {x y : Int32} (hd : decode bytes pc = .ok (.iushr, 1)) (hq : pc + 1 = q) (k : Goes p e below s R n0 Q (T.setTop (mkF m q Ls (.int ((x.toUInt32 >>> (y &&& 31).toUInt32).toInt32) :: rest)))) : Goes p e below s R n0 Q (T.setTop (mkF m pc Ls (.int y :: .int x :: rest))) := by
  obtain ⟨locs, X, N, eh, hn, hx, hZ, hby, hml, hown, hnm, hret, hlk⟩ := X
  subst hby hq
  exact g_of (fun t r => XS.iushr X.here hx rfl hd rfl r) k
theorem g_lshl (X : Wk Z own nm bytes ml ret R n0 p l e s m args below meth c T cells slots h) {pc q : Nat} {Ls : Array Slot} {rest : List Value} {x : Int64} {y : Int32} (hd : decode bytes pc = .ok (.lshl, 1)) (hq : pc + 1 = q) (k : Goes p e below s R n0 Q (T.setTop (mkF m q Ls (.long (x <<< (y &&& 0x3f).toInt64) :: rest)))) : Goes p e below s R n0 Q (T.setTop (mkF m pc Ls (.int y :: .long x :: rest))) := by
  obtain ⟨locs, X, N, eh, hn, hx, hZ, hby, hml, hown, hnm, hret, hlk⟩ := X
  subst hby hq
  exact g_of (fun t r => XS.lshl X.here hx rfl hd rfl r) k
theorem g_lshr (X : Wk Z own nm bytes ml ret R n0 p l e s m args below meth c T cells slots h) {pc q : Nat} {Ls : Array Slot} {rest : List Value} {x : Int64} {y : Int32} (hd : decode bytes pc = .ok (.lshr, 1)) (hq : pc + 1 = q) (k : Goes p e below s R n0 Q (T.setTop (mkF m q Ls (.long (x >>> (y &&& 0x3f).toInt64) :: rest)))) : Goes p e below s R n0 Q (T.setTop (mkF m pc Ls (.int y :: .long x :: rest))) := by
  obtain ⟨locs, X, N, eh, hn, hx, hZ, hby, hml, hown, hnm, hret, hlk⟩ := X
  subst hby hq
  exact g_of (fun t r => XS.lshr X.here hx rfl hd rfl r) k
theorem g_lushr (X : Wk Z own nm bytes ml ret R n0 p l e s m args below meth c T cells slots h) {pc q : Nat} {Ls : Array Slot} {rest : List Value} {x : Int64} {y : Int32} (hd : decode bytes pc = .ok (.lushr, 1)) (hq : pc + 1 = q) (k : Goes p e below s R n0 Q (T.setTop (mkF m q Ls (.long ((x.toUInt64 >>> (y &&& 0x3f).toInt64.toUInt64).toInt64) :: rest)))) : Goes p e below s R n0 Q (T.setTop (mkF m pc Ls (.int y :: .long x :: rest))) := by
  obtain ⟨locs, X, N, eh, hn, hx, hZ, hby, hml, hown, hnm, hret, hlk⟩ := X
  subst hby hq
  exact g_of (fun t r => XS.lushr X.here hx rfl hd rfl r) k
theorem g_iload (X : Wk Z own nm bytes ml ret R n0 p l e s m args below meth c T cells slots h) {pc q : Nat} {Ls : Array Slot} {st : List Value} {i : Nat} {v : Int32} (hd : decode bytes pc = .ok (.iload i, 2)) (hq : pc + 2 = q) (hl : Ls[i]? = some (.val (.int v))) (k : Goes p e below s R n0 Q (T.setTop (mkF m q Ls (.int v :: st)))) : Goes p e below s R n0 Q (T.setTop (mkF m pc Ls st)) := by
  obtain ⟨locs, X, N, eh, hn, hx, hZ, hby, hml, hown, hnm, hret, hlk⟩ := X
  subst hby hq
  exact g_of (fun t r => XS.iload X.here hx rfl hd hl r) k
theorem g_iloadN (X : Wk Z own nm bytes ml ret R n0 p l e s m args below meth c T cells slots h) {pc q : Nat} {Ls : Array Slot} {st : List Value} {i : Fin 4} {v : Int32} (hd : decode bytes pc = .ok (.iload_n i, 1)) (hq : pc + 1 = q) (hl : Ls[i.val]? = some (.val (.int v))) (k : Goes p e below s R n0 Q (T.setTop (mkF m q Ls (.int v :: st)))) : Goes p e below s R n0 Q (T.setTop (mkF m pc Ls st)) := by
  obtain ⟨locs, X, N, eh, hn, hx, hZ, hby, hml, hown, hnm, hret, hlk⟩ := X
  subst hby hq
  exact g_of (fun t r => XS.iloadN X.here hx rfl hd hl r) k
theorem g_lload (X : Wk Z own nm bytes ml ret R n0 p l e s m args below meth c T cells slots h) {pc q : Nat} {Ls : Array Slot} {st : List Value} {i : Nat} {v : Int64} (hd : decode bytes pc = .ok (.lload i, 2)) (hq : pc + 2 = q) (hl : Ls[i]? = some (.val (.long v))) (k : Goes p e below s R n0 Q (T.setTop (mkF m q Ls (.long v :: st)))) : Goes p e below s R n0 Q (T.setTop (mkF m pc Ls st)) := by
  obtain ⟨locs, X, N, eh, hn, hx, hZ, hby, hml, hown, hnm, hret, hlk⟩ := X
  subst hby hq
  exact g_of (fun t r => XS.lload X.here hx rfl hd hl r) k
theorem g_lloadN (X : Wk Z own nm bytes ml ret R n0 p l e s m args below meth c T cells slots h) {pc q : Nat} {Ls : Array Slot} {st : List Value} {i : Fin 4} {v : Int64} (hd : decode bytes pc = .ok (.lload_n i, 1)) (hq : pc + 1 = q) (hl : Ls[i.val]? = some (.val (.long v))) (k : Goes p e below s R n0 Q (T.setTop (mkF m q Ls (.long v :: st)))) : Goes p e below s R n0 Q (T.setTop (mkF m pc Ls st)) := by
  obtain ⟨locs, X, N, eh, hn, hx, hZ, hby, hml, hown, hnm, hret, hlk⟩ := X
  subst hby hq
  exact g_of (fun t r => XS.lloadN X.here hx rfl hd hl r) k
theorem g_aload (X : Wk Z own nm bytes ml ret R n0 p l e s m args below meth c T cells slots h) {pc q : Nat} {Ls : Array Slot} {st : List Value} {i : Nat} {v : Value} (hd : decode bytes pc = .ok (.aload i, 2)) (hq : pc + 2 = q) (hl : Ls[i]? = some (.val v)) (hv : v.isRef = true) (k : Goes p e below s R n0 Q (T.setTop (mkF m q Ls (v :: st)))) : Goes p e below s R n0 Q (T.setTop (mkF m pc Ls st)) := by
  obtain ⟨locs, X, N, eh, hn, hx, hZ, hby, hml, hown, hnm, hret, hlk⟩ := X
  subst hby hq
  exact g_of (fun t r => XS.aload X.here hx rfl hd hl hv r) k
theorem g_aloadN (X : Wk Z own nm bytes ml ret R n0 p l e s m args below meth c T cells slots h) {pc q : Nat} {Ls : Array Slot} {st : List Value} {i : Fin 4} {v : Value} (hd : decode bytes pc = .ok (.aload_n i, 1)) (hq : pc + 1 = q) (hl : Ls[i.val]? = some (.val v)) (hv : v.isRef = true) (k : Goes p e below s R n0 Q (T.setTop (mkF m q Ls (v :: st)))) : Goes p e below s R n0 Q (T.setTop (mkF m pc Ls st)) := by
  obtain ⟨locs, X, N, eh, hn, hx, hZ, hby, hml, hown, hnm, hret, hlk⟩ := X
  subst hby hq
  exact g_of (fun t r => XS.aloadN X.here hx rfl hd hl hv r) k
theorem g_istore (X : Wk Z own nm bytes ml ret R n0 p l e s m args below meth c T cells slots h) {pc q : Nat} {Ls : Array Slot} {rest : List Value} {i : Nat} {v : Int32} {L' : Array Slot} (hd : decode bytes pc = .ok (.istore i, 2)) (hq : pc + 2 = q) (hl : storeLocals Ls i (.int v) = some L') (k : Goes p e below s R n0 Q (T.setTop (mkF m q L' rest))) : Goes p e below s R n0 Q (T.setTop (mkF m pc Ls (.int v :: rest))) := by
  obtain ⟨locs, X, N, eh, hn, hx, hZ, hby, hml, hown, hnm, hret, hlk⟩ := X
  subst hby hq
  exact g_of (fun t r => XS.istore X.here hx rfl hd rfl hl r) k
theorem g_istoreN (X : Wk Z own nm bytes ml ret R n0 p l e s m args below meth c T cells slots h) {pc q : Nat} {Ls : Array Slot} {rest : List Value} {i : Fin 4} {v : Int32} {L' : Array Slot} (hd : decode bytes pc = .ok (.istore_n i, 1)) (hq : pc + 1 = q) (hl : storeLocals Ls i.val (.int v) = some L') (k : Goes p e below s R n0 Q (T.setTop (mkF m q L' rest))) : Goes p e below s R n0 Q (T.setTop (mkF m pc Ls (.int v :: rest))) := by
  obtain ⟨locs, X, N, eh, hn, hx, hZ, hby, hml, hown, hnm, hret, hlk⟩ := X
  subst hby hq
  exact g_of (fun t r => XS.istoreN X.here hx rfl hd rfl hl r) k
theorem g_lstore (X : Wk Z own nm bytes ml ret R n0 p l e s m args below meth c T cells slots h) {pc q : Nat} {Ls : Array Slot} {rest : List Value} {i : Nat} {v : Int64} {L' : Array Slot} (hd : decode bytes pc = .ok (.lstore i, 2)) (hq : pc + 2 = q) (hl : storeLocals Ls i (.long v) = some L') (k : Goes p e below s R n0 Q (T.setTop (mkF m q L' rest))) : Goes p e below s R n0 Q (T.setTop (mkF m pc Ls (.long v :: rest))) := by
  obtain ⟨locs, X, N, eh, hn, hx, hZ, hby, hml, hown, hnm, hret, hlk⟩ := X
  subst hby hq
  exact g_of (fun t r => XS.lstore X.here hx rfl hd rfl hl r) k
theorem g_lstoreN (X : Wk Z own nm bytes ml ret R n0 p l e s m args below meth c T cells slots h) {pc q : Nat} {Ls : Array Slot} {rest : List Value} {i : Fin 4} {v : Int64} {L' : Array Slot} (hd : decode bytes pc = .ok (.lstore_n i, 1)) (hq : pc + 1 = q) (hl : storeLocals Ls i.val (.long v) = some L') (k : Goes p e below s R n0 Q (T.setTop (mkF m q L' rest))) : Goes p e below s R n0 Q (T.setTop (mkF m pc Ls (.long v :: rest))) := by
  obtain ⟨locs, X, N, eh, hn, hx, hZ, hby, hml, hown, hnm, hret, hlk⟩ := X
  subst hby hq
  exact g_of (fun t r => XS.lstoreN X.here hx rfl hd rfl hl r) k
theorem g_astore (X : Wk Z own nm bytes ml ret R n0 p l e s m args below meth c T cells slots h) {pc q : Nat} {Ls : Array Slot} {rest : List Value} {i : Nat} {v : Value} {L' : Array Slot} (hd : decode bytes pc = .ok (.astore i, 2)) (hq : pc + 2 = q) (hv : v.isRef = true) (hl : storeLocals Ls i v = some L') (k : Goes p e below s R n0 Q (T.setTop (mkF m q L' rest))) : Goes p e below s R n0 Q (T.setTop (mkF m pc Ls (v :: rest))) := by
  obtain ⟨locs, X, N, eh, hn, hx, hZ, hby, hml, hown, hnm, hret, hlk⟩ := X
  subst hby hq
  exact g_of (fun t r => XS.astore X.here hx rfl hd rfl hv hl r) k
theorem g_astoreN (X : Wk Z own nm bytes ml ret R n0 p l e s m args below meth c T cells slots h) {pc q : Nat} {Ls : Array Slot} {rest : List Value} {i : Fin 4} {v : Value} {L' : Array Slot} (hd : decode bytes pc = .ok (.astore_n i, 1)) (hq : pc + 1 = q) (hv : v.isRef = true) (hl : storeLocals Ls i.val v = some L') (k : Goes p e below s R n0 Q (T.setTop (mkF m q L' rest))) : Goes p e below s R n0 Q (T.setTop (mkF m pc Ls (v :: rest))) := by
  obtain ⟨locs, X, N, eh, hn, hx, hZ, hby, hml, hown, hnm, hret, hlk⟩ := X
  subst hby hq
  exact g_of (fun t r => XS.astoreN X.here hx rfl hd rfl hv hl r) k
theorem g_iconst (X : Wk Z own nm bytes ml ret R n0 p l e s m args below meth c T cells slots h) {pc q : Nat} {Ls : Array Slot} {st : List Value} {i : Int} {v : Int32} (hd : decode bytes pc = .ok (.iconst i, 1)) (hq : pc + 1 = q) (hv : Int32.ofInt i = v) (k : Goes p e below s R n0 Q (T.setTop (mkF m q Ls (.int v :: st)))) : Goes p e below s R n0 Q (T.setTop (mkF m pc Ls st)) := by
  obtain ⟨locs, X, N, eh, hn, hx, hZ, hby, hml, hown, hnm, hret, hlk⟩ := X
  subst hby hq
  exact g_of (fun t r => XS.iconst X.here hx rfl hd (by rw [hv]; exact r)) k
theorem g_bipush (X : Wk Z own nm bytes ml ret R n0 p l e s m args below meth c T cells slots h) {pc q : Nat} {Ls : Array Slot} {st : List Value} {i : Int} {v : Int32} (hd : decode bytes pc = .ok (.bipush i, 2)) (hq : pc + 2 = q) (hv : (Int8.ofInt i).toInt32 = v) (k : Goes p e below s R n0 Q (T.setTop (mkF m q Ls (.int v :: st)))) : Goes p e below s R n0 Q (T.setTop (mkF m pc Ls st)) := by
  obtain ⟨locs, X, N, eh, hn, hx, hZ, hby, hml, hown, hnm, hret, hlk⟩ := X
  subst hby hq
  exact g_of (fun t r => XS.bipush X.here hx rfl hd (by rw [hv]; exact r)) k
theorem g_sipush (X : Wk Z own nm bytes ml ret R n0 p l e s m args below meth c T cells slots h) {pc q : Nat} {Ls : Array Slot} {st : List Value} {i : Int} {v : Int32} (hd : decode bytes pc = .ok (.sipush i, 3)) (hq : pc + 3 = q) (hv : (Int16.ofInt i).toInt32 = v) (k : Goes p e below s R n0 Q (T.setTop (mkF m q Ls (.int v :: st)))) : Goes p e below s R n0 Q (T.setTop (mkF m pc Ls st)) := by
  obtain ⟨locs, X, N, eh, hn, hx, hZ, hby, hml, hown, hnm, hret, hlk⟩ := X
  subst hby hq
  exact g_of (fun t r => XS.sipush X.here hx rfl hd (by rw [hv]; exact r)) k
theorem g_lconst (X : Wk Z own nm bytes ml ret R n0 p l e s m args below meth c T cells slots h) {pc q : Nat} {Ls : Array Slot} {st : List Value} {i : Fin 2} {v : Int64} (hd : decode bytes pc = .ok (.lconst i, 1)) (hq : pc + 1 = q) (hv : Int64.ofNat i = v) (k : Goes p e below s R n0 Q (T.setTop (mkF m q Ls (.long v :: st)))) : Goes p e below s R n0 Q (T.setTop (mkF m pc Ls st)) := by
  obtain ⟨locs, X, N, eh, hn, hx, hZ, hby, hml, hown, hnm, hret, hlk⟩ := X
  subst hby hq
  exact g_of (fun t r => XS.lconst X.here hx rfl hd (by rw [hv]; exact r)) k
theorem g_aconst_null (X : Wk Z own nm bytes ml ret R n0 p l e s m args below meth c T cells slots h) {pc q : Nat} {Ls : Array Slot} {st : List Value} (hd : decode bytes pc = .ok (.aconst_null, 1)) (hq : pc + 1 = q) (k : Goes p e below s R n0 Q (T.setTop (mkF m q Ls (.null :: st)))) : Goes p e below s R n0 Q (T.setTop (mkF m pc Ls st)) := by
  obtain ⟨locs, X, N, eh, hn, hx, hZ, hby, hml, hown, hnm, hret, hlk⟩ := X
  subst hby hq
  exact g_of (fun t r => XS.aconstNull X.here hx rfl hd r) k
theorem g_dup (X : Wk Z own nm bytes ml ret R n0 p l e s m args below meth c T cells slots h) {pc q : Nat} {Ls : Array Slot} {rest : List Value} {v : Value} (hd : decode bytes pc = .ok (.dup, 1)) (hq : pc + 1 = q) (hv : v.category = 1) (k : Goes p e below s R n0 Q (T.setTop (mkF m q Ls (v :: v :: rest)))) : Goes p e below s R n0 Q (T.setTop (mkF m pc Ls (v :: rest))) := by
  obtain ⟨locs, X, N, eh, hn, hx, hZ, hby, hml, hown, hnm, hret, hlk⟩ := X
  subst hby hq
  exact g_of (fun t r => XS.dup X.here hx rfl hd rfl hv r) k
theorem g_dup_x1 (X : Wk Z own nm bytes ml ret R n0 p l e s m args below meth c T cells slots h) {pc q : Nat} {Ls : Array Slot} {rest : List Value} {v w : Value} (hd : decode bytes pc = .ok (.dup_x1, 1)) (hq : pc + 1 = q) (hv : v.category = 1) (hw : w.category = 1) (k : Goes p e below s R n0 Q (T.setTop (mkF m q Ls (v :: w :: v :: rest)))) : Goes p e below s R n0 Q (T.setTop (mkF m pc Ls (v :: w :: rest))) := by
  obtain ⟨locs, X, N, eh, hn, hx, hZ, hby, hml, hown, hnm, hret, hlk⟩ := X
  subst hby hq
  exact g_of (fun t r => XS.dupX1 X.here hx rfl hd rfl hv hw r) k
theorem g_dup2 (X : Wk Z own nm bytes ml ret R n0 p l e s m args below meth c T cells slots h) {pc q : Nat} {Ls : Array Slot} {rest : List Value} {v w : Value} (hd : decode bytes pc = .ok (.dup2, 1)) (hq : pc + 1 = q) (hv : v.category = 1) (hw : w.category = 1) (k : Goes p e below s R n0 Q (T.setTop (mkF m q Ls (v :: w :: v :: w :: rest)))) : Goes p e below s R n0 Q (T.setTop (mkF m pc Ls (v :: w :: rest))) := by
  obtain ⟨locs, X, N, eh, hn, hx, hZ, hby, hml, hown, hnm, hret, hlk⟩ := X
  subst hby hq
  exact g_of (fun t r => Jvm.Free.XT.dup2 X.here hx rfl hd rfl hv hw r) k
theorem g_dup2L (X : Wk Z own nm bytes ml ret R n0 p l e s m args below meth c T cells slots h) {pc q : Nat} {Ls : Array Slot} {rest : List Value} {x : Int64} (hd : decode bytes pc = .ok (.dup2, 1)) (hq : pc + 1 = q) (k : Goes p e below s R n0 Q (T.setTop (mkF m q Ls (.long x :: .long x :: rest)))) : Goes p e below s R n0 Q (T.setTop (mkF m pc Ls (.long x :: rest))) := by
  obtain ⟨locs, X, N, eh, hn, hx, hZ, hby, hml, hown, hnm, hret, hlk⟩ := X
  subst hby hq
  exact g_of (fun t r => Jvm.Free.XT.dup2L X.here hx rfl hd rfl r) k
theorem g_pop (X : Wk Z own nm bytes ml ret R n0 p l e s m args below meth c T cells slots h) {pc q : Nat} {Ls : Array Slot} {rest : List Value} {v : Value} (hd : decode bytes pc = .ok (.pop, 1)) (hq : pc + 1 = q) (hv : v.category = 1) (k : Goes p e below s R n0 Q (T.setTop (mkF m q Ls rest))) : Goes p e below s R n0 Q (T.setTop (mkF m pc Ls (v :: rest))) := by
  obtain ⟨locs, X, N, eh, hn, hx, hZ, hby, hml, hown, hnm, hret, hlk⟩ := X
  subst hby hq
  exact g_of (fun t r => XS.pop X.here hx rfl hd rfl hv r) k
theorem g_iinc (X : Wk Z own nm bytes ml ret R n0 p l e s m args below meth c T cells slots h) {pc q : Nat} {Ls L' : Array Slot} {st : List Value} {i : Nat} {cst : Int} {x d : Int32} (hd : decode bytes pc = .ok (.iinc i cst, 3)) (hq : pc + 3 = q) (hl : Ls[i]? = some (.val (.int x))) (hc : Int32.ofInt cst = d) (hl' : storeLocals Ls i (.int (x + d)) = some L') (k : Goes p e below s R n0 Q (T.setTop (mkF m q L' st))) : Goes p e below s R n0 Q (T.setTop (mkF m pc Ls st)) := by
  obtain ⟨locs, X, N, eh, hn, hx, hZ, hby, hml, hown, hnm, hret, hlk⟩ := X
  subst hby hq hc
  exact g_of (fun t r => XS.iinc X.here hx rfl hd hl hl' r) k
theorem g_goto (X : Wk Z own nm bytes ml ret R n0 p l e s m args below meth c T cells slots h) {pc q : Nat} {Ls : Array Slot} {st : List Value} {o : Int} (hd : decode bytes pc = .ok (.goto o, 3)) (ho : 0 ≤ (pc : Int) + o) (hq : ((pc : Int) + o).toNat = q) (k : Goes p e below s R n0 Q (T.setTop (mkF m q Ls st))) : Goes p e below s R n0 Q (T.setTop (mkF m pc Ls st)) := by
  obtain ⟨locs, X, N, eh, hn, hx, hZ, hby, hml, hown, hnm, hret, hlk⟩ := X
  subst hby
  exact g_of (fun t r => XS.goto X.here hx rfl (pc0 := pc) rfl hd ho hq r) k
theorem g_bor (X : Wk Z own nm bytes ml ret R n0 p l e s m args below meth c T cells slots h) {pc q : Nat} {Ls : Array Slot} {rest : List Value} {A B : Prop} [Decidable A] [Decidable B] (hd : decode bytes pc = .ok (.ior, 1)) (hq : pc + 1 = q) (k : Goes p e below s R n0 Q (T.setTop (mkF m q Ls (.int (bI (A ∨ B)) :: rest)))) : Goes p e below s R n0 Q (T.setTop (mkF m pc Ls (.int (bI B) :: .int (bI A) :: rest))) :=
  g_ior X hd hq (by rw [show bI A ||| bI B = bI (A ∨ B) from own_bor A B]; exact k)
theorem g_band (X : Wk Z own nm bytes ml ret R n0 p l e s m args below meth c T cells slots h) {pc q : Nat} {Ls : Array Slot} {rest : List Value} {A B : Prop} [Decidable A] [Decidable B] (hd : decode bytes pc = .ok (.iand, 1)) (hq : pc + 1 = q) (k : Goes p e below s R n0 Q (T.setTop (mkF m q Ls (.int (bI (A ∧ B)) :: rest)))) : Goes p e below s R n0 Q (T.setTop (mkF m pc Ls (.int (bI B) :: .int (bI A) :: rest))) :=
  g_iand X hd hq (by rw [show bI A &&& bI B = bI (A ∧ B) from own_band A B]; exact k)
theorem hI {cd : ClassFile.Cond} {x y : Int32} (hcd : cd = .lt ∨ cd = .gt ∨ cd = .eq) : (pcI cd x y → if_icmp.holds cd x y = true) ∧ (¬ pcI cd x y → if_icmp.holds cd x y = false) := by
  rcases hcd with rfl | rfl | rfl
  · exact ⟨fun q => (tlt q).1, fun q => (flt q).1⟩
  · exact ⟨fun q => (tlt q).2.2.1, fun q => (flt q).2.2.1⟩
  · exact ⟨fun q => (teq q).1, fun q => (feq q).1⟩
theorem hN {cd : ClassFile.Cond} {x y : Int32} (hcd : cd = .ge ∨ cd = .le ∨ cd = .ne) : (pcI cd x y → if_icmp.holds cd x y = false) ∧ (¬ pcI cd x y → if_icmp.holds cd x y = true) := by
  rcases hcd with rfl | rfl | rfl
  · exact ⟨fun q => (tlt q).2.1, fun q => (flt q).2.1⟩
  · exact ⟨fun q => (tlt q).2.2.2, fun q => (flt q).2.2.2⟩
  · exact ⟨fun q => (teq q).2, fun q => (feq q).2⟩
theorem pcL {cd : ClassFile.Cond} {x y : Int64} : pcI cd (lcmpW x y) 0 ↔ pcJ cd x y := by
  cases cd
  · exact lw_eq x y
  · exact lw_eq x y
  · exact lw_lt x y
  · exact lw_lt x y
  · exact lw_gt x y
  · exact lw_gt x y
instance pcI_dec (cd : ClassFile.Cond) (x y : Int32) : Decidable (pcI cd x y) := by cases cd <;> (unfold pcI; infer_instance)
theorem g_icmpA (X : Wk Z own nm bytes ml ret R n0 p l e s m args below meth c T cells slots h) {pc q t : Nat} {Ls : Array Slot} {rest : List Value} {o : Int} {cd : ClassFile.Cond} {x y : Int32} (hd : decode bytes pc = .ok (.if_icmp cd o, 3)) (hcd : cd = .lt ∨ cd = .gt ∨ cd = .eq) (hq : pc + 3 = q) (ho : 0 ≤ (pc : Int) + o) (ht : ((pc : Int) + o).toNat = t) (kP : pcI cd x y → Goes p e below s R n0 Q (T.setTop (mkF m t Ls rest))) (kN : ¬ pcI cd x y → Goes p e below s R n0 Q (T.setTop (mkF m q Ls rest))) : Goes p e below s R n0 Q (T.setTop (mkF m pc Ls (.int y :: .int x :: rest))) := by
  obtain ⟨locs, X, N, eh, hn, hx, hZ, hby, hml, hown, hnm, hret, hlk⟩ := X
  subst hby hq
  by_cases hP : pcI cd x y
  · exact g_of (fun _ r => XS.icmpYes X.here hx rfl (pc0 := pc) rfl hd rfl ((hI hcd).1 hP) ho ht r) (kP hP)
  · exact g_of (fun _ r => XS.icmpNo X.here hx rfl hd rfl ((hI hcd).2 hP) r) (kN hP)
theorem g_ifA (X : Wk Z own nm bytes ml ret R n0 p l e s m args below meth c T cells slots h) {pc q t : Nat} {Ls : Array Slot} {rest : List Value} {o : Int} {cd : ClassFile.Cond} {x : Int32} (hd : decode bytes pc = .ok (.ifCond cd o, 3)) (hcd : cd = .lt ∨ cd = .gt ∨ cd = .eq) (hq : pc + 3 = q) (ho : 0 ≤ (pc : Int) + o) (ht : ((pc : Int) + o).toNat = t) (kP : pcI cd x 0 → Goes p e below s R n0 Q (T.setTop (mkF m t Ls rest))) (kN : ¬ pcI cd x 0 → Goes p e below s R n0 Q (T.setTop (mkF m q Ls rest))) : Goes p e below s R n0 Q (T.setTop (mkF m pc Ls (.int x :: rest))) := by
  obtain ⟨locs, X, N, eh, hn, hx, hZ, hby, hml, hown, hnm, hret, hlk⟩ := X
  subst hby hq
  by_cases hP : pcI cd x 0
  · exact g_of (fun _ r => XS.ifYes X.here hx rfl (pc0 := pc) rfl hd rfl ((if0 _ _).trans ((hI hcd).1 hP)) ho ht r) (kP hP)
  · exact g_of (fun _ r => XS.ifNo X.here hx rfl hd rfl ((if0 _ _).trans ((hI hcd).2 hP)) r) (kN hP)
theorem g_lcmpA (X : Wk Z own nm bytes ml ret R n0 p l e s m args below meth c T cells slots h) {pc q t : Nat} {Ls : Array Slot} {rest : List Value} {o : Int} {cd : ClassFile.Cond} {x y : Int64} {q1 : Nat} (hd0 : decode bytes pc = .ok (.lcmp, 1)) (hq1 : pc + 1 = q1) (hd : decode bytes q1 = .ok (.ifCond cd o, 3)) (hcd : cd = .lt ∨ cd = .gt ∨ cd = .eq) (hq : q1 + 3 = q) (ho : 0 ≤ (q1 : Int) + o) (ht : ((q1 : Int) + o).toNat = t) (kP : pcJ cd x y → Goes p e below s R n0 Q (T.setTop (mkF m t Ls rest))) (kN : ¬ pcJ cd x y → Goes p e below s R n0 Q (T.setTop (mkF m q Ls rest))) : Goes p e below s R n0 Q (T.setTop (mkF m pc Ls (.long y :: .long x :: rest))) := by
  refine g_lcmp X hd0 hq1 (g_ifA X hd hcd hq ho ht (fun z => kP (pcL.mp z)) (fun z => kN (fun w => z (pcL.mpr w))))
theorem g_icmpB (X : Wk Z own nm bytes ml ret R n0 p l e s m args below meth c T cells slots h) {pc q t : Nat} {Ls : Array Slot} {rest : List Value} {o : Int} {cd : ClassFile.Cond} {x y : Int32} (hd : decode bytes pc = .ok (.if_icmp cd o, 3)) (hcd : cd = .ge ∨ cd = .le ∨ cd = .ne) (hq : pc + 3 = q) (ho : 0 ≤ (pc : Int) + o) (ht : ((pc : Int) + o).toNat = t) (kP : pcI cd x y → Goes p e below s R n0 Q (T.setTop (mkF m q Ls rest))) (kN : ¬ pcI cd x y → Goes p e below s R n0 Q (T.setTop (mkF m t Ls rest))) : Goes p e below s R n0 Q (T.setTop (mkF m pc Ls (.int y :: .int x :: rest))) := by
  obtain ⟨locs, X, N, eh, hn, hx, hZ, hby, hml, hown, hnm, hret, hlk⟩ := X
  subst hby hq
  by_cases hP : pcI cd x y
  · exact g_of (fun _ r => XS.icmpNo X.here hx rfl hd rfl ((hN hcd).1 hP) r) (kP hP)
  · exact g_of (fun _ r => XS.icmpYes X.here hx rfl (pc0 := pc) rfl hd rfl ((hN hcd).2 hP) ho ht r) (kN hP)
theorem g_ifB (X : Wk Z own nm bytes ml ret R n0 p l e s m args below meth c T cells slots h) {pc q t : Nat} {Ls : Array Slot} {rest : List Value} {o : Int} {cd : ClassFile.Cond} {x : Int32} (hd : decode bytes pc = .ok (.ifCond cd o, 3)) (hcd : cd = .ge ∨ cd = .le ∨ cd = .ne) (hq : pc + 3 = q) (ho : 0 ≤ (pc : Int) + o) (ht : ((pc : Int) + o).toNat = t) (kP : pcI cd x 0 → Goes p e below s R n0 Q (T.setTop (mkF m q Ls rest))) (kN : ¬ pcI cd x 0 → Goes p e below s R n0 Q (T.setTop (mkF m t Ls rest))) : Goes p e below s R n0 Q (T.setTop (mkF m pc Ls (.int x :: rest))) := by
  obtain ⟨locs, X, N, eh, hn, hx, hZ, hby, hml, hown, hnm, hret, hlk⟩ := X
  subst hby hq
  by_cases hP : pcI cd x 0
  · exact g_of (fun _ r => XS.ifNo X.here hx rfl hd rfl ((if0 _ _).trans ((hN hcd).1 hP)) r) (kP hP)
  · exact g_of (fun _ r => XS.ifYes X.here hx rfl (pc0 := pc) rfl hd rfl ((if0 _ _).trans ((hN hcd).2 hP)) ho ht r) (kN hP)
theorem g_lcmpB (X : Wk Z own nm bytes ml ret R n0 p l e s m args below meth c T cells slots h) {pc q t : Nat} {Ls : Array Slot} {rest : List Value} {o : Int} {cd : ClassFile.Cond} {x y : Int64} {q1 : Nat} (hd0 : decode bytes pc = .ok (.lcmp, 1)) (hq1 : pc + 1 = q1) (hd : decode bytes q1 = .ok (.ifCond cd o, 3)) (hcd : cd = .ge ∨ cd = .le ∨ cd = .ne) (hq : q1 + 3 = q) (ho : 0 ≤ (q1 : Int) + o) (ht : ((q1 : Int) + o).toNat = t) (kP : pcJ cd x y → Goes p e below s R n0 Q (T.setTop (mkF m q Ls rest))) (kN : ¬ pcJ cd x y → Goes p e below s R n0 Q (T.setTop (mkF m t Ls rest))) : Goes p e below s R n0 Q (T.setTop (mkF m pc Ls (.long y :: .long x :: rest))) := by
  refine g_lcmp X hd0 hq1 (g_ifB X hd hcd hq ho ht (fun z => kP (pcL.mp z)) (fun z => kN (fun w => z (pcL.mpr w))))
theorem g_bne (X : Wk Z own nm bytes ml ret R n0 p l e s m args below meth c T cells slots h) {pc q t : Nat} {Ls : Array Slot} {rest : List Value} {o : Int} {c' : Prop} [Decidable c'] (hd : decode bytes pc = .ok (.ifCond .ne o, 3)) (hq : pc + 3 = q) (ho : 0 ≤ (pc : Int) + o) (ht : ((pc : Int) + o).toNat = t) (kP : c' → Goes p e below s R n0 Q (T.setTop (mkF m t Ls rest))) (kN : ¬ c' → Goes p e below s R n0 Q (T.setTop (mkF m q Ls rest))) : Goes p e below s R n0 Q (T.setTop (mkF m pc Ls (.int (bI c') :: rest))) :=
  g_ifB X hd (Or.inr (Or.inr rfl)) hq ho ht (fun z => kN ((bI_eq0 c').mp z)) (fun z => kP (Decidable.of_not_not fun w => z ((bI_eq0 c').mpr w)))
theorem g_beq (X : Wk Z own nm bytes ml ret R n0 p l e s m args below meth c T cells slots h) {pc q t : Nat} {Ls : Array Slot} {rest : List Value} {o : Int} {c' : Prop} [Decidable c'] (hd : decode bytes pc = .ok (.ifCond .eq o, 3)) (hq : pc + 3 = q) (ho : 0 ≤ (pc : Int) + o) (ht : ((pc : Int) + o).toNat = t) (kP : c' → Goes p e below s R n0 Q (T.setTop (mkF m q Ls rest))) (kN : ¬ c' → Goes p e below s R n0 Q (T.setTop (mkF m t Ls rest))) : Goes p e below s R n0 Q (T.setTop (mkF m pc Ls (.int (bI c') :: rest))) :=
  g_ifA X hd (Or.inr (Or.inr rfl)) hq ho ht (fun z => kN ((bI_eq0 c').mp z)) (fun z => kP (Decidable.of_not_not fun w => z ((bI_eq0 c').mpr w)))
theorem g_ifnullY (X : Wk Z own nm bytes ml ret R n0 p l e s m args below meth c T cells slots h) {pc q : Nat} {Ls : Array Slot} {rest : List Value} {o : Int} (hd : decode bytes pc = .ok (.ifnull o, 3)) (ho : 0 ≤ (pc : Int) + o) (hq : ((pc : Int) + o).toNat = q) (k : Goes p e below s R n0 Q (T.setTop (mkF m q Ls rest))) : Goes p e below s R n0 Q (T.setTop (mkF m pc Ls (.null :: rest))) := by
  obtain ⟨locs, X, N, eh, hn, hx, hZ, hby, hml, hown, hnm, hret, hlk⟩ := X
  subst hby
  exact g_of (fun t r => XS.ifnullYes X.here hx rfl (pc0 := pc) rfl hd rfl ho hq r) k
theorem g_ifnullN (X : Wk Z own nm bytes ml ret R n0 p l e s m args below meth c T cells slots h) {pc q : Nat} {Ls : Array Slot} {rest : List Value} {o : Int} {b : Addr} (hd : decode bytes pc = .ok (.ifnull o, 3)) (hq : pc + 3 = q) (k : Goes p e below s R n0 Q (T.setTop (mkF m q Ls rest))) : Goes p e below s R n0 Q (T.setTop (mkF m pc Ls (.ref b :: rest))) := by
  obtain ⟨locs, X, N, eh, hn, hx, hZ, hby, hml, hown, hnm, hret, hlk⟩ := X
  subst hby hq
  exact g_of (fun t r => XS.ifnullNo X.here hx rfl hd rfl r) k
theorem g_ifnonnullY (X : Wk Z own nm bytes ml ret R n0 p l e s m args below meth c T cells slots h) {pc q : Nat} {Ls : Array Slot} {rest : List Value} {o : Int} {b : Addr} (hd : decode bytes pc = .ok (.ifnonnull o, 3)) (ho : 0 ≤ (pc : Int) + o) (hq : ((pc : Int) + o).toNat = q) (k : Goes p e below s R n0 Q (T.setTop (mkF m q Ls rest))) : Goes p e below s R n0 Q (T.setTop (mkF m pc Ls (.ref b :: rest))) := by
  obtain ⟨locs, X, N, eh, hn, hx, hZ, hby, hml, hown, hnm, hret, hlk⟩ := X
  subst hby
  exact g_of (fun t r => XS.ifnonnullYes X.here hx rfl (pc0 := pc) rfl hd rfl ho hq r) k
theorem g_ifnonnullN (X : Wk Z own nm bytes ml ret R n0 p l e s m args below meth c T cells slots h) {pc q : Nat} {Ls : Array Slot} {rest : List Value} {o : Int} (hd : decode bytes pc = .ok (.ifnonnull o, 3)) (hq : pc + 3 = q) (k : Goes p e below s R n0 Q (T.setTop (mkF m q Ls rest))) : Goes p e below s R n0 Q (T.setTop (mkF m pc Ls (.null :: rest))) := by
  obtain ⟨locs, X, N, eh, hn, hx, hZ, hby, hml, hown, hnm, hret, hlk⟩ := X
  subst hby hq
  exact g_of (fun t r => XS.ifnonnullNo X.here hx rfl hd rfl r) k
theorem g_acmp (X : Wk Z own nm bytes ml ret R n0 p l e s m args below meth c T cells slots h) {pc q : Nat} {Ls : Array Slot} {rest : List Value} {o : Int} {cd : ACond} {x y : Value} {same : Bool} (hd : decode bytes pc = .ok (.if_acmp cd o, 3)) (h1 : x.isRef = true) (h2 : y.isRef = true) (hs : decide (x = y) = same) (ho : 0 ≤ (pc : Int) + o) (hq : q = if acV cd same = true then ((pc : Int) + o).toNat else pc + 3) (k : Goes p e below s R n0 Q (T.setTop (mkF m q Ls rest))) : Goes p e below s R n0 Q (T.setTop (mkF m pc Ls (y :: x :: rest))) := by
  obtain ⟨locs, X, N, eh, hn, hx, hZ, hby, hml, hown, hnm, hret, hlk⟩ := X
  subst hby
  exact g_of (fun t r => Jvm.RoadKit.acmp (g := mkF m pc Ls (y :: x :: rest)) X hx rfl h1 h2 (pc0 := pc) rfl hd rfl hs ho hq r) k

theorem g_ldc2 (X : Wk Z own nm bytes ml ret R n0 p l e s m args below meth c T cells slots h) {index : Nat} {v : Int64} (w : (Jvm.Cond.constantLong own index v).before a0 Z = true) {pc q : Nat} {Ls : Array Slot} {st : List Value} (hd : decode bytes pc = .ok (.ldc2_w index, 3)) (hq : pc + 3 = q) (k : Goes p e below s R n0 Q (T.setTop (mkF m q Ls (.long v :: st)))) : Goes p e below s R n0 Q (T.setTop (mkF m pc Ls st)) := by
  obtain ⟨locs, X, N, eh, hn, hx, hZ, hby, hml, hown, hnm, hret, hlk⟩ := X
  subst hby hq
  exact g_of (fun t r => X.ldc2Long hx hown (mvT hZ w) (g := mkF m pc Ls st) rfl hd t r) k
theorem g_ldc (X : Wk Z own nm bytes ml ret R n0 p l e s m args below meth c T cells slots h) {index : Nat} {v : Int32} (w : (Jvm.Cond.constant own index v).before a0 Z = true) {pc q : Nat} {Ls : Array Slot} {st : List Value} (hd : decode bytes pc = .ok (.ldc index, 2)) (hq : pc + 2 = q) (k : Goes p e below s R n0 Q (T.setTop (mkF m q Ls (.int v :: st)))) : Goes p e below s R n0 Q (T.setTop (mkF m pc Ls st)) := by
  obtain ⟨locs, X, N, eh, hn, hx, hZ, hby, hml, hown, hnm, hret, hlk⟩ := X
  subst hby hq
  exact g_of (fun t r => X.ldcInt hx hown (mvT hZ w) (g := mkF m pc Ls st) rfl hd t r) k
theorem g_ldcw (X : Wk Z own nm bytes ml ret R n0 p l e s m args below meth c T cells slots h) {index : Nat} {v : Int32} (w : (Jvm.Cond.constant own index v).before a0 Z = true) {pc q : Nat} {Ls : Array Slot} {st : List Value} (hd : decode bytes pc = .ok (.ldc_w index, 3)) (hq : pc + 3 = q) (k : Goes p e below s R n0 Q (T.setTop (mkF m q Ls (.int v :: st)))) : Goes p e below s R n0 Q (T.setTop (mkF m pc Ls st)) := by
  obtain ⟨locs, X, N, eh, hn, hx, hZ, hby, hml, hown, hnm, hret, hlk⟩ := X
  subst hby hq
  exact g_of (fun t r => X.ldcwInt hx hown (mvT hZ w) (g := mkF m pc Ls st) rfl hd t r) k
theorem g_getF (X : Wk Z own nm bytes ml ret R n0 p l e s m args below meth c T cells slots h) {index : Nat} {R0 O n d : String} (w : (Jvm.Cond.fieldLink own index R0 n d).before a0 Z = true) (via : Via Z R0 O n d) {a : Addr} {v : Value} (F : Fld Z h a O n d v) {pc q : Nat} {Ls : Array Slot} {rest : List Value} (hd : decode bytes pc = .ok (.getfield index, 3)) (hq : pc + 3 = q)
    (k : ∀ T', Wk Z own nm bytes ml ret R n0 p l e s m args below meth c T' cells slots h → Goes p e below s R n0 Q (T'.setTop (mkF m q Ls (v :: rest)))) : Goes p e below s R n0 Q (T.setTop (mkF m pc Ls (.ref a :: rest))) := by
  obtain ⟨locs, X, N, eh, hn, hx, hZ, hby, hml, hown, hnm, hret, hlk⟩ := X
  subst hby hq
  obtain ⟨T', X', e', st⟩ := getF X hx hZ hown (host := "") (Or.inl w) via eh F (g := mkF m pc Ls (.ref a :: rest)) rfl rfl hd
  exact g_of st (k T' ⟨locs, X', N, e', hn, hx, hZ, rfl, hml, hown, hnm, hret, hlk⟩)
theorem g_putF (X : Wk Z own nm bytes ml ret R n0 p l e s m args below meth c T cells slots h) {index kk : Nat} {R0 O n d C : String} {ty : FieldType} (w : (Jvm.Cond.fieldLink own index R0 n d).before a0 Z = true) (via : Via Z R0 O n d) {a : Addr} {v old : Value} (F : Fld Z h a O n d old) (E : Exa Z h a C) (L : (Jvm.Cond.lays C O n d).before a0 Z = true ∨ ((Jvm.Cond.laysFinal C O n d).before a0 Z = true ∧ own = O ∧ nm = "<init>")) (wi : (Jvm.Cond.instantiable C kk).before a0 Z = true) (hty : parseFieldDescriptor d = some ty) (hnr : narrow ty v = v) (hf : fits ty v = true) (ga : n0 ≤ a) {pc q : Nat} {Ls : Array Slot} {rest : List Value} (hd : decode bytes pc = .ok (.putfield index, 3)) (hq : pc + 3 = q)
    (k : ∀ T' h', Wk Z own nm bytes ml ret R n0 p l e s m args below meth c T' cells slots h' → Wr h h' a (Jvm.RoadKit.slotOf Z O n d) v → Goes p e below s R n0 Q (T'.setTop (mkF m q Ls rest))) : Goes p e below s R n0 Q (T.setTop (mkF m pc Ls (v :: .ref a :: rest))) := by
  obtain ⟨locs, X, N, eh, hn, hx, hZ, hby, hml, hown, hnm, hret, hlk⟩ := X
  subst hby hq
  obtain ⟨T', h', X', e', W', st⟩ := putF X hx hZ hown (host := "") (Or.inl w) via eh F E (L.imp id fun z => ⟨z.1, z.2.1, hnm.trans z.2.2⟩) wi hty hnr hf (g := mkF m pc Ls (v :: .ref a :: rest)) rfl rfl hd
  exact g_of st (k T' h' ⟨_, X', Fr.snoc X' N ga, e', hn, hx, hZ, rfl, hml, hown, hnm, hret, hlk⟩ W')
theorem g_new (X : Wk Z own nm bytes ml ret R n0 p l e s m args below meth c T cells slots h) {index n : Nat} {C : String} (w : (Jvm.Cond.classLink own index C).before a0 Z = true) (wi : (Jvm.Cond.instantiable C n).before a0 Z = true) (wz : (Jvm.Cond.initialized C).before a0 Z = true) {pc q c2 s2 : Nat} {Ls : Array Slot} {st : List Value} (hd : decode bytes pc = .ok (.new index, 3)) (hq : pc + 3 = q) (hc : cells + 1 = c2) (hs : slots + n = s2) (hcR : c2 ≤ R.cells) (hsR : s2 ≤ R.slots)
    (k : ∀ T' h' b, Wk Z own nm bytes ml ret R n0 p l e s m args below meth c T' c2 s2 h' → b = h.size → n0 ≤ b → Ext h h' → Exa Z h' b C → (∀ {O nm d : String} {ty : FieldType}, Laid Z a0 C O nm d → parseFieldDescriptor d = some ty → Fld Z h' b O nm d (defaultValue ty)) → Goes p e below s R n0 Q (T'.setTop (mkF m q Ls (.ref b :: st)))) : Goes p e below s R n0 Q (T.setTop (mkF m pc Ls st)) := by
  obtain ⟨locs, X, N, eh, hn, hx, hZ, hby, hml, hown, hnm, hret, hlk⟩ := X
  subst hby hq hc hs
  obtain ⟨T', h', X', e', E', A', D', -, stp⟩ := newO X hx hZ hown w wi wz eh (g := mkF m pc Ls st) rfl hd hcR hsR
  exact g_of stp (k T' h' _ ⟨locs, X', N, e', hn, hx, hZ, rfl, hml, hown, hnm, hret, hlk⟩ rfl (Wk.size ⟨locs, X, N, eh, hn, hx, hZ, rfl, hml, hown, hnm, hret, hlk⟩) E' A' D')
theorem g_initO (X : Wk Z own nm bytes ml ret R n0 p l e s m args below meth c T cells slots h) {index : Nat} (w1 : (Jvm.Cond.methodLink own index Lib.objectInit).before a0 Z = true) (w2 : (Jvm.Cond.instanceMethod Lib.objectInit).before a0 Z = true) (w3 : (Jvm.Cond.code Lib.objectInit ⟨#[0xb1]⟩ 1 none).before a0 Z = true) {a : Addr} {pc q W : Nat} {Ls : Array Slot} {rest : List Value} (hd : decode bytes pc = .ok (.invokespecial index, 3)) (hq : pc + 3 = q) (hLs : Ls.size = ml) (hf : 1 ≤ R.frames) (hW : (rest.map fun v => v.category).sum = W) (hl : W + 12 ≤ R.locals)
    (k : ∀ T', Wk Z own nm bytes ml ret R n0 p l e s m args below meth c T' cells slots h → Goes p e below s R n0 Q (T'.setTop (mkF m q Ls rest))) : Goes p e below s R n0 Q (T.setTop (mkF m pc Ls (.ref a :: rest))) := by
  obtain ⟨locs, X, N, eh, hn, hx, hZ, hby, hml, hown, hnm, hret, hlk⟩ := X
  subst hby hq
  obtain ⟨T', X', e', st⟩ := initO X hx hZ hown w1 w2 w3 eh (g := mkF m pc Ls (.ref a :: rest)) rfl (hLs.trans hml.symm) rfl hd hf (W := W) (by show 2 * 0 + _ ≤ _; omega) hl
  exact g_of st (k T' ⟨locs, X', N, e', hn, hx, hZ, rfl, hml, hown, hnm, hret, hlk⟩)
theorem own_back {index W : Nat} {y : MethodName} {yb : ByteArray} {yml : Nat} {yret : Option FieldType} {Ry : Room} {as' : Array Value} {len : Nat} {Qy : Option Value → Heap → Prop} (hZ : Z.Warmed39 s.vm) (w3 : (Jvm.Cond.initialized y.cls).before a0 Z = true) (w4 : (Jvm.Cond.code y yb yml yret).before a0 Z = true) (hM : Met l Z y yb yml yret Ry [] n0 as' h Qy) (hf : Ry.frames + 1 ≤ R.frames) (hlc : W + (yml + 11) + Ry.locals ≤ R.locals) :
    Back l R p e below s args y len W (fun A a => a = as' ∧ A.U.heap = h ∧ A.cells + Ry.cells ≤ R.cells ∧ A.slots + Ry.slots ≤ R.slots)
      (fun A _ v B => ∃ L, (Fr n0 L ∧ Qy v B.U.heap) ∧ B.locs = A.locs ++ L ∧ B.cells = A.cells + Ry.cells ∧ B.slots = A.slots + Ry.slots) :=
  backOf (Q := fun v h L => Fr n0 L ∧ Qy v h) hM hZ w4 w3 hf hlc
theorem g_callS (X : Wk Z own nm bytes ml ret R n0 p l e s m args below meth c T cells slots h) {index : Nat} {y : MethodName} {yb : ByteArray} {yml : Nat} {yret : Option FieldType} {Ry : Room} {Qy : Option Value → Heap → Prop} {ps : List FieldType} {r : Option FieldType} (as rest : List Value) (w1 : (Jvm.Cond.methodLink own index y).before a0 Z = true) (w2 : (Jvm.Cond.static y).before a0 Z = true) (w3 : (Jvm.Cond.initialized y.cls).before a0 Z = true) (w4 : (Jvm.Cond.code y yb yml yret).before a0 Z = true) (hy : y.cls ≠ "java/lang/invoke/MethodHandle" ∧ y.cls ≠ "java/lang/invoke/VarHandle") (hM : Met l Z y yb yml yret Ry [] n0 as.toArray h Qy) (hp : parseMethodDescriptor y.desc = some ⟨ps, r⟩) (hl : as.length = ps.length)
    {pc q c2 s2 W : Nat} {Ls : Array Slot} {st : List Value} (hst : st = as.reverse ++ rest) (hLs : Ls.size = ml) (hd : decode bytes pc = .ok (.invokestatic index, 3)) (hq : pc + 3 = q) (hW : (rest.map fun v => v.category).sum = W) (hf : Ry.frames + 1 ≤ R.frames) (hlc : W + (yml + 11) + Ry.locals ≤ R.locals) (hc : cells + Ry.cells = c2) (hs : slots + Ry.slots = s2) (hcR : c2 ≤ R.cells) (hsR : s2 ≤ R.slots)
    (k : ∀ v T' h', Wk Z own nm bytes ml ret R n0 p l e s m args below meth c T' c2 s2 h' → Qy v h' → Goes p e below s R n0 Q (T'.setTop (mkF m q Ls (v.toList ++ rest)))) : Goes p e below s R n0 Q (T.setTop (mkF m pc Ls st)) := by
  obtain ⟨locs, X, N, eh, hn, hx, hZ, hby, hml, hown, hnm, hret, hlk⟩ := X
  subst hby hq hc hs hst
  obtain ⟨v, _, ⟨T', L', k', n'⟩, -, X', ⟨Lc, ⟨hF, hQy⟩, l', y', z'⟩, stp⟩ := Jvm.LawKit.callS X hx (y := y) hown (mvT hZ w1) (mvT hZ w2) (mvT hZ w3) (mvT hZ w4) hy (own_back (index := index) (W := W) hZ w3 w4 hM hf hlc) (g := mkF m pc Ls (as.reverse ++ rest)) rfl (hLs.trans hml.symm) (argsL := as) (rest := rest) (lenOf hp hl) rfl (by show 2 * 0 + _ ≤ _; omega) hd (fun _ _ => ⟨rfl, eh, hcR, hsR⟩)
  dsimp only [Pt.U, Pt.locs, Pt.cells, Pt.slots] at X' l' y' z' stp hQy
  subst l' y' z'
  exact g_of stp (k v T' _ ⟨_, X', Fr.app N hF, rfl, hn, hx, hZ, rfl, hml, hown, hnm, hret, hlk⟩ hQy)
theorem g_callI (X : Wk Z own nm bytes ml ret R n0 p l e s m args below meth c T cells slots h) {index : Nat} {y : MethodName} {yb : ByteArray} {yml : Nat} {Ry : Room} {Qy : Option Value → Heap → Prop} {ps : List FieldType} {r : Option FieldType} {a : Addr} (as rest : List Value) (hy1 : y.name = "<init>") (w1 : (Jvm.Cond.methodLink own index y).before a0 Z = true) (w2 : (Jvm.Cond.instanceMethod y).before a0 Z = true) (w3 : (Jvm.Cond.initialized y.cls).before a0 Z = true) (w4 : (Jvm.Cond.code y yb yml none).before a0 Z = true) (hy : y.cls ≠ "java/lang/invoke/MethodHandle" ∧ y.cls ≠ "java/lang/invoke/VarHandle") (hM : Met l Z y yb yml none Ry [] n0 (.ref a :: as).toArray h Qy) (hp : parseMethodDescriptor y.desc = some ⟨ps, r⟩) (hl : as.length = ps.length)
    {pc q c2 s2 W : Nat} {Ls : Array Slot} {st : List Value} (hst : st = as.reverse ++ .ref a :: rest) (hLs : Ls.size = ml) (hd : decode bytes pc = .ok (.invokespecial index, 3)) (hq : pc + 3 = q) (hW : (rest.map fun v => v.category).sum = W) (hf : Ry.frames + 1 ≤ R.frames) (hlc : W + (yml + 11) + Ry.locals ≤ R.locals) (hc : cells + Ry.cells = c2) (hs : slots + Ry.slots = s2) (hcR : c2 ≤ R.cells) (hsR : s2 ≤ R.slots)
    (k : ∀ v T' h', Wk Z own nm bytes ml ret R n0 p l e s m args below meth c T' c2 s2 h' → Qy v h' → Goes p e below s R n0 Q (T'.setTop (mkF m q Ls (v.toList ++ rest)))) : Goes p e below s R n0 Q (T.setTop (mkF m pc Ls st)) := by
  obtain ⟨locs, X, N, eh, hn, hx, hZ, hby, hml, hown, hnm, hret, hlk⟩ := X
  subst hby hq hc hs hst
  obtain ⟨v, _, ⟨T', L', k', n'⟩, -, X', ⟨Lc, ⟨hF, hQy⟩, l', y', z'⟩, stp⟩ := X.specialBack hx (y := y) hy1 hown (mvT hZ w1) (mvT hZ w2) (mvT hZ w4) hy (own_back (index := index) (W := W) hZ w3 w4 hM hf hlc) (g := mkF m pc Ls (as.reverse ++ .ref a :: rest)) rfl (hLs.trans hml.symm) (Steps.refl _) (a := a) (argsL := as) (rest := rest) (lenOf hp hl) rfl (by show 2 * 0 + _ ≤ _; omega) hd (fun _ _ => ⟨rfl, eh, hcR, hsR⟩)
  dsimp only [Pt.U, Pt.locs, Pt.cells, Pt.slots] at X' l' y' z' stp hQy
  subst l' y' z'
  exact g_of (fun _ r => stp.trans r) (k v T' _ ⟨_, X', Fr.app N hF, rfl, hn, hx, hZ, rfl, hml, hown, hnm, hret, hlk⟩ hQy)
theorem g_callV (X : Wk Z own nm bytes ml ret R n0 p l e s m args below meth c T cells slots h) {index : Nat} {y : MethodName} {yb : ByteArray} {yml : Nat} {yret : Option FieldType} {Ry : Room} {Qy : Option Value → Heap → Prop} {ps : List FieldType} {r : Option FieldType} {a : Addr} {C : String} (E : Exa Z h a C) (as rest : List Value) (w1 : (Jvm.Cond.methodLink own index y).before a0 Z = true) (w2 : (Jvm.Cond.declares y).before a0 Z = true) (w5 : (Jvm.Cond.selects C y y).before a0 Z = true) (w6 : (Jvm.Cond.instanceMethod y).before a0 Z = true) (w3 : (Jvm.Cond.initialized y.cls).before a0 Z = true) (w4 : (Jvm.Cond.code y yb yml yret).before a0 Z = true) (hy : y.cls ≠ "java/lang/invoke/MethodHandle" ∧ y.cls ≠ "java/lang/invoke/VarHandle") (hM : Met l Z y yb yml yret Ry [] n0 (.ref a :: as).toArray h Qy) (hp : parseMethodDescriptor y.desc = some ⟨ps, r⟩) (hl : as.length = ps.length)
    {pc q c2 s2 W : Nat} {Ls : Array Slot} {st : List Value} (hst : st = as.reverse ++ .ref a :: rest) (hLs : Ls.size = ml) (hd : decode bytes pc = .ok (.invokevirtual index, 3)) (hq : pc + 3 = q) (hW : (rest.map fun v => v.category).sum = W) (hf : Ry.frames + 1 ≤ R.frames) (hlc : W + (yml + 11) + Ry.locals ≤ R.locals) (hc : cells + Ry.cells = c2) (hs : slots + Ry.slots = s2) (hcR : c2 ≤ R.cells) (hsR : s2 ≤ R.slots)
    (k : ∀ v T' h', Wk Z own nm bytes ml ret R n0 p l e s m args below meth c T' c2 s2 h' → Qy v h' → Goes p e below s R n0 Q (T'.setTop (mkF m q Ls (v.toList ++ rest)))) : Goes p e below s R n0 Q (T.setTop (mkF m pc Ls st)) := by
  obtain ⟨locs, X, N, eh, hn, hx, hZ, hby, hml, hown, hnm, hret, hlk⟩ := X
  subst hby hq hc hs hst
  obtain ⟨cq, kq, qa, qb, qc⟩ := isOf hZ eh E
  obtain ⟨v, _, ⟨T', L', k', n'⟩, -, X', ⟨Lc, ⟨hF, hQy⟩, l', y', z'⟩, stp⟩ := X.virtualBack hx (y := y) (z := y) hown (mvT hZ w1) (mvT hZ w2) (notFace_of_selects (args := #[]) (mvT hZ w5)) (mvT hZ w5) (mvT hZ w6) hy (own_back (index := index) (W := W) hZ w3 w4 hM hf hlc) qa qc (g := mkF m pc Ls (as.reverse ++ .ref a :: rest)) rfl (hLs.trans hml.symm) (Steps.refl _) (argsL := as) (rest := rest) (lenOf hp hl) rfl (by show 2 * 0 + _ ≤ _; omega) hd (fun _ _ => ⟨rfl, eh, hcR, hsR⟩)
  dsimp only [Pt.U, Pt.locs, Pt.cells, Pt.slots] at X' l' y' z' stp hQy
  subst l' y' z'
  exact g_of (fun _ r => stp.trans r) (k v T' _ ⟨_, X', Fr.app N hF, rfl, hn, hx, hZ, rfl, hml, hown, hnm, hret, hlk⟩ hQy)
theorem g_callP (X : Wk Z own nm bytes ml ret R n0 p l e s m args below meth c T cells slots h) {index : Nat} {y : MethodName} {yb : ByteArray} {yml : Nat} {yret : Option FieldType} {Ry : Room} {Qy : Option Value → Heap → Prop} {ps : List FieldType} {r : Option FieldType} {a : Addr} {C : String} (E : Exa Z h a C) (as rest : List Value) (w1 : (Jvm.Cond.methodLink own index y).before a0 Z = true) (w5 : (Jvm.Cond.selects y.cls y y).before a0 Z = true) (w6 : (Jvm.Cond.instanceMethod y).before a0 Z = true) (w7 : (Jvm.Cond.privateMethod y).before a0 Z = true) (w3 : (Jvm.Cond.initialized y.cls).before a0 Z = true) (w4 : (Jvm.Cond.code y yb yml yret).before a0 Z = true) (hy : y.cls ≠ "java/lang/invoke/MethodHandle" ∧ y.cls ≠ "java/lang/invoke/VarHandle") (hM : Met l Z y yb yml yret Ry [] n0 (.ref a :: as).toArray h Qy) (hp : parseMethodDescriptor y.desc = some ⟨ps, r⟩) (hl : as.length = ps.length)
    {pc q c2 s2 W : Nat} {Ls : Array Slot} {st : List Value} (hst : st = as.reverse ++ .ref a :: rest) (hLs : Ls.size = ml) (hd : decode bytes pc = .ok (.invokevirtual index, 3)) (hq : pc + 3 = q) (hW : (rest.map fun v => v.category).sum = W) (hf : Ry.frames + 1 ≤ R.frames) (hlc : W + (yml + 11) + Ry.locals ≤ R.locals) (hc : cells + Ry.cells = c2) (hs : slots + Ry.slots = s2) (hcR : c2 ≤ R.cells) (hsR : s2 ≤ R.slots)
    (k : ∀ v T' h', Wk Z own nm bytes ml ret R n0 p l e s m args below meth c T' c2 s2 h' → Qy v h' → Goes p e below s R n0 Q (T'.setTop (mkF m q Ls (v.toList ++ rest)))) : Goes p e below s R n0 Q (T.setTop (mkF m pc Ls st)) := by
  obtain ⟨locs, X, N, eh, hn, hx, hZ, hby, hml, hown, hnm, hret, hlk⟩ := X
  subst hby hq hc hs hst
  obtain ⟨cq, q1, q2⟩ := E.cell
  obtain ⟨v, _, ⟨T', L', k', n'⟩, -, X', ⟨Lc, ⟨hF, hQy⟩, l', y', z'⟩, stp⟩ := X.privateBack hx (y := y) hown (mvT hZ w1) (mvT hZ w6) (mvT hZ w5) (Cond.privateMethod_at (mvP hZ w7 (args := #[]))) (mvT hZ w4) hy (own_back (index := index) (W := W) hZ w3 w4 hM hf hlc) (g := mkF m pc Ls (as.reverse ++ .ref a :: rest)) rfl (hLs.trans hml.symm) (Steps.refl _) (a := a) (by rw [eh]; exact q1) q2 (argsL := as) (rest := rest) (lenOf hp hl) rfl (by show 2 * 0 + _ ≤ _; omega) hd (fun _ _ => ⟨rfl, eh, hcR, hsR⟩)
  dsimp only [Pt.U, Pt.locs, Pt.cells, Pt.slots] at X' l' y' z' stp hQy
  subst l' y' z'
  exact g_of (fun _ r => stp.trans r) (k v T' _ ⟨_, X', Fr.app N hF, rfl, hn, hx, hZ, rfl, hml, hown, hnm, hret, hlk⟩ hQy)

theorem g_alenI (X : Wk Z own nm bytes ml ret R n0 p l e s m args below meth c T cells slots h) {a : Addr} {ty : FieldType} {n : Nat} {f : Nat → Int32} (A : AI Z h a ty n f) {pc q : Nat} {Ls : Array Slot} {rest : List Value} (hd : decode bytes pc = .ok (.arraylength, 1)) (hq : pc + 1 = q) (k : Goes p e below s R n0 Q (T.setTop (mkF m q Ls (.int n.toInt32 :: rest)))) : Goes p e below s R n0 Q (T.setTop (mkF m pc Ls (.ref a :: rest))) := by
  obtain ⟨locs, X, N, eh, hn, hx, hZ, hby, hml, hown, hnm, hret, hlk⟩ := X
  obtain ⟨z, cl, A, r1, r2⟩ := A
  subst hby hq r1
  exact g_of (fun t r => X.arraylength hx (by rw [eh]; exact A.1) (State.isArrayOf_alike hZ.alike A.2.1) (g := mkF m pc Ls (.ref a :: rest)) rfl rfl hd t r) k
theorem g_alenJ (X : Wk Z own nm bytes ml ret R n0 p l e s m args below meth c T cells slots h) {a : Addr} {n : Nat} {f : Nat → Int64} (A : AJ Z h a n f) {pc q : Nat} {Ls : Array Slot} {rest : List Value} (hd : decode bytes pc = .ok (.arraylength, 1)) (hq : pc + 1 = q) (k : Goes p e below s R n0 Q (T.setTop (mkF m q Ls (.int n.toInt32 :: rest)))) : Goes p e below s R n0 Q (T.setTop (mkF m pc Ls (.ref a :: rest))) := by
  obtain ⟨locs, X, N, eh, hn, hx, hZ, hby, hml, hown, hnm, hret, hlk⟩ := X
  obtain ⟨z, cl, A, r1, r2⟩ := A
  subst hby hq r1
  exact g_of (fun t r => X.arraylength hx (by rw [eh]; exact A.1) (State.isArrayOf_alike hZ.alike A.2.1) (g := mkF m pc Ls (.ref a :: rest)) rfl rfl hd t r) k
theorem g_iaload (X : Wk Z own nm bytes ml ret R n0 p l e s m args below meth c T cells slots h) {a : Addr} {n : Nat} {f : Nat → Int32} (A : AI Z h a .int n f) {j : Int32} (hj : 0 ≤ j.toInt ∧ j.toInt < n) {pc q : Nat} {Ls : Array Slot} {rest : List Value} (hd : decode bytes pc = .ok (.iaload, 1)) (hq : pc + 1 = q) (k : Goes p e below s R n0 Q (T.setTop (mkF m q Ls (.int (f j.toNatClampNeg) :: rest)))) : Goes p e below s R n0 Q (T.setTop (mkF m pc Ls (.int j :: .ref a :: rest))) := by
  obtain ⟨locs, X, N, eh, hn, hx, hZ, hby, hml, hown, hnm, hret, hlk⟩ := X
  obtain ⟨z, cl, A, r1, r2⟩ := A
  subst hby hq
  exact g_of (fun t r => X.iaload hx (j := j) (by rw [eh]; exact A.1) (State.isArrayOf_alike hZ.alike A.2.1) A.2.2 (own_ix r1 hj) (r2 _ (own_ixn hj)) (g := mkF m pc Ls (.int j :: .ref a :: rest)) rfl rfl hd t r) k
theorem g_laload (X : Wk Z own nm bytes ml ret R n0 p l e s m args below meth c T cells slots h) {a : Addr} {n : Nat} {f : Nat → Int64} (A : AJ Z h a n f) {j : Int32} (hj : 0 ≤ j.toInt ∧ j.toInt < n) {pc q : Nat} {Ls : Array Slot} {rest : List Value} (hd : decode bytes pc = .ok (.laload, 1)) (hq : pc + 1 = q) (k : Goes p e below s R n0 Q (T.setTop (mkF m q Ls (.long (f j.toNatClampNeg) :: rest)))) : Goes p e below s R n0 Q (T.setTop (mkF m pc Ls (.int j :: .ref a :: rest))) := by
  obtain ⟨locs, X, N, eh, hn, hx, hZ, hby, hml, hown, hnm, hret, hlk⟩ := X
  obtain ⟨z, cl, A, r1, r2⟩ := A
  subst hby hq
  exact g_of (fun t r => X.laload hx (j := j) (by rw [eh]; exact A.1) (State.isArrayOf_alike hZ.alike A.2.1) A.2.2 (own_ix r1 hj) (r2 _ (own_ixn hj)) (g := mkF m pc Ls (.int j :: .ref a :: rest)) rfl rfl hd t r) k
theorem g_baload (X : Wk Z own nm bytes ml ret R n0 p l e s m args below meth c T cells slots h) {a : Addr} {n : Nat} {f : Nat → Int32} (A : AI Z h a .byte n f) {j : Int32} (hj : 0 ≤ j.toInt ∧ j.toInt < n) {pc q : Nat} {Ls : Array Slot} {rest : List Value} (hd : decode bytes pc = .ok (.baload, 1)) (hq : pc + 1 = q) (k : Goes p e below s R n0 Q (T.setTop (mkF m q Ls (.int (f j.toNatClampNeg) :: rest)))) : Goes p e below s R n0 Q (T.setTop (mkF m pc Ls (.int j :: .ref a :: rest))) := by
  obtain ⟨locs, X, N, eh, hn, hx, hZ, hby, hml, hown, hnm, hret, hlk⟩ := X
  obtain ⟨z, cl, A, r1, r2⟩ := A
  subst hby hq
  exact g_of (fun t r => X.baloadBytes hx (j := j) (by rw [eh]; exact A.1) (State.isArrayOf_alike hZ.alike A.2.1) A.2.2 (own_ix r1 hj) (r2 _ (own_ixn hj)) (g := mkF m pc Ls (.int j :: .ref a :: rest)) rfl rfl hd t r) k
theorem g_zaload (X : Wk Z own nm bytes ml ret R n0 p l e s m args below meth c T cells slots h) {a : Addr} {n : Nat} {f : Nat → Int32} (A : AI Z h a .boolean n f) {j : Int32} (hj : 0 ≤ j.toInt ∧ j.toInt < n) {pc q : Nat} {Ls : Array Slot} {rest : List Value} (hd : decode bytes pc = .ok (.baload, 1)) (hq : pc + 1 = q) (k : Goes p e below s R n0 Q (T.setTop (mkF m q Ls (.int (f j.toNatClampNeg) :: rest)))) : Goes p e below s R n0 Q (T.setTop (mkF m pc Ls (.int j :: .ref a :: rest))) := by
  obtain ⟨locs, X, N, eh, hn, hx, hZ, hby, hml, hown, hnm, hret, hlk⟩ := X
  obtain ⟨z, cl, A, r1, r2⟩ := A
  subst hby hq
  exact g_of (fun t r => X.baloadBooleans hx (j := j) (by rw [eh]; exact A.1) (State.isArrayOf_alike hZ.alike A.2.1) A.2.2 (own_ix r1 hj) (r2 _ (own_ixn hj)) (g := mkF m pc Ls (.int j :: .ref a :: rest)) rfl rfl hd t r) k
theorem g_iastore (X : Wk Z own nm bytes ml ret R n0 p l e s m args below meth c T cells slots h) {a : Addr} {n : Nat} {f : Nat → Int32} (A : AI Z h a .int n f) {j : Int32} {x : Int32} (hj : 0 ≤ j.toInt ∧ j.toInt < n) (ga : n0 ≤ a) {pc q : Nat} {Ls : Array Slot} {rest : List Value} (hd : decode bytes pc = .ok (.iastore, 1)) (hq : pc + 1 = q) (k : ∀ T' h', Wk Z own nm bytes ml ret R n0 p l e s m args below meth c T' cells slots h' → Wr h h' a j.toNatClampNeg (.int x) → Goes p e below s R n0 Q (T'.setTop (mkF m q Ls rest))) : Goes p e below s R n0 Q (T.setTop (mkF m pc Ls (.int x :: .int j :: .ref a :: rest))) := by
  obtain ⟨locs, X, N, eh, hn, hx, hZ, hby, hml, hown, hnm, hret, hlk⟩ := X
  obtain ⟨z, cl, A, r1, r2⟩ := A
  subst hby hq
  obtain ⟨T', h', X', e', W', st⟩ := stI X hx hZ eh A (j := j) (own_ix r1 hj) (g := mkF m pc Ls (.int x :: .int j :: .ref a :: rest)) rfl rfl hd
  exact g_of st (k T' h' ⟨_, X', Fr.snoc X' N ga, e', hn, hx, hZ, rfl, hml, hown, hnm, hret, hlk⟩ W')
theorem g_lastore (X : Wk Z own nm bytes ml ret R n0 p l e s m args below meth c T cells slots h) {a : Addr} {n : Nat} {f : Nat → Int64} (A : AJ Z h a n f) {j : Int32} {x : Int64} (hj : 0 ≤ j.toInt ∧ j.toInt < n) (ga : n0 ≤ a) {pc q : Nat} {Ls : Array Slot} {rest : List Value} (hd : decode bytes pc = .ok (.lastore, 1)) (hq : pc + 1 = q) (k : ∀ T' h', Wk Z own nm bytes ml ret R n0 p l e s m args below meth c T' cells slots h' → Wr h h' a j.toNatClampNeg (.long x) → Goes p e below s R n0 Q (T'.setTop (mkF m q Ls rest))) : Goes p e below s R n0 Q (T.setTop (mkF m pc Ls (.long x :: .int j :: .ref a :: rest))) := by
  obtain ⟨locs, X, N, eh, hn, hx, hZ, hby, hml, hown, hnm, hret, hlk⟩ := X
  obtain ⟨z, cl, A, r1, r2⟩ := A
  subst hby hq
  obtain ⟨T', h', X', e', W', st⟩ := stJ X hx hZ eh A (j := j) (own_ix r1 hj) (g := mkF m pc Ls (.long x :: .int j :: .ref a :: rest)) rfl rfl hd
  exact g_of st (k T' h' ⟨_, X', Fr.snoc X' N ga, e', hn, hx, hZ, rfl, hml, hown, hnm, hret, hlk⟩ W')
theorem g_bastore (X : Wk Z own nm bytes ml ret R n0 p l e s m args below meth c T cells slots h) {a : Addr} {n : Nat} {f : Nat → Int32} (A : AI Z h a .byte n f) {j : Int32} {x : Int32} (hj : 0 ≤ j.toInt ∧ j.toInt < n) (ga : n0 ≤ a) {pc q : Nat} {Ls : Array Slot} {rest : List Value} (hd : decode bytes pc = .ok (.bastore, 1)) (hq : pc + 1 = q) (k : ∀ T' h', Wk Z own nm bytes ml ret R n0 p l e s m args below meth c T' cells slots h' → Wr h h' a j.toNatClampNeg (.int (nar .byte x)) → Goes p e below s R n0 Q (T'.setTop (mkF m q Ls rest))) : Goes p e below s R n0 Q (T.setTop (mkF m pc Ls (.int x :: .int j :: .ref a :: rest))) := by
  obtain ⟨locs, X, N, eh, hn, hx, hZ, hby, hml, hown, hnm, hret, hlk⟩ := X
  obtain ⟨z, cl, A, r1, r2⟩ := A
  subst hby hq
  obtain ⟨T', h', X', e', W', st⟩ := stB X hx hZ eh A (j := j) (own_ix r1 hj) (g := mkF m pc Ls (.int x :: .int j :: .ref a :: rest)) rfl rfl hd
  exact g_of st (k T' h' ⟨_, X', Fr.snoc X' N ga, e', hn, hx, hZ, rfl, hml, hown, hnm, hret, hlk⟩ W')
theorem g_zastore (X : Wk Z own nm bytes ml ret R n0 p l e s m args below meth c T cells slots h) {a : Addr} {n : Nat} {f : Nat → Int32} (A : AI Z h a .boolean n f) {j : Int32} {x : Int32} (hj : 0 ≤ j.toInt ∧ j.toInt < n) (ga : n0 ≤ a) {pc q : Nat} {Ls : Array Slot} {rest : List Value} (hd : decode bytes pc = .ok (.bastore, 1)) (hq : pc + 1 = q) (hz : x = 0 ∨ x = 1) (k : ∀ T' h', Wk Z own nm bytes ml ret R n0 p l e s m args below meth c T' cells slots h' → Wr h h' a j.toNatClampNeg (.int x) → Goes p e below s R n0 Q (T'.setTop (mkF m q Ls rest))) : Goes p e below s R n0 Q (T.setTop (mkF m pc Ls (.int x :: .int j :: .ref a :: rest))) := by
  obtain ⟨locs, X, N, eh, hn, hx, hZ, hby, hml, hown, hnm, hret, hlk⟩ := X
  obtain ⟨z, cl, A, r1, r2⟩ := A
  subst hby hq
  obtain ⟨T', h', X', e', W', st⟩ := stZ X hx hZ eh A (j := j) (own_ix r1 hj) (g := mkF m pc Ls (.int x :: .int j :: .ref a :: rest)) rfl rfl hd
  rw [own_narZ' hz] at W'
  exact g_of st (k T' h' ⟨_, X', Fr.snoc X' N ga, e', hn, hx, hZ, rfl, hml, hown, hnm, hret, hlk⟩ W')
theorem g_newarrI (X : Wk Z own nm bytes ml ret R n0 p l e s m args below meth c T cells slots h) {aty : ArrayType} (ht : defaultValue (newarray.typeOf aty) = .int 0) (w : (Jvm.Cond.arrayClass (newarray.typeOf aty)).before a0 Z = true) {n : Int32} {pc q c2 s2 cap : Nat} {Ls : Array Slot} {rest : List Value} (hd : decode bytes pc = .ok (.newarray aty, 2)) (hq : pc + 2 = q) (h0n : ¬ n < 0) (hcap : n.toNatClampNeg ≤ cap) (hbig : cap * 8 ≤ 536870912) (hc : cells + 1 = c2) (hs : slots + cap = s2) (hcR : c2 ≤ R.cells) (hsR : s2 ≤ R.slots)
    (k : ∀ T' h' b, Wk Z own nm bytes ml ret R n0 p l e s m args below meth c T' c2 s2 h' → b = h.size → n0 ≤ b → Ext h h' → AI Z h' b (newarray.typeOf aty) n.toNatClampNeg (fun _ => 0) → Goes p e below s R n0 Q (T'.setTop (mkF m q Ls (.ref b :: rest)))) : Goes p e below s R n0 Q (T.setTop (mkF m pc Ls (.int n :: rest))) := by
  obtain ⟨locs, X, N, eh, hn, hx, hZ, hby, hml, hown, hnm, hret, hlk⟩ := X
  subst hby hq hc hs
  obtain ⟨T', h', cA, X', e', E', A', stp⟩ := newP X hx hZ (aty := aty) w eh (g := mkF m pc Ls (.int n :: rest)) rfl hd rfl h0n hcap hbig hcR hsR
  refine g_of stp (k T' h' _ ⟨locs, X', N, e', hn, hx, hZ, rfl, hml, hown, hnm, hret, hlk⟩ rfl (Wk.size ⟨locs, X, N, eh, hn, hx, hZ, rfl, hml, hown, hnm, hret, hlk⟩) E' ⟨(back32 h0n).2, _, A', sz_new _ _ _, fun j hj => ?_⟩)
  simp only [newA, Array.getElem?_replicate, hj, if_true]
  rw [ht]
theorem g_newarrJ (X : Wk Z own nm bytes ml ret R n0 p l e s m args below meth c T cells slots h)  (w : (Jvm.Cond.arrayClass .long).before a0 Z = true) {n : Int32} {pc q c2 s2 cap : Nat} {Ls : Array Slot} {rest : List Value} (hd : decode bytes pc = .ok (.newarray .long, 2)) (hq : pc + 2 = q) (h0n : ¬ n < 0) (hcap : n.toNatClampNeg ≤ cap) (hbig : cap * 8 ≤ 536870912) (hc : cells + 1 = c2) (hs : slots + cap = s2) (hcR : c2 ≤ R.cells) (hsR : s2 ≤ R.slots)
    (k : ∀ T' h' b, Wk Z own nm bytes ml ret R n0 p l e s m args below meth c T' c2 s2 h' → b = h.size → n0 ≤ b → Ext h h' → AJ Z h' b n.toNatClampNeg (fun _ => 0) → Goes p e below s R n0 Q (T'.setTop (mkF m q Ls (.ref b :: rest)))) : Goes p e below s R n0 Q (T.setTop (mkF m pc Ls (.int n :: rest))) := by
  obtain ⟨locs, X, N, eh, hn, hx, hZ, hby, hml, hown, hnm, hret, hlk⟩ := X
  subst hby hq hc hs
  obtain ⟨T', h', cA, X', e', E', A', stp⟩ := newP X hx hZ (aty := .long) w eh (g := mkF m pc Ls (.int n :: rest)) rfl hd rfl h0n hcap hbig hcR hsR
  refine g_of stp (k T' h' _ ⟨locs, X', N, e', hn, hx, hZ, rfl, hml, hown, hnm, hret, hlk⟩ rfl (Wk.size ⟨locs, X, N, eh, hn, hx, hZ, rfl, hml, hown, hnm, hret, hlk⟩) E' ⟨(back32 h0n).2, _, A', sz_new _ _ _, fun j hj => ?_⟩)
  simp only [newA, Array.getElem?_replicate, hj, if_true]
  rfl
theorem g_acopyJ (X : Wk Z own nm bytes ml ret R n0 p l e s m args below meth c T cells slots h) {index : Nat} (w1 : (Jvm.Cond.methodLink own index Jvm.Stand.acN).before a0 Z = true) (w2 : (Jvm.Cond.native Jvm.Stand.acN).before a0 Z = true) (w3 : (Jvm.Cond.static Jvm.Stand.acN).before a0 Z = true) (w4 : (Jvm.Cond.initialized "java/lang/System").before a0 Z = true) {a b : Addr} {n n' : Nat} {f f' : Nat → Int64} (A : AJ Z h a n f) (B : AJ Z h b n' f') {nn : Int32} (h3 : ¬ nn < 0) (h4 : nn.toNatClampNeg ≤ n) (h5 : nn.toNatClampNeg ≤ n') (ga : n0 ≤ b) {pc q W : Nat} {Ls : Array Slot} {rest : List Value} (hLs : Ls.size = ml) (hd : decode bytes pc = .ok (.invokestatic index, 3)) (hq : pc + 3 = q) (hW : (rest.map fun v => v.category).sum = W) (hf : 1 ≤ R.frames) (hlo : W + 18 ≤ R.locals)
    (k : ∀ T' h', Wk Z own nm bytes ml ret R n0 p l e s m args below meth c T' cells slots h' → Keep h h' [b] → AJ Z h' b n' (fun j => if j < nn.toNatClampNeg then f j else f' j) → Goes p e below s R n0 Q (T'.setTop (mkF m q Ls rest))) : Goes p e below s R n0 Q (T.setTop (mkF m pc Ls (.int nn :: .int 0 :: .ref b :: .int 0 :: .ref a :: rest))) := by
  obtain ⟨locs, X, N, eh, hn, hx, hZ, hby, hml, hown, hnm, hret, hlk⟩ := X
  subst hby hq
  have zA := A.1
  have zB := B.1
  obtain ⟨kA, A'⟩ := own_arv A
  obtain ⟨kB, B'⟩ := own_arv B
  have qA := (own_clN zA).1
  have qB := (own_clN zB).1
  obtain ⟨T', h', L, X', e', N', K', C', st⟩ := cpA X hx hZ hown w1 w2 w3 w4 eh (sp := 0) (dp := 0) (nn := nn) A' B' (Or.inl ⟨rfl, rfl⟩) (by decide) (by decide) h3 (by rw [qA]; show 0 + _ ≤ _; omega) (by rw [qB]; show 0 + _ ≤ _; omega) rfl (by rw [List.length_map, List.length_range]; show 0 + _ ≤ _; omega) N ga (g := mkF m pc Ls (.int nn :: .int 0 :: .ref b :: .int 0 :: .ref a :: rest)) rfl (hLs.trans hml.symm) (rest := rest) rfl hd hf (W := W) (by show 2 * 0 + _ ≤ _; omega) (by show W + (7 + 11) ≤ _; omega)
  exact g_of st (k T' h' ⟨L, X', N', e', hn, hx, hZ, rfl, hml, hown, hnm, hret, hlk⟩ K' (own_arvB zB C' (fun j hj => own_cpl n n' nn.toNatClampNeg f f' h4 h5 j hj)))
theorem g_jT0 (X : Wk Z own nm bytes ml ret R n0 p l e s m args below meth c T cells slots h) {J : Nat} {g : JFrame} (L : Array Slot) (S : List Value) (rest : ∀ T', Wk Z own nm bytes ml ret R n0 p l e s m args below meth c T' cells slots h → Goes p e below s R n0 Q (T'.setTop (mkF m J (L) (S)))) (here : (∀ T', Wk Z own nm bytes ml ret R n0 p l e s m args below meth c T' cells slots h → Goes p e below s R n0 Q (T'.setTop (mkF m J (L) (S)))) → Goes p e below s R n0 Q (T.setTop g)) : Goes p e below s R n0 Q (T.setTop g) := here rest
theorem g_jT1 {α : Type} (X : Wk Z own nm bytes ml ret R n0 p l e s m args below meth c T cells slots h) {J : Nat} {g : JFrame} (P : α → Prop) (L : α → Array Slot) (S : α → List Value) (rest : ∀ T', Wk Z own nm bytes ml ret R n0 p l e s m args below meth c T' cells slots h → ∀ a, P a → Goes p e below s R n0 Q (T'.setTop (mkF m J (L a) (S a)))) (here : (∀ T', Wk Z own nm bytes ml ret R n0 p l e s m args below meth c T' cells slots h → ∀ a, P a → Goes p e below s R n0 Q (T'.setTop (mkF m J (L a) (S a)))) → Goes p e below s R n0 Q (T.setTop g)) : Goes p e below s R n0 Q (T.setTop g) := here rest
theorem g_jT2 {α β : Type} (X : Wk Z own nm bytes ml ret R n0 p l e s m args below meth c T cells slots h) {J : Nat} {g : JFrame} (P : α → β → Prop) (L : α → β → Array Slot) (S : α → β → List Value) (rest : ∀ T', Wk Z own nm bytes ml ret R n0 p l e s m args below meth c T' cells slots h → ∀ a b, P a b → Goes p e below s R n0 Q (T'.setTop (mkF m J (L a b) (S a b)))) (here : (∀ T', Wk Z own nm bytes ml ret R n0 p l e s m args below meth c T' cells slots h → ∀ a b, P a b → Goes p e below s R n0 Q (T'.setTop (mkF m J (L a b) (S a b)))) → Goes p e below s R n0 Q (T.setTop g)) : Goes p e below s R n0 Q (T.setTop g) := here rest
theorem g_jT3 {α β γ : Type} (X : Wk Z own nm bytes ml ret R n0 p l e s m args below meth c T cells slots h) {J : Nat} {g : JFrame} (P : α → β → γ → Prop) (L : α → β → γ → Array Slot) (S : α → β → γ → List Value) (rest : ∀ T', Wk Z own nm bytes ml ret R n0 p l e s m args below meth c T' cells slots h → ∀ a b c', P a b c' → Goes p e below s R n0 Q (T'.setTop (mkF m J (L a b c') (S a b c')))) (here : (∀ T', Wk Z own nm bytes ml ret R n0 p l e s m args below meth c T' cells slots h → ∀ a b c', P a b c' → Goes p e below s R n0 Q (T'.setTop (mkF m J (L a b c') (S a b c')))) → Goes p e below s R n0 Q (T.setTop g)) : Goes p e below s R n0 Q (T.setTop g) := here rest
theorem g_jT4 {α β γ δ : Type} (X : Wk Z own nm bytes ml ret R n0 p l e s m args below meth c T cells slots h) {J : Nat} {g : JFrame} (P : α → β → γ → δ → Prop) (L : α → β → γ → δ → Array Slot) (S : α → β → γ → δ → List Value) (rest : ∀ T', Wk Z own nm bytes ml ret R n0 p l e s m args below meth c T' cells slots h → ∀ a b c' d, P a b c' d → Goes p e below s R n0 Q (T'.setTop (mkF m J (L a b c' d) (S a b c' d)))) (here : (∀ T', Wk Z own nm bytes ml ret R n0 p l e s m args below meth c T' cells slots h → ∀ a b c' d, P a b c' d → Goes p e below s R n0 Q (T'.setTop (mkF m J (L a b c' d) (S a b c' d)))) → Goes p e below s R n0 Q (T.setTop g)) : Goes p e below s R n0 Q (T.setTop g) := here rest
theorem g_loop1 {α : Type} (X : Wk Z own nm bytes ml ret R n0 p l e s m args below meth c T cells slots h) {H : Nat} (ms : α → Nat) (I : α → Heap → Prop) (L : α → Array Slot) (S : α → List Value) (a : α) (i0 : I a h) (turn : ∀ a T' h', Wk Z own nm bytes ml ret R n0 p l e s m args below meth c T' cells slots h' → I a h' → (∀ a' T'' h'', Wk Z own nm bytes ml ret R n0 p l e s m args below meth c T'' cells slots h'' → I a' h'' → ms a' < ms a → Goes p e below s R n0 Q (T''.setTop (mkF m H (L a') (S a')))) → Goes p e below s R n0 Q (T'.setTop (mkF m H (L a) (S a)))) : Goes p e below s R n0 Q (T.setTop (mkF m H (L a) (S a))) := by
  induction hk : ms a using Nat.strongRecOn generalizing a T h with
  | _ k ih => exact turn a T h X i0 (fun a' T2 h2 X2 i2 lt => ih _ (hk ▸ lt) X2 a' i2 rfl)
theorem g_loop2 {α β : Type} (X : Wk Z own nm bytes ml ret R n0 p l e s m args below meth c T cells slots h) {H : Nat} (ms : α → β → Nat) (I : α → β → Heap → Prop) (L : α → β → Array Slot) (S : α → β → List Value) (a : α) (b : β) (i0 : I a b h) (turn : ∀ a b T' h', Wk Z own nm bytes ml ret R n0 p l e s m args below meth c T' cells slots h' → I a b h' → (∀ a' b' T'' h'', Wk Z own nm bytes ml ret R n0 p l e s m args below meth c T'' cells slots h'' → I a' b' h'' → ms a' b' < ms a b → Goes p e below s R n0 Q (T''.setTop (mkF m H (L a' b') (S a' b')))) → Goes p e below s R n0 Q (T'.setTop (mkF m H (L a b) (S a b)))) : Goes p e below s R n0 Q (T.setTop (mkF m H (L a b) (S a b))) := by
  induction hk : ms a b using Nat.strongRecOn generalizing a b T h with
  | _ k ih => exact turn a b T h X i0 (fun a' b' T2 h2 X2 i2 lt => ih _ (hk ▸ lt) X2 a' b' i2 rfl)
theorem g_loop3 {α β γ : Type} (X : Wk Z own nm bytes ml ret R n0 p l e s m args below meth c T cells slots h) {H : Nat} (ms : α → β → γ → Nat) (I : α → β → γ → Heap → Prop) (L : α → β → γ → Array Slot) (S : α → β → γ → List Value) (a : α) (b : β) (u : γ) (i0 : I a b u h) (turn : ∀ a b u T' h', Wk Z own nm bytes ml ret R n0 p l e s m args below meth c T' cells slots h' → I a b u h' → (∀ a' b' u' T'' h'', Wk Z own nm bytes ml ret R n0 p l e s m args below meth c T'' cells slots h'' → I a' b' u' h'' → ms a' b' u' < ms a b u → Goes p e below s R n0 Q (T''.setTop (mkF m H (L a' b' u') (S a' b' u')))) → Goes p e below s R n0 Q (T'.setTop (mkF m H (L a b u) (S a b u)))) : Goes p e below s R n0 Q (T.setTop (mkF m H (L a b u) (S a b u))) := by
  induction hk : ms a b u using Nat.strongRecOn generalizing a b u T h with
  | _ k ih => exact turn a b u T h X i0 (fun a' b' u' T2 h2 X2 i2 lt => ih _ (hk ▸ lt) X2 a' b' u' i2 rfl)
theorem g_loop4 {α β γ δ : Type} (X : Wk Z own nm bytes ml ret R n0 p l e s m args below meth c T cells slots h) {H : Nat} (ms : α → β → γ → δ → Nat) (I : α → β → γ → δ → Heap → Prop) (L : α → β → γ → δ → Array Slot) (S : α → β → γ → δ → List Value) (a : α) (b : β) (u : γ) (w : δ) (i0 : I a b u w h) (turn : ∀ a b u w T' h', Wk Z own nm bytes ml ret R n0 p l e s m args below meth c T' cells slots h' → I a b u w h' → (∀ a' b' u' w' T'' h'', Wk Z own nm bytes ml ret R n0 p l e s m args below meth c T'' cells slots h'' → I a' b' u' w' h'' → ms a' b' u' w' < ms a b u w → Goes p e below s R n0 Q (T''.setTop (mkF m H (L a' b' u' w') (S a' b' u' w')))) → Goes p e below s R n0 Q (T'.setTop (mkF m H (L a b u w) (S a b u w)))) : Goes p e below s R n0 Q (T.setTop (mkF m H (L a b u w) (S a b u w))) := by
  induction hk : ms a b u w using Nat.strongRecOn generalizing a b u w T h with
  | _ k ih => exact turn a b u w T h X i0 (fun a' b' u' w' T2 h2 X2 i2 lt => ih _ (hk ▸ lt) X2 a' b' u' w' i2 rfl)
theorem g_loop5 {α β γ δ ε : Type} (X : Wk Z own nm bytes ml ret R n0 p l e s m args below meth c T cells slots h) {H : Nat} (ms : α → β → γ → δ → ε → Nat) (I : α → β → γ → δ → ε → Heap → Prop) (L : α → β → γ → δ → ε → Array Slot) (S : α → β → γ → δ → ε → List Value) (a : α) (b : β) (u : γ) (w : δ) (z : ε) (i0 : I a b u w z h) (turn : ∀ a b u w z T' h', Wk Z own nm bytes ml ret R n0 p l e s m args below meth c T' cells slots h' → I a b u w z h' → (∀ a' b' u' w' z' T'' h'', Wk Z own nm bytes ml ret R n0 p l e s m args below meth c T'' cells slots h'' → I a' b' u' w' z' h'' → ms a' b' u' w' z' < ms a b u w z → Goes p e below s R n0 Q (T''.setTop (mkF m H (L a' b' u' w' z') (S a' b' u' w' z')))) → Goes p e below s R n0 Q (T'.setTop (mkF m H (L a b u w z) (S a b u w z)))) : Goes p e below s R n0 Q (T.setTop (mkF m H (L a b u w z) (S a b u w z))) := by
  induction hk : ms a b u w z using Nat.strongRecOn generalizing a b u w z T h with
  | _ k ih => exact turn a b u w z T h X i0 (fun a' b' u' w' z' T2 h2 X2 i2 lt => ih _ (hk ▸ lt) X2 a' b' u' w' z' i2 rfl)
end Walk
end Jvm.Own
namespace Jvm.Pilot.@@N@@
open Jvm Jvm.ClassFile Sem Op Lib Jvm.Free Jvm.Stand Jvm.LawKit Jvm.RoadKit Bundle Jvm.Own Jvm.Pilot.@@N@@.Jvm.D

theorem tw0 {Z : State} {a0 : Array Value} (hw : ∀ d ∈ tables_1, d.before a0 Z = true) : ((Jvm.Cond.classLink "com/example/retention/retention/group/LazyLongArrayGetPinLaw" (8 : Nat) "com/example/retention/retention/group/LazyLongArray")).before a0 Z = true := hw _ (List.mem_of_getElem? (i := 0) rfl)
theorem tw1 {Z : State} {a0 : Array Value} (hw : ∀ d ∈ tables_1, d.before a0 Z = true) : ((Jvm.Cond.instantiable "com/example/retention/retention/group/LazyLongArray" (2 : Nat))).before a0 Z = true := hw _ (List.mem_of_getElem? (i := 1) rfl)
theorem tw2 {Z : State} {a0 : Array Value} (hw : ∀ d ∈ tables_1, d.before a0 Z = true) : ((Jvm.Cond.initialized "com/example/retention/retention/group/LazyLongArray")).before a0 Z = true := hw _ (List.mem_of_getElem? (i := 2) rfl)
theorem tw3 {Z : State} {a0 : Array Value} (hw : ∀ d ∈ tables_1, d.before a0 Z = true) : ((Jvm.Cond.methodLink "com/example/retention/retention/group/LazyLongArrayGetPinLaw" (10 : Nat) ({ cls := "com/example/retention/retention/group/LazyLongArray", name := "<init>", desc := "(J)V" } : Jvm.MethodName))).before a0 Z = true := hw _ (List.mem_of_getElem? (i := 3) rfl)
theorem tw4 {Z : State} {a0 : Array Value} (hw : ∀ d ∈ tables_1, d.before a0 Z = true) : ((Jvm.Cond.instanceMethod ({ cls := "com/example/retention/retention/group/LazyLongArray", name := "<init>", desc := "(J)V" } : Jvm.MethodName))).before a0 Z = true := hw _ (List.mem_of_getElem? (i := 4) rfl)
theorem tw5 {Z : State} {a0 : Array Value} (hw : ∀ d ∈ tables_1, d.before a0 Z = true) : ((Jvm.Cond.code ({ cls := "com/example/retention/retention/group/LazyLongArray", name := "<init>", desc := "(J)V" } : Jvm.MethodName) prog_38_method_1_code (3 : Nat) (Option.none : Option Jvm.ClassFile.FieldType))).before a0 Z = true := hw _ (List.mem_of_getElem? (i := 5) rfl)
theorem tw6 {Z : State} {a0 : Array Value} (hw : ∀ d ∈ tables_1, d.before a0 Z = true) : ((Jvm.Cond.methodLink "com/example/retention/retention/group/LazyLongArray" (3 : Nat) ({ cls := "java/lang/Object", name := "<init>", desc := "()V" } : Jvm.MethodName))).before a0 Z = true := hw _ (List.mem_of_getElem? (i := 6) rfl)
theorem tw7 {Z : State} {a0 : Array Value} (hw : ∀ d ∈ tables_1, d.before a0 Z = true) : ((Jvm.Cond.instanceMethod ({ cls := "java/lang/Object", name := "<init>", desc := "()V" } : Jvm.MethodName))).before a0 Z = true := hw _ (List.mem_of_getElem? (i := 7) rfl)
theorem tw8 {Z : State} {a0 : Array Value} (hw : ∀ d ∈ tables_1, d.before a0 Z = true) : ((Jvm.Cond.code ({ cls := "java/lang/Object", name := "<init>", desc := "()V" } : Jvm.MethodName) object_method_1_code (1 : Nat) (Option.none : Option Jvm.ClassFile.FieldType))).before a0 Z = true := hw _ (List.mem_of_getElem? (i := 8) rfl)
theorem tw9 {Z : State} {a0 : Array Value} (hw : ∀ d ∈ tables_1, d.before a0 Z = true) : ((Jvm.Cond.fieldLink "com/example/retention/retention/group/LazyLongArray" (9 : Nat) "com/example/retention/retention/group/LazyLongArray" "defaultValue" "J")).before a0 Z = true := hw _ (List.mem_of_getElem? (i := 9) rfl)
theorem tw10 {Z : State} {a0 : Array Value} (hw : ∀ d ∈ tables_1, d.before a0 Z = true) : ((Jvm.Cond.laysFinal "com/example/retention/retention/group/LazyLongArray" "com/example/retention/retention/group/LazyLongArray" "defaultValue" "J")).before a0 Z = true := hw _ (List.mem_of_getElem? (i := 10) rfl)
theorem tw11 {Z : State} {a0 : Array Value} (hw : ∀ d ∈ tables_1, d.before a0 Z = true) : ((Jvm.Cond.methodLink "com/example/retention/retention/group/LazyLongArrayGetPinLaw" (13 : Nat) ({ cls := "com/example/retention/retention/group/LazyLongArray", name := "get", desc := "(I)J" } : Jvm.MethodName))).before a0 Z = true := hw _ (List.mem_of_getElem? (i := 11) rfl)
theorem tw12 {Z : State} {a0 : Array Value} (hw : ∀ d ∈ tables_1, d.before a0 Z = true) : ((Jvm.Cond.declares ({ cls := "com/example/retention/retention/group/LazyLongArray", name := "get", desc := "(I)J" } : Jvm.MethodName))).before a0 Z = true := hw _ (List.mem_of_getElem? (i := 12) rfl)
theorem tw13 {Z : State} {a0 : Array Value} (hw : ∀ d ∈ tables_1, d.before a0 Z = true) : ((Jvm.Cond.instanceMethod ({ cls := "com/example/retention/retention/group/LazyLongArray", name := "get", desc := "(I)J" } : Jvm.MethodName))).before a0 Z = true := hw _ (List.mem_of_getElem? (i := 13) rfl)
theorem tw14 {Z : State} {a0 : Array Value} (hw : ∀ d ∈ tables_1, d.before a0 Z = true) : ((Jvm.Cond.selects "com/example/retention/retention/group/LazyLongArray" ({ cls := "com/example/retention/retention/group/LazyLongArray", name := "get", desc := "(I)J" } : Jvm.MethodName) ({ cls := "com/example/retention/retention/group/LazyLongArray", name := "get", desc := "(I)J" } : Jvm.MethodName))).before a0 Z = true := hw _ (List.mem_of_getElem? (i := 14) rfl)
theorem tw15 {Z : State} {a0 : Array Value} (hw : ∀ d ∈ tables_1, d.before a0 Z = true) : ((Jvm.Cond.code ({ cls := "com/example/retention/retention/group/LazyLongArray", name := "get", desc := "(I)J" } : Jvm.MethodName) prog_38_method_2_code (2 : Nat) (Option.some Jvm.ClassFile.FieldType.long))).before a0 Z = true := hw _ (List.mem_of_getElem? (i := 15) rfl)
theorem tw16 {Z : State} {a0 : Array Value} (hw : ∀ d ∈ tables_1, d.before a0 Z = true) : ((Jvm.Cond.fieldLink "com/example/retention/retention/group/LazyLongArray" (15 : Nat) "com/example/retention/retention/group/LazyLongArray" "values" "[J")).before a0 Z = true := hw _ (List.mem_of_getElem? (i := 16) rfl)
theorem tw17 {Z : State} {a0 : Array Value} (hw : ∀ d ∈ tables_1, d.before a0 Z = true) : ((Jvm.Cond.lays "com/example/retention/retention/group/LazyLongArray" "com/example/retention/retention/group/LazyLongArray" "values" "[J")).before a0 Z = true := hw _ (List.mem_of_getElem? (i := 17) rfl)
theorem tw18 {Z : State} {a0 : Array Value} (hw : ∀ d ∈ tables_1, d.before a0 Z = true) : ((Jvm.Cond.methodLink "com/example/retention/retention/group/LazyLongArrayGetPinLaw" (17 : Nat) ({ cls := "com/example/retention/retention/group/LazyLongArray", name := "set", desc := "(IJ)V" } : Jvm.MethodName))).before a0 Z = true := hw _ (List.mem_of_getElem? (i := 18) rfl)
theorem tw19 {Z : State} {a0 : Array Value} (hw : ∀ d ∈ tables_1, d.before a0 Z = true) : ((Jvm.Cond.declares ({ cls := "com/example/retention/retention/group/LazyLongArray", name := "set", desc := "(IJ)V" } : Jvm.MethodName))).before a0 Z = true := hw _ (List.mem_of_getElem? (i := 19) rfl)
theorem tw20 {Z : State} {a0 : Array Value} (hw : ∀ d ∈ tables_1, d.before a0 Z = true) : ((Jvm.Cond.instanceMethod ({ cls := "com/example/retention/retention/group/LazyLongArray", name := "set", desc := "(IJ)V" } : Jvm.MethodName))).before a0 Z = true := hw _ (List.mem_of_getElem? (i := 20) rfl)
theorem tw21 {Z : State} {a0 : Array Value} (hw : ∀ d ∈ tables_1, d.before a0 Z = true) : ((Jvm.Cond.selects "com/example/retention/retention/group/LazyLongArray" ({ cls := "com/example/retention/retention/group/LazyLongArray", name := "set", desc := "(IJ)V" } : Jvm.MethodName) ({ cls := "com/example/retention/retention/group/LazyLongArray", name := "set", desc := "(IJ)V" } : Jvm.MethodName))).before a0 Z = true := hw _ (List.mem_of_getElem? (i := 21) rfl)
theorem tw22 {Z : State} {a0 : Array Value} (hw : ∀ d ∈ tables_1, d.before a0 Z = true) : ((Jvm.Cond.code ({ cls := "com/example/retention/retention/group/LazyLongArray", name := "set", desc := "(IJ)V" } : Jvm.MethodName) prog_38_method_3_code (4 : Nat) (Option.none : Option Jvm.ClassFile.FieldType))).before a0 Z = true := hw _ (List.mem_of_getElem? (i := 22) rfl)
theorem tw23 {Z : State} {a0 : Array Value} (hw : ∀ d ∈ tables_1, d.before a0 Z = true) : ((Jvm.Cond.methodLink "com/example/retention/retention/group/LazyLongArray" (19 : Nat) ({ cls := "com/example/retention/retention/group/LazyLongArray", name := "grow", desc := "(I)V" } : Jvm.MethodName))).before a0 Z = true := hw _ (List.mem_of_getElem? (i := 23) rfl)
theorem tw24 {Z : State} {a0 : Array Value} (hw : ∀ d ∈ tables_1, d.before a0 Z = true) : ((Jvm.Cond.instanceMethod ({ cls := "com/example/retention/retention/group/LazyLongArray", name := "grow", desc := "(I)V" } : Jvm.MethodName))).before a0 Z = true := hw _ (List.mem_of_getElem? (i := 24) rfl)
theorem tw25 {Z : State} {a0 : Array Value} (hw : ∀ d ∈ tables_1, d.before a0 Z = true) : ((Jvm.Cond.privateMethod ({ cls := "com/example/retention/retention/group/LazyLongArray", name := "grow", desc := "(I)V" } : Jvm.MethodName))).before a0 Z = true := hw _ (List.mem_of_getElem? (i := 25) rfl)
theorem tw26 {Z : State} {a0 : Array Value} (hw : ∀ d ∈ tables_1, d.before a0 Z = true) : ((Jvm.Cond.code ({ cls := "com/example/retention/retention/group/LazyLongArray", name := "grow", desc := "(I)V" } : Jvm.MethodName) prog_38_method_8_code (4 : Nat) (Option.none : Option Jvm.ClassFile.FieldType))).before a0 Z = true := hw _ (List.mem_of_getElem? (i := 26) rfl)
theorem tw27 {Z : State} {a0 : Array Value} (hw : ∀ d ∈ tables_1, d.before a0 Z = true) : ((Jvm.Cond.constantLong "com/example/retention/retention/group/LazyLongArray" (47 : Nat) (2 : Int64))).before a0 Z = true := hw _ (List.mem_of_getElem? (i := 27) rfl)
theorem tw28 {Z : State} {a0 : Array Value} (hw : ∀ d ∈ tables_1, d.before a0 Z = true) : ((Jvm.Cond.methodLink "com/example/retention/retention/group/LazyLongArray" (49 : Nat) ({ cls := "java/lang/Math", name := "max", desc := "(JJ)J" } : Jvm.MethodName))).before a0 Z = true := hw _ (List.mem_of_getElem? (i := 28) rfl)
theorem tw29 {Z : State} {a0 : Array Value} (hw : ∀ d ∈ tables_1, d.before a0 Z = true) : ((Jvm.Cond.static ({ cls := "java/lang/Math", name := "max", desc := "(JJ)J" } : Jvm.MethodName))).before a0 Z = true := hw _ (List.mem_of_getElem? (i := 29) rfl)
theorem tw30 {Z : State} {a0 : Array Value} (hw : ∀ d ∈ tables_1, d.before a0 Z = true) : ((Jvm.Cond.initialized "java/lang/Math")).before a0 Z = true := hw _ (List.mem_of_getElem? (i := 30) rfl)
theorem tw31 {Z : State} {a0 : Array Value} (hw : ∀ d ∈ tables_1, d.before a0 Z = true) : ((Jvm.Cond.code ({ cls := "java/lang/Math", name := "max", desc := "(JJ)J" } : Jvm.MethodName) jdk_29_method_66_code (4 : Nat) (Option.some Jvm.ClassFile.FieldType.long))).before a0 Z = true := hw _ (List.mem_of_getElem? (i := 31) rfl)
theorem tw32 {Z : State} {a0 : Array Value} (hw : ∀ d ∈ tables_1, d.before a0 Z = true) : ((Jvm.Cond.constantLong "com/example/retention/retention/group/LazyLongArray" (53 : Nat) (2147483639 : Int64))).before a0 Z = true := hw _ (List.mem_of_getElem? (i := 32) rfl)
theorem tw33 {Z : State} {a0 : Array Value} (hw : ∀ d ∈ tables_1, d.before a0 Z = true) : ((Jvm.Cond.methodLink "com/example/retention/retention/group/LazyLongArray" (55 : Nat) ({ cls := "java/lang/Math", name := "min", desc := "(JJ)J" } : Jvm.MethodName))).before a0 Z = true := hw _ (List.mem_of_getElem? (i := 33) rfl)
theorem tw34 {Z : State} {a0 : Array Value} (hw : ∀ d ∈ tables_1, d.before a0 Z = true) : ((Jvm.Cond.static ({ cls := "java/lang/Math", name := "min", desc := "(JJ)J" } : Jvm.MethodName))).before a0 Z = true := hw _ (List.mem_of_getElem? (i := 34) rfl)
theorem tw35 {Z : State} {a0 : Array Value} (hw : ∀ d ∈ tables_1, d.before a0 Z = true) : ((Jvm.Cond.code ({ cls := "java/lang/Math", name := "min", desc := "(JJ)J" } : Jvm.MethodName) jdk_29_method_70_code (4 : Nat) (Option.some Jvm.ClassFile.FieldType.long))).before a0 Z = true := hw _ (List.mem_of_getElem? (i := 35) rfl)
theorem tw36 {Z : State} {a0 : Array Value} (hw : ∀ d ∈ tables_1, d.before a0 Z = true) : ((Jvm.Cond.arrayClass Jvm.ClassFile.FieldType.long)).before a0 Z = true := hw _ (List.mem_of_getElem? (i := 36) rfl)
theorem tw37 {Z : State} {a0 : Array Value} (hw : ∀ d ∈ tables_1, d.before a0 Z = true) : ((Jvm.Cond.methodLink "com/example/retention/retention/group/LazyLongArray" (57 : Nat) ({ cls := "java/util/Arrays", name := "fill", desc := "([JIIJ)V" } : Jvm.MethodName))).before a0 Z = true := hw _ (List.mem_of_getElem? (i := 37) rfl)
theorem tw38 {Z : State} {a0 : Array Value} (hw : ∀ d ∈ tables_1, d.before a0 Z = true) : ((Jvm.Cond.static ({ cls := "java/util/Arrays", name := "fill", desc := "([JIIJ)V" } : Jvm.MethodName))).before a0 Z = true := hw _ (List.mem_of_getElem? (i := 38) rfl)
theorem tw39 {Z : State} {a0 : Array Value} (hw : ∀ d ∈ tables_1, d.before a0 Z = true) : ((Jvm.Cond.initialized "java/util/Arrays")).before a0 Z = true := hw _ (List.mem_of_getElem? (i := 39) rfl)
theorem tw40 {Z : State} {a0 : Array Value} (hw : ∀ d ∈ tables_1, d.before a0 Z = true) : ((Jvm.Cond.code ({ cls := "java/util/Arrays", name := "fill", desc := "([JIIJ)V" } : Jvm.MethodName) jdk_65_method_102_code (6 : Nat) (Option.none : Option Jvm.ClassFile.FieldType))).before a0 Z = true := hw _ (List.mem_of_getElem? (i := 40) rfl)
theorem tw41 {Z : State} {a0 : Array Value} (hw : ∀ d ∈ tables_1, d.before a0 Z = true) : ((Jvm.Cond.methodLink "java/util/Arrays" (13 : Nat) ({ cls := "java/util/Arrays", name := "rangeCheck", desc := "(III)V" } : Jvm.MethodName))).before a0 Z = true := hw _ (List.mem_of_getElem? (i := 41) rfl)
theorem tw42 {Z : State} {a0 : Array Value} (hw : ∀ d ∈ tables_1, d.before a0 Z = true) : ((Jvm.Cond.static ({ cls := "java/util/Arrays", name := "rangeCheck", desc := "(III)V" } : Jvm.MethodName))).before a0 Z = true := hw _ (List.mem_of_getElem? (i := 42) rfl)
theorem tw43 {Z : State} {a0 : Array Value} (hw : ∀ d ∈ tables_1, d.before a0 Z = true) : ((Jvm.Cond.code ({ cls := "java/util/Arrays", name := "rangeCheck", desc := "(III)V" } : Jvm.MethodName) jdk_65_method_30_code (3 : Nat) (Option.none : Option Jvm.ClassFile.FieldType))).before a0 Z = true := hw _ (List.mem_of_getElem? (i := 43) rfl)
theorem tw44 {Z : State} {a0 : Array Value} (hw : ∀ d ∈ tables_1, d.before a0 Z = true) : ((Jvm.Cond.methodLink "com/example/retention/retention/group/LazyLongArray" (23 : Nat) ({ cls := "java/util/Arrays", name := "copyOf", desc := "([JI)[J" } : Jvm.MethodName))).before a0 Z = true := hw _ (List.mem_of_getElem? (i := 44) rfl)
theorem tw45 {Z : State} {a0 : Array Value} (hw : ∀ d ∈ tables_1, d.before a0 Z = true) : ((Jvm.Cond.static ({ cls := "java/util/Arrays", name := "copyOf", desc := "([JI)[J" } : Jvm.MethodName))).before a0 Z = true := hw _ (List.mem_of_getElem? (i := 45) rfl)
theorem tw46 {Z : State} {a0 : Array Value} (hw : ∀ d ∈ tables_1, d.before a0 Z = true) : ((Jvm.Cond.code ({ cls := "java/util/Arrays", name := "copyOf", desc := "([JI)[J" } : Jvm.MethodName) jdk_65_method_124_code (3 : Nat) (Option.some (Jvm.ClassFile.FieldType.array Jvm.ClassFile.FieldType.long)))).before a0 Z = true := hw _ (List.mem_of_getElem? (i := 46) rfl)
theorem tw47 {Z : State} {a0 : Array Value} (hw : ∀ d ∈ tables_1, d.before a0 Z = true) : ((Jvm.Cond.methodLink "java/util/Arrays" (304 : Nat) ({ cls := "java/lang/Math", name := "min", desc := "(II)I" } : Jvm.MethodName))).before a0 Z = true := hw _ (List.mem_of_getElem? (i := 47) rfl)
theorem tw48 {Z : State} {a0 : Array Value} (hw : ∀ d ∈ tables_1, d.before a0 Z = true) : ((Jvm.Cond.static ({ cls := "java/lang/Math", name := "min", desc := "(II)I" } : Jvm.MethodName))).before a0 Z = true := hw _ (List.mem_of_getElem? (i := 48) rfl)
theorem tw49 {Z : State} {a0 : Array Value} (hw : ∀ d ∈ tables_1, d.before a0 Z = true) : ((Jvm.Cond.code ({ cls := "java/lang/Math", name := "min", desc := "(II)I" } : Jvm.MethodName) jdk_29_method_69_code (2 : Nat) (Option.some Jvm.ClassFile.FieldType.int))).before a0 Z = true := hw _ (List.mem_of_getElem? (i := 49) rfl)
theorem tw50 {Z : State} {a0 : Array Value} (hw : ∀ d ∈ tables_1, d.before a0 Z = true) : ((Jvm.Cond.methodLink "java/util/Arrays" (150 : Nat) ({ cls := "java/lang/System", name := "arraycopy", desc := "(Ljava/lang/Object;ILjava/lang/Object;II)V" } : Jvm.MethodName))).before a0 Z = true := hw _ (List.mem_of_getElem? (i := 50) rfl)
theorem tw51 {Z : State} {a0 : Array Value} (hw : ∀ d ∈ tables_1, d.before a0 Z = true) : ((Jvm.Cond.static ({ cls := "java/lang/System", name := "arraycopy", desc := "(Ljava/lang/Object;ILjava/lang/Object;II)V" } : Jvm.MethodName))).before a0 Z = true := hw _ (List.mem_of_getElem? (i := 51) rfl)
theorem tw52 {Z : State} {a0 : Array Value} (hw : ∀ d ∈ tables_1, d.before a0 Z = true) : ((Jvm.Cond.initialized "java/lang/System")).before a0 Z = true := hw _ (List.mem_of_getElem? (i := 52) rfl)
theorem tw53 {Z : State} {a0 : Array Value} (hw : ∀ d ∈ tables_1, d.before a0 Z = true) : ((Jvm.Cond.native ({ cls := "java/lang/System", name := "arraycopy", desc := "(Ljava/lang/Object;ILjava/lang/Object;II)V" } : Jvm.MethodName))).before a0 Z = true := hw _ (List.mem_of_getElem? (i := 53) rfl)
theorem tw54 {Z : State} {a0 : Array Value} (hw : ∀ d ∈ tables_1, d.before a0 Z = true) : ((Jvm.Cond.constant "com/example/retention/retention/group/LazyLongArrayGetPinLaw" (7 : Nat) (2147483647 : Int32))).before a0 Z = true := hw _ (List.mem_of_getElem? (i := 54) rfl)
theorem pd0 : parseMethodDescriptor "(III)V" = some ⟨[.int, .int, .int], none⟩ := by decide +kernel
theorem pd1 : parseMethodDescriptor "(II)I" = some ⟨[.int, .int], some .int⟩ := by decide +kernel
theorem pd2 : parseMethodDescriptor "(J)V" = some ⟨[.long], none⟩ := by decide +kernel
theorem pd3 : parseMethodDescriptor "(I)J" = some ⟨[.int], some .long⟩ := by decide +kernel
theorem pd4 : parseMethodDescriptor "(IJ)V" = some ⟨[.int, .long], none⟩ := by decide +kernel
theorem pd5 : parseMethodDescriptor "(JJ)J" = some ⟨[.long, .long], some .long⟩ := by decide +kernel
theorem pd6 : parseMethodDescriptor "([JIIJ)V" = some ⟨[(.array .long), .int, .int, .long], none⟩ := by decide +kernel
theorem pd7 : parseMethodDescriptor "(I)V" = some ⟨[.int], none⟩ := by decide +kernel
theorem pd8 : parseMethodDescriptor "([JI)[J" = some ⟨[(.array .long), .int], some (.array .long)⟩ := by decide +kernel
theorem d1_0 : decode prog_38_method_1_code 0 = .ok (.aload_n 0, 1) := by decide +kernel
theorem d1_1 : decode prog_38_method_1_code 1 = .ok (.invokespecial 3, 3) := by decide +kernel
theorem d1_4 : decode prog_38_method_1_code 4 = .ok (.aload_n 0, 1) := by decide +kernel
theorem d1_5 : decode prog_38_method_1_code 5 = .ok (.lload_n 1, 1) := by decide +kernel
theorem d1_6 : decode prog_38_method_1_code 6 = .ok (.putfield 9, 3) := by decide +kernel
theorem d1_9 : decode prog_38_method_1_code 9 = .ok (.return_, 1) := by decide +kernel
theorem d3_0 : decode prog_38_method_2_code 0 = .ok (.aload_n 0, 1) := by decide +kernel
theorem d3_1 : decode prog_38_method_2_code 1 = .ok (.getfield 15, 3) := by decide +kernel
theorem d3_4 : decode prog_38_method_2_code 4 = .ok (.ifnull 12, 3) := by decide +kernel
theorem d3_7 : decode prog_38_method_2_code 7 = .ok (.iload_n 1, 1) := by decide +kernel
theorem d3_8 : decode prog_38_method_2_code 8 = .ok (.aload_n 0, 1) := by decide +kernel
theorem d3_9 : decode prog_38_method_2_code 9 = .ok (.getfield 15, 3) := by decide +kernel
theorem d3_12 : decode prog_38_method_2_code 12 = .ok (.arraylength, 1) := by decide +kernel
theorem d3_13 : decode prog_38_method_2_code 13 = .ok (.if_icmp .lt 10, 3) := by decide +kernel
theorem d3_16 : decode prog_38_method_2_code 16 = .ok (.aload_n 0, 1) := by decide +kernel
theorem d3_17 : decode prog_38_method_2_code 17 = .ok (.getfield 9, 3) := by decide +kernel
theorem d3_20 : decode prog_38_method_2_code 20 = .ok (.goto 9, 3) := by decide +kernel
theorem d3_23 : decode prog_38_method_2_code 23 = .ok (.aload_n 0, 1) := by decide +kernel
theorem d3_24 : decode prog_38_method_2_code 24 = .ok (.getfield 15, 3) := by decide +kernel
theorem d3_27 : decode prog_38_method_2_code 27 = .ok (.iload_n 1, 1) := by decide +kernel
theorem d3_28 : decode prog_38_method_2_code 28 = .ok (.laload, 1) := by decide +kernel
theorem d3_29 : decode prog_38_method_2_code 29 = .ok (.lreturn, 1) := by decide +kernel
theorem d4_0 : decode prog_38_method_3_code 0 = .ok (.aload_n 0, 1) := by decide +kernel
theorem d4_1 : decode prog_38_method_3_code 1 = .ok (.getfield 15, 3) := by decide +kernel
theorem d4_4 : decode prog_38_method_3_code 4 = .ok (.ifnull 12, 3) := by decide +kernel
theorem d4_7 : decode prog_38_method_3_code 7 = .ok (.iload_n 1, 1) := by decide +kernel
theorem d4_8 : decode prog_38_method_3_code 8 = .ok (.aload_n 0, 1) := by decide +kernel
theorem d4_9 : decode prog_38_method_3_code 9 = .ok (.getfield 15, 3) := by decide +kernel
theorem d4_12 : decode prog_38_method_3_code 12 = .ok (.arraylength, 1) := by decide +kernel
theorem d4_13 : decode prog_38_method_3_code 13 = .ok (.if_icmp .lt 29, 3) := by decide +kernel
theorem d4_16 : decode prog_38_method_3_code 16 = .ok (.lload_n 2, 1) := by decide +kernel
theorem d4_17 : decode prog_38_method_3_code 17 = .ok (.aload_n 0, 1) := by decide +kernel
theorem d4_18 : decode prog_38_method_3_code 18 = .ok (.getfield 9, 3) := by decide +kernel
theorem d4_21 : decode prog_38_method_3_code 21 = .ok (.lcmp, 1) := by decide +kernel
theorem d4_22 : decode prog_38_method_3_code 22 = .ok (.ifCond .eq 27, 3) := by decide +kernel
theorem d4_25 : decode prog_38_method_3_code 25 = .ok (.aload_n 0, 1) := by decide +kernel
theorem d4_26 : decode prog_38_method_3_code 26 = .ok (.iload_n 1, 1) := by decide +kernel
theorem d4_27 : decode prog_38_method_3_code 27 = .ok (.iconst 1, 1) := by decide +kernel
theorem d4_28 : decode prog_38_method_3_code 28 = .ok (.iadd, 1) := by decide +kernel
theorem d4_29 : decode prog_38_method_3_code 29 = .ok (.invokevirtual 19, 3) := by decide +kernel
theorem d4_32 : decode prog_38_method_3_code 32 = .ok (.aload_n 0, 1) := by decide +kernel
theorem d4_33 : decode prog_38_method_3_code 33 = .ok (.getfield 15, 3) := by decide +kernel
theorem d4_36 : decode prog_38_method_3_code 36 = .ok (.iload_n 1, 1) := by decide +kernel
theorem d4_37 : decode prog_38_method_3_code 37 = .ok (.lload_n 2, 1) := by decide +kernel
theorem d4_38 : decode prog_38_method_3_code 38 = .ok (.lastore, 1) := by decide +kernel
theorem d4_39 : decode prog_38_method_3_code 39 = .ok (.goto 10, 3) := by decide +kernel
theorem d4_42 : decode prog_38_method_3_code 42 = .ok (.aload_n 0, 1) := by decide +kernel
theorem d4_43 : decode prog_38_method_3_code 43 = .ok (.getfield 15, 3) := by decide +kernel
theorem d4_46 : decode prog_38_method_3_code 46 = .ok (.iload_n 1, 1) := by decide +kernel
theorem d4_47 : decode prog_38_method_3_code 47 = .ok (.lload_n 2, 1) := by decide +kernel
theorem d4_48 : decode prog_38_method_3_code 48 = .ok (.lastore, 1) := by decide +kernel
theorem d4_49 : decode prog_38_method_3_code 49 = .ok (.return_, 1) := by decide +kernel
theorem d5_0 : decode prog_38_method_8_code 0 = .ok (.aload_n 0, 1) := by decide +kernel
theorem d5_1 : decode prog_38_method_8_code 1 = .ok (.getfield 15, 3) := by decide +kernel
theorem d5_4 : decode prog_38_method_8_code 4 = .ok (.ifnonnull 7, 3) := by decide +kernel
theorem d5_7 : decode prog_38_method_8_code 7 = .ok (.iconst 0, 1) := by decide +kernel
theorem d5_8 : decode prog_38_method_8_code 8 = .ok (.goto 8, 3) := by decide +kernel
theorem d5_11 : decode prog_38_method_8_code 11 = .ok (.aload_n 0, 1) := by decide +kernel
theorem d5_12 : decode prog_38_method_8_code 12 = .ok (.getfield 15, 3) := by decide +kernel
theorem d5_15 : decode prog_38_method_8_code 15 = .ok (.arraylength, 1) := by decide +kernel
theorem d5_16 : decode prog_38_method_8_code 16 = .ok (.istore_n 2, 1) := by decide +kernel
theorem d5_17 : decode prog_38_method_8_code 17 = .ok (.iload_n 1, 1) := by decide +kernel
theorem d5_18 : decode prog_38_method_8_code 18 = .ok (.i2l, 1) := by decide +kernel
theorem d5_19 : decode prog_38_method_8_code 19 = .ok (.ldc2_w 47, 3) := by decide +kernel
theorem d5_22 : decode prog_38_method_8_code 22 = .ok (.iload_n 2, 1) := by decide +kernel
theorem d5_23 : decode prog_38_method_8_code 23 = .ok (.i2l, 1) := by decide +kernel
theorem d5_24 : decode prog_38_method_8_code 24 = .ok (.lmul, 1) := by decide +kernel
theorem d5_25 : decode prog_38_method_8_code 25 = .ok (.invokestatic 49, 3) := by decide +kernel
theorem d5_28 : decode prog_38_method_8_code 28 = .ok (.ldc2_w 53, 3) := by decide +kernel
theorem d5_31 : decode prog_38_method_8_code 31 = .ok (.invokestatic 55, 3) := by decide +kernel
theorem d5_34 : decode prog_38_method_8_code 34 = .ok (.l2i, 1) := by decide +kernel
theorem d5_35 : decode prog_38_method_8_code 35 = .ok (.istore_n 3, 1) := by decide +kernel
theorem d5_36 : decode prog_38_method_8_code 36 = .ok (.aload_n 0, 1) := by decide +kernel
theorem d5_37 : decode prog_38_method_8_code 37 = .ok (.aload_n 0, 1) := by decide +kernel
theorem d5_38 : decode prog_38_method_8_code 38 = .ok (.getfield 15, 3) := by decide +kernel
theorem d5_41 : decode prog_38_method_8_code 41 = .ok (.ifnonnull 9, 3) := by decide +kernel
theorem d5_44 : decode prog_38_method_8_code 44 = .ok (.iload_n 3, 1) := by decide +kernel
theorem d5_45 : decode prog_38_method_8_code 45 = .ok (.newarray .long, 2) := by decide +kernel
theorem d5_47 : decode prog_38_method_8_code 47 = .ok (.goto 11, 3) := by decide +kernel
theorem d5_50 : decode prog_38_method_8_code 50 = .ok (.aload_n 0, 1) := by decide +kernel
theorem d5_51 : decode prog_38_method_8_code 51 = .ok (.getfield 15, 3) := by decide +kernel
theorem d5_54 : decode prog_38_method_8_code 54 = .ok (.iload_n 3, 1) := by decide +kernel
theorem d5_55 : decode prog_38_method_8_code 55 = .ok (.invokestatic 23, 3) := by decide +kernel
theorem d5_58 : decode prog_38_method_8_code 58 = .ok (.putfield 15, 3) := by decide +kernel
theorem d5_61 : decode prog_38_method_8_code 61 = .ok (.aload_n 0, 1) := by decide +kernel
theorem d5_62 : decode prog_38_method_8_code 62 = .ok (.getfield 15, 3) := by decide +kernel
theorem d5_65 : decode prog_38_method_8_code 65 = .ok (.iload_n 2, 1) := by decide +kernel
theorem d5_66 : decode prog_38_method_8_code 66 = .ok (.iload_n 3, 1) := by decide +kernel
theorem d5_67 : decode prog_38_method_8_code 67 = .ok (.aload_n 0, 1) := by decide +kernel
theorem d5_68 : decode prog_38_method_8_code 68 = .ok (.getfield 9, 3) := by decide +kernel
theorem d5_71 : decode prog_38_method_8_code 71 = .ok (.invokestatic 57, 3) := by decide +kernel
theorem d5_74 : decode prog_38_method_8_code 74 = .ok (.return_, 1) := by decide +kernel
theorem d6_0 : decode jdk_29_method_66_code 0 = .ok (.lload_n 0, 1) := by decide +kernel
theorem d6_1 : decode jdk_29_method_66_code 1 = .ok (.lload_n 2, 1) := by decide +kernel
theorem d6_2 : decode jdk_29_method_66_code 2 = .ok (.lcmp, 1) := by decide +kernel
theorem d6_3 : decode jdk_29_method_66_code 3 = .ok (.ifCond .lt 7, 3) := by decide +kernel
theorem d6_6 : decode jdk_29_method_66_code 6 = .ok (.lload_n 0, 1) := by decide +kernel
theorem d6_7 : decode jdk_29_method_66_code 7 = .ok (.goto 4, 3) := by decide +kernel
theorem d6_10 : decode jdk_29_method_66_code 10 = .ok (.lload_n 2, 1) := by decide +kernel
theorem d6_11 : decode jdk_29_method_66_code 11 = .ok (.lreturn, 1) := by decide +kernel
theorem d7_0 : decode jdk_29_method_70_code 0 = .ok (.lload_n 0, 1) := by decide +kernel
theorem d7_1 : decode jdk_29_method_70_code 1 = .ok (.lload_n 2, 1) := by decide +kernel
theorem d7_2 : decode jdk_29_method_70_code 2 = .ok (.lcmp, 1) := by decide +kernel
theorem d7_3 : decode jdk_29_method_70_code 3 = .ok (.ifCond .gt 7, 3) := by decide +kernel
theorem d7_6 : decode jdk_29_method_70_code 6 = .ok (.lload_n 0, 1) := by decide +kernel
theorem d7_7 : decode jdk_29_method_70_code 7 = .ok (.goto 4, 3) := by decide +kernel
theorem d7_10 : decode jdk_29_method_70_code 10 = .ok (.lload_n 2, 1) := by decide +kernel
theorem d7_11 : decode jdk_29_method_70_code 11 = .ok (.lreturn, 1) := by decide +kernel
theorem d8_0 : decode jdk_65_method_102_code 0 = .ok (.aload_n 0, 1) := by decide +kernel
theorem d8_1 : decode jdk_65_method_102_code 1 = .ok (.arraylength, 1) := by decide +kernel
theorem d8_2 : decode jdk_65_method_102_code 2 = .ok (.iload_n 1, 1) := by decide +kernel
theorem d8_3 : decode jdk_65_method_102_code 3 = .ok (.iload_n 2, 1) := by decide +kernel
theorem d8_4 : decode jdk_65_method_102_code 4 = .ok (.invokestatic 13, 3) := by decide +kernel
theorem d8_7 : decode jdk_65_method_102_code 7 = .ok (.iload_n 1, 1) := by decide +kernel
theorem d8_8 : decode jdk_65_method_102_code 8 = .ok (.istore 5, 2) := by decide +kernel
theorem d8_10 : decode jdk_65_method_102_code 10 = .ok (.iload 5, 2) := by decide +kernel
theorem d8_12 : decode jdk_65_method_102_code 12 = .ok (.iload_n 2, 1) := by decide +kernel
theorem d8_13 : decode jdk_65_method_102_code 13 = .ok (.if_icmp .ge 14, 3) := by decide +kernel
theorem d8_16 : decode jdk_65_method_102_code 16 = .ok (.aload_n 0, 1) := by decide +kernel
theorem d8_17 : decode jdk_65_method_102_code 17 = .ok (.iload 5, 2) := by decide +kernel
theorem d8_19 : decode jdk_65_method_102_code 19 = .ok (.lload_n 3, 1) := by decide +kernel
theorem d8_20 : decode jdk_65_method_102_code 20 = .ok (.lastore, 1) := by decide +kernel
theorem d8_21 : decode jdk_65_method_102_code 21 = .ok (.iinc 5 1, 3) := by decide +kernel
theorem d8_24 : decode jdk_65_method_102_code 24 = .ok (.goto (-14), 3) := by decide +kernel
theorem d8_27 : decode jdk_65_method_102_code 27 = .ok (.return_, 1) := by decide +kernel
theorem d9_0 : decode jdk_65_method_30_code 0 = .ok (.iload_n 1, 1) := by decide +kernel
theorem d9_1 : decode jdk_65_method_30_code 1 = .ok (.iload_n 2, 1) := by decide +kernel
theorem d9_2 : decode jdk_65_method_30_code 2 = .ok (.if_icmp .le 44, 3) := by decide +kernel
theorem d9_46 : decode jdk_65_method_30_code 46 = .ok (.iload_n 1, 1) := by decide +kernel
theorem d9_47 : decode jdk_65_method_30_code 47 = .ok (.ifCond .ge 12, 3) := by decide +kernel
theorem d9_59 : decode jdk_65_method_30_code 59 = .ok (.iload_n 2, 1) := by decide +kernel
theorem d9_60 : decode jdk_65_method_30_code 60 = .ok (.iload_n 0, 1) := by decide +kernel
theorem d9_61 : decode jdk_65_method_30_code 61 = .ok (.if_icmp .le 12, 3) := by decide +kernel
theorem d9_73 : decode jdk_65_method_30_code 73 = .ok (.return_, 1) := by decide +kernel
theorem d10_0 : decode jdk_65_method_124_code 0 = .ok (.iload_n 1, 1) := by decide +kernel
theorem d10_1 : decode jdk_65_method_124_code 1 = .ok (.aload_n 0, 1) := by decide +kernel
theorem d10_2 : decode jdk_65_method_124_code 2 = .ok (.arraylength, 1) := by decide +kernel
theorem d10_3 : decode jdk_65_method_124_code 3 = .ok (.if_icmp .ne 11, 3) := by decide +kernel
theorem d10_14 : decode jdk_65_method_124_code 14 = .ok (.iload_n 1, 1) := by decide +kernel
theorem d10_15 : decode jdk_65_method_124_code 15 = .ok (.newarray .long, 2) := by decide +kernel
theorem d10_17 : decode jdk_65_method_124_code 17 = .ok (.astore_n 2, 1) := by decide +kernel
theorem d10_18 : decode jdk_65_method_124_code 18 = .ok (.aload_n 0, 1) := by decide +kernel
theorem d10_19 : decode jdk_65_method_124_code 19 = .ok (.iconst 0, 1) := by decide +kernel
theorem d10_20 : decode jdk_65_method_124_code 20 = .ok (.aload_n 2, 1) := by decide +kernel
theorem d10_21 : decode jdk_65_method_124_code 21 = .ok (.iconst 0, 1) := by decide +kernel
theorem d10_22 : decode jdk_65_method_124_code 22 = .ok (.aload_n 0, 1) := by decide +kernel
theorem d10_23 : decode jdk_65_method_124_code 23 = .ok (.arraylength, 1) := by decide +kernel
theorem d10_24 : decode jdk_65_method_124_code 24 = .ok (.iload_n 1, 1) := by decide +kernel
theorem d10_25 : decode jdk_65_method_124_code 25 = .ok (.invokestatic 304, 3) := by decide +kernel
theorem d10_28 : decode jdk_65_method_124_code 28 = .ok (.invokestatic 150, 3) := by decide +kernel
theorem d10_31 : decode jdk_65_method_124_code 31 = .ok (.aload_n 2, 1) := by decide +kernel
theorem d10_32 : decode jdk_65_method_124_code 32 = .ok (.areturn, 1) := by decide +kernel
theorem d11_0 : decode jdk_29_method_69_code 0 = .ok (.iload_n 0, 1) := by decide +kernel
theorem d11_1 : decode jdk_29_method_69_code 1 = .ok (.iload_n 1, 1) := by decide +kernel
theorem d11_2 : decode jdk_29_method_69_code 2 = .ok (.if_icmp .gt 7, 3) := by decide +kernel
theorem d11_5 : decode jdk_29_method_69_code 5 = .ok (.iload_n 0, 1) := by decide +kernel
theorem d11_6 : decode jdk_29_method_69_code 6 = .ok (.goto 4, 3) := by decide +kernel
theorem d11_9 : decode jdk_29_method_69_code 9 = .ok (.iload_n 1, 1) := by decide +kernel
theorem d11_10 : decode jdk_29_method_69_code 10 = .ok (.ireturn, 1) := by decide +kernel
def O_LazyLongArray (Z : State) (h : Heap) (a : Addr) (v0 v1 : Value) : Prop := Exa Z h a "com/example/retention/retention/group/LazyLongArray" ∧ Fld Z h a "com/example/retention/retention/group/LazyLongArray" "defaultValue" "J" v0 ∧ Fld Z h a "com/example/retention/retention/group/LazyLongArray" "values" "[J" v1
theorem O_LazyLongArray.ext {Z : State} {h h' : Heap} {a : Addr} {v0 v1 : Value} (O : O_LazyLongArray Z h a v0 v1) (E : Ext h h') : O_LazyLongArray Z h' a v0 v1 := ⟨O.1.ext E, O.2.1.ext E, O.2.2.ext E⟩
theorem O_LazyLongArray.keep {Z : State} {h h' : Heap} {a : Addr} {ws : List Addr} {v0 v1 : Value} (O : O_LazyLongArray Z h a v0 v1) (K : Keep h h' ws) (q : a ∉ ws) : O_LazyLongArray Z h' a v0 v1 := ⟨O.1.keep K, O.2.1.keep K q, O.2.2.keep K q⟩
theorem O_LazyLongArray.other {Z : State} {h h' : Heap} {a b : Addr} {sl : Nat} {w : Value} {v0 v1 : Value} (O : O_LazyLongArray Z h a v0 v1) (W : Wr h h' b sl w) (q : a ≠ b) : O_LazyLongArray Z h' a v0 v1 := ⟨O.1.wr W, O.2.1.other W (Or.inl q), O.2.2.other W (Or.inl q)⟩
theorem O_LazyLongArray.set0 {Z : State} {a0 : Array Value} {h h' : Heap} {a : Addr} {v0 v1 : Value} {w : Value} (hw : ∀ d ∈ tables_1, d.before a0 Z = true) (W : Wr h h' a (Jvm.RoadKit.slotOf Z "com/example/retention/retention/group/LazyLongArray" "defaultValue" "J") w) (O : O_LazyLongArray Z h a v0 v1) : O_LazyLongArray Z h' a w v1 := ⟨O.1.wr W, O.2.1.same W, O.2.2.other W (Or.inr (slot_ne (a0 := a0) (C := "com/example/retention/retention/group/LazyLongArray") (Or.inl (tw17 hw)) (Or.inr (tw10 hw)) (by decide) (t := (.array .long)) (t' := .long) (by decide) (by decide)))⟩
theorem O_LazyLongArray.set1 {Z : State} {a0 : Array Value} {h h' : Heap} {a : Addr} {v0 v1 : Value} {w : Value} (hw : ∀ d ∈ tables_1, d.before a0 Z = true) (W : Wr h h' a (Jvm.RoadKit.slotOf Z "com/example/retention/retention/group/LazyLongArray" "values" "[J") w) (O : O_LazyLongArray Z h a v0 v1) : O_LazyLongArray Z h' a v0 w := ⟨O.1.wr W, O.2.1.other W (Or.inr (slot_ne (a0 := a0) (C := "com/example/retention/retention/group/LazyLongArray") (Or.inr (tw10 hw)) (Or.inl (tw17 hw)) (by decide) (t := .long) (t' := (.array .long)) (by decide) (by decide))), O.2.2.same W⟩
theorem own_of {n : Nat} (h : n < 2147483648) : (Int32.ofNat n).toInt = n := Int32.toInt_ofNat_small h
theorem own_cl {n : Nat} (h : n < 2147483648) : (Int32.ofNat n).toNatClampNeg = n := by
  have q := own_of h
  simp only [Int32.toNatClampNeg, q]; omega
theorem own_k1 {i : Int32} {k : Nat} (hi : i = Int32.ofNat k) (hk : k < 2147483647) : i + 1 = Int32.ofNat (k + 1) := by
  subst hi
  apply Int32.toInt_inj.mp
  have a := own_of (n := k) (by omega)
  have b := own_of (n := k + 1) (by omega)
  have d := own_iaddE (Int32.ofNat k) 1 (by rw [a]; simp only [Int32.reduceToInt]; omega)
  rw [d, a, b]; simp only [Int32.reduceToInt]; omega
theorem own_ltN {i : Int32} {k N : Nat} (hi : i = Int32.ofNat k) (hk : k ≤ N) (hN : N < 2147483648) : i < Nat.toInt32 N ↔ k < N := by
  subst hi
  rw [Int32.lt_iff_toInt_lt, show Nat.toInt32 N = Int32.ofNat N from rfl, own_of (by omega), own_of hN]; omega
theorem own_eqN {i : Int32} {k N : Nat} (hi : i = Int32.ofNat k) (hk : k ≤ N) (hN : N < 2147483648) (c : ¬ i < Nat.toInt32 N) : k = N := by
  have z := (not_congr (own_ltN hi hk hN)).mp c; omega
theorem own_ki {i : Int32} {k N : Nat} (hi : i = Int32.ofNat k) (hk : k < N) (hN : N < 2147483648) : 0 ≤ i.toInt ∧ i.toInt < (N : Int) := by
  subst hi; rw [own_of (by omega)]; omega
theorem own_kc {i : Int32} {k : Nat} (hi : i = Int32.ofNat k) (hk : k < 2147483648) : i.toNatClampNeg = k := by subst hi; exact own_cl hk
theorem own_len {Z : State} {h : Heap} {a : Addr} {ty : FieldType} {n n' : Nat} {f : Nat → Int32} (A : AI Z h a ty n f) (q : n = n') : AI Z h a ty n' f := q ▸ A
theorem own_lenJ {Z : State} {h : Heap} {a : Addr} {n n' : Nat} {f : Nat → Int64} (A : AJ Z h a n f) (q : n = n') : AJ Z h a n' f := q ▸ A
theorem own_toFin {x : Int32} (n : Nat) (hn : n ≤ 100) (h : 0 ≤ x.toInt ∧ x.toInt < (n : Int)) : ∃ k : Fin n, x = Int32.ofNat k.val := by
  refine ⟨⟨x.toNatClampNeg, own_ixn h⟩, ?_⟩
  apply Int32.toInt_inj.mp
  rw [Int32.toInt_ofNat_small (by have := own_ixn h; show x.toNatClampNeg < 2 ^ 31; omega)]
  simp only [Int32.toNatClampNeg]; omega

def fl (F : Nat → Int64) (u w : Int) (x : Int64) : Nat → Int64 := fun j => if u ≤ (j : Int) ∧ (j : Int) < w then x else F j
theorem own_fl0 (F : Nat → Int64) (u : Int) (x : Int64) (j : Nat) : F j = fl F u u x j := by unfold fl; rw [if_neg (by omega)]
theorem own_flS {F : Nat → Int64} {u : Int} {i : Int32} {x : Int64} {n : Nat} (hu : u ≤ i.toInt) (h0 : 0 ≤ i.toInt) (h1 : (i + (1 : Int32)).toInt = i.toInt + 1) : ∀ j, j < n → own_up (fl F u i.toInt x) i.toNatClampNeg x j = fl F u (i + (1 : Int32)).toInt x j := by
  intro j _
  have c : ((i.toNatClampNeg : Nat) : Int) = i.toInt := by simp only [Int32.toNatClampNeg]; omega
  unfold own_up fl
  rw [h1]
  by_cases q : j = i.toNatClampNeg
  · rw [if_pos q, if_pos (by omega)]
  · rw [if_neg q]
    by_cases r : u ≤ (j : Int) ∧ (j : Int) < i.toInt
    · rw [if_pos r, if_pos (by omega)]
    · rw [if_neg r, if_neg (by omega)]
theorem own_i1 {i p : Int32} (h : i < p) : (i + (1 : Int32)).toInt = i.toInt + 1 := by
  rw [Int32.lt_iff_toInt_lt] at h
  have r := rng32 p
  have a := own_iaddE i 1 (by simp only [Int32.reduceToInt]; have := rng32 i; omega)
  simp only [Int32.reduceToInt] at a; exact a
theorem own_nz {p : Int32} (h : ¬ (p < (0 : Int32))) : 0 ≤ p.toInt := by rw [Int32.lt_iff_toInt_lt] at h; simp only [Int32.reduceToInt] at h; omega
theorem own_zn {p : Int32} (h : 0 ≤ p.toInt) : ¬ (p < (0 : Int32)) := by rw [Int32.lt_iff_toInt_lt]; simp only [Int32.reduceToInt]; omega
theorem own_tn {N : Nat} (h : N ≤ 32) : (Nat.toInt32 N).toInt = (N : Int) := own_of (by omega)
theorem own_nlt {a b : Int32} (h : a.toInt ≤ b.toInt) : ¬ (b < a) := by rw [Int32.lt_iff_toInt_lt]; omega
theorem own_ltn {a b : Int32} (h : ¬ (b < a)) : a.toInt ≤ b.toInt := by rw [Int32.lt_iff_toInt_lt] at h; omega
theorem own_ci {p : Int32} (h : 0 ≤ p.toInt) : ((p.toNatClampNeg : Nat) : Int) = p.toInt := by simp only [Int32.toNatClampNeg]; omega
theorem own_ct {p : Int32} (h : 0 ≤ p.toInt) : (Nat.toInt32 p.toNatClampNeg) = p := (back32 (own_zn h)).1
theorem own_cx {p : Int32} {n : Nat} (h : 0 ≤ p.toInt) (h2 : p.toInt ≤ (n : Int)) : p.toNatClampNeg ≤ n := by have := own_ci h; omega
theorem own_mx (x y r : Int64) (h : r = (if x < y then y else x)) : r.toInt = max x.toInt y.toInt := by
  rw [h]; split
  · rename_i q; rw [Int64.lt_iff_toInt_lt] at q; omega
  · rename_i q; rw [Int64.lt_iff_toInt_lt] at q; omega
theorem own_mi (x y r : Int64) (h : r = (if y < x then y else x)) : r.toInt = min x.toInt y.toInt := by
  rw [h]; split
  · rename_i q; rw [Int64.lt_iff_toInt_lt] at q; omega
  · rename_i q; rw [Int64.lt_iff_toInt_lt] at q; omega
theorem own_lenE {p f ln : Int32} {x y : Int64} (hp : 1 ≤ p.toInt ∧ p.toInt ≤ 16) (hf : 0 ≤ f.toInt ∧ f.toInt ≤ 16) (hx : x = (if p.toInt64 < ((2 : Int64) * f.toInt64) then ((2 : Int64) * f.toInt64) else p.toInt64)) (hy : y = (if (2147483639 : Int64) < x then (2147483639 : Int64) else x)) (hl : ln = y.toInt32) : ln.toInt = max p.toInt (2 * f.toInt) := by
  have e1 : p.toInt64.toInt = p.toInt := Int32.toInt_toInt64 p
  have e2 : f.toInt64.toInt = f.toInt := Int32.toInt_toInt64 f
  have e3 := own_lmulE 2 f.toInt64 (by simp only [Int64.reduceToInt]; omega)
  simp only [Int64.reduceToInt] at e3
  have a := own_mx _ _ x hx
  have b := own_mi _ _ y hy
  simp only [Int64.reduceToInt] at b
  rw [e1, e3, e2] at a
  have d := own_l2iE y (by omega)
  rw [hl, d, b, a]; omega
theorem own_mn {p : Int32} {N : Nat} (kN : N ≤ 16) (k1 : (N : Int) < p.toInt ∧ p.toInt ≤ 32) : (if p < (Nat.toInt32 N) then p else (Nat.toInt32 N)) = (Nat.toInt32 N) := by
  rw [if_neg (by rw [Int32.lt_iff_toInt_lt, own_tn (by omega)]; omega)]

theorem own_get {k : Int32} {N : Nat} {F : Nat → Int64} {d r : Int64} (hk : 0 ≤ k.toInt) (hN : N ≤ 32) (hF : ∀ j : Nat, N ≤ j → F j = d) (hr : r = (if k < (Nat.toInt32 N) then (F k.toNatClampNeg) else d)) : r = F k.toNatClampNeg := by
  rw [hr]; split
  · rfl
  · rename_i q
    have z := own_ltn q
    rw [own_tn hN] at z
    have y := own_ci hk
    exact (hF _ (by omega)).symm
theorem own_Fu {F : Nat → Int64} {d v : Int64} {i : Int32} {N : Nat} (hF : ∀ j : Nat, N ≤ j → F j = d) (hi : 0 ≤ i.toInt) (h : i.toInt < (N : Int)) : ∀ j : Nat, N ≤ j → own_up F i.toNatClampNeg v j = d := by
  intro j hj
  have y := own_ci hi
  unfold own_up; rw [if_neg (by omega)]; exact hF j hj
theorem own_FG {F : Nat → Int64} {d : Int64} {N M : Nat} (h : N ≤ M) : ∀ j : Nat, M ≤ j → (fun j => if j < N then F j else d) j = d := by
  intro j hj; show (if j < N then F j else d) = d; rw [if_neg (by omega)]
theorem own_flN {F : Nat → Int64} {d : Int64} {N j : Nat} {u w : Int} (hu : u = (N : Int)) (hw : (j : Int) < w) : fl (fun j => if j < N then F j else 0) u w d j = (if j < N then F j else d) := by
  unfold fl
  by_cases q : j < N
  · rw [if_neg (by omega)]
    show (if j < N then F j else 0) = _
    rw [if_pos q, if_pos q]
  · rw [if_pos (by omega), if_neg q]
theorem own_Gk {F : Nat → Int64} {d : Int64} {N : Nat} (hF : ∀ j : Nat, N ≤ j → F j = d) {k : Nat} : (if k < N then F k else d) = F k := by
  split
  · rfl
  · exact (hF k (by omega)).symm
theorem own_ue {F : Nat → Int64} {v : Int64} {i k : Int32} (hi : 0 ≤ i.toInt) (hk : 0 ≤ k.toInt) : own_up F i.toNatClampNeg v k.toNatClampNeg = (if k = i then v else F k.toNatClampNeg) := by
  have y := own_ci hi
  have z := own_ci hk
  unfold own_up
  by_cases q : k = i
  · rw [if_pos q, if_pos (by rw [q])]
  · rw [if_neg q, if_neg (fun w => q (Int32.toInt_inj.mp (by omega)))]
theorem ef6 (m : MethodId) (x0 : Int64) (x1 : Int64) : entryFrame m #[(.long x0), (.long x1)] 4 = mkF m 0 #[.val (.long x0), .second, .val (.long x1), .second] [] := by first | (simp [entryFrame, mkF, argsToLocals, Value.category]; done) | rfl
set_option maxRecDepth 65536 in
set_option maxHeartbeats 40000000 in
theorem rm6 (l : Launch) (Z : State) (a0 : Array Value) (hw : ∀ d ∈ tables_1, d.before a0 Z = true) (ws : List Jvm.Cond) (q1 : Int64) (q2 : Int64) (h0 : Heap) (n0 : Nat) (Z0 : n0 ≤ h0.size) :
    Met l Z (⟨"java/lang/Math", "max", "(JJ)J"⟩ : MethodName) jdk_29_method_66_code 4 (some .long) ({ frames := 0, cells := 0, slots := 0, locals := 0 } : Room) ws n0 #[(.long q1), (.long q2)] h0 (fun v h' => v = some (.long (if q1 < q2 then q2 else q1)) ∧ h0 = h') := by
  refine Met.intro (Jvm.Free.JP.mathPlain rfl (by decide +kernel)) Z0 ?_
  intro p e s m below meth c T X
  refine g_cast (ef6 m q1 q2) ?_
  refine g_lloadN X d6_0 rfl (q := 1) rfl ?_
  refine g_lloadN X d6_1 rfl (q := 2) rfl ?_
  refine g_jT1 X (J := 11) (P := fun (s0_11 : Int64) => s0_11 = (if q1 < q2 then q2 else q1)) (L := fun s0_11 => #[.val (.long q1), .second, .val (.long q2), .second]) (S := fun s0_11 => [(.long s0_11)]) ?_ ?_
  · intro T X s0_11 hs0_11
    replace hs0_11 : s0_11 = (if q1 < q2 then q2 else q1) := hs0_11
    subst hs0_11
    show Goes p e below s _ n0 _ (T.setTop (mkF m 11 #[.val (.long q1), .second, .val (.long q2), .second] [(.long (if q1 < q2 then q2 else q1))]))
    exact g_retJ X d6_11 (by decide) (by decide) ⟨rfl, rfl⟩
  · intro J11_0
    refine g_lcmpA X d6_2 (q1 := 3) rfl d6_3 (Or.inl rfl) (q := 6) rfl (by decide) (t := 10) rfl (fun (c1 : q1 < q2) => ?_) (fun (c1 : ¬ (q1 < q2)) => ?_)
    · skip
      refine g_lloadN X d6_10 rfl (q := 11) rfl ?_
      exact J11_0 T X _ ((if_pos c1).symm)
    · skip
      refine g_lloadN X d6_6 rfl (q := 7) rfl ?_
      refine g_goto X d6_7 (by decide) (q := 11) rfl ?_
      exact J11_0 T X _ ((if_neg c1).symm)
theorem ef7 (m : MethodId) (x0 : Int64) (x1 : Int64) : entryFrame m #[(.long x0), (.long x1)] 4 = mkF m 0 #[.val (.long x0), .second, .val (.long x1), .second] [] := by first | (simp [entryFrame, mkF, argsToLocals, Value.category]; done) | rfl
set_option maxRecDepth 65536 in
set_option maxHeartbeats 40000000 in
theorem rm7 (l : Launch) (Z : State) (a0 : Array Value) (hw : ∀ d ∈ tables_1, d.before a0 Z = true) (ws : List Jvm.Cond) (q1 : Int64) (q2 : Int64) (h0 : Heap) (n0 : Nat) (Z0 : n0 ≤ h0.size) :
    Met l Z (⟨"java/lang/Math", "min", "(JJ)J"⟩ : MethodName) jdk_29_method_70_code 4 (some .long) ({ frames := 0, cells := 0, slots := 0, locals := 0 } : Room) ws n0 #[(.long q1), (.long q2)] h0 (fun v h' => v = some (.long (if q2 < q1 then q2 else q1)) ∧ h0 = h') := by
  refine Met.intro (Jvm.Free.JP.mathPlain rfl (by decide +kernel)) Z0 ?_
  intro p e s m below meth c T X
  refine g_cast (ef7 m q1 q2) ?_
  refine g_lloadN X d7_0 rfl (q := 1) rfl ?_
  refine g_lloadN X d7_1 rfl (q := 2) rfl ?_
  refine g_jT1 X (J := 11) (P := fun (s0_11 : Int64) => s0_11 = (if q2 < q1 then q2 else q1)) (L := fun s0_11 => #[.val (.long q1), .second, .val (.long q2), .second]) (S := fun s0_11 => [(.long s0_11)]) ?_ ?_
  · intro T X s0_11 hs0_11
    replace hs0_11 : s0_11 = (if q2 < q1 then q2 else q1) := hs0_11
    subst hs0_11
    show Goes p e below s _ n0 _ (T.setTop (mkF m 11 #[.val (.long q1), .second, .val (.long q2), .second] [(.long (if q2 < q1 then q2 else q1))]))
    exact g_retJ X d7_11 (by decide) (by decide) ⟨rfl, rfl⟩
  · intro J11_0
    refine g_lcmpA X d7_2 (q1 := 3) rfl d7_3 (Or.inr (Or.inl rfl)) (q := 6) rfl (by decide) (t := 10) rfl (fun (c1 : q2 < q1) => ?_) (fun (c1 : ¬ (q2 < q1)) => ?_)
    · skip
      refine g_lloadN X d7_10 rfl (q := 11) rfl ?_
      exact J11_0 T X _ ((if_pos c1).symm)
    · skip
      refine g_lloadN X d7_6 rfl (q := 7) rfl ?_
      refine g_goto X d7_7 (by decide) (q := 11) rfl ?_
      exact J11_0 T X _ ((if_neg c1).symm)
theorem ef11 (m : MethodId) (x0 : Int32) (x1 : Int32) : entryFrame m #[(.int x0), (.int x1)] 2 = mkF m 0 #[.val (.int x0), .val (.int x1)] [] := by first | (simp [entryFrame, mkF, argsToLocals, Value.category]; done) | rfl
set_option maxRecDepth 65536 in
set_option maxHeartbeats 40000000 in
theorem rm11 (l : Launch) (Z : State) (a0 : Array Value) (hw : ∀ d ∈ tables_1, d.before a0 Z = true) (ws : List Jvm.Cond) (p1 : Int32) (p2 : Int32) (h0 : Heap) (n0 : Nat) (Z0 : n0 ≤ h0.size) :
    Met l Z (⟨"java/lang/Math", "min", "(II)I"⟩ : MethodName) jdk_29_method_69_code 2 (some .int) ({ frames := 0, cells := 0, slots := 0, locals := 0 } : Room) ws n0 #[(.int p1), (.int p2)] h0 (fun v h' => v = some (.int (if p2 < p1 then p2 else p1)) ∧ h0 = h') := by
  refine Met.intro (Jvm.Free.JP.mathPlain rfl (by decide +kernel)) Z0 ?_
  intro p e s m below meth c T X
  refine g_cast (ef11 m p1 p2) ?_
  refine g_iloadN X d11_0 rfl (q := 1) rfl ?_
  refine g_iloadN X d11_1 rfl (q := 2) rfl ?_
  refine g_jT1 X (J := 10) (P := fun (s0_10 : Int32) => s0_10 = (if p2 < p1 then p2 else p1)) (L := fun s0_10 => #[.val (.int p1), .val (.int p2)]) (S := fun s0_10 => [(.int s0_10)]) ?_ ?_
  · intro T X s0_10 hs0_10
    replace hs0_10 : s0_10 = (if p2 < p1 then p2 else p1) := hs0_10
    subst hs0_10
    show Goes p e below s _ n0 _ (T.setTop (mkF m 10 #[.val (.int p1), .val (.int p2)] [(.int (if p2 < p1 then p2 else p1))]))
    exact g_retI X d11_10 (by decide) (by decide) ⟨rfl, rfl⟩
  · intro J10_0
    refine g_icmpA X d11_2 (Or.inr (Or.inl rfl)) (q := 5) rfl (by decide) (t := 9) rfl (fun (c1 : p2 < p1) => ?_) (fun (c1 : ¬ (p2 < p1)) => ?_)
    · skip
      refine g_iloadN X d11_9 rfl (q := 10) rfl ?_
      exact J10_0 T X _ ((if_pos c1).symm)
    · skip
      refine g_iloadN X d11_5 rfl (q := 6) rfl ?_
      refine g_goto X d11_6 (by decide) (q := 10) rfl ?_
      exact J10_0 T X _ ((if_neg c1).symm)
theorem pn9 : plainName "java/util/Arrays" = true := by first | (simp [plainName, overriddenIn]; done) | decide +kernel
theorem ef9 (m : MethodId) (x0 : Int32) (x1 : Int32) (x2 : Int32) : entryFrame m #[(.int x0), (.int x1), (.int x2)] 3 = mkF m 0 #[.val (.int x0), .val (.int x1), .val (.int x2)] [] := by first | (simp [entryFrame, mkF, argsToLocals, Value.category]; done) | rfl
set_option maxRecDepth 65536 in
set_option maxHeartbeats 40000000 in
theorem rm9 (l : Launch) (Z : State) (a0 : Array Value) (hw : ∀ d ∈ tables_1, d.before a0 Z = true) (ws : List Jvm.Cond) (p1 : Int32) (p2 : Int32) (p3 : Int32) (h0 : Heap) (n0 : Nat) (Z0 : n0 ≤ h0.size) (f1 : ¬ (p3 < p2)) (f2 : ¬ (p2 < (0 : Int32))) (f3 : ¬ (p1 < p3)) :
    Met l Z (⟨"java/util/Arrays", "rangeCheck", "(III)V"⟩ : MethodName) jdk_65_method_30_code 3 none ({ frames := 0, cells := 0, slots := 0, locals := 0 } : Room) ws n0 #[(.int p1), (.int p2), (.int p3)] h0 (fun v h' => v = none ∧ h0 = h') := by
  refine Met.intro (plainFor_of_name pn9) Z0 ?_
  intro p e s m below meth c T X
  refine g_cast (ef9 m p1 p2 p3) ?_
  have b_p2 : (0 : Int) ≤ p2.toInt ∧ p2.toInt ≤ 2147483647 := by (try simp only [Int64.lt_iff_toInt_lt, Int32.lt_iff_toInt_lt, Int64.le_iff_toInt_le, Int32.le_iff_toInt_le, ← Int64.toInt_inj, ← Int32.toInt_inj, apply_ite Int64.toInt, apply_ite Int32.toInt, Int64.reduceToInt, Int32.reduceToInt, ne_eq] at f1 f2); have z1 := rng32 p2; omega
  refine g_iloadN X d9_0 rfl (q := 1) rfl ?_
  refine g_iloadN X d9_1 rfl (q := 2) rfl ?_
  refine g_icmpB X d9_2 (Or.inr (Or.inl rfl)) (q := 5) rfl (by decide) (t := 46) rfl (fun (c1 : p3 < p2) => ?_) (fun (c1 : ¬ (p3 < p2)) => ?_)
  · skip
    exact absurd c1 f1
  · skip
    refine g_iloadN X d9_46 rfl (q := 47) rfl ?_
    refine g_ifB X d9_47 (Or.inl rfl) (q := 50) rfl (by decide) (t := 59) rfl (fun (c2 : p2 < (0 : Int32)) => ?_) (fun (c2 : ¬ (p2 < (0 : Int32))) => ?_)
    · skip
      exact absurd c2 f2
    · skip
      refine g_iloadN X d9_59 rfl (q := 60) rfl ?_
      refine g_iloadN X d9_60 rfl (q := 61) rfl ?_
      refine g_icmpB X d9_61 (Or.inr (Or.inl rfl)) (q := 64) rfl (by decide) (t := 73) rfl (fun (c3 : p1 < p3) => ?_) (fun (c3 : ¬ (p1 < p3)) => ?_)
      · skip
        exact absurd c3 f3
      · skip
        exact g_ret0 X d9_73 (by decide) (by decide) ⟨rfl, rfl⟩
theorem pn8 : plainName "java/util/Arrays" = true := by first | (simp [plainName, overriddenIn]; done) | decide +kernel
theorem ef8 (m : MethodId) (x0 : Addr) (x1 : Int32) (x2 : Int32) (x3 : Int64) : entryFrame m #[(.ref x0), (.int x1), (.int x2), (.long x3)] 6 = mkF m 0 #[.val (.ref x0), .val (.int x1), .val (.int x2), .val (.long x3), .second, .unset] [] := by first | (simp [entryFrame, mkF, argsToLocals, Value.category]; done) | rfl
set_option maxRecDepth 65536 in
set_option maxHeartbeats 40000000 in
theorem rm8 (l : Launch) (Z : State) (a0 : Array Value) (hw : ∀ d ∈ tables_1, d.before a0 Z = true) (ws : List Jvm.Cond) (a1 : Addr) (p2 : Int32) (p3 : Int32) (q4 : Int64) (N : Nat) (F : Nat → Int64) (h0 : Heap) (n0 : Nat) (Z0 : n0 ≤ h0.size) (A_a1 : AJ Z h0 a1 N F) (g_a1 : n0 ≤ a1) (f1 : ¬ (p3 < p2)) (f2 : ¬ (p2 < (0 : Int32))) (f3 : ¬ ((Nat.toInt32 N) < p3)) (kN : N ≤ 32) :
    Met l Z (⟨"java/util/Arrays", "fill", "([JIIJ)V"⟩ : MethodName) jdk_65_method_102_code 6 none ({ frames := 1, cells := 0, slots := 0, locals := 14 } : Room) ws n0 #[(.ref a1), (.int p2), (.int p3), (.long q4)] h0 (fun v h' => v = none ∧ Keep h0 h' [a1] ∧ AJ Z h' a1 N (fl F p2.toInt p3.toInt q4)) := by
  refine Met.intro (plainFor_of_name pn8) Z0 ?_
  intro p e s m below meth c T X
  refine g_cast (ef8 m a1 p2 p3 q4) ?_
  have b_p2 : (0 : Int) ≤ p2.toInt ∧ p2.toInt ≤ 2147483647 := by (try simp only [Int64.lt_iff_toInt_lt, Int32.lt_iff_toInt_lt, Int64.le_iff_toInt_le, Int32.le_iff_toInt_le, ← Int64.toInt_inj, ← Int32.toInt_inj, apply_ite Int64.toInt, apply_ite Int32.toInt, Int64.reduceToInt, Int32.reduceToInt, ne_eq] at f1 f2); have z1 := rng32 p2; omega
  have K : Keep h0 h0 [a1] := Keep.refl h0 _
  refine g_aloadN X d8_0 rfl (q := 1) rfl rfl ?_
  refine g_alenJ X A_a1 d8_1 (q := 2) rfl ?_
  refine g_iloadN X d8_2 rfl (q := 3) rfl ?_
  refine g_iloadN X d8_3 rfl (q := 4) rfl ?_
  refine g_callS X [(.int (Nat.toInt32 N)), (.int p2), (.int p3)] [] (tw41 hw) (tw42 hw) (tw39 hw) (tw43 hw) (by decide) (rm9 l Z a0 hw [] (Nat.toInt32 N) p2 p3 _ n0 X.size f1 f2 f3) pd0 rfl rfl rfl d8_4 (q := 7) rfl (W := 0) rfl (by decide) (by decide) (c2 := 0) (s2 := 0) rfl rfl (by decide) (by decide) (fun v T h' X hQ => ?_)
  obtain ⟨rfl, rfl⟩ := hQ
  show Goes p e below s _ n0 _ (T.setTop (mkF m 7 #[.val (.ref a1), .val (.int p2), .val (.int p3), .val (.long q4), .second, .unset] []))
  refine g_iloadN X d8_7 rfl (q := 8) rfl ?_
  refine g_istore X d8_8 rfl (q := 10) (L' := #[.val (.ref a1), .val (.int p2), .val (.int p3), .val (.long q4), .second, .val (.int p2)]) rfl ?_
  have A_a1 : AJ Z _ a1 N (fl F p2.toInt p2.toInt q4) := A_a1.to (fun j _ => own_fl0 F _ q4 j)
  refine g_loop1 X (H := 10) (fun (i : Int32) => (p3.toInt - i.toInt).toNat) (fun i h => AJ Z h a1 N (fl F p2.toInt i.toInt q4) ∧ Keep h0 h [a1] ∧ p2.toInt ≤ i.toInt ∧ i.toInt ≤ p3.toInt) (fun i => #[.val (.ref a1), .val (.int p2), .val (.int p3), .val (.long q4), .second, .val (.int i)]) (fun i => []) p2 ⟨A_a1, K, (Int.le_refl _), (own_ltn f1)⟩ (fun i T h X hI ih => ?_)
  have hI2 : AJ Z h a1 N (fl F p2.toInt i.toInt q4) ∧ Keep h0 h [a1] ∧ p2.toInt ≤ i.toInt ∧ i.toInt ≤ p3.toInt := hI
  obtain ⟨A_a1, K, i0, i1⟩ := hI2
  show Goes p e below s _ n0 _ (T.setTop (mkF m 10 #[.val (.ref a1), .val (.int p2), .val (.int p3), .val (.long q4), .second, .val (.int i)] []))
  refine g_iload X d8_10 rfl (q := 12) rfl ?_
  refine g_iloadN X d8_12 rfl (q := 13) rfl ?_
  refine g_icmpB X d8_13 (Or.inl rfl) (q := 16) rfl (by decide) (t := 27) rfl (fun (c1 : i < p3) => ?_) (fun (c1 : ¬ (i < p3)) => ?_)
  · skip
    refine g_aloadN X d8_16 rfl (q := 17) rfl rfl ?_
    refine g_iload X d8_17 rfl (q := 19) rfl ?_
    refine g_lloadN X d8_19 rfl (q := 20) rfl ?_
    refine g_lastore X A_a1 ⟨by have := own_nz f2; omega, by have := own_ltn f3; rw [own_tn kN] at this; have c1' := Int32.lt_iff_toInt_lt.mp c1; omega⟩ g_a1 d8_20 (q := 21) rfl (fun T h X W => ?_)
    have A_a1 : AJ Z h a1 N (own_up (fl F p2.toInt i.toInt q4) i.toNatClampNeg q4) := A_a1.set W
    have K := K.wr W (Or.inl (List.mem_of_getElem? (i := 0) rfl))
    have A_a1 : AJ Z h a1 N (fl F p2.toInt (i + (1 : Int32)).toInt q4) := A_a1.to (own_flS i0 (by have := own_nz f2; omega) (own_i1 c1))
    refine g_iinc X d8_21 (q := 24) rfl rfl (d := 1) rfl (L' := #[.val (.ref a1), .val (.int p2), .val (.int p3), .val (.long q4), .second, .val (.int (i + (1 : Int32)))]) rfl ?_
    refine g_goto X d8_24 (by decide) (q := 10) rfl ?_
    have c1' : i.toInt < p3.toInt := Int32.lt_iff_toInt_lt.mp c1
    have q1 := own_i1 c1
    exact ih (i + (1 : Int32)) T _ X ⟨A_a1, K, (by omega), (by omega)⟩ (by show (p3.toInt - (i + (1 : Int32)).toInt).toNat < (p3.toInt - i.toInt).toNat; omega)
  · skip
    exact g_ret0 X d8_27 (by decide) (by decide) ⟨rfl, K, A_a1.to (fun j _ => by rw [show i.toInt = p3.toInt from by have := own_ltn c1; omega])⟩
theorem pn10 : plainName "java/util/Arrays" = true := by first | (simp [plainName, overriddenIn]; done) | decide +kernel
theorem ef10 (m : MethodId) (x0 : Addr) (x1 : Int32) : entryFrame m #[(.ref x0), (.int x1)] 3 = mkF m 0 #[.val (.ref x0), .val (.int x1), .unset] [] := by first | (simp [entryFrame, mkF, argsToLocals, Value.category]; done) | rfl
set_option maxRecDepth 65536 in
set_option maxHeartbeats 40000000 in
theorem rm10 (l : Launch) (Z : State) (a0 : Array Value) (hw : ∀ d ∈ tables_1, d.before a0 Z = true) (ws : List Jvm.Cond) (a1 : Addr) (p2 : Int32) (N : Nat) (F : Nat → Int64) (h0 : Heap) (n0 : Nat) (Z0 : n0 ≤ h0.size) (A_a1 : AJ Z h0 a1 N F) (k0 : ¬ (p2 = (Nat.toInt32 N))) (kN : N ≤ 16) (k1 : (N : Int) < p2.toInt ∧ p2.toInt ≤ 32) :
    Met l Z (⟨"java/util/Arrays", "copyOf", "([JI)[J"⟩ : MethodName) jdk_65_method_124_code 3 (some (.array .long)) ({ frames := 1, cells := 1, slots := 32, locals := 18 } : Room) ws n0 #[(.ref a1), (.int p2)] h0 (fun v h' => ∃ r9 : Addr, v = some (.ref r9) ∧ n0 ≤ r9 ∧ h0.size ≤ r9 ∧ Keep h0 h' [] ∧ AJ Z h' r9 p2.toNatClampNeg (fun j => if j < N then F j else 0)) := by
  refine Met.intro (plainFor_of_name pn10) Z0 ?_
  intro p e s m below meth c T X
  refine g_cast (ef10 m a1 p2) ?_
  have K : Keep h0 h0 [] := Keep.refl h0 _
  refine g_iloadN X d10_0 rfl (q := 1) rfl ?_
  refine g_aloadN X d10_1 rfl (q := 2) rfl rfl ?_
  refine g_alenJ X A_a1 d10_2 (q := 3) rfl ?_
  refine g_icmpB X d10_3 (Or.inr (Or.inr rfl)) (q := 6) rfl (by decide) (t := 14) rfl (fun (c1 : p2 = (Nat.toInt32 N)) => ?_) (fun (c1 : ¬ (p2 = (Nat.toInt32 N))) => ?_)
  · skip
    exact absurd c1 k0
  · skip
    refine g_iloadN X d10_14 rfl (q := 15) rfl ?_
    refine g_newarrJ X (tw36 hw) d10_15 (q := 17) rfl (own_zn (by omega)) (cap := 32) (own_cx (by omega) (by omega)) (by decide) (c2 := 1) (s2 := 32) rfl rfl (by decide) (by decide) (fun T h' b1 X gz_b1 g_b1 E A_new => ?_)
    have ne_a1_b1 := own_new gz_b1 A_a1.lt
    have ne_b1_a1 := own_apS ne_a1_b1
    have sz_b1 := own_sz gz_b1 K
    have K := K.ext E
    have A_a1 := A_a1.ext E
    have A_b1 : AJ Z h' b1 p2.toNatClampNeg (fun _ => 0) := A_new
    refine g_astoreN X d10_17 rfl (q := 18) (L' := #[.val (.ref a1), .val (.int p2), .val (.ref b1)]) rfl rfl ?_
    refine g_aloadN X d10_18 rfl (q := 19) rfl rfl ?_
    refine g_iconst X d10_19 rfl (q := 20) (v := 0) rfl ?_
    refine g_aloadN X d10_20 rfl (q := 21) rfl rfl ?_
    refine g_iconst X d10_21 rfl (q := 22) (v := 0) rfl ?_
    refine g_aloadN X d10_22 rfl (q := 23) rfl rfl ?_
    refine g_alenJ X A_a1 d10_23 (q := 24) rfl ?_
    refine g_iloadN X d10_24 rfl (q := 25) rfl ?_
    refine g_callS X [(.int (Nat.toInt32 N)), (.int p2)] [(.int (0 : Int32)), (.ref b1), (.int (0 : Int32)), (.ref a1)] (tw47 hw) (tw48 hw) (tw30 hw) (tw49 hw) (by decide) (rm11 l Z a0 hw [] (Nat.toInt32 N) p2 _ n0 X.size) pd1 rfl rfl rfl d10_25 (q := 28) rfl (W := 4) rfl (by decide) (by decide) (c2 := 1) (s2 := 32) rfl rfl (by decide) (by decide) (fun v T h' X hQ => ?_)
    obtain ⟨rfl, rfl⟩ := hQ
    show Goes p e below s _ n0 _ (T.setTop (mkF m 28 #[.val (.ref a1), .val (.int p2), .val (.ref b1)] [(.int (if p2 < (Nat.toInt32 N) then p2 else (Nat.toInt32 N))), (.int (0 : Int32)), (.ref b1), (.int (0 : Int32)), (.ref a1)]))
    refine g_eqI (y := (Nat.toInt32 N)) (own_mn kN k1) ?_
    refine g_acopyJ X (tw50 hw) (tw53 hw) (tw51 hw) (tw52 hw) A_a1 A_b1 (own_zn (by rw [own_tn (by omega)]; omega)) (by rw [own_kc (i := Nat.toInt32 N) (k := N) rfl (by omega)]; exact Nat.le_refl _) (by rw [own_kc (i := Nat.toInt32 N) (k := N) rfl (by omega)]; have := own_ci (p := p2) (by omega); omega) g_b1 rfl d10_28 (q := 31) rfl (W := 0) rfl (by decide) (by decide) (fun T h' X Kc A_cp => ?_)
    have A_a1 := A_a1.keep Kc (ninS ne_a1_b1 nin0)
    have A_b1 : AJ Z h' b1 p2.toNatClampNeg (fun j => if j < N then F j else 0) := by rw [own_kc (i := Nat.toInt32 N) (k := N) rfl (by omega)] at A_cp; exact A_cp
    have K := K.trans Kc (allS (Or.inr sz_b1) all0)
    refine g_aloadN X d10_31 rfl (q := 32) rfl rfl ?_
    exact g_retA X rfl rfl d10_32 (by decide) (by decide) ⟨b1, rfl, g_b1, sz_b1, K, A_b1⟩
theorem pn1 : plainName "com/example/retention/retention/group/LazyLongArray" = true := by first | (simp [plainName, overriddenIn]; done) | decide +kernel
theorem ef1 (m : MethodId) (x0 : Addr) (x1 : Int64) : entryFrame m #[(.ref x0), (.long x1)] 3 = mkF m 0 #[.val (.ref x0), .val (.long x1), .second] [] := by first | (simp [entryFrame, mkF, argsToLocals, Value.category]; done) | rfl
set_option maxRecDepth 65536 in
set_option maxHeartbeats 40000000 in
theorem rm1 (l : Launch) (Z : State) (a0 : Array Value) (hw : ∀ d ∈ tables_1, d.before a0 Z = true) (ws : List Jvm.Cond) (a1 : Addr) (q2 : Int64) (h0 : Heap) (n0 : Nat) (Z0 : n0 ≤ h0.size) (O_a1 : O_LazyLongArray Z h0 a1 (.long (0 : Int64)) .null) (g_a1 : n0 ≤ a1) :
    Met l Z (⟨"com/example/retention/retention/group/LazyLongArray", "<init>", "(J)V"⟩ : MethodName) prog_38_method_1_code 3 none ({ frames := 1, cells := 0, slots := 0, locals := 12 } : Room) ws n0 #[(.ref a1), (.long q2)] h0 (fun v h' => v = none ∧ Keep h0 h' [a1] ∧ O_LazyLongArray Z h' a1 (.long q2) .null) := by
  refine Met.intro (plainFor_of_name pn1) Z0 ?_
  intro p e s m below meth c T X
  refine g_cast (ef1 m a1 q2) ?_
  have K : Keep h0 h0 [a1] := Keep.refl h0 _
  refine g_aloadN X d1_0 rfl (q := 1) rfl rfl ?_
  refine g_initO X (tw6 hw) (tw7 hw) (tw8 hw) d1_1 (q := 4) rfl rfl (by decide) (W := 0) rfl (by decide) (fun T X => ?_)
  refine g_aloadN X d1_4 rfl (q := 5) rfl rfl ?_
  refine g_lloadN X d1_5 rfl (q := 6) rfl ?_
  refine g_putF X (tw9 hw) Via.refl O_a1.2.1 O_a1.1 (Or.inr ⟨(tw10 hw), rfl, rfl⟩) (tw1 hw) (ty := .long) (by decide) rfl rfl g_a1 d1_6 (q := 9) rfl (fun T h X W => ?_)
  have O_a1 := O_LazyLongArray.set0 hw W O_a1
  have K := K.wr W (Or.inl (List.mem_of_getElem? (i := 0) rfl))
  exact g_ret0 X d1_9 (by decide) (by decide) ⟨rfl, K, O_a1⟩
theorem pn3_null : plainName "com/example/retention/retention/group/LazyLongArray" = true := by first | (simp [plainName, overriddenIn]; done) | decide +kernel
theorem ef3_null (m : MethodId) (x0 : Addr) (x1 : Int32) : entryFrame m #[(.ref x0), (.int x1)] 2 = mkF m 0 #[.val (.ref x0), .val (.int x1)] [] := by first | (simp [entryFrame, mkF, argsToLocals, Value.category]; done) | rfl
set_option maxRecDepth 65536 in
set_option maxHeartbeats 40000000 in
theorem rm3_null (l : Launch) (Z : State) (a0 : Array Value) (hw : ∀ d ∈ tables_1, d.before a0 Z = true) (ws : List Jvm.Cond) (a1 : Addr) (p2 : Int32) (ud : Int64) (h0 : Heap) (n0 : Nat) (Z0 : n0 ≤ h0.size) (O_a1 : O_LazyLongArray Z h0 a1 (.long ud) .null) :
    Met l Z (⟨"com/example/retention/retention/group/LazyLongArray", "get", "(I)J"⟩ : MethodName) prog_38_method_2_code 2 (some .long) ({ frames := 0, cells := 0, slots := 0, locals := 0 } : Room) ws n0 #[(.ref a1), (.int p2)] h0 (fun v h' => v = some (.long ud) ∧ h0 = h') := by
  refine Met.intro (plainFor_of_name pn3_null) Z0 ?_
  intro p e s m below meth c T X
  refine g_cast (ef3_null m a1 p2) ?_
  refine g_aloadN X d3_0 rfl (q := 1) rfl rfl ?_
  refine g_getF X (tw16 hw) Via.refl O_a1.2.2 d3_1 (q := 4) rfl (fun T X => ?_)
  refine g_ifnullY X d3_4 (by decide) (q := 16) rfl ?_
  refine g_aloadN X d3_16 rfl (q := 17) rfl rfl ?_
  refine g_getF X (tw9 hw) Via.refl O_a1.2.1 d3_17 (q := 20) rfl (fun T X => ?_)
  refine g_goto X d3_20 (by decide) (q := 29) rfl ?_
  exact g_retJ X d3_29 (by decide) (by decide) ⟨rfl, rfl⟩
theorem pn4_neq : plainName "com/example/retention/retention/group/LazyLongArray" = true := by first | (simp [plainName, overriddenIn]; done) | decide +kernel
theorem ef4_neq (m : MethodId) (x0 : Addr) (x1 : Int32) (x2 : Int64) : entryFrame m #[(.ref x0), (.int x1), (.long x2)] 4 = mkF m 0 #[.val (.ref x0), .val (.int x1), .val (.long x2), .second] [] := by first | (simp [entryFrame, mkF, argsToLocals, Value.category]; done) | rfl
set_option maxRecDepth 65536 in
set_option maxHeartbeats 40000000 in
theorem rm4_neq (l : Launch) (Z : State) (a0 : Array Value) (hw : ∀ d ∈ tables_1, d.before a0 Z = true) (ws : List Jvm.Cond) (a1 : Addr) (p2 : Int32) (q3 : Int64) (ud : Int64) (h0 : Heap) (n0 : Nat) (Z0 : n0 ≤ h0.size) (O_a1 : O_LazyLongArray Z h0 a1 (.long ud) .null) (g_a1 : n0 ≤ a1) (k1 : 0 ≤ p2.toInt ∧ p2.toInt ≤ 15) (k3 : q3 = ud) :
    Met l Z (⟨"com/example/retention/retention/group/LazyLongArray", "set", "(IJ)V"⟩ : MethodName) prog_38_method_3_code 4 none ({ frames := 0, cells := 0, slots := 0, locals := 0 } : Room) ws n0 #[(.ref a1), (.int p2), (.long q3)] h0 (fun v h' => v = none ∧ Keep h0 h' [a1] ∧ O_LazyLongArray Z h' a1 (.long ud) .null) := by
  refine Met.intro (plainFor_of_name pn4_neq) Z0 ?_
  intro p e s m below meth c T X
  refine g_cast (ef4_neq m a1 p2 q3) ?_
  have K : Keep h0 h0 [a1] := Keep.refl h0 _
  refine g_aloadN X d4_0 rfl (q := 1) rfl rfl ?_
  refine g_getF X (tw16 hw) Via.refl O_a1.2.2 d4_1 (q := 4) rfl (fun T X => ?_)
  refine g_ifnullY X d4_4 (by decide) (q := 16) rfl ?_
  refine g_lloadN X d4_16 rfl (q := 17) rfl ?_
  refine g_aloadN X d4_17 rfl (q := 18) rfl rfl ?_
  refine g_getF X (tw9 hw) Via.refl O_a1.2.1 d4_18 (q := 21) rfl (fun T X => ?_)
  refine g_lcmpA X d4_21 (q1 := 22) rfl d4_22 (Or.inr (Or.inr rfl)) (q := 25) rfl (by decide) (t := 49) rfl (fun (c1 : q3 = ud) => ?_) (fun (c1 : ¬ (q3 = ud)) => ?_)
  · skip
    exact g_ret0 X d4_49 (by decide) (by decide) ⟨rfl, K, O_a1⟩
  · skip
    exact absurd k3 c1
theorem pn5_null : plainName "com/example/retention/retention/group/LazyLongArray" = true := by first | (simp [plainName, overriddenIn]; done) | decide +kernel
theorem ef5_null (m : MethodId) (x0 : Addr) (x1 : Int32) : entryFrame m #[(.ref x0), (.int x1)] 4 = mkF m 0 #[.val (.ref x0), .val (.int x1), .unset, .unset] [] := by first | (simp [entryFrame, mkF, argsToLocals, Value.category]; done) | rfl
set_option maxRecDepth 65536 in
set_option maxHeartbeats 40000000 in
theorem rm5_null (l : Launch) (Z : State) (a0 : Array Value) (hw : ∀ d ∈ tables_1, d.before a0 Z = true) (ws : List Jvm.Cond) (a1 : Addr) (p2 : Int32) (ud : Int64) (h0 : Heap) (n0 : Nat) (Z0 : n0 ≤ h0.size) (O_a1 : O_LazyLongArray Z h0 a1 (.long ud) .null) (g_a1 : n0 ≤ a1) (k1 : 1 ≤ p2.toInt ∧ p2.toInt ≤ 16) :
    Met l Z (⟨"com/example/retention/retention/group/LazyLongArray", "grow", "(I)V"⟩ : MethodName) prog_38_method_8_code 4 none ({ frames := 2, cells := 1, slots := 16, locals := 31 } : Room) ws n0 #[(.ref a1), (.int p2)] h0 (fun v h' => ∃ v1 : Addr, v = none ∧ Keep h0 h' [a1] ∧ O_LazyLongArray Z h' a1 (.long ud) (.ref v1) ∧ AJ Z h' v1 p2.toNatClampNeg (fun _ => ud) ∧ h0.size ≤ v1 ∧ n0 ≤ v1) := by
  refine Met.intro (plainFor_of_name pn5_null) Z0 ?_
  intro p e s m below meth c T X
  refine g_cast (ef5_null m a1 p2) ?_
  have K : Keep h0 h0 [a1] := Keep.refl h0 _
  refine g_aloadN X d5_0 rfl (q := 1) rfl rfl ?_
  refine g_getF X (tw16 hw) Via.refl O_a1.2.2 d5_1 (q := 4) rfl (fun T X => ?_)
  refine g_ifnonnullN X d5_4 (q := 7) rfl ?_
  refine g_iconst X d5_7 rfl (q := 8) (v := 0) rfl ?_
  refine g_goto X d5_8 (by decide) (q := 16) rfl ?_
  refine g_istoreN X d5_16 rfl (q := 17) (L' := #[.val (.ref a1), .val (.int p2), .val (.int (0 : Int32)), .unset]) rfl ?_
  refine g_iloadN X d5_17 rfl (q := 18) rfl ?_
  refine g_i2l X d5_18 rfl (q := 19) ?_
  refine g_ldc2 X (tw27 hw) d5_19 (q := 22) rfl ?_
  refine g_iloadN X d5_22 rfl (q := 23) rfl ?_
  refine g_i2l X d5_23 rfl (q := 24) ?_
  refine g_lmul X d5_24 rfl (q := 25) ?_
  refine g_callS X [(.long p2.toInt64), (.long ((2 : Int64) * (0 : Int32).toInt64))] [] (tw28 hw) (tw29 hw) (tw30 hw) (tw31 hw) (by decide) (rm6 l Z a0 hw [] p2.toInt64 ((2 : Int64) * (0 : Int32).toInt64) _ n0 X.size) pd5 rfl rfl rfl d5_25 (q := 28) rfl (W := 0) rfl (by decide) (by decide) (c2 := 0) (s2 := 0) rfl rfl (by decide) (by decide) (fun v T h' X hQ => ?_)
  obtain ⟨rfl, rfl⟩ := hQ
  show Goes p e below s _ n0 _ (T.setTop (mkF m 28 #[.val (.ref a1), .val (.int p2), .val (.int (0 : Int32)), .unset] [(.long (if p2.toInt64 < ((2 : Int64) * (0 : Int32).toInt64) then ((2 : Int64) * (0 : Int32).toInt64) else p2.toInt64))]))
  refine g_letJ (fun mx hmx => ?_)
  refine g_ldc2 X (tw32 hw) d5_28 (q := 31) rfl ?_
  refine g_callS X [(.long mx), (.long (2147483639 : Int64))] [] (tw33 hw) (tw34 hw) (tw30 hw) (tw35 hw) (by decide) (rm7 l Z a0 hw [] mx (2147483639 : Int64) _ n0 X.size) pd5 rfl rfl rfl d5_31 (q := 34) rfl (W := 0) rfl (by decide) (by decide) (c2 := 0) (s2 := 0) rfl rfl (by decide) (by decide) (fun v T h' X hQ => ?_)
  obtain ⟨rfl, rfl⟩ := hQ
  show Goes p e below s _ n0 _ (T.setTop (mkF m 34 #[.val (.ref a1), .val (.int p2), .val (.int (0 : Int32)), .unset] [(.long (if (2147483639 : Int64) < mx then (2147483639 : Int64) else mx))]))
  refine g_letJ (fun mi hmi => ?_)
  refine g_l2i X d5_34 rfl (q := 35) ?_
  have hl := own_lenE (f := 0) (ln := mi.toInt32) k1 (by decide) hmx hmi rfl
  simp only [Int32.reduceToInt] at hl
  refine g_eqI (y := p2) (Int32.toInt_inj.mp (by omega)) ?_
  refine g_istoreN X d5_35 rfl (q := 36) (L' := #[.val (.ref a1), .val (.int p2), .val (.int (0 : Int32)), .val (.int p2)]) rfl ?_
  refine g_aloadN X d5_36 rfl (q := 37) rfl rfl ?_
  refine g_aloadN X d5_37 rfl (q := 38) rfl rfl ?_
  refine g_getF X (tw16 hw) Via.refl O_a1.2.2 d5_38 (q := 41) rfl (fun T X => ?_)
  refine g_ifnonnullN X d5_41 (q := 44) rfl ?_
  refine g_iloadN X d5_44 rfl (q := 45) rfl ?_
  refine g_newarrJ X (tw36 hw) d5_45 (q := 47) rfl (own_zn (by omega)) (cap := 16) (own_cx (by omega) (by omega)) (by decide) (c2 := 1) (s2 := 16) rfl rfl (by decide) (by decide) (fun T h' b3 X gz_b3 g_b3 E A_new => ?_)
  have ne_a1_b3 := own_new gz_b3 O_a1.1.lt
  have ne_b3_a1 := own_apS ne_a1_b3
  have sz_b3 := own_sz gz_b3 K
  have K := K.ext E
  have O_a1 := O_a1.ext E
  have A_b3 : AJ Z h' b3 p2.toNatClampNeg (fun _ => 0) := A_new
  refine g_goto X d5_47 (by decide) (q := 58) rfl ?_
  refine g_putF X (tw16 hw) Via.refl O_a1.2.2 O_a1.1 (Or.inl (tw17 hw)) (tw1 hw) (ty := (.array .long)) (by decide) rfl rfl g_a1 d5_58 (q := 61) rfl (fun T h X W => ?_)
  have A_b3 := A_b3.other W ne_b3_a1
  have O_a1 := O_LazyLongArray.set1 hw W O_a1
  have K := K.wr W (Or.inl (List.mem_of_getElem? (i := 0) rfl))
  refine g_aloadN X d5_61 rfl (q := 62) rfl rfl ?_
  refine g_getF X (tw16 hw) Via.refl O_a1.2.2 d5_62 (q := 65) rfl (fun T X => ?_)
  refine g_iloadN X d5_65 rfl (q := 66) rfl ?_
  refine g_iloadN X d5_66 rfl (q := 67) rfl ?_
  refine g_aloadN X d5_67 rfl (q := 68) rfl rfl ?_
  refine g_getF X (tw9 hw) Via.refl O_a1.2.1 d5_68 (q := 71) rfl (fun T X => ?_)
  refine g_callS X [(.ref b3), (.int (0 : Int32)), (.int p2), (.long ud)] [] (tw37 hw) (tw38 hw) (tw39 hw) (tw40 hw) (by decide) (rm8 l Z a0 hw [] b3 (0 : Int32) p2 ud p2.toNatClampNeg (fun _ => 0) _ n0 X.size A_b3 g_b3 (own_zn (by omega)) (by decide) (by rw [own_ct (by omega)]; exact Int32.lt_irrefl) (by have := own_cx (p := p2) (n := 16) (by omega) (by omega); omega)) pd6 rfl rfl rfl d5_71 (q := 74) rfl (W := 0) rfl (by decide) (by decide) (c2 := 1) (s2 := 16) rfl rfl (by decide) (by decide) (fun v T h' X hQ => ?_)
  obtain ⟨rfl, Kc, A_b3'⟩ := hQ
  have O_a1 := O_a1.keep Kc (ninS ne_a1_b3 nin0)
  have A_b3 := A_b3'
  have K := K.trans Kc (allS (Or.inr sz_b3) all0)
  show Goes p e below s _ n0 _ (T.setTop (mkF m 74 #[.val (.ref a1), .val (.int p2), .val (.int (0 : Int32)), .val (.int p2)] []))
  exact g_ret0 X d5_74 (by decide) (by decide) ⟨b3, rfl, K, O_a1, A_b3.to (fun j hj => by have z := own_ci (p := p2) (by omega); unfold fl; rw [if_pos (by simp only [Int32.reduceToInt]; omega)]), sz_b3, g_b3⟩
theorem pn4_nne : plainName "com/example/retention/retention/group/LazyLongArray" = true := by first | (simp [plainName, overriddenIn]; done) | decide +kernel
theorem ef4_nne (m : MethodId) (x0 : Addr) (x1 : Int32) (x2 : Int64) : entryFrame m #[(.ref x0), (.int x1), (.long x2)] 4 = mkF m 0 #[.val (.ref x0), .val (.int x1), .val (.long x2), .second] [] := by first | (simp [entryFrame, mkF, argsToLocals, Value.category]; done) | rfl
set_option maxRecDepth 65536 in
set_option maxHeartbeats 40000000 in
theorem rm4_nne (l : Launch) (Z : State) (a0 : Array Value) (hw : ∀ d ∈ tables_1, d.before a0 Z = true) (ws : List Jvm.Cond) (a1 : Addr) (p2 : Int32) (q3 : Int64) (ud : Int64) (h0 : Heap) (n0 : Nat) (Z0 : n0 ≤ h0.size) (O_a1 : O_LazyLongArray Z h0 a1 (.long ud) .null) (g_a1 : n0 ≤ a1) (k1 : 0 ≤ p2.toInt ∧ p2.toInt ≤ 15) (k3 : ¬ (q3 = ud)) :
    Met l Z (⟨"com/example/retention/retention/group/LazyLongArray", "set", "(IJ)V"⟩ : MethodName) prog_38_method_3_code 4 none ({ frames := 3, cells := 1, slots := 16, locals := 46 } : Room) ws n0 #[(.ref a1), (.int p2), (.long q3)] h0 (fun v h' => ∃ v1 : Addr, ∃ n1 : Nat, v = none ∧ Keep h0 h' [a1] ∧ O_LazyLongArray Z h' a1 (.long ud) (.ref v1) ∧ AJ Z h' v1 n1 (own_up (fun _ => ud) p2.toNatClampNeg q3) ∧ h0.size ≤ v1 ∧ n0 ≤ v1 ∧ p2.toInt < (n1 : Int) ∧ n1 ≤ 16) := by
  refine Met.intro (plainFor_of_name pn4_nne) Z0 ?_
  intro p e s m below meth c T X
  refine g_cast (ef4_nne m a1 p2 q3) ?_
  have K : Keep h0 h0 [a1] := Keep.refl h0 _
  refine g_aloadN X d4_0 rfl (q := 1) rfl rfl ?_
  refine g_getF X (tw16 hw) Via.refl O_a1.2.2 d4_1 (q := 4) rfl (fun T X => ?_)
  refine g_ifnullY X d4_4 (by decide) (q := 16) rfl ?_
  refine g_lloadN X d4_16 rfl (q := 17) rfl ?_
  refine g_aloadN X d4_17 rfl (q := 18) rfl rfl ?_
  refine g_getF X (tw9 hw) Via.refl O_a1.2.1 d4_18 (q := 21) rfl (fun T X => ?_)
  refine g_lcmpA X d4_21 (q1 := 22) rfl d4_22 (Or.inr (Or.inr rfl)) (q := 25) rfl (by decide) (t := 49) rfl (fun (c1 : q3 = ud) => ?_) (fun (c1 : ¬ (q3 = ud)) => ?_)
  · skip
    exact absurd c1 k3
  · skip
    refine g_aloadN X d4_25 rfl (q := 26) rfl rfl ?_
    refine g_iloadN X d4_26 rfl (q := 27) rfl ?_
    refine g_iconst X d4_27 rfl (q := 28) (v := 1) rfl ?_
    refine g_iadd X d4_28 rfl (q := 29) ?_
    refine g_callP X O_a1.1 [(.int (p2 + (1 : Int32)))] [] (tw23 hw) (own_selP (tw1 hw) (tw24 hw) (tw25 hw) (by decide)) (tw24 hw) (tw25 hw) (tw2 hw) (tw26 hw) (by decide) (rm5_null l Z a0 hw [] a1 (p2 + (1 : Int32)) ud _ n0 X.size O_a1 g_a1 (by have z := (show (p2 + (1 : Int32)).toInt = p2.toInt + 1 from by rw [own_iaddE p2 1 (by simp only [Int32.reduceToInt]; omega)]; simp only [Int32.reduceToInt]); omega)) pd7 rfl rfl rfl d4_29 (q := 32) rfl (W := 0) rfl (by decide) (by decide) (c2 := 1) (s2 := 16) rfl rfl (by decide) (by decide) (fun v T h' X hQ => ?_)
    obtain ⟨v1_29, rfl, Kc, O_a1', A_v1_29', sq_v1_29, g_v1_29⟩ := hQ
    have ne_a1_v1_29 := own_far O_a1.1.lt sq_v1_29
    have ne_v1_29_a1 := own_apS ne_a1_v1_29
    have sz_v1_29 := Nat.le_trans K.1 sq_v1_29
    have O_a1 := O_a1'
    have A_v1_29 := A_v1_29'
    have K := K.trans Kc (allS (Or.inl (List.mem_of_getElem? (i := 0) rfl)) all0)
    show Goes p e below s _ n0 _ (T.setTop (mkF m 32 #[.val (.ref a1), .val (.int p2), .val (.long q3), .second] []))
    refine g_aloadN X d4_32 rfl (q := 33) rfl rfl ?_
    refine g_getF X (tw16 hw) Via.refl O_a1.2.2 d4_33 (q := 36) rfl (fun T X => ?_)
    refine g_iloadN X d4_36 rfl (q := 37) rfl ?_
    refine g_lloadN X d4_37 rfl (q := 38) rfl ?_
    refine g_lastore X A_v1_29 (by have z := (show (p2 + (1 : Int32)).toInt = p2.toInt + 1 from by rw [own_iaddE p2 1 (by simp only [Int32.reduceToInt]; omega)]; simp only [Int32.reduceToInt]); have y := own_ci (p := p2 + (1 : Int32)) (by omega); omega) g_v1_29 d4_38 (q := 39) rfl (fun T h X W => ?_)
    have O_a1 := O_a1.other W ne_a1_v1_29
    have A_v1_29 : AJ Z h v1_29 (p2 + (1 : Int32)).toNatClampNeg (own_up (fun _ => ud) p2.toNatClampNeg q3) := A_v1_29.set W
    have K := K.wr W (Or.inr sz_v1_29)
    refine g_goto X d4_39 (by decide) (q := 49) rfl ?_
    exact g_ret0 X d4_49 (by decide) (by decide) ⟨v1_29, (p2 + (1 : Int32)).toNatClampNeg, rfl, K, O_a1, A_v1_29, sz_v1_29, g_v1_29, (by have z := (show (p2 + (1 : Int32)).toInt = p2.toInt + 1 from by rw [own_iaddE p2 1 (by simp only [Int32.reduceToInt]; omega)]; simp only [Int32.reduceToInt]); have y := own_ci (p := p2 + (1 : Int32)) (by omega); omega)⟩
theorem pn3_arr : plainName "com/example/retention/retention/group/LazyLongArray" = true := by first | (simp [plainName, overriddenIn]; done) | decide +kernel
theorem ef3_arr (m : MethodId) (x0 : Addr) (x1 : Int32) : entryFrame m #[(.ref x0), (.int x1)] 2 = mkF m 0 #[.val (.ref x0), .val (.int x1)] [] := by first | (simp [entryFrame, mkF, argsToLocals, Value.category]; done) | rfl
set_option maxRecDepth 65536 in
set_option maxHeartbeats 40000000 in
theorem rm3_arr (l : Launch) (Z : State) (a0 : Array Value) (hw : ∀ d ∈ tables_1, d.before a0 Z = true) (ws : List Jvm.Cond) (a1 : Addr) (p2 : Int32) (ud : Int64) (uv : Addr) (N : Nat) (F : Nat → Int64) (h0 : Heap) (n0 : Nat) (Z0 : n0 ≤ h0.size) (O_a1 : O_LazyLongArray Z h0 a1 (.long ud) (.ref uv)) (A_uv : AJ Z h0 uv N F) (k1 : 0 ≤ p2.toInt) (kN : N ≤ 32) :
    Met l Z (⟨"com/example/retention/retention/group/LazyLongArray", "get", "(I)J"⟩ : MethodName) prog_38_method_2_code 2 (some .long) ({ frames := 0, cells := 0, slots := 0, locals := 0 } : Room) ws n0 #[(.ref a1), (.int p2)] h0 (fun v h' => v = some (.long (if p2 < (Nat.toInt32 N) then (F p2.toNatClampNeg) else ud)) ∧ h0 = h') := by
  refine Met.intro (plainFor_of_name pn3_arr) Z0 ?_
  intro p e s m below meth c T X
  refine g_cast (ef3_arr m a1 p2) ?_
  refine g_aloadN X d3_0 rfl (q := 1) rfl rfl ?_
  refine g_getF X (tw16 hw) Via.refl O_a1.2.2 d3_1 (q := 4) rfl (fun T X => ?_)
  refine g_ifnullN X d3_4 (q := 7) rfl ?_
  refine g_iloadN X d3_7 rfl (q := 8) rfl ?_
  refine g_aloadN X d3_8 rfl (q := 9) rfl rfl ?_
  refine g_getF X (tw16 hw) Via.refl O_a1.2.2 d3_9 (q := 12) rfl (fun T X => ?_)
  refine g_alenJ X A_uv d3_12 (q := 13) rfl ?_
  refine g_jT1 X (J := 29) (P := fun (s0_29 : Int64) => s0_29 = (if p2 < (Nat.toInt32 N) then (F p2.toNatClampNeg) else ud)) (L := fun s0_29 => #[.val (.ref a1), .val (.int p2)]) (S := fun s0_29 => [(.long s0_29)]) ?_ ?_
  · intro T X s0_29 hs0_29
    replace hs0_29 : s0_29 = (if p2 < (Nat.toInt32 N) then (F p2.toNatClampNeg) else ud) := hs0_29
    subst hs0_29
    show Goes p e below s _ n0 _ (T.setTop (mkF m 29 #[.val (.ref a1), .val (.int p2)] [(.long (if p2 < (Nat.toInt32 N) then (F p2.toNatClampNeg) else ud))]))
    exact g_retJ X d3_29 (by decide) (by decide) ⟨rfl, rfl⟩
  · intro J29_0
    refine g_icmpA X d3_13 (Or.inl rfl) (q := 16) rfl (by decide) (t := 23) rfl (fun (c1 : p2 < (Nat.toInt32 N)) => ?_) (fun (c1 : ¬ (p2 < (Nat.toInt32 N))) => ?_)
    · skip
      refine g_aloadN X d3_23 rfl (q := 24) rfl rfl ?_
      refine g_getF X (tw16 hw) Via.refl O_a1.2.2 d3_24 (q := 27) rfl (fun T X => ?_)
      refine g_iloadN X d3_27 rfl (q := 28) rfl ?_
      refine g_laload X A_uv ⟨k1, by have z := Int32.lt_iff_toInt_lt.mp c1; rw [own_tn (by omega)] at z; omega⟩ d3_28 (q := 29) rfl ?_
      exact J29_0 T X _ ((if_pos c1).symm)
    · skip
      refine g_aloadN X d3_16 rfl (q := 17) rfl rfl ?_
      refine g_getF X (tw9 hw) Via.refl O_a1.2.1 d3_17 (q := 20) rfl (fun T X => ?_)
      refine g_goto X d3_20 (by decide) (q := 29) rfl ?_
      exact J29_0 T X _ ((if_neg c1).symm)
theorem pn4_in : plainName "com/example/retention/retention/group/LazyLongArray" = true := by first | (simp [plainName, overriddenIn]; done) | decide +kernel
theorem ef4_in (m : MethodId) (x0 : Addr) (x1 : Int32) (x2 : Int64) : entryFrame m #[(.ref x0), (.int x1), (.long x2)] 4 = mkF m 0 #[.val (.ref x0), .val (.int x1), .val (.long x2), .second] [] := by first | (simp [entryFrame, mkF, argsToLocals, Value.category]; done) | rfl
set_option maxRecDepth 65536 in
set_option maxHeartbeats 40000000 in
theorem rm4_in (l : Launch) (Z : State) (a0 : Array Value) (hw : ∀ d ∈ tables_1, d.before a0 Z = true) (ws : List Jvm.Cond) (a1 : Addr) (p2 : Int32) (q3 : Int64) (ud : Int64) (uv : Addr) (N : Nat) (F : Nat → Int64) (h0 : Heap) (n0 : Nat) (Z0 : n0 ≤ h0.size) (O_a1 : O_LazyLongArray Z h0 a1 (.long ud) (.ref uv)) (A_uv : AJ Z h0 uv N F) (g_a1 : n0 ≤ a1) (g_uv : n0 ≤ uv) (ne_a1_uv : Apart a1 uv) (ne_uv_a1 : Apart uv a1) (k1 : 0 ≤ p2.toInt ∧ p2.toInt ≤ 15) (kN : N ≤ 16) (k2 : p2 < (Nat.toInt32 N)) :
    Met l Z (⟨"com/example/retention/retention/group/LazyLongArray", "set", "(IJ)V"⟩ : MethodName) prog_38_method_3_code 4 none ({ frames := 0, cells := 0, slots := 0, locals := 0 } : Room) ws n0 #[(.ref a1), (.int p2), (.long q3)] h0 (fun v h' => v = none ∧ Keep h0 h' [uv] ∧ AJ Z h' uv N (own_up F p2.toNatClampNeg q3)) := by
  refine Met.intro (plainFor_of_name pn4_in) Z0 ?_
  intro p e s m below meth c T X
  refine g_cast (ef4_in m a1 p2 q3) ?_
  have K : Keep h0 h0 [uv] := Keep.refl h0 _
  refine g_aloadN X d4_0 rfl (q := 1) rfl rfl ?_
  refine g_getF X (tw16 hw) Via.refl O_a1.2.2 d4_1 (q := 4) rfl (fun T X => ?_)
  refine g_ifnullN X d4_4 (q := 7) rfl ?_
  refine g_iloadN X d4_7 rfl (q := 8) rfl ?_
  refine g_aloadN X d4_8 rfl (q := 9) rfl rfl ?_
  refine g_getF X (tw16 hw) Via.refl O_a1.2.2 d4_9 (q := 12) rfl (fun T X => ?_)
  refine g_alenJ X A_uv d4_12 (q := 13) rfl ?_
  refine g_icmpA X d4_13 (Or.inl rfl) (q := 16) rfl (by decide) (t := 42) rfl (fun (c1 : p2 < (Nat.toInt32 N)) => ?_) (fun (c1 : ¬ (p2 < (Nat.toInt32 N))) => ?_)
  · skip
    refine g_aloadN X d4_42 rfl (q := 43) rfl rfl ?_
    refine g_getF X (tw16 hw) Via.refl O_a1.2.2 d4_43 (q := 46) rfl (fun T X => ?_)
    refine g_iloadN X d4_46 rfl (q := 47) rfl ?_
    refine g_lloadN X d4_47 rfl (q := 48) rfl ?_
    refine g_lastore X A_uv ⟨k1.1, by have z := Int32.lt_iff_toInt_lt.mp k2; rw [own_tn (by omega)] at z; omega⟩ g_uv d4_48 (q := 49) rfl (fun T h X W => ?_)
    have O_a1 := O_a1.other W ne_a1_uv
    have A_uv : AJ Z h uv N (own_up F p2.toNatClampNeg q3) := A_uv.set W
    have K := K.wr W (Or.inl (List.mem_of_getElem? (i := 0) rfl))
    exact g_ret0 X d4_49 (by decide) (by decide) ⟨rfl, K, A_uv⟩
  · skip
    exact absurd k2 c1
theorem pn4_oeq : plainName "com/example/retention/retention/group/LazyLongArray" = true := by first | (simp [plainName, overriddenIn]; done) | decide +kernel
theorem ef4_oeq (m : MethodId) (x0 : Addr) (x1 : Int32) (x2 : Int64) : entryFrame m #[(.ref x0), (.int x1), (.long x2)] 4 = mkF m 0 #[.val (.ref x0), .val (.int x1), .val (.long x2), .second] [] := by first | (simp [entryFrame, mkF, argsToLocals, Value.category]; done) | rfl
set_option maxRecDepth 65536 in
set_option maxHeartbeats 40000000 in
theorem rm4_oeq (l : Launch) (Z : State) (a0 : Array Value) (hw : ∀ d ∈ tables_1, d.before a0 Z = true) (ws : List Jvm.Cond) (a1 : Addr) (p2 : Int32) (q3 : Int64) (ud : Int64) (uv : Addr) (N : Nat) (F : Nat → Int64) (h0 : Heap) (n0 : Nat) (Z0 : n0 ≤ h0.size) (O_a1 : O_LazyLongArray Z h0 a1 (.long ud) (.ref uv)) (A_uv : AJ Z h0 uv N F) (g_a1 : n0 ≤ a1) (g_uv : n0 ≤ uv) (ne_a1_uv : Apart a1 uv) (ne_uv_a1 : Apart uv a1) (k1 : 0 ≤ p2.toInt ∧ p2.toInt ≤ 15) (kN : N ≤ 16) (k2 : ¬ (p2 < (Nat.toInt32 N))) (k3 : q3 = ud) :
    Met l Z (⟨"com/example/retention/retention/group/LazyLongArray", "set", "(IJ)V"⟩ : MethodName) prog_38_method_3_code 4 none ({ frames := 0, cells := 0, slots := 0, locals := 0 } : Room) ws n0 #[(.ref a1), (.int p2), (.long q3)] h0 (fun v h' => v = none ∧ Keep h0 h' [a1] ∧ O_LazyLongArray Z h' a1 (.long ud) (.ref uv)) := by
  refine Met.intro (plainFor_of_name pn4_oeq) Z0 ?_
  intro p e s m below meth c T X
  refine g_cast (ef4_oeq m a1 p2 q3) ?_
  have K : Keep h0 h0 [a1] := Keep.refl h0 _
  refine g_aloadN X d4_0 rfl (q := 1) rfl rfl ?_
  refine g_getF X (tw16 hw) Via.refl O_a1.2.2 d4_1 (q := 4) rfl (fun T X => ?_)
  refine g_ifnullN X d4_4 (q := 7) rfl ?_
  refine g_iloadN X d4_7 rfl (q := 8) rfl ?_
  refine g_aloadN X d4_8 rfl (q := 9) rfl rfl ?_
  refine g_getF X (tw16 hw) Via.refl O_a1.2.2 d4_9 (q := 12) rfl (fun T X => ?_)
  refine g_alenJ X A_uv d4_12 (q := 13) rfl ?_
  refine g_icmpA X d4_13 (Or.inl rfl) (q := 16) rfl (by decide) (t := 42) rfl (fun (c1 : p2 < (Nat.toInt32 N)) => ?_) (fun (c1 : ¬ (p2 < (Nat.toInt32 N))) => ?_)
  · skip
    exact absurd c1 k2
  · skip
    refine g_lloadN X d4_16 rfl (q := 17) rfl ?_
    refine g_aloadN X d4_17 rfl (q := 18) rfl rfl ?_
    refine g_getF X (tw9 hw) Via.refl O_a1.2.1 d4_18 (q := 21) rfl (fun T X => ?_)
    refine g_lcmpA X d4_21 (q1 := 22) rfl d4_22 (Or.inr (Or.inr rfl)) (q := 25) rfl (by decide) (t := 49) rfl (fun (c2 : q3 = ud) => ?_) (fun (c2 : ¬ (q3 = ud)) => ?_)
    · skip
      exact g_ret0 X d4_49 (by decide) (by decide) ⟨rfl, K, O_a1⟩
    · skip
      exact absurd k3 c2
theorem pn5_arr : plainName "com/example/retention/retention/group/LazyLongArray" = true := by first | (simp [plainName, overriddenIn]; done) | decide +kernel
theorem ef5_arr (m : MethodId) (x0 : Addr) (x1 : Int32) : entryFrame m #[(.ref x0), (.int x1)] 4 = mkF m 0 #[.val (.ref x0), .val (.int x1), .unset, .unset] [] := by first | (simp [entryFrame, mkF, argsToLocals, Value.category]; done) | rfl
set_option maxRecDepth 65536 in
set_option maxHeartbeats 40000000 in
theorem rm5_arr (l : Launch) (Z : State) (a0 : Array Value) (hw : ∀ d ∈ tables_1, d.before a0 Z = true) (ws : List Jvm.Cond) (a1 : Addr) (p2 : Int32) (ud : Int64) (uv : Addr) (N : Nat) (F : Nat → Int64) (h0 : Heap) (n0 : Nat) (Z0 : n0 ≤ h0.size) (O_a1 : O_LazyLongArray Z h0 a1 (.long ud) (.ref uv)) (A_uv : AJ Z h0 uv N F) (g_a1 : n0 ≤ a1) (ne_a1_uv : Apart a1 uv) (ne_uv_a1 : Apart uv a1) (kN : N ≤ 16) (k1 : (N : Int) < p2.toInt ∧ p2.toInt ≤ 16) :
    Met l Z (⟨"com/example/retention/retention/group/LazyLongArray", "grow", "(I)V"⟩ : MethodName) prog_38_method_8_code 4 none ({ frames := 2, cells := 1, slots := 32, locals := 33 } : Room) ws n0 #[(.ref a1), (.int p2)] h0 (fun v h' => ∃ v1 : Addr, ∃ n1 : Nat, v = none ∧ Keep h0 h' [a1] ∧ O_LazyLongArray Z h' a1 (.long ud) (.ref v1) ∧ AJ Z h' v1 n1 (fun j => if j < N then F j else ud) ∧ h0.size ≤ v1 ∧ n0 ≤ v1 ∧ p2.toInt ≤ (n1 : Int) ∧ n1 ≤ 32) := by
  refine Met.intro (plainFor_of_name pn5_arr) Z0 ?_
  intro p e s m below meth c T X
  refine g_cast (ef5_arr m a1 p2) ?_
  have K : Keep h0 h0 [a1] := Keep.refl h0 _
  refine g_aloadN X d5_0 rfl (q := 1) rfl rfl ?_
  refine g_getF X (tw16 hw) Via.refl O_a1.2.2 d5_1 (q := 4) rfl (fun T X => ?_)
  refine g_ifnonnullY X d5_4 (by decide) (q := 11) rfl ?_
  refine g_aloadN X d5_11 rfl (q := 12) rfl rfl ?_
  refine g_getF X (tw16 hw) Via.refl O_a1.2.2 d5_12 (q := 15) rfl (fun T X => ?_)
  refine g_alenJ X A_uv d5_15 (q := 16) rfl ?_
  refine g_istoreN X d5_16 rfl (q := 17) (L' := #[.val (.ref a1), .val (.int p2), .val (.int (Nat.toInt32 N)), .unset]) rfl ?_
  refine g_iloadN X d5_17 rfl (q := 18) rfl ?_
  refine g_i2l X d5_18 rfl (q := 19) ?_
  refine g_ldc2 X (tw27 hw) d5_19 (q := 22) rfl ?_
  refine g_iloadN X d5_22 rfl (q := 23) rfl ?_
  refine g_i2l X d5_23 rfl (q := 24) ?_
  refine g_lmul X d5_24 rfl (q := 25) ?_
  refine g_callS X [(.long p2.toInt64), (.long ((2 : Int64) * (Nat.toInt32 N).toInt64))] [] (tw28 hw) (tw29 hw) (tw30 hw) (tw31 hw) (by decide) (rm6 l Z a0 hw [] p2.toInt64 ((2 : Int64) * (Nat.toInt32 N).toInt64) _ n0 X.size) pd5 rfl rfl rfl d5_25 (q := 28) rfl (W := 0) rfl (by decide) (by decide) (c2 := 0) (s2 := 0) rfl rfl (by decide) (by decide) (fun v T h' X hQ => ?_)
  obtain ⟨rfl, rfl⟩ := hQ
  show Goes p e below s _ n0 _ (T.setTop (mkF m 28 #[.val (.ref a1), .val (.int p2), .val (.int (Nat.toInt32 N)), .unset] [(.long (if p2.toInt64 < ((2 : Int64) * (Nat.toInt32 N).toInt64) then ((2 : Int64) * (Nat.toInt32 N).toInt64) else p2.toInt64))]))
  refine g_letJ (fun mx hmx => ?_)
  refine g_ldc2 X (tw32 hw) d5_28 (q := 31) rfl ?_
  refine g_callS X [(.long mx), (.long (2147483639 : Int64))] [] (tw33 hw) (tw34 hw) (tw30 hw) (tw35 hw) (by decide) (rm7 l Z a0 hw [] mx (2147483639 : Int64) _ n0 X.size) pd5 rfl rfl rfl d5_31 (q := 34) rfl (W := 0) rfl (by decide) (by decide) (c2 := 0) (s2 := 0) rfl rfl (by decide) (by decide) (fun v T h' X hQ => ?_)
  obtain ⟨rfl, rfl⟩ := hQ
  show Goes p e below s _ n0 _ (T.setTop (mkF m 34 #[.val (.ref a1), .val (.int p2), .val (.int (Nat.toInt32 N)), .unset] [(.long (if (2147483639 : Int64) < mx then (2147483639 : Int64) else mx))]))
  refine g_letJ (fun mi hmi => ?_)
  refine g_l2i X d5_34 rfl (q := 35) ?_
  refine g_letI (fun ln hln => ?_)
  have hN0 := own_tn (N := N) (by omega)
  have hl := own_lenE (f := Nat.toInt32 N) (by omega) (by omega) hmx hmi hln
  rw [hN0] at hl
  refine g_istoreN X d5_35 rfl (q := 36) (L' := #[.val (.ref a1), .val (.int p2), .val (.int (Nat.toInt32 N)), .val (.int ln)]) rfl ?_
  refine g_aloadN X d5_36 rfl (q := 37) rfl rfl ?_
  refine g_aloadN X d5_37 rfl (q := 38) rfl rfl ?_
  refine g_getF X (tw16 hw) Via.refl O_a1.2.2 d5_38 (q := 41) rfl (fun T X => ?_)
  refine g_ifnonnullY X d5_41 (by decide) (q := 50) rfl ?_
  refine g_aloadN X d5_50 rfl (q := 51) rfl rfl ?_
  refine g_getF X (tw16 hw) Via.refl O_a1.2.2 d5_51 (q := 54) rfl (fun T X => ?_)
  refine g_iloadN X d5_54 rfl (q := 55) rfl ?_
  refine g_callS X [(.ref uv), (.int ln)] [(.ref a1)] (tw44 hw) (tw45 hw) (tw39 hw) (tw46 hw) (by decide) (rm10 l Z a0 hw [] uv ln N F _ n0 X.size A_uv (fun z => by have e := congrArg Int32.toInt z; rw [hN0] at e; omega) kN (by omega)) pd8 rfl rfl rfl d5_55 (q := 58) rfl (W := 1) rfl (by decide) (by decide) (c2 := 1) (s2 := 32) rfl rfl (by decide) (by decide) (fun v T h' X hQ => ?_)
  obtain ⟨b4, rfl, g_b4, sq_b4, Kc, M_b4⟩ := hQ
  have ne_a1_b4 := own_far O_a1.1.lt sq_b4
  have ne_b4_a1 := own_apS ne_a1_b4
  have ne_uv_b4 := own_far A_uv.lt sq_b4
  have ne_b4_uv := own_apS ne_uv_b4
  have sz_b4 := Nat.le_trans K.1 sq_b4
  have O_a1 := O_a1.keep Kc nin0
  have A_uv := A_uv.keep Kc nin0
  have K := K.trans Kc all0
  have A_b4 := M_b4
  show Goes p e below s _ n0 _ (T.setTop (mkF m 58 #[.val (.ref a1), .val (.int p2), .val (.int (Nat.toInt32 N)), .val (.int ln)] [(.ref b4), (.ref a1)]))
  refine g_putF X (tw16 hw) Via.refl O_a1.2.2 O_a1.1 (Or.inl (tw17 hw)) (tw1 hw) (ty := (.array .long)) (by decide) rfl rfl g_a1 d5_58 (q := 61) rfl (fun T h X W => ?_)
  have A_uv := A_uv.other W ne_uv_a1
  have A_b4 := A_b4.other W ne_b4_a1
  have O_a1 := O_LazyLongArray.set1 hw W O_a1
  have K := K.wr W (Or.inl (List.mem_of_getElem? (i := 0) rfl))
  refine g_aloadN X d5_61 rfl (q := 62) rfl rfl ?_
  refine g_getF X (tw16 hw) Via.refl O_a1.2.2 d5_62 (q := 65) rfl (fun T X => ?_)
  refine g_iloadN X d5_65 rfl (q := 66) rfl ?_
  refine g_iloadN X d5_66 rfl (q := 67) rfl ?_
  refine g_aloadN X d5_67 rfl (q := 68) rfl rfl ?_
  refine g_getF X (tw9 hw) Via.refl O_a1.2.1 d5_68 (q := 71) rfl (fun T X => ?_)
  refine g_callS X [(.ref b4), (.int (Nat.toInt32 N)), (.int ln), (.long ud)] [] (tw37 hw) (tw38 hw) (tw39 hw) (tw40 hw) (by decide) (rm8 l Z a0 hw [] b4 (Nat.toInt32 N) ln ud ln.toNatClampNeg (fun j => if j < N then F j else 0) _ n0 X.size A_b4 g_b4 (own_nlt (by omega)) (own_zn (by omega)) (by rw [own_ct (by omega)]; exact Int32.lt_irrefl) (own_cx (by omega) (by omega))) pd6 rfl rfl rfl d5_71 (q := 74) rfl (W := 0) rfl (by decide) (by decide) (c2 := 1) (s2 := 32) rfl rfl (by decide) (by decide) (fun v T h' X hQ => ?_)
  obtain ⟨rfl, Kc, A_b4'⟩ := hQ
  have O_a1 := O_a1.keep Kc (ninS ne_a1_b4 nin0)
  have A_uv := A_uv.keep Kc (ninS ne_uv_b4 nin0)
  have A_b4 := A_b4'
  have K := K.trans Kc (allS (Or.inr sz_b4) all0)
  show Goes p e below s _ n0 _ (T.setTop (mkF m 74 #[.val (.ref a1), .val (.int p2), .val (.int (Nat.toInt32 N)), .val (.int ln)] []))
  exact g_ret0 X d5_74 (by decide) (by decide) ⟨b4, ln.toNatClampNeg, rfl, K, O_a1, A_b4.to (fun j hj => by have z := own_ci (p := ln) (by omega); rw [hN0]; exact own_flN (by omega) (by omega)), sz_b4, g_b4, (by have z := own_ci (p := ln) (by omega); omega)⟩
theorem pn4_one : plainName "com/example/retention/retention/group/LazyLongArray" = true := by first | (simp [plainName, overriddenIn]; done) | decide +kernel
theorem ef4_one (m : MethodId) (x0 : Addr) (x1 : Int32) (x2 : Int64) : entryFrame m #[(.ref x0), (.int x1), (.long x2)] 4 = mkF m 0 #[.val (.ref x0), .val (.int x1), .val (.long x2), .second] [] := by first | (simp [entryFrame, mkF, argsToLocals, Value.category]; done) | rfl
set_option maxRecDepth 65536 in
set_option maxHeartbeats 40000000 in
theorem rm4_one (l : Launch) (Z : State) (a0 : Array Value) (hw : ∀ d ∈ tables_1, d.before a0 Z = true) (ws : List Jvm.Cond) (a1 : Addr) (p2 : Int32) (q3 : Int64) (ud : Int64) (uv : Addr) (N : Nat) (F : Nat → Int64) (h0 : Heap) (n0 : Nat) (Z0 : n0 ≤ h0.size) (O_a1 : O_LazyLongArray Z h0 a1 (.long ud) (.ref uv)) (A_uv : AJ Z h0 uv N F) (g_a1 : n0 ≤ a1) (g_uv : n0 ≤ uv) (ne_a1_uv : Apart a1 uv) (ne_uv_a1 : Apart uv a1) (k1 : 0 ≤ p2.toInt ∧ p2.toInt ≤ 15) (kN : N ≤ 16) (k2 : ¬ (p2 < (Nat.toInt32 N))) (k3 : ¬ (q3 = ud)) :
    Met l Z (⟨"com/example/retention/retention/group/LazyLongArray", "set", "(IJ)V"⟩ : MethodName) prog_38_method_3_code 4 none ({ frames := 3, cells := 1, slots := 32, locals := 48 } : Room) ws n0 #[(.ref a1), (.int p2), (.long q3)] h0 (fun v h' => ∃ v1 : Addr, ∃ n1 : Nat, v = none ∧ Keep h0 h' [a1] ∧ O_LazyLongArray Z h' a1 (.long ud) (.ref v1) ∧ AJ Z h' v1 n1 (own_up (fun j => if j < N then F j else ud) p2.toNatClampNeg q3) ∧ h0.size ≤ v1 ∧ n0 ≤ v1 ∧ p2.toInt < (n1 : Int) ∧ n1 ≤ 32) := by
  refine Met.intro (plainFor_of_name pn4_one) Z0 ?_
  intro p e s m below meth c T X
  refine g_cast (ef4_one m a1 p2 q3) ?_
  have K : Keep h0 h0 [a1] := Keep.refl h0 _
  refine g_aloadN X d4_0 rfl (q := 1) rfl rfl ?_
  refine g_getF X (tw16 hw) Via.refl O_a1.2.2 d4_1 (q := 4) rfl (fun T X => ?_)
  refine g_ifnullN X d4_4 (q := 7) rfl ?_
  refine g_iloadN X d4_7 rfl (q := 8) rfl ?_
  refine g_aloadN X d4_8 rfl (q := 9) rfl rfl ?_
  refine g_getF X (tw16 hw) Via.refl O_a1.2.2 d4_9 (q := 12) rfl (fun T X => ?_)
  refine g_alenJ X A_uv d4_12 (q := 13) rfl ?_
  refine g_icmpA X d4_13 (Or.inl rfl) (q := 16) rfl (by decide) (t := 42) rfl (fun (c1 : p2 < (Nat.toInt32 N)) => ?_) (fun (c1 : ¬ (p2 < (Nat.toInt32 N))) => ?_)
  · skip
    exact absurd c1 k2
  · skip
    refine g_lloadN X d4_16 rfl (q := 17) rfl ?_
    refine g_aloadN X d4_17 rfl (q := 18) rfl rfl ?_
    refine g_getF X (tw9 hw) Via.refl O_a1.2.1 d4_18 (q := 21) rfl (fun T X => ?_)
    refine g_lcmpA X d4_21 (q1 := 22) rfl d4_22 (Or.inr (Or.inr rfl)) (q := 25) rfl (by decide) (t := 49) rfl (fun (c2 : q3 = ud) => ?_) (fun (c2 : ¬ (q3 = ud)) => ?_)
    · skip
      exact absurd c2 k3
    · skip
      refine g_aloadN X d4_25 rfl (q := 26) rfl rfl ?_
      refine g_iloadN X d4_26 rfl (q := 27) rfl ?_
      refine g_iconst X d4_27 rfl (q := 28) (v := 1) rfl ?_
      refine g_iadd X d4_28 rfl (q := 29) ?_
      refine g_callP X O_a1.1 [(.int (p2 + (1 : Int32)))] [] (tw23 hw) (own_selP (tw1 hw) (tw24 hw) (tw25 hw) (by decide)) (tw24 hw) (tw25 hw) (tw2 hw) (tw26 hw) (by decide) (rm5_arr l Z a0 hw [] a1 (p2 + (1 : Int32)) ud uv N F _ n0 X.size O_a1 A_uv g_a1 ne_a1_uv ne_uv_a1 kN (by have z := (show (p2 + (1 : Int32)).toInt = p2.toInt + 1 from by rw [own_iaddE p2 1 (by simp only [Int32.reduceToInt]; omega)]; simp only [Int32.reduceToInt]); have := own_ltn k2; rw [own_tn (by omega)] at this; omega)) pd7 rfl rfl rfl d4_29 (q := 32) rfl (W := 0) rfl (by decide) (by decide) (c2 := 1) (s2 := 32) rfl rfl (by decide) (by decide) (fun v T h' X hQ => ?_)
      obtain ⟨v1_29, n1_29, rfl, Kc, O_a1', A_v1_29', sq_v1_29, g_v1_29, hn1_29⟩ := hQ
      have ne_a1_v1_29 := own_far O_a1.1.lt sq_v1_29
      have ne_v1_29_a1 := own_apS ne_a1_v1_29
      have ne_uv_v1_29 := own_far A_uv.lt sq_v1_29
      have ne_v1_29_uv := own_apS ne_uv_v1_29
      have sz_v1_29 := Nat.le_trans K.1 sq_v1_29
      have A_uv := A_uv.keep Kc (ninS ne_uv_a1 nin0)
      have O_a1 := O_a1'
      have A_v1_29 := A_v1_29'
      have K := K.trans Kc (allS (Or.inl (List.mem_of_getElem? (i := 0) rfl)) all0)
      show Goes p e below s _ n0 _ (T.setTop (mkF m 32 #[.val (.ref a1), .val (.int p2), .val (.long q3), .second] []))
      refine g_aloadN X d4_32 rfl (q := 33) rfl rfl ?_
      refine g_getF X (tw16 hw) Via.refl O_a1.2.2 d4_33 (q := 36) rfl (fun T X => ?_)
      refine g_iloadN X d4_36 rfl (q := 37) rfl ?_
      refine g_lloadN X d4_37 rfl (q := 38) rfl ?_
      refine g_lastore X A_v1_29 (by have z := (show (p2 + (1 : Int32)).toInt = p2.toInt + 1 from by rw [own_iaddE p2 1 (by simp only [Int32.reduceToInt]; omega)]; simp only [Int32.reduceToInt]); omega) g_v1_29 d4_38 (q := 39) rfl (fun T h X W => ?_)
      have O_a1 := O_a1.other W ne_a1_v1_29
      have A_uv := A_uv.other W ne_uv_v1_29
      have A_v1_29 : AJ Z h v1_29 n1_29 (own_up (fun j => if j < N then F j else ud) p2.toNatClampNeg q3) := A_v1_29.set W
      have K := K.wr W (Or.inr sz_v1_29)
      refine g_goto X d4_39 (by decide) (q := 49) rfl ?_
      exact g_ret0 X d4_49 (by decide) (by decide) ⟨v1_29, n1_29, rfl, K, O_a1, A_v1_29, sz_v1_29, g_v1_29, (by have z := (show (p2 + (1 : Int32)).toInt = p2.toInt + 1 from by rw [own_iaddE p2 1 (by simp only [Int32.reduceToInt]; omega)]; simp only [Int32.reduceToInt]); omega)⟩
theorem pn0 : plainName "com/example/retention/retention/group/LazyLongArrayGetPinLaw" = true := by first | (simp [plainName, overriddenIn]; done) | decide +kernel
theorem ef0 (m : MethodId) (x0 : Int64) (x1 : Int64) (x2 : Int64) (x3 : Int32) (x4 : Int32) : entryFrame m #[(.long x0), (.long x1), (.long x2), (.int x3), (.int x4)] maxLocals = mkF m 0 #[.val (.long x0), .second, .val (.long x1), .second, .val (.long x2), .second, .val (.int x3), .val (.int x4), .unset, .unset, .unset, .unset, .unset, .unset, .unset, .unset, .unset, .unset, .unset, .unset, .unset, .unset, .unset, .unset] [] := by first | (simp [entryFrame, mkF, argsToLocals, Value.category, maxLocals]; done) | rfl
set_option maxRecDepth 65536 in
set_option maxHeartbeats 40000000 in
theorem rm0 (l : Launch) (Z : State) (a0 : Array Value) (hw : ∀ d ∈ tables_1, d.before a0 Z = true) (ws : List Jvm.Cond) (q1 : Int64) (q2 : Int64) (q3 : Int64) (p4 : Int32) (p5 : Int32) (h0 : Heap) (n0 : Nat) (Z0 : n0 ≤ h0.size) :
    Met l Z x code maxLocals ret room_1 ws n0 #[(.long q1), (.long q2), (.long q3), (.int p4), (.int p5)] h0 (fun v h' => v = some (.int 1)) := by
  refine Met.intro (plainFor_of_name pn0) Z0 ?_
  intro p e s m below meth c T X
  refine g_cast (ef0 m q1 q2 q3 p4 p5) ?_
  refine g_iload X at_0 rfl (q := 2) rfl ?_
  refine g_bipush X at_2 rfl (q := 4) (v := 15) rfl ?_
  refine g_iand X at_4 rfl (q := 5) ?_
  refine g_letI (fun x5 hx5 => ?_)
  have b_x5 : (0 : Int) ≤ x5.toInt ∧ x5.toInt ≤ 15 := by
    have z0 := hx5
    have f1 := rng32 p4
    obtain ⟨n1_, hn1_⟩ : ∃ z, z = (p4 &&& (15 : Int32)) := ⟨_, rfl⟩
    (try simp only [← hn1_] at z0)
    have f2 := own_mB p4 (15 : Int32) 4 (by decide) (by decide) 15 (by decide)
    (try rw [← hn1_] at f2)
    have e0 := congrArg Int32.toInt z0
    (try simp only [Int64.lt_iff_toInt_lt, Int32.lt_iff_toInt_lt, Int64.le_iff_toInt_le, Int32.le_iff_toInt_le, ← Int64.toInt_inj, ← Int32.toInt_inj, apply_ite Int64.toInt, apply_ite Int32.toInt, Int64.reduceToInt, Int32.reduceToInt, ne_eq, true_and, and_true, false_or, or_false, iff_self, and_self, not_true_eq_false, not_false_eq_true] at e0)
    omega
  refine g_istore X at_5 rfl (q := 7) (L' := #[.val (.long q1), .second, .val (.long q2), .second, .val (.long q3), .second, .val (.int p4), .val (.int p5), .val (.int x5), .unset, .unset, .unset, .unset, .unset, .unset, .unset, .unset, .unset, .unset, .unset, .unset, .unset, .unset, .unset]) rfl ?_
  refine g_iload X at_7 rfl (q := 9) rfl ?_
  refine g_iconst X at_9 rfl (q := 10) (v := 4) rfl ?_
  refine g_iushr X at_10 rfl (q := 11) ?_
  refine g_bipush X at_11 rfl (q := 13) (v := 15) rfl ?_
  refine g_iand X at_13 rfl (q := 14) ?_
  refine g_letI (fun x14 hx14 => ?_)
  have b_x14 : (0 : Int) ≤ x14.toInt ∧ x14.toInt ≤ 15 := by
    have z0 := hx14
    have f1 := rng32 p4
    obtain ⟨n1_, hn1_⟩ : ∃ z, z = ((p4.toUInt32 >>> ((4 : Int32) &&& 31).toUInt32).toInt32) := ⟨_, rfl⟩
    (try simp only [← hn1_] at z0)
    have f2 := own_ushB p4 (4 : Int32) 4 (by decide) (by decide) 268435456 (by decide)
    (try rw [← hn1_] at f2)
    obtain ⟨n2_, hn2_⟩ : ∃ z, z = (n1_ &&& (15 : Int32)) := ⟨_, rfl⟩
    (try simp only [← hn2_] at z0)
    have f3 := own_mB n1_ (15 : Int32) 4 (by decide) (by decide) 15 (by decide)
    (try rw [← hn2_] at f3)
    have e0 := congrArg Int32.toInt z0
    (try simp only [Int64.lt_iff_toInt_lt, Int32.lt_iff_toInt_lt, Int64.le_iff_toInt_le, Int32.le_iff_toInt_le, ← Int64.toInt_inj, ← Int32.toInt_inj, apply_ite Int64.toInt, apply_ite Int32.toInt, Int64.reduceToInt, Int32.reduceToInt, ne_eq, true_and, and_true, false_or, or_false, iff_self, and_self, not_true_eq_false, not_false_eq_true] at e0)
    omega
  refine g_istore X at_14 rfl (q := 16) (L' := #[.val (.long q1), .second, .val (.long q2), .second, .val (.long q3), .second, .val (.int p4), .val (.int p5), .val (.int x5), .val (.int x14), .unset, .unset, .unset, .unset, .unset, .unset, .unset, .unset, .unset, .unset, .unset, .unset, .unset, .unset]) rfl ?_
  refine g_iload X at_16 rfl (q := 18) rfl ?_
  refine g_bipush X at_18 rfl (q := 20) (v := 8) rfl ?_
  refine g_iushr X at_20 rfl (q := 21) ?_
  refine g_letI (fun x21 hx21 => ?_)
  have b_x21 : (0 : Int) ≤ x21.toInt ∧ x21.toInt ≤ 16777215 := by
    have z0 := hx21
    have f1 := rng32 p4
    obtain ⟨n1_, hn1_⟩ : ∃ z, z = ((p4.toUInt32 >>> ((8 : Int32) &&& 31).toUInt32).toInt32) := ⟨_, rfl⟩
    (try simp only [← hn1_] at z0)
    have f2 := own_ushB p4 (8 : Int32) 8 (by decide) (by decide) 16777216 (by decide)
    (try rw [← hn1_] at f2)
    have e0 := congrArg Int32.toInt z0
    (try simp only [Int64.lt_iff_toInt_lt, Int32.lt_iff_toInt_lt, Int64.le_iff_toInt_le, Int32.le_iff_toInt_le, ← Int64.toInt_inj, ← Int32.toInt_inj, apply_ite Int64.toInt, apply_ite Int32.toInt, Int64.reduceToInt, Int32.reduceToInt, ne_eq, true_and, and_true, false_or, or_false, iff_self, and_self, not_true_eq_false, not_false_eq_true] at e0)
    omega
  refine g_istore X at_21 rfl (q := 23) (L' := #[.val (.long q1), .second, .val (.long q2), .second, .val (.long q3), .second, .val (.int p4), .val (.int p5), .val (.int x5), .val (.int x14), .val (.int x21), .unset, .unset, .unset, .unset, .unset, .unset, .unset, .unset, .unset, .unset, .unset, .unset, .unset]) rfl ?_
  refine g_iload X at_23 rfl (q := 25) rfl ?_
  refine g_iconst X at_25 rfl (q := 26) (v := 1) rfl ?_
  refine g_iand X at_26 rfl (q := 27) ?_
  refine g_jT1 X (J := 35) (P := fun (s0_35 : Int64) => s0_35 = (if (x21 &&& (1 : Int32)) = (0 : Int32) then q2 else q1)) (L := fun s0_35 => #[.val (.long q1), .second, .val (.long q2), .second, .val (.long q3), .second, .val (.int p4), .val (.int p5), .val (.int x5), .val (.int x14), .val (.int x21), .unset, .unset, .unset, .unset, .unset, .unset, .unset, .unset, .unset, .unset, .unset, .unset, .unset]) (S := fun s0_35 => [(.long s0_35)]) ?_ ?_
  · intro T X s0_35 hs0_35
    replace hs0_35 : s0_35 = (if (x21 &&& (1 : Int32)) = (0 : Int32) then q2 else q1) := hs0_35
    show Goes p e below s _ n0 _ (T.setTop (mkF m 35 #[.val (.long q1), .second, .val (.long q2), .second, .val (.long q3), .second, .val (.int p4), .val (.int p5), .val (.int x5), .val (.int x14), .val (.int x21), .unset, .unset, .unset, .unset, .unset, .unset, .unset, .unset, .unset, .unset, .unset, .unset, .unset] [(.long s0_35)]))
    refine g_lstore X at_35 rfl (q := 37) (L' := #[.val (.long q1), .second, .val (.long q2), .second, .val (.long q3), .second, .val (.int p4), .val (.int p5), .val (.int x5), .val (.int x14), .val (.int x21), .val (.long s0_35), .second, .unset, .unset, .unset, .unset, .unset, .unset, .unset, .unset, .unset, .unset, .unset]) rfl ?_
    refine g_iload X at_37 rfl (q := 39) rfl ?_
    refine g_iconst X at_39 rfl (q := 40) (v := 2) rfl ?_
    refine g_iand X at_40 rfl (q := 41) ?_
    refine g_jT1 X (J := 50) (P := fun (s0_50 : Int64) => s0_50 = (if (x21 &&& (2 : Int32)) = (0 : Int32) then q3 else q1)) (L := fun s0_50 => #[.val (.long q1), .second, .val (.long q2), .second, .val (.long q3), .second, .val (.int p4), .val (.int p5), .val (.int x5), .val (.int x14), .val (.int x21), .val (.long s0_35), .second, .unset, .unset, .unset, .unset, .unset, .unset, .unset, .unset, .unset, .unset, .unset]) (S := fun s0_50 => [(.long s0_50)]) ?_ ?_
    · intro T X s0_50 hs0_50
      replace hs0_50 : s0_50 = (if (x21 &&& (2 : Int32)) = (0 : Int32) then q3 else q1) := hs0_50
      show Goes p e below s _ n0 _ (T.setTop (mkF m 50 #[.val (.long q1), .second, .val (.long q2), .second, .val (.long q3), .second, .val (.int p4), .val (.int p5), .val (.int x5), .val (.int x14), .val (.int x21), .val (.long s0_35), .second, .unset, .unset, .unset, .unset, .unset, .unset, .unset, .unset, .unset, .unset, .unset] [(.long s0_50)]))
      refine g_lstore X at_50 rfl (q := 52) (L' := #[.val (.long q1), .second, .val (.long q2), .second, .val (.long q3), .second, .val (.int p4), .val (.int p5), .val (.int x5), .val (.int x14), .val (.int x21), .val (.long s0_35), .second, .val (.long s0_50), .second, .unset, .unset, .unset, .unset, .unset, .unset, .unset, .unset, .unset]) rfl ?_
      refine g_iload X at_52 rfl (q := 54) rfl ?_
      refine g_iconst X at_54 rfl (q := 55) (v := 4) rfl ?_
      refine g_iand X at_55 rfl (q := 56) ?_
      refine g_jT1 X (J := 72) (P := fun (s0_72 : Int32) => s0_72 = (if (x21 &&& (4 : Int32)) = (0 : Int32) then (p5 &&& (31 : Int32)) else (p5 &&& (2147483647 : Int32)))) (L := fun s0_72 => #[.val (.long q1), .second, .val (.long q2), .second, .val (.long q3), .second, .val (.int p4), .val (.int p5), .val (.int x5), .val (.int x14), .val (.int x21), .val (.long s0_35), .second, .val (.long s0_50), .second, .unset, .unset, .unset, .unset, .unset, .unset, .unset, .unset, .unset]) (S := fun s0_72 => [(.int s0_72)]) ?_ ?_
      · intro T X s0_72 hs0_72
        replace hs0_72 : s0_72 = (if (x21 &&& (4 : Int32)) = (0 : Int32) then (p5 &&& (31 : Int32)) else (p5 &&& (2147483647 : Int32))) := hs0_72
        show Goes p e below s _ n0 _ (T.setTop (mkF m 72 #[.val (.long q1), .second, .val (.long q2), .second, .val (.long q3), .second, .val (.int p4), .val (.int p5), .val (.int x5), .val (.int x14), .val (.int x21), .val (.long s0_35), .second, .val (.long s0_50), .second, .unset, .unset, .unset, .unset, .unset, .unset, .unset, .unset, .unset] [(.int s0_72)]))
        have b_s0_72 : (0 : Int) ≤ s0_72.toInt ∧ s0_72.toInt ≤ 2147483647 := by
          have z0 := hs0_72
          obtain ⟨n1_, hn1_⟩ : ∃ z, z = (x21 &&& (4 : Int32)) := ⟨_, rfl⟩
          (try simp only [← hn1_] at z0)
          have f1 := rng32 n1_
          have f2 := rng32 p5
          obtain ⟨n2_, hn2_⟩ : ∃ z, z = (p5 &&& (31 : Int32)) := ⟨_, rfl⟩
          (try simp only [← hn2_] at z0)
          have f3 := own_mB p5 (31 : Int32) 5 (by decide) (by decide) 31 (by decide)
          (try rw [← hn2_] at f3)
          obtain ⟨n3_, hn3_⟩ : ∃ z, z = (p5 &&& (2147483647 : Int32)) := ⟨_, rfl⟩
          (try simp only [← hn3_] at z0)
          have f4 := own_mB p5 (2147483647 : Int32) 31 (by decide) (by decide) 2147483647 (by decide)
          (try rw [← hn3_] at f4)
          have e0 := congrArg Int32.toInt z0
          (try simp only [Int64.lt_iff_toInt_lt, Int32.lt_iff_toInt_lt, Int64.le_iff_toInt_le, Int32.le_iff_toInt_le, ← Int64.toInt_inj, ← Int32.toInt_inj, apply_ite Int64.toInt, apply_ite Int32.toInt, Int64.reduceToInt, Int32.reduceToInt, ne_eq, true_and, and_true, false_or, or_false, iff_self, and_self, not_true_eq_false, not_false_eq_true] at e0)
          omega
        refine g_istore X at_72 rfl (q := 74) (L' := #[.val (.long q1), .second, .val (.long q2), .second, .val (.long q3), .second, .val (.int p4), .val (.int p5), .val (.int x5), .val (.int x14), .val (.int x21), .val (.long s0_35), .second, .val (.long s0_50), .second, .val (.int s0_72), .unset, .unset, .unset, .unset, .unset, .unset, .unset, .unset]) rfl ?_
        refine g_new X (tw0 hw) (tw1 hw) (tw2 hw) at_74 (q := 77) rfl (c2 := 1) (s2 := 2) rfl rfl (by decide) (by decide) (fun T h' b2 X gz_b2 g_b2 E Ex D => ?_)
        have O_b2 : O_LazyLongArray Z h' b2 (.long (0 : Int64)) .null := ⟨Ex, D (Or.inr (tw10 hw)) (ty := .long) (by decide), D (Or.inl (tw17 hw)) (ty := (.array .long)) (by decide)⟩
        refine g_dup X at_77 rfl (q := 78) rfl ?_
        refine g_lloadN X at_78 rfl (q := 79) rfl ?_
        refine g_callI X [(.long q1)] [(.ref b2)] rfl (tw3 hw) (tw4 hw) (tw2 hw) (tw5 hw) (by decide) (rm1 l Z a0 hw [] b2 q1 _ n0 X.size O_b2 g_b2) pd2 rfl rfl rfl at_79 (q := 82) rfl (W := 1) rfl (by decide) (by decide) (c2 := 1) (s2 := 2) rfl rfl (by decide) (by decide) (fun v T h' X hQ => ?_)
        obtain ⟨rfl, Kc, O_b2'⟩ := hQ
        have O_b2 := O_b2'
        show Goes p e below s _ n0 _ (T.setTop (mkF m 82 #[.val (.long q1), .second, .val (.long q2), .second, .val (.long q3), .second, .val (.int p4), .val (.int p5), .val (.int x5), .val (.int x14), .val (.int x21), .val (.long s0_35), .second, .val (.long s0_50), .second, .val (.int s0_72), .unset, .unset, .unset, .unset, .unset, .unset, .unset, .unset] [(.ref b2)]))
        refine g_astore X at_82 rfl (q := 84) (L' := #[.val (.long q1), .second, .val (.long q2), .second, .val (.long q3), .second, .val (.int p4), .val (.int p5), .val (.int x5), .val (.int x14), .val (.int x21), .val (.long s0_35), .second, .val (.long s0_50), .second, .val (.int s0_72), .val (.ref b2), .unset, .unset, .unset, .unset, .unset, .unset, .unset]) rfl rfl ?_
        refine g_aload X at_84 rfl (q := 86) rfl rfl ?_
        refine g_iload X at_86 rfl (q := 88) rfl ?_
        refine g_callV X O_b2.1 [(.int s0_72)] [] (tw11 hw) (tw12 hw) (tw14 hw) (tw13 hw) (tw2 hw) (tw15 hw) (by decide) (rm3_null l Z a0 hw [] b2 s0_72 q1 _ n0 X.size O_b2) pd3 rfl rfl rfl at_88 (q := 91) rfl (W := 0) rfl (by decide) (by decide) (c2 := 1) (s2 := 2) rfl rfl (by decide) (by decide) (fun v T h' X hQ => ?_)
        obtain ⟨rfl, rfl⟩ := hQ
        show Goes p e below s _ n0 _ (T.setTop (mkF m 91 #[.val (.long q1), .second, .val (.long q2), .second, .val (.long q3), .second, .val (.int p4), .val (.int p5), .val (.int x5), .val (.int x14), .val (.int x21), .val (.long s0_35), .second, .val (.long s0_50), .second, .val (.int s0_72), .val (.ref b2), .unset, .unset, .unset, .unset, .unset, .unset, .unset] [(.long q1)]))
        refine g_lloadN X at_91 rfl (q := 92) rfl ?_
        refine g_jT1 X (J := 101) (P := fun (s0_101 : Int32) => s0_101 = (bI (q1 = q1))) (L := fun s0_101 => #[.val (.long q1), .second, .val (.long q2), .second, .val (.long q3), .second, .val (.int p4), .val (.int p5), .val (.int x5), .val (.int x14), .val (.int x21), .val (.long s0_35), .second, .val (.long s0_50), .second, .val (.int s0_72), .val (.ref b2), .unset, .unset, .unset, .unset, .unset, .unset, .unset]) (S := fun s0_101 => [(.int s0_101)]) ?_ ?_
        · intro T X s0_101 hs0_101
          replace hs0_101 : s0_101 = (bI (q1 = q1)) := hs0_101
          subst hs0_101
          show Goes p e below s _ n0 _ (T.setTop (mkF m 101 #[.val (.long q1), .second, .val (.long q2), .second, .val (.long q3), .second, .val (.int p4), .val (.int p5), .val (.int x5), .val (.int x14), .val (.int x21), .val (.long s0_35), .second, .val (.long s0_50), .second, .val (.int s0_72), .val (.ref b2), .unset, .unset, .unset, .unset, .unset, .unset, .unset] [(.int (bI (q1 = q1)))]))
          refine g_istore X at_101 rfl (q := 103) (L' := #[.val (.long q1), .second, .val (.long q2), .second, .val (.long q3), .second, .val (.int p4), .val (.int p5), .val (.int x5), .val (.int x14), .val (.int x21), .val (.long s0_35), .second, .val (.long s0_50), .second, .val (.int s0_72), .val (.ref b2), .val (.int (bI (q1 = q1))), .unset, .unset, .unset, .unset, .unset, .unset]) rfl ?_
          refine g_aload X at_103 rfl (q := 105) rfl rfl ?_
          refine g_iload X at_105 rfl (q := 107) rfl ?_
          refine g_lload X at_107 rfl (q := 109) rfl ?_
          by_cases hv1 : s0_35 = q1
          · skip
            refine g_callV X O_b2.1 [(.int x5), (.long s0_35)] [] (tw18 hw) (tw19 hw) (tw21 hw) (tw20 hw) (tw2 hw) (tw22 hw) (by decide) (rm4_neq l Z a0 hw [] b2 x5 s0_35 q1 _ n0 X.size O_b2 g_b2 (by omega) hv1) pd4 rfl rfl rfl at_109 (q := 112) rfl (W := 0) rfl (by decide) (by decide) (c2 := 1) (s2 := 2) rfl rfl (by decide) (by decide) (fun v T h' X hQ => ?_)
            obtain ⟨rfl, Kc, O_b2'⟩ := hQ
            have O_b2 := O_b2'
            show Goes p e below s _ n0 _ (T.setTop (mkF m 112 #[.val (.long q1), .second, .val (.long q2), .second, .val (.long q3), .second, .val (.int p4), .val (.int p5), .val (.int x5), .val (.int x14), .val (.int x21), .val (.long s0_35), .second, .val (.long s0_50), .second, .val (.int s0_72), .val (.ref b2), .val (.int (bI (q1 = q1))), .unset, .unset, .unset, .unset, .unset, .unset] []))
            refine g_iload X at_112 rfl (q := 114) rfl ?_
            refine g_iload X at_114 rfl (q := 116) rfl ?_
            refine g_jT1 X (J := 125) (P := fun (s0_125 : Int64) => s0_125 = (if s0_72 = x5 then s0_35 else q1)) (L := fun s0_125 => #[.val (.long q1), .second, .val (.long q2), .second, .val (.long q3), .second, .val (.int p4), .val (.int p5), .val (.int x5), .val (.int x14), .val (.int x21), .val (.long s0_35), .second, .val (.long s0_50), .second, .val (.int s0_72), .val (.ref b2), .val (.int (bI (q1 = q1))), .unset, .unset, .unset, .unset, .unset, .unset]) (S := fun s0_125 => [(.long s0_125)]) ?_ ?_
            · intro T X s0_125 hs0_125
              replace hs0_125 : s0_125 = (if s0_72 = x5 then s0_35 else q1) := hs0_125
              show Goes p e below s _ n0 _ (T.setTop (mkF m 125 #[.val (.long q1), .second, .val (.long q2), .second, .val (.long q3), .second, .val (.int p4), .val (.int p5), .val (.int x5), .val (.int x14), .val (.int x21), .val (.long s0_35), .second, .val (.long s0_50), .second, .val (.int s0_72), .val (.ref b2), .val (.int (bI (q1 = q1))), .unset, .unset, .unset, .unset, .unset, .unset] [(.long s0_125)]))
              refine g_lstore X at_125 rfl (q := 127) (L' := #[.val (.long q1), .second, .val (.long q2), .second, .val (.long q3), .second, .val (.int p4), .val (.int p5), .val (.int x5), .val (.int x14), .val (.int x21), .val (.long s0_35), .second, .val (.long s0_50), .second, .val (.int s0_72), .val (.ref b2), .val (.int (bI (q1 = q1))), .val (.long s0_125), .second, .unset, .unset, .unset, .unset]) rfl ?_
              refine g_aload X at_127 rfl (q := 129) rfl rfl ?_
              refine g_iload X at_129 rfl (q := 131) rfl ?_
              refine g_callV X O_b2.1 [(.int s0_72)] [] (tw11 hw) (tw12 hw) (tw14 hw) (tw13 hw) (tw2 hw) (tw15 hw) (by decide) (rm3_null l Z a0 hw [] b2 s0_72 q1 _ n0 X.size O_b2) pd3 rfl rfl rfl at_131 (q := 134) rfl (W := 0) rfl (by decide) (by decide) (c2 := 1) (s2 := 2) rfl rfl (by decide) (by decide) (fun v T h' X hQ => ?_)
              obtain ⟨rfl, rfl⟩ := hQ
              show Goes p e below s _ n0 _ (T.setTop (mkF m 134 #[.val (.long q1), .second, .val (.long q2), .second, .val (.long q3), .second, .val (.int p4), .val (.int p5), .val (.int x5), .val (.int x14), .val (.int x21), .val (.long s0_35), .second, .val (.long s0_50), .second, .val (.int s0_72), .val (.ref b2), .val (.int (bI (q1 = q1))), .val (.long s0_125), .second, .unset, .unset, .unset, .unset] [(.long q1)]))
              refine g_lload X at_134 rfl (q := 136) rfl ?_
              refine g_jT1 X (J := 145) (P := fun (s0_145 : Int32) => s0_145 = (bI (q1 = s0_125))) (L := fun s0_145 => #[.val (.long q1), .second, .val (.long q2), .second, .val (.long q3), .second, .val (.int p4), .val (.int p5), .val (.int x5), .val (.int x14), .val (.int x21), .val (.long s0_35), .second, .val (.long s0_50), .second, .val (.int s0_72), .val (.ref b2), .val (.int (bI (q1 = q1))), .val (.long s0_125), .second, .unset, .unset, .unset, .unset]) (S := fun s0_145 => [(.int s0_145)]) ?_ ?_
              · intro T X s0_145 hs0_145
                replace hs0_145 : s0_145 = (bI (q1 = s0_125)) := hs0_145
                subst hs0_145
                show Goes p e below s _ n0 _ (T.setTop (mkF m 145 #[.val (.long q1), .second, .val (.long q2), .second, .val (.long q3), .second, .val (.int p4), .val (.int p5), .val (.int x5), .val (.int x14), .val (.int x21), .val (.long s0_35), .second, .val (.long s0_50), .second, .val (.int s0_72), .val (.ref b2), .val (.int (bI (q1 = q1))), .val (.long s0_125), .second, .unset, .unset, .unset, .unset] [(.int (bI (q1 = s0_125)))]))
                refine g_istore X at_145 rfl (q := 147) (L' := #[.val (.long q1), .second, .val (.long q2), .second, .val (.long q3), .second, .val (.int p4), .val (.int p5), .val (.int x5), .val (.int x14), .val (.int x21), .val (.long s0_35), .second, .val (.long s0_50), .second, .val (.int s0_72), .val (.ref b2), .val (.int (bI (q1 = q1))), .val (.long s0_125), .second, .val (.int (bI (q1 = s0_125))), .unset, .unset, .unset]) rfl ?_
                refine g_aload X at_147 rfl (q := 149) rfl rfl ?_
                refine g_iload X at_149 rfl (q := 151) rfl ?_
                refine g_lload X at_151 rfl (q := 153) rfl ?_
                by_cases hv2 : s0_50 = q1
                · skip
                  refine g_callV X O_b2.1 [(.int x14), (.long s0_50)] [] (tw18 hw) (tw19 hw) (tw21 hw) (tw20 hw) (tw2 hw) (tw22 hw) (by decide) (rm4_neq l Z a0 hw [] b2 x14 s0_50 q1 _ n0 X.size O_b2 g_b2 (by omega) hv2) pd4 rfl rfl rfl at_153 (q := 156) rfl (W := 0) rfl (by decide) (by decide) (c2 := 1) (s2 := 2) rfl rfl (by decide) (by decide) (fun v T h' X hQ => ?_)
                  obtain ⟨rfl, Kc, O_b2'⟩ := hQ
                  have O_b2 := O_b2'
                  show Goes p e below s _ n0 _ (T.setTop (mkF m 156 #[.val (.long q1), .second, .val (.long q2), .second, .val (.long q3), .second, .val (.int p4), .val (.int p5), .val (.int x5), .val (.int x14), .val (.int x21), .val (.long s0_35), .second, .val (.long s0_50), .second, .val (.int s0_72), .val (.ref b2), .val (.int (bI (q1 = q1))), .val (.long s0_125), .second, .val (.int (bI (q1 = s0_125))), .unset, .unset, .unset] []))
                  refine g_iload X at_156 rfl (q := 158) rfl ?_
                  refine g_iload X at_158 rfl (q := 160) rfl ?_
                  refine g_jT1 X (J := 187) (P := fun (l21_187 : Int64) => l21_187 = (if s0_72 = x14 then s0_50 else (if s0_72 = x5 then s0_35 else q1))) (L := fun l21_187 => #[.val (.long q1), .second, .val (.long q2), .second, .val (.long q3), .second, .val (.int p4), .val (.int p5), .val (.int x5), .val (.int x14), .val (.int x21), .val (.long s0_35), .second, .val (.long s0_50), .second, .val (.int s0_72), .val (.ref b2), .val (.int (bI (q1 = q1))), .val (.long s0_125), .second, .val (.int (bI (q1 = s0_125))), .val (.long l21_187), .second, .unset]) (S := fun l21_187 => []) ?_ ?_
                  · intro T X l21_187 hl21_187
                    replace hl21_187 : l21_187 = (if s0_72 = x14 then s0_50 else (if s0_72 = x5 then s0_35 else q1)) := hl21_187
                    show Goes p e below s _ n0 _ (T.setTop (mkF m 187 #[.val (.long q1), .second, .val (.long q2), .second, .val (.long q3), .second, .val (.int p4), .val (.int p5), .val (.int x5), .val (.int x14), .val (.int x21), .val (.long s0_35), .second, .val (.long s0_50), .second, .val (.int s0_72), .val (.ref b2), .val (.int (bI (q1 = q1))), .val (.long s0_125), .second, .val (.int (bI (q1 = s0_125))), .val (.long l21_187), .second, .unset] []))
                    refine g_aload X at_187 rfl (q := 189) rfl rfl ?_
                    refine g_iload X at_189 rfl (q := 191) rfl ?_
                    refine g_callV X O_b2.1 [(.int s0_72)] [] (tw11 hw) (tw12 hw) (tw14 hw) (tw13 hw) (tw2 hw) (tw15 hw) (by decide) (rm3_null l Z a0 hw [] b2 s0_72 q1 _ n0 X.size O_b2) pd3 rfl rfl rfl at_191 (q := 194) rfl (W := 0) rfl (by decide) (by decide) (c2 := 1) (s2 := 2) rfl rfl (by decide) (by decide) (fun v T h' X hQ => ?_)
                    obtain ⟨rfl, rfl⟩ := hQ
                    show Goes p e below s _ n0 _ (T.setTop (mkF m 194 #[.val (.long q1), .second, .val (.long q2), .second, .val (.long q3), .second, .val (.int p4), .val (.int p5), .val (.int x5), .val (.int x14), .val (.int x21), .val (.long s0_35), .second, .val (.long s0_50), .second, .val (.int s0_72), .val (.ref b2), .val (.int (bI (q1 = q1))), .val (.long s0_125), .second, .val (.int (bI (q1 = s0_125))), .val (.long l21_187), .second, .unset] [(.long q1)]))
                    refine g_lload X at_194 rfl (q := 196) rfl ?_
                    refine g_jT1 X (J := 205) (P := fun (s0_205 : Int32) => s0_205 = (bI (q1 = l21_187))) (L := fun s0_205 => #[.val (.long q1), .second, .val (.long q2), .second, .val (.long q3), .second, .val (.int p4), .val (.int p5), .val (.int x5), .val (.int x14), .val (.int x21), .val (.long s0_35), .second, .val (.long s0_50), .second, .val (.int s0_72), .val (.ref b2), .val (.int (bI (q1 = q1))), .val (.long s0_125), .second, .val (.int (bI (q1 = s0_125))), .val (.long l21_187), .second, .unset]) (S := fun s0_205 => [(.int s0_205)]) ?_ ?_
                    · intro T X s0_205 hs0_205
                      replace hs0_205 : s0_205 = (bI (q1 = l21_187)) := hs0_205
                      subst hs0_205
                      show Goes p e below s _ n0 _ (T.setTop (mkF m 205 #[.val (.long q1), .second, .val (.long q2), .second, .val (.long q3), .second, .val (.int p4), .val (.int p5), .val (.int x5), .val (.int x14), .val (.int x21), .val (.long s0_35), .second, .val (.long s0_50), .second, .val (.int s0_72), .val (.ref b2), .val (.int (bI (q1 = q1))), .val (.long s0_125), .second, .val (.int (bI (q1 = s0_125))), .val (.long l21_187), .second, .unset] [(.int (bI (q1 = l21_187)))]))
                      refine g_istore X at_205 rfl (q := 207) (L' := #[.val (.long q1), .second, .val (.long q2), .second, .val (.long q3), .second, .val (.int p4), .val (.int p5), .val (.int x5), .val (.int x14), .val (.int x21), .val (.long s0_35), .second, .val (.long s0_50), .second, .val (.int s0_72), .val (.ref b2), .val (.int (bI (q1 = q1))), .val (.long s0_125), .second, .val (.int (bI (q1 = s0_125))), .val (.long l21_187), .second, .val (.int (bI (q1 = l21_187)))]) rfl ?_
                      refine g_iload X at_207 rfl (q := 209) rfl ?_
                      refine g_jT1 X (J := 227) (P := fun (s0_227 : Int32) => s0_227 = (bI ((q1 = q1) ∧ ((q1 = s0_125) ∧ (q1 = l21_187))))) (L := fun s0_227 => #[.val (.long q1), .second, .val (.long q2), .second, .val (.long q3), .second, .val (.int p4), .val (.int p5), .val (.int x5), .val (.int x14), .val (.int x21), .val (.long s0_35), .second, .val (.long s0_50), .second, .val (.int s0_72), .val (.ref b2), .val (.int (bI (q1 = q1))), .val (.long s0_125), .second, .val (.int (bI (q1 = s0_125))), .val (.long l21_187), .second, .val (.int (bI (q1 = l21_187)))]) (S := fun s0_227 => [(.int s0_227)]) ?_ ?_
                      · intro T X s0_227 hs0_227
                        replace hs0_227 : s0_227 = (bI ((q1 = q1) ∧ ((q1 = s0_125) ∧ (q1 = l21_187)))) := hs0_227
                        subst hs0_227
                        show Goes p e below s _ n0 _ (T.setTop (mkF m 227 #[.val (.long q1), .second, .val (.long q2), .second, .val (.long q3), .second, .val (.int p4), .val (.int p5), .val (.int x5), .val (.int x14), .val (.int x21), .val (.long s0_35), .second, .val (.long s0_50), .second, .val (.int s0_72), .val (.ref b2), .val (.int (bI (q1 = q1))), .val (.long s0_125), .second, .val (.int (bI (q1 = s0_125))), .val (.long l21_187), .second, .val (.int (bI (q1 = l21_187)))] [(.int (bI ((q1 = q1) ∧ ((q1 = s0_125) ∧ (q1 = l21_187)))))]))
                        refine g_retZ X at_227 (by decide) (by decide) (bI_01 _) (own_fin ?_)
                        show (q1 = q1) ∧ ((q1 = s0_125) ∧ (q1 = l21_187))
                        refine ⟨rfl, ?_, ?_⟩
                        · rw [hs0_125, hv1]; simp only [ite_self]
                        · rw [hl21_187, hv2, hv1]; simp only [ite_self]
                      · intro J227_0
                        refine g_beq X at_209 (q := 212) rfl (by decide) (t := 226) rfl (fun (c1 : q1 = q1) => ?_) (fun (c1 : ¬ (q1 = q1)) => ?_)
                        · skip
                          refine g_iload X at_212 rfl (q := 214) rfl ?_
                          refine g_beq X at_214 (q := 217) rfl (by decide) (t := 226) rfl (fun (c2 : q1 = s0_125) => ?_) (fun (c2 : ¬ (q1 = s0_125)) => ?_)
                          · skip
                            refine g_iload X at_217 rfl (q := 219) rfl ?_
                            refine g_beq X at_219 (q := 222) rfl (by decide) (t := 226) rfl (fun (c3 : q1 = l21_187) => ?_) (fun (c3 : ¬ (q1 = l21_187)) => ?_)
                            · skip
                              refine g_iconst X at_222 rfl (q := 223) (v := 1) rfl ?_
                              refine g_goto X at_223 (by decide) (q := 227) rfl ?_
                              exact J227_0 T X _ (bI_t ⟨c1, ⟨c2, c3⟩⟩)
                            · skip
                              refine g_iconst X at_226 rfl (q := 227) (v := 0) rfl ?_
                              exact J227_0 T X _ (bI_f (fun z => (fun z => c3 z.2) z.2))
                          · skip
                            refine g_iconst X at_226 rfl (q := 227) (v := 0) rfl ?_
                            exact J227_0 T X _ (bI_f (fun z => (fun z => c2 z.1) z.2))
                        · skip
                          refine g_iconst X at_226 rfl (q := 227) (v := 0) rfl ?_
                          exact J227_0 T X _ (bI_f (fun z => c1 z.1))
                    · intro J205_3
                      refine g_lcmpB X at_196 (q1 := 197) rfl at_197 (Or.inr (Or.inr rfl)) (q := 200) rfl (by decide) (t := 204) rfl (fun (c4 : q1 = l21_187) => ?_) (fun (c4 : ¬ (q1 = l21_187)) => ?_)
                      · skip
                        refine g_iconst X at_200 rfl (q := 201) (v := 1) rfl ?_
                        refine g_goto X at_201 (by decide) (q := 205) rfl ?_
                        exact J205_3 T X _ (bI_t c4)
                      · skip
                        refine g_iconst X at_204 rfl (q := 205) (v := 0) rfl ?_
                        exact J205_3 T X _ (bI_f c4)
                  · intro J187_4
                    refine g_icmpB X at_160 (Or.inr (Or.inr rfl)) (q := 163) rfl (by decide) (t := 170) rfl (fun (c5 : s0_72 = x14) => ?_) (fun (c5 : ¬ (s0_72 = x14)) => ?_)
                    · skip
                      refine g_lload X at_163 rfl (q := 165) rfl ?_
                      refine g_lstore X at_165 rfl (q := 167) (L' := #[.val (.long q1), .second, .val (.long q2), .second, .val (.long q3), .second, .val (.int p4), .val (.int p5), .val (.int x5), .val (.int x14), .val (.int x21), .val (.long s0_35), .second, .val (.long s0_50), .second, .val (.int s0_72), .val (.ref b2), .val (.int (bI (q1 = q1))), .val (.long s0_125), .second, .val (.int (bI (q1 = s0_125))), .val (.long s0_50), .second, .unset]) rfl ?_
                      refine g_goto X at_167 (by decide) (q := 187) rfl ?_
                      exact J187_4 T X _ ((if_pos c5).symm)
                    · skip
                      refine g_iload X at_170 rfl (q := 172) rfl ?_
                      refine g_iload X at_172 rfl (q := 174) rfl ?_
                      refine g_icmpB X at_174 (Or.inr (Or.inr rfl)) (q := 177) rfl (by decide) (t := 184) rfl (fun (c6 : s0_72 = x5) => ?_) (fun (c6 : ¬ (s0_72 = x5)) => ?_)
                      · skip
                        refine g_lload X at_177 rfl (q := 179) rfl ?_
                        refine g_lstore X at_179 rfl (q := 181) (L' := #[.val (.long q1), .second, .val (.long q2), .second, .val (.long q3), .second, .val (.int p4), .val (.int p5), .val (.int x5), .val (.int x14), .val (.int x21), .val (.long s0_35), .second, .val (.long s0_50), .second, .val (.int s0_72), .val (.ref b2), .val (.int (bI (q1 = q1))), .val (.long s0_125), .second, .val (.int (bI (q1 = s0_125))), .val (.long s0_35), .second, .unset]) rfl ?_
                        refine g_goto X at_181 (by decide) (q := 187) rfl ?_
                        exact J187_4 T X _ (((if_pos c6).symm).trans (if_neg c5).symm)
                      · skip
                        refine g_lloadN X at_184 rfl (q := 185) rfl ?_
                        refine g_lstore X at_185 rfl (q := 187) (L' := #[.val (.long q1), .second, .val (.long q2), .second, .val (.long q3), .second, .val (.int p4), .val (.int p5), .val (.int x5), .val (.int x14), .val (.int x21), .val (.long s0_35), .second, .val (.long s0_50), .second, .val (.int s0_72), .val (.ref b2), .val (.int (bI (q1 = q1))), .val (.long s0_125), .second, .val (.int (bI (q1 = s0_125))), .val (.long q1), .second, .unset]) rfl ?_
                        exact J187_4 T X _ (((if_neg c6).symm).trans (if_neg c5).symm)
                · skip
                  refine g_callV X O_b2.1 [(.int x14), (.long s0_50)] [] (tw18 hw) (tw19 hw) (tw21 hw) (tw20 hw) (tw2 hw) (tw22 hw) (by decide) (rm4_nne l Z a0 hw [] b2 x14 s0_50 q1 _ n0 X.size O_b2 g_b2 (by omega) hv2) pd4 rfl rfl rfl at_153 (q := 156) rfl (W := 0) rfl (by decide) (by decide) (c2 := 2) (s2 := 18) rfl rfl (by decide) (by decide) (fun v T h' X hQ => ?_)
                  obtain ⟨v1_153, n1_153, rfl, Kc, O_b2', A_v1_153', sq_v1_153, g_v1_153, hn1_153⟩ := hQ
                  have ne_b2_v1_153 := own_far O_b2.1.lt sq_v1_153
                  have ne_v1_153_b2 := own_apS ne_b2_v1_153
                  have O_b2 := O_b2'
                  have A_v1_153 := A_v1_153'
                  show Goes p e below s _ n0 _ (T.setTop (mkF m 156 #[.val (.long q1), .second, .val (.long q2), .second, .val (.long q3), .second, .val (.int p4), .val (.int p5), .val (.int x5), .val (.int x14), .val (.int x21), .val (.long s0_35), .second, .val (.long s0_50), .second, .val (.int s0_72), .val (.ref b2), .val (.int (bI (q1 = q1))), .val (.long s0_125), .second, .val (.int (bI (q1 = s0_125))), .unset, .unset, .unset] []))
                  refine g_iload X at_156 rfl (q := 158) rfl ?_
                  refine g_iload X at_158 rfl (q := 160) rfl ?_
                  refine g_jT1 X (J := 187) (P := fun (l21_187 : Int64) => l21_187 = (if s0_72 = x14 then s0_50 else (if s0_72 = x5 then s0_35 else q1))) (L := fun l21_187 => #[.val (.long q1), .second, .val (.long q2), .second, .val (.long q3), .second, .val (.int p4), .val (.int p5), .val (.int x5), .val (.int x14), .val (.int x21), .val (.long s0_35), .second, .val (.long s0_50), .second, .val (.int s0_72), .val (.ref b2), .val (.int (bI (q1 = q1))), .val (.long s0_125), .second, .val (.int (bI (q1 = s0_125))), .val (.long l21_187), .second, .unset]) (S := fun l21_187 => []) ?_ ?_
                  · intro T X l21_187 hl21_187
                    replace hl21_187 : l21_187 = (if s0_72 = x14 then s0_50 else (if s0_72 = x5 then s0_35 else q1)) := hl21_187
                    show Goes p e below s _ n0 _ (T.setTop (mkF m 187 #[.val (.long q1), .second, .val (.long q2), .second, .val (.long q3), .second, .val (.int p4), .val (.int p5), .val (.int x5), .val (.int x14), .val (.int x21), .val (.long s0_35), .second, .val (.long s0_50), .second, .val (.int s0_72), .val (.ref b2), .val (.int (bI (q1 = q1))), .val (.long s0_125), .second, .val (.int (bI (q1 = s0_125))), .val (.long l21_187), .second, .unset] []))
                    refine g_aload X at_187 rfl (q := 189) rfl rfl ?_
                    refine g_iload X at_189 rfl (q := 191) rfl ?_
                    refine g_callV X O_b2.1 [(.int s0_72)] [] (tw11 hw) (tw12 hw) (tw14 hw) (tw13 hw) (tw2 hw) (tw15 hw) (by decide) (rm3_arr l Z a0 hw [] b2 s0_72 q1 v1_153 n1_153 (own_up (fun _ => q1) x14.toNatClampNeg s0_50) _ n0 X.size O_b2 A_v1_153 (by omega) (by omega)) pd3 rfl rfl rfl at_191 (q := 194) rfl (W := 0) rfl (by decide) (by decide) (c2 := 2) (s2 := 18) rfl rfl (by decide) (by decide) (fun v T h' X hQ => ?_)
                    obtain ⟨rfl, rfl⟩ := hQ
                    show Goes p e below s _ n0 _ (T.setTop (mkF m 194 #[.val (.long q1), .second, .val (.long q2), .second, .val (.long q3), .second, .val (.int p4), .val (.int p5), .val (.int x5), .val (.int x14), .val (.int x21), .val (.long s0_35), .second, .val (.long s0_50), .second, .val (.int s0_72), .val (.ref b2), .val (.int (bI (q1 = q1))), .val (.long s0_125), .second, .val (.int (bI (q1 = s0_125))), .val (.long l21_187), .second, .unset] [(.long (if s0_72 < (Nat.toInt32 n1_153) then ((own_up (fun _ => q1) x14.toNatClampNeg s0_50) s0_72.toNatClampNeg) else q1))]))
                    refine g_letJ (fun r191 hr191 => ?_)
                    refine g_lload X at_194 rfl (q := 196) rfl ?_
                    refine g_jT1 X (J := 205) (P := fun (s0_205 : Int32) => s0_205 = (bI (r191 = l21_187))) (L := fun s0_205 => #[.val (.long q1), .second, .val (.long q2), .second, .val (.long q3), .second, .val (.int p4), .val (.int p5), .val (.int x5), .val (.int x14), .val (.int x21), .val (.long s0_35), .second, .val (.long s0_50), .second, .val (.int s0_72), .val (.ref b2), .val (.int (bI (q1 = q1))), .val (.long s0_125), .second, .val (.int (bI (q1 = s0_125))), .val (.long l21_187), .second, .unset]) (S := fun s0_205 => [(.int s0_205)]) ?_ ?_
                    · intro T X s0_205 hs0_205
                      replace hs0_205 : s0_205 = (bI (r191 = l21_187)) := hs0_205
                      subst hs0_205
                      show Goes p e below s _ n0 _ (T.setTop (mkF m 205 #[.val (.long q1), .second, .val (.long q2), .second, .val (.long q3), .second, .val (.int p4), .val (.int p5), .val (.int x5), .val (.int x14), .val (.int x21), .val (.long s0_35), .second, .val (.long s0_50), .second, .val (.int s0_72), .val (.ref b2), .val (.int (bI (q1 = q1))), .val (.long s0_125), .second, .val (.int (bI (q1 = s0_125))), .val (.long l21_187), .second, .unset] [(.int (bI (r191 = l21_187)))]))
                      refine g_istore X at_205 rfl (q := 207) (L' := #[.val (.long q1), .second, .val (.long q2), .second, .val (.long q3), .second, .val (.int p4), .val (.int p5), .val (.int x5), .val (.int x14), .val (.int x21), .val (.long s0_35), .second, .val (.long s0_50), .second, .val (.int s0_72), .val (.ref b2), .val (.int (bI (q1 = q1))), .val (.long s0_125), .second, .val (.int (bI (q1 = s0_125))), .val (.long l21_187), .second, .val (.int (bI (r191 = l21_187)))]) rfl ?_
                      refine g_iload X at_207 rfl (q := 209) rfl ?_
                      refine g_jT1 X (J := 227) (P := fun (s0_227 : Int32) => s0_227 = (bI ((q1 = q1) ∧ ((q1 = s0_125) ∧ (r191 = l21_187))))) (L := fun s0_227 => #[.val (.long q1), .second, .val (.long q2), .second, .val (.long q3), .second, .val (.int p4), .val (.int p5), .val (.int x5), .val (.int x14), .val (.int x21), .val (.long s0_35), .second, .val (.long s0_50), .second, .val (.int s0_72), .val (.ref b2), .val (.int (bI (q1 = q1))), .val (.long s0_125), .second, .val (.int (bI (q1 = s0_125))), .val (.long l21_187), .second, .val (.int (bI (r191 = l21_187)))]) (S := fun s0_227 => [(.int s0_227)]) ?_ ?_
                      · intro T X s0_227 hs0_227
                        replace hs0_227 : s0_227 = (bI ((q1 = q1) ∧ ((q1 = s0_125) ∧ (r191 = l21_187)))) := hs0_227
                        subst hs0_227
                        show Goes p e below s _ n0 _ (T.setTop (mkF m 227 #[.val (.long q1), .second, .val (.long q2), .second, .val (.long q3), .second, .val (.int p4), .val (.int p5), .val (.int x5), .val (.int x14), .val (.int x21), .val (.long s0_35), .second, .val (.long s0_50), .second, .val (.int s0_72), .val (.ref b2), .val (.int (bI (q1 = q1))), .val (.long s0_125), .second, .val (.int (bI (q1 = s0_125))), .val (.long l21_187), .second, .val (.int (bI (r191 = l21_187)))] [(.int (bI ((q1 = q1) ∧ ((q1 = s0_125) ∧ (r191 = l21_187)))))]))
                        refine g_retZ X at_227 (by decide) (by decide) (bI_01 _) (own_fin ?_)
                        show (q1 = q1) ∧ ((q1 = s0_125) ∧ (r191 = l21_187))
                        refine ⟨rfl, ?_, ?_⟩
                        · rw [hs0_125, hv1]; simp only [ite_self]
                        · rw [own_get (by omega) (by omega) (own_Fu (fun _ _ => rfl) (by omega) hn1_153.1) hr191, own_ue (by omega) (by omega), hl21_187, hv1]; simp only [ite_self]
                      · intro J227_6
                        refine g_beq X at_209 (q := 212) rfl (by decide) (t := 226) rfl (fun (c7 : q1 = q1) => ?_) (fun (c7 : ¬ (q1 = q1)) => ?_)
                        · skip
                          refine g_iload X at_212 rfl (q := 214) rfl ?_
                          refine g_beq X at_214 (q := 217) rfl (by decide) (t := 226) rfl (fun (c8 : q1 = s0_125) => ?_) (fun (c8 : ¬ (q1 = s0_125)) => ?_)
                          · skip
                            refine g_iload X at_217 rfl (q := 219) rfl ?_
                            refine g_beq X at_219 (q := 222) rfl (by decide) (t := 226) rfl (fun (c9 : r191 = l21_187) => ?_) (fun (c9 : ¬ (r191 = l21_187)) => ?_)
                            · skip
                              refine g_iconst X at_222 rfl (q := 223) (v := 1) rfl ?_
                              refine g_goto X at_223 (by decide) (q := 227) rfl ?_
                              exact J227_6 T X _ (bI_t ⟨c7, ⟨c8, c9⟩⟩)
                            · skip
                              refine g_iconst X at_226 rfl (q := 227) (v := 0) rfl ?_
                              exact J227_6 T X _ (bI_f (fun z => (fun z => c9 z.2) z.2))
                          · skip
                            refine g_iconst X at_226 rfl (q := 227) (v := 0) rfl ?_
                            exact J227_6 T X _ (bI_f (fun z => (fun z => c8 z.1) z.2))
                        · skip
                          refine g_iconst X at_226 rfl (q := 227) (v := 0) rfl ?_
                          exact J227_6 T X _ (bI_f (fun z => c7 z.1))
                    · intro J205_9
                      refine g_lcmpB X at_196 (q1 := 197) rfl at_197 (Or.inr (Or.inr rfl)) (q := 200) rfl (by decide) (t := 204) rfl (fun (c10 : r191 = l21_187) => ?_) (fun (c10 : ¬ (r191 = l21_187)) => ?_)
                      · skip
                        refine g_iconst X at_200 rfl (q := 201) (v := 1) rfl ?_
                        refine g_goto X at_201 (by decide) (q := 205) rfl ?_
                        exact J205_9 T X _ (bI_t c10)
                      · skip
                        refine g_iconst X at_204 rfl (q := 205) (v := 0) rfl ?_
                        exact J205_9 T X _ (bI_f c10)
                  · intro J187_10
                    refine g_icmpB X at_160 (Or.inr (Or.inr rfl)) (q := 163) rfl (by decide) (t := 170) rfl (fun (c11 : s0_72 = x14) => ?_) (fun (c11 : ¬ (s0_72 = x14)) => ?_)
                    · skip
                      refine g_lload X at_163 rfl (q := 165) rfl ?_
                      refine g_lstore X at_165 rfl (q := 167) (L' := #[.val (.long q1), .second, .val (.long q2), .second, .val (.long q3), .second, .val (.int p4), .val (.int p5), .val (.int x5), .val (.int x14), .val (.int x21), .val (.long s0_35), .second, .val (.long s0_50), .second, .val (.int s0_72), .val (.ref b2), .val (.int (bI (q1 = q1))), .val (.long s0_125), .second, .val (.int (bI (q1 = s0_125))), .val (.long s0_50), .second, .unset]) rfl ?_
                      refine g_goto X at_167 (by decide) (q := 187) rfl ?_
                      exact J187_10 T X _ ((if_pos c11).symm)
                    · skip
                      refine g_iload X at_170 rfl (q := 172) rfl ?_
                      refine g_iload X at_172 rfl (q := 174) rfl ?_
                      refine g_icmpB X at_174 (Or.inr (Or.inr rfl)) (q := 177) rfl (by decide) (t := 184) rfl (fun (c12 : s0_72 = x5) => ?_) (fun (c12 : ¬ (s0_72 = x5)) => ?_)
                      · skip
                        refine g_lload X at_177 rfl (q := 179) rfl ?_
                        refine g_lstore X at_179 rfl (q := 181) (L' := #[.val (.long q1), .second, .val (.long q2), .second, .val (.long q3), .second, .val (.int p4), .val (.int p5), .val (.int x5), .val (.int x14), .val (.int x21), .val (.long s0_35), .second, .val (.long s0_50), .second, .val (.int s0_72), .val (.ref b2), .val (.int (bI (q1 = q1))), .val (.long s0_125), .second, .val (.int (bI (q1 = s0_125))), .val (.long s0_35), .second, .unset]) rfl ?_
                        refine g_goto X at_181 (by decide) (q := 187) rfl ?_
                        exact J187_10 T X _ (((if_pos c12).symm).trans (if_neg c11).symm)
                      · skip
                        refine g_lloadN X at_184 rfl (q := 185) rfl ?_
                        refine g_lstore X at_185 rfl (q := 187) (L' := #[.val (.long q1), .second, .val (.long q2), .second, .val (.long q3), .second, .val (.int p4), .val (.int p5), .val (.int x5), .val (.int x14), .val (.int x21), .val (.long s0_35), .second, .val (.long s0_50), .second, .val (.int s0_72), .val (.ref b2), .val (.int (bI (q1 = q1))), .val (.long s0_125), .second, .val (.int (bI (q1 = s0_125))), .val (.long q1), .second, .unset]) rfl ?_
                        exact J187_10 T X _ (((if_neg c12).symm).trans (if_neg c11).symm)
              · intro J145_12
                refine g_lcmpB X at_136 (q1 := 137) rfl at_137 (Or.inr (Or.inr rfl)) (q := 140) rfl (by decide) (t := 144) rfl (fun (c13 : q1 = s0_125) => ?_) (fun (c13 : ¬ (q1 = s0_125)) => ?_)
                · skip
                  refine g_iconst X at_140 rfl (q := 141) (v := 1) rfl ?_
                  refine g_goto X at_141 (by decide) (q := 145) rfl ?_
                  exact J145_12 T X _ (bI_t c13)
                · skip
                  refine g_iconst X at_144 rfl (q := 145) (v := 0) rfl ?_
                  exact J145_12 T X _ (bI_f c13)
            · intro J125_13
              refine g_icmpB X at_116 (Or.inr (Or.inr rfl)) (q := 119) rfl (by decide) (t := 124) rfl (fun (c14 : s0_72 = x5) => ?_) (fun (c14 : ¬ (s0_72 = x5)) => ?_)
              · skip
                refine g_lload X at_119 rfl (q := 121) rfl ?_
                refine g_goto X at_121 (by decide) (q := 125) rfl ?_
                exact J125_13 T X _ ((if_pos c14).symm)
              · skip
                refine g_lloadN X at_124 rfl (q := 125) rfl ?_
                exact J125_13 T X _ ((if_neg c14).symm)
          · skip
            refine g_callV X O_b2.1 [(.int x5), (.long s0_35)] [] (tw18 hw) (tw19 hw) (tw21 hw) (tw20 hw) (tw2 hw) (tw22 hw) (by decide) (rm4_nne l Z a0 hw [] b2 x5 s0_35 q1 _ n0 X.size O_b2 g_b2 (by omega) hv1) pd4 rfl rfl rfl at_109 (q := 112) rfl (W := 0) rfl (by decide) (by decide) (c2 := 2) (s2 := 18) rfl rfl (by decide) (by decide) (fun v T h' X hQ => ?_)
            obtain ⟨v1_109, n1_109, rfl, Kc, O_b2', A_v1_109', sq_v1_109, g_v1_109, hn1_109⟩ := hQ
            have ne_b2_v1_109 := own_far O_b2.1.lt sq_v1_109
            have ne_v1_109_b2 := own_apS ne_b2_v1_109
            have O_b2 := O_b2'
            have A_v1_109 := A_v1_109'
            show Goes p e below s _ n0 _ (T.setTop (mkF m 112 #[.val (.long q1), .second, .val (.long q2), .second, .val (.long q3), .second, .val (.int p4), .val (.int p5), .val (.int x5), .val (.int x14), .val (.int x21), .val (.long s0_35), .second, .val (.long s0_50), .second, .val (.int s0_72), .val (.ref b2), .val (.int (bI (q1 = q1))), .unset, .unset, .unset, .unset, .unset, .unset] []))
            refine g_iload X at_112 rfl (q := 114) rfl ?_
            refine g_iload X at_114 rfl (q := 116) rfl ?_
            refine g_jT1 X (J := 125) (P := fun (s0_125 : Int64) => s0_125 = (if s0_72 = x5 then s0_35 else q1)) (L := fun s0_125 => #[.val (.long q1), .second, .val (.long q2), .second, .val (.long q3), .second, .val (.int p4), .val (.int p5), .val (.int x5), .val (.int x14), .val (.int x21), .val (.long s0_35), .second, .val (.long s0_50), .second, .val (.int s0_72), .val (.ref b2), .val (.int (bI (q1 = q1))), .unset, .unset, .unset, .unset, .unset, .unset]) (S := fun s0_125 => [(.long s0_125)]) ?_ ?_
            · intro T X s0_125 hs0_125
              replace hs0_125 : s0_125 = (if s0_72 = x5 then s0_35 else q1) := hs0_125
              show Goes p e below s _ n0 _ (T.setTop (mkF m 125 #[.val (.long q1), .second, .val (.long q2), .second, .val (.long q3), .second, .val (.int p4), .val (.int p5), .val (.int x5), .val (.int x14), .val (.int x21), .val (.long s0_35), .second, .val (.long s0_50), .second, .val (.int s0_72), .val (.ref b2), .val (.int (bI (q1 = q1))), .unset, .unset, .unset, .unset, .unset, .unset] [(.long s0_125)]))
              refine g_lstore X at_125 rfl (q := 127) (L' := #[.val (.long q1), .second, .val (.long q2), .second, .val (.long q3), .second, .val (.int p4), .val (.int p5), .val (.int x5), .val (.int x14), .val (.int x21), .val (.long s0_35), .second, .val (.long s0_50), .second, .val (.int s0_72), .val (.ref b2), .val (.int (bI (q1 = q1))), .val (.long s0_125), .second, .unset, .unset, .unset, .unset]) rfl ?_
              refine g_aload X at_127 rfl (q := 129) rfl rfl ?_
              refine g_iload X at_129 rfl (q := 131) rfl ?_
              refine g_callV X O_b2.1 [(.int s0_72)] [] (tw11 hw) (tw12 hw) (tw14 hw) (tw13 hw) (tw2 hw) (tw15 hw) (by decide) (rm3_arr l Z a0 hw [] b2 s0_72 q1 v1_109 n1_109 (own_up (fun _ => q1) x5.toNatClampNeg s0_35) _ n0 X.size O_b2 A_v1_109 (by omega) (by omega)) pd3 rfl rfl rfl at_131 (q := 134) rfl (W := 0) rfl (by decide) (by decide) (c2 := 2) (s2 := 18) rfl rfl (by decide) (by decide) (fun v T h' X hQ => ?_)
              obtain ⟨rfl, rfl⟩ := hQ
              show Goes p e below s _ n0 _ (T.setTop (mkF m 134 #[.val (.long q1), .second, .val (.long q2), .second, .val (.long q3), .second, .val (.int p4), .val (.int p5), .val (.int x5), .val (.int x14), .val (.int x21), .val (.long s0_35), .second, .val (.long s0_50), .second, .val (.int s0_72), .val (.ref b2), .val (.int (bI (q1 = q1))), .val (.long s0_125), .second, .unset, .unset, .unset, .unset] [(.long (if s0_72 < (Nat.toInt32 n1_109) then ((own_up (fun _ => q1) x5.toNatClampNeg s0_35) s0_72.toNatClampNeg) else q1))]))
              refine g_letJ (fun r131 hr131 => ?_)
              refine g_lload X at_134 rfl (q := 136) rfl ?_
              refine g_jT1 X (J := 145) (P := fun (s0_145 : Int32) => s0_145 = (bI (r131 = s0_125))) (L := fun s0_145 => #[.val (.long q1), .second, .val (.long q2), .second, .val (.long q3), .second, .val (.int p4), .val (.int p5), .val (.int x5), .val (.int x14), .val (.int x21), .val (.long s0_35), .second, .val (.long s0_50), .second, .val (.int s0_72), .val (.ref b2), .val (.int (bI (q1 = q1))), .val (.long s0_125), .second, .unset, .unset, .unset, .unset]) (S := fun s0_145 => [(.int s0_145)]) ?_ ?_
              · intro T X s0_145 hs0_145
                replace hs0_145 : s0_145 = (bI (r131 = s0_125)) := hs0_145
                subst hs0_145
                show Goes p e below s _ n0 _ (T.setTop (mkF m 145 #[.val (.long q1), .second, .val (.long q2), .second, .val (.long q3), .second, .val (.int p4), .val (.int p5), .val (.int x5), .val (.int x14), .val (.int x21), .val (.long s0_35), .second, .val (.long s0_50), .second, .val (.int s0_72), .val (.ref b2), .val (.int (bI (q1 = q1))), .val (.long s0_125), .second, .unset, .unset, .unset, .unset] [(.int (bI (r131 = s0_125)))]))
                refine g_istore X at_145 rfl (q := 147) (L' := #[.val (.long q1), .second, .val (.long q2), .second, .val (.long q3), .second, .val (.int p4), .val (.int p5), .val (.int x5), .val (.int x14), .val (.int x21), .val (.long s0_35), .second, .val (.long s0_50), .second, .val (.int s0_72), .val (.ref b2), .val (.int (bI (q1 = q1))), .val (.long s0_125), .second, .val (.int (bI (r131 = s0_125))), .unset, .unset, .unset]) rfl ?_
                refine g_aload X at_147 rfl (q := 149) rfl rfl ?_
                refine g_iload X at_149 rfl (q := 151) rfl ?_
                refine g_lload X at_151 rfl (q := 153) rfl ?_
                by_cases hi2 : x14 < (Nat.toInt32 n1_109)
                · skip
                  refine g_callV X O_b2.1 [(.int x14), (.long s0_50)] [] (tw18 hw) (tw19 hw) (tw21 hw) (tw20 hw) (tw2 hw) (tw22 hw) (by decide) (rm4_in l Z a0 hw [] b2 x14 s0_50 q1 v1_109 n1_109 (own_up (fun _ => q1) x5.toNatClampNeg s0_35) _ n0 X.size O_b2 A_v1_109 g_b2 g_v1_109 ne_b2_v1_109 ne_v1_109_b2 (by omega) hn1_109.2 hi2) pd4 rfl rfl rfl at_153 (q := 156) rfl (W := 0) rfl (by decide) (by decide) (c2 := 2) (s2 := 18) rfl rfl (by decide) (by decide) (fun v T h' X hQ => ?_)
                  obtain ⟨rfl, Kc, A_v1_109'⟩ := hQ
                  have O_b2 := O_b2.keep Kc (ninS ne_b2_v1_109 nin0)
                  have A_v1_109 := A_v1_109'
                  show Goes p e below s _ n0 _ (T.setTop (mkF m 156 #[.val (.long q1), .second, .val (.long q2), .second, .val (.long q3), .second, .val (.int p4), .val (.int p5), .val (.int x5), .val (.int x14), .val (.int x21), .val (.long s0_35), .second, .val (.long s0_50), .second, .val (.int s0_72), .val (.ref b2), .val (.int (bI (q1 = q1))), .val (.long s0_125), .second, .val (.int (bI (r131 = s0_125))), .unset, .unset, .unset] []))
                  refine g_iload X at_156 rfl (q := 158) rfl ?_
                  refine g_iload X at_158 rfl (q := 160) rfl ?_
                  refine g_jT1 X (J := 187) (P := fun (l21_187 : Int64) => l21_187 = (if s0_72 = x14 then s0_50 else (if s0_72 = x5 then s0_35 else q1))) (L := fun l21_187 => #[.val (.long q1), .second, .val (.long q2), .second, .val (.long q3), .second, .val (.int p4), .val (.int p5), .val (.int x5), .val (.int x14), .val (.int x21), .val (.long s0_35), .second, .val (.long s0_50), .second, .val (.int s0_72), .val (.ref b2), .val (.int (bI (q1 = q1))), .val (.long s0_125), .second, .val (.int (bI (r131 = s0_125))), .val (.long l21_187), .second, .unset]) (S := fun l21_187 => []) ?_ ?_
                  · intro T X l21_187 hl21_187
                    replace hl21_187 : l21_187 = (if s0_72 = x14 then s0_50 else (if s0_72 = x5 then s0_35 else q1)) := hl21_187
                    show Goes p e below s _ n0 _ (T.setTop (mkF m 187 #[.val (.long q1), .second, .val (.long q2), .second, .val (.long q3), .second, .val (.int p4), .val (.int p5), .val (.int x5), .val (.int x14), .val (.int x21), .val (.long s0_35), .second, .val (.long s0_50), .second, .val (.int s0_72), .val (.ref b2), .val (.int (bI (q1 = q1))), .val (.long s0_125), .second, .val (.int (bI (r131 = s0_125))), .val (.long l21_187), .second, .unset] []))
                    refine g_aload X at_187 rfl (q := 189) rfl rfl ?_
                    refine g_iload X at_189 rfl (q := 191) rfl ?_
                    refine g_callV X O_b2.1 [(.int s0_72)] [] (tw11 hw) (tw12 hw) (tw14 hw) (tw13 hw) (tw2 hw) (tw15 hw) (by decide) (rm3_arr l Z a0 hw [] b2 s0_72 q1 v1_109 n1_109 (own_up (own_up (fun _ => q1) x5.toNatClampNeg s0_35) x14.toNatClampNeg s0_50) _ n0 X.size O_b2 A_v1_109 (by omega) (by omega)) pd3 rfl rfl rfl at_191 (q := 194) rfl (W := 0) rfl (by decide) (by decide) (c2 := 2) (s2 := 18) rfl rfl (by decide) (by decide) (fun v T h' X hQ => ?_)
                    obtain ⟨rfl, rfl⟩ := hQ
                    show Goes p e below s _ n0 _ (T.setTop (mkF m 194 #[.val (.long q1), .second, .val (.long q2), .second, .val (.long q3), .second, .val (.int p4), .val (.int p5), .val (.int x5), .val (.int x14), .val (.int x21), .val (.long s0_35), .second, .val (.long s0_50), .second, .val (.int s0_72), .val (.ref b2), .val (.int (bI (q1 = q1))), .val (.long s0_125), .second, .val (.int (bI (r131 = s0_125))), .val (.long l21_187), .second, .unset] [(.long (if s0_72 < (Nat.toInt32 n1_109) then ((own_up (own_up (fun _ => q1) x5.toNatClampNeg s0_35) x14.toNatClampNeg s0_50) s0_72.toNatClampNeg) else q1))]))
                    refine g_letJ (fun r191 hr191 => ?_)
                    refine g_lload X at_194 rfl (q := 196) rfl ?_
                    refine g_jT1 X (J := 205) (P := fun (s0_205 : Int32) => s0_205 = (bI (r191 = l21_187))) (L := fun s0_205 => #[.val (.long q1), .second, .val (.long q2), .second, .val (.long q3), .second, .val (.int p4), .val (.int p5), .val (.int x5), .val (.int x14), .val (.int x21), .val (.long s0_35), .second, .val (.long s0_50), .second, .val (.int s0_72), .val (.ref b2), .val (.int (bI (q1 = q1))), .val (.long s0_125), .second, .val (.int (bI (r131 = s0_125))), .val (.long l21_187), .second, .unset]) (S := fun s0_205 => [(.int s0_205)]) ?_ ?_
                    · intro T X s0_205 hs0_205
                      replace hs0_205 : s0_205 = (bI (r191 = l21_187)) := hs0_205
                      subst hs0_205
                      show Goes p e below s _ n0 _ (T.setTop (mkF m 205 #[.val (.long q1), .second, .val (.long q2), .second, .val (.long q3), .second, .val (.int p4), .val (.int p5), .val (.int x5), .val (.int x14), .val (.int x21), .val (.long s0_35), .second, .val (.long s0_50), .second, .val (.int s0_72), .val (.ref b2), .val (.int (bI (q1 = q1))), .val (.long s0_125), .second, .val (.int (bI (r131 = s0_125))), .val (.long l21_187), .second, .unset] [(.int (bI (r191 = l21_187)))]))
                      refine g_istore X at_205 rfl (q := 207) (L' := #[.val (.long q1), .second, .val (.long q2), .second, .val (.long q3), .second, .val (.int p4), .val (.int p5), .val (.int x5), .val (.int x14), .val (.int x21), .val (.long s0_35), .second, .val (.long s0_50), .second, .val (.int s0_72), .val (.ref b2), .val (.int (bI (q1 = q1))), .val (.long s0_125), .second, .val (.int (bI (r131 = s0_125))), .val (.long l21_187), .second, .val (.int (bI (r191 = l21_187)))]) rfl ?_
                      refine g_iload X at_207 rfl (q := 209) rfl ?_
                      refine g_jT1 X (J := 227) (P := fun (s0_227 : Int32) => s0_227 = (bI ((q1 = q1) ∧ ((r131 = s0_125) ∧ (r191 = l21_187))))) (L := fun s0_227 => #[.val (.long q1), .second, .val (.long q2), .second, .val (.long q3), .second, .val (.int p4), .val (.int p5), .val (.int x5), .val (.int x14), .val (.int x21), .val (.long s0_35), .second, .val (.long s0_50), .second, .val (.int s0_72), .val (.ref b2), .val (.int (bI (q1 = q1))), .val (.long s0_125), .second, .val (.int (bI (r131 = s0_125))), .val (.long l21_187), .second, .val (.int (bI (r191 = l21_187)))]) (S := fun s0_227 => [(.int s0_227)]) ?_ ?_
                      · intro T X s0_227 hs0_227
                        replace hs0_227 : s0_227 = (bI ((q1 = q1) ∧ ((r131 = s0_125) ∧ (r191 = l21_187)))) := hs0_227
                        subst hs0_227
                        show Goes p e below s _ n0 _ (T.setTop (mkF m 227 #[.val (.long q1), .second, .val (.long q2), .second, .val (.long q3), .second, .val (.int p4), .val (.int p5), .val (.int x5), .val (.int x14), .val (.int x21), .val (.long s0_35), .second, .val (.long s0_50), .second, .val (.int s0_72), .val (.ref b2), .val (.int (bI (q1 = q1))), .val (.long s0_125), .second, .val (.int (bI (r131 = s0_125))), .val (.long l21_187), .second, .val (.int (bI (r191 = l21_187)))] [(.int (bI ((q1 = q1) ∧ ((r131 = s0_125) ∧ (r191 = l21_187)))))]))
                        refine g_retZ X at_227 (by decide) (by decide) (bI_01 _) (own_fin ?_)
                        show (q1 = q1) ∧ ((r131 = s0_125) ∧ (r191 = l21_187))
                        refine ⟨rfl, ?_, ?_⟩
                        · rw [own_get (by omega) (by omega) (own_Fu (fun _ _ => rfl) (by omega) hn1_109.1) hr131, own_ue (by omega) (by omega), hs0_125]
                        · have hi3 := Int32.lt_iff_toInt_lt.mp hi2
                          rw [own_tn (by omega)] at hi3
                          rw [own_get (by omega) (by omega) (own_Fu (own_Fu (fun _ _ => rfl) (by omega) hn1_109.1) (by omega) hi3) hr191, own_ue (by omega) (by omega), own_ue (by omega) (by omega), hl21_187]
                      · intro J227_14
                        refine g_beq X at_209 (q := 212) rfl (by decide) (t := 226) rfl (fun (c15 : q1 = q1) => ?_) (fun (c15 : ¬ (q1 = q1)) => ?_)
                        · skip
                          refine g_iload X at_212 rfl (q := 214) rfl ?_
                          refine g_beq X at_214 (q := 217) rfl (by decide) (t := 226) rfl (fun (c16 : r131 = s0_125) => ?_) (fun (c16 : ¬ (r131 = s0_125)) => ?_)
                          · skip
                            refine g_iload X at_217 rfl (q := 219) rfl ?_
                            refine g_beq X at_219 (q := 222) rfl (by decide) (t := 226) rfl (fun (c17 : r191 = l21_187) => ?_) (fun (c17 : ¬ (r191 = l21_187)) => ?_)
                            · skip
                              refine g_iconst X at_222 rfl (q := 223) (v := 1) rfl ?_
                              refine g_goto X at_223 (by decide) (q := 227) rfl ?_
                              exact J227_14 T X _ (bI_t ⟨c15, ⟨c16, c17⟩⟩)
                            · skip
                              refine g_iconst X at_226 rfl (q := 227) (v := 0) rfl ?_
                              exact J227_14 T X _ (bI_f (fun z => (fun z => c17 z.2) z.2))
                          · skip
                            refine g_iconst X at_226 rfl (q := 227) (v := 0) rfl ?_
                            exact J227_14 T X _ (bI_f (fun z => (fun z => c16 z.1) z.2))
                        · skip
                          refine g_iconst X at_226 rfl (q := 227) (v := 0) rfl ?_
                          exact J227_14 T X _ (bI_f (fun z => c15 z.1))
                    · intro J205_17
                      refine g_lcmpB X at_196 (q1 := 197) rfl at_197 (Or.inr (Or.inr rfl)) (q := 200) rfl (by decide) (t := 204) rfl (fun (c18 : r191 = l21_187) => ?_) (fun (c18 : ¬ (r191 = l21_187)) => ?_)
                      · skip
                        refine g_iconst X at_200 rfl (q := 201) (v := 1) rfl ?_
                        refine g_goto X at_201 (by decide) (q := 205) rfl ?_
                        exact J205_17 T X _ (bI_t c18)
                      · skip
                        refine g_iconst X at_204 rfl (q := 205) (v := 0) rfl ?_
                        exact J205_17 T X _ (bI_f c18)
                  · intro J187_18
                    refine g_icmpB X at_160 (Or.inr (Or.inr rfl)) (q := 163) rfl (by decide) (t := 170) rfl (fun (c19 : s0_72 = x14) => ?_) (fun (c19 : ¬ (s0_72 = x14)) => ?_)
                    · skip
                      refine g_lload X at_163 rfl (q := 165) rfl ?_
                      refine g_lstore X at_165 rfl (q := 167) (L' := #[.val (.long q1), .second, .val (.long q2), .second, .val (.long q3), .second, .val (.int p4), .val (.int p5), .val (.int x5), .val (.int x14), .val (.int x21), .val (.long s0_35), .second, .val (.long s0_50), .second, .val (.int s0_72), .val (.ref b2), .val (.int (bI (q1 = q1))), .val (.long s0_125), .second, .val (.int (bI (r131 = s0_125))), .val (.long s0_50), .second, .unset]) rfl ?_
                      refine g_goto X at_167 (by decide) (q := 187) rfl ?_
                      exact J187_18 T X _ ((if_pos c19).symm)
                    · skip
                      refine g_iload X at_170 rfl (q := 172) rfl ?_
                      refine g_iload X at_172 rfl (q := 174) rfl ?_
                      refine g_icmpB X at_174 (Or.inr (Or.inr rfl)) (q := 177) rfl (by decide) (t := 184) rfl (fun (c20 : s0_72 = x5) => ?_) (fun (c20 : ¬ (s0_72 = x5)) => ?_)
                      · skip
                        refine g_lload X at_177 rfl (q := 179) rfl ?_
                        refine g_lstore X at_179 rfl (q := 181) (L' := #[.val (.long q1), .second, .val (.long q2), .second, .val (.long q3), .second, .val (.int p4), .val (.int p5), .val (.int x5), .val (.int x14), .val (.int x21), .val (.long s0_35), .second, .val (.long s0_50), .second, .val (.int s0_72), .val (.ref b2), .val (.int (bI (q1 = q1))), .val (.long s0_125), .second, .val (.int (bI (r131 = s0_125))), .val (.long s0_35), .second, .unset]) rfl ?_
                        refine g_goto X at_181 (by decide) (q := 187) rfl ?_
                        exact J187_18 T X _ (((if_pos c20).symm).trans (if_neg c19).symm)
                      · skip
                        refine g_lloadN X at_184 rfl (q := 185) rfl ?_
                        refine g_lstore X at_185 rfl (q := 187) (L' := #[.val (.long q1), .second, .val (.long q2), .second, .val (.long q3), .second, .val (.int p4), .val (.int p5), .val (.int x5), .val (.int x14), .val (.int x21), .val (.long s0_35), .second, .val (.long s0_50), .second, .val (.int s0_72), .val (.ref b2), .val (.int (bI (q1 = q1))), .val (.long s0_125), .second, .val (.int (bI (r131 = s0_125))), .val (.long q1), .second, .unset]) rfl ?_
                        exact J187_18 T X _ (((if_neg c20).symm).trans (if_neg c19).symm)
                · skip
                  by_cases hv2 : s0_50 = q1
                  · skip
                    refine g_callV X O_b2.1 [(.int x14), (.long s0_50)] [] (tw18 hw) (tw19 hw) (tw21 hw) (tw20 hw) (tw2 hw) (tw22 hw) (by decide) (rm4_oeq l Z a0 hw [] b2 x14 s0_50 q1 v1_109 n1_109 (own_up (fun _ => q1) x5.toNatClampNeg s0_35) _ n0 X.size O_b2 A_v1_109 g_b2 g_v1_109 ne_b2_v1_109 ne_v1_109_b2 (by omega) hn1_109.2 hi2 hv2) pd4 rfl rfl rfl at_153 (q := 156) rfl (W := 0) rfl (by decide) (by decide) (c2 := 2) (s2 := 18) rfl rfl (by decide) (by decide) (fun v T h' X hQ => ?_)
                    obtain ⟨rfl, Kc, O_b2'⟩ := hQ
                    have A_v1_109 := A_v1_109.keep Kc (ninS ne_v1_109_b2 nin0)
                    have O_b2 := O_b2'
                    show Goes p e below s _ n0 _ (T.setTop (mkF m 156 #[.val (.long q1), .second, .val (.long q2), .second, .val (.long q3), .second, .val (.int p4), .val (.int p5), .val (.int x5), .val (.int x14), .val (.int x21), .val (.long s0_35), .second, .val (.long s0_50), .second, .val (.int s0_72), .val (.ref b2), .val (.int (bI (q1 = q1))), .val (.long s0_125), .second, .val (.int (bI (r131 = s0_125))), .unset, .unset, .unset] []))
                    refine g_iload X at_156 rfl (q := 158) rfl ?_
                    refine g_iload X at_158 rfl (q := 160) rfl ?_
                    refine g_jT1 X (J := 187) (P := fun (l21_187 : Int64) => l21_187 = (if s0_72 = x14 then s0_50 else (if s0_72 = x5 then s0_35 else q1))) (L := fun l21_187 => #[.val (.long q1), .second, .val (.long q2), .second, .val (.long q3), .second, .val (.int p4), .val (.int p5), .val (.int x5), .val (.int x14), .val (.int x21), .val (.long s0_35), .second, .val (.long s0_50), .second, .val (.int s0_72), .val (.ref b2), .val (.int (bI (q1 = q1))), .val (.long s0_125), .second, .val (.int (bI (r131 = s0_125))), .val (.long l21_187), .second, .unset]) (S := fun l21_187 => []) ?_ ?_
                    · intro T X l21_187 hl21_187
                      replace hl21_187 : l21_187 = (if s0_72 = x14 then s0_50 else (if s0_72 = x5 then s0_35 else q1)) := hl21_187
                      show Goes p e below s _ n0 _ (T.setTop (mkF m 187 #[.val (.long q1), .second, .val (.long q2), .second, .val (.long q3), .second, .val (.int p4), .val (.int p5), .val (.int x5), .val (.int x14), .val (.int x21), .val (.long s0_35), .second, .val (.long s0_50), .second, .val (.int s0_72), .val (.ref b2), .val (.int (bI (q1 = q1))), .val (.long s0_125), .second, .val (.int (bI (r131 = s0_125))), .val (.long l21_187), .second, .unset] []))
                      refine g_aload X at_187 rfl (q := 189) rfl rfl ?_
                      refine g_iload X at_189 rfl (q := 191) rfl ?_
                      refine g_callV X O_b2.1 [(.int s0_72)] [] (tw11 hw) (tw12 hw) (tw14 hw) (tw13 hw) (tw2 hw) (tw15 hw) (by decide) (rm3_arr l Z a0 hw [] b2 s0_72 q1 v1_109 n1_109 (own_up (fun _ => q1) x5.toNatClampNeg s0_35) _ n0 X.size O_b2 A_v1_109 (by omega) (by omega)) pd3 rfl rfl rfl at_191 (q := 194) rfl (W := 0) rfl (by decide) (by decide) (c2 := 2) (s2 := 18) rfl rfl (by decide) (by decide) (fun v T h' X hQ => ?_)
                      obtain ⟨rfl, rfl⟩ := hQ
                      show Goes p e below s _ n0 _ (T.setTop (mkF m 194 #[.val (.long q1), .second, .val (.long q2), .second, .val (.long q3), .second, .val (.int p4), .val (.int p5), .val (.int x5), .val (.int x14), .val (.int x21), .val (.long s0_35), .second, .val (.long s0_50), .second, .val (.int s0_72), .val (.ref b2), .val (.int (bI (q1 = q1))), .val (.long s0_125), .second, .val (.int (bI (r131 = s0_125))), .val (.long l21_187), .second, .unset] [(.long (if s0_72 < (Nat.toInt32 n1_109) then ((own_up (fun _ => q1) x5.toNatClampNeg s0_35) s0_72.toNatClampNeg) else q1))]))
                      refine g_letJ (fun r191 hr191 => ?_)
                      refine g_lload X at_194 rfl (q := 196) rfl ?_
                      refine g_jT1 X (J := 205) (P := fun (s0_205 : Int32) => s0_205 = (bI (r191 = l21_187))) (L := fun s0_205 => #[.val (.long q1), .second, .val (.long q2), .second, .val (.long q3), .second, .val (.int p4), .val (.int p5), .val (.int x5), .val (.int x14), .val (.int x21), .val (.long s0_35), .second, .val (.long s0_50), .second, .val (.int s0_72), .val (.ref b2), .val (.int (bI (q1 = q1))), .val (.long s0_125), .second, .val (.int (bI (r131 = s0_125))), .val (.long l21_187), .second, .unset]) (S := fun s0_205 => [(.int s0_205)]) ?_ ?_
                      · intro T X s0_205 hs0_205
                        replace hs0_205 : s0_205 = (bI (r191 = l21_187)) := hs0_205
                        subst hs0_205
                        show Goes p e below s _ n0 _ (T.setTop (mkF m 205 #[.val (.long q1), .second, .val (.long q2), .second, .val (.long q3), .second, .val (.int p4), .val (.int p5), .val (.int x5), .val (.int x14), .val (.int x21), .val (.long s0_35), .second, .val (.long s0_50), .second, .val (.int s0_72), .val (.ref b2), .val (.int (bI (q1 = q1))), .val (.long s0_125), .second, .val (.int (bI (r131 = s0_125))), .val (.long l21_187), .second, .unset] [(.int (bI (r191 = l21_187)))]))
                        refine g_istore X at_205 rfl (q := 207) (L' := #[.val (.long q1), .second, .val (.long q2), .second, .val (.long q3), .second, .val (.int p4), .val (.int p5), .val (.int x5), .val (.int x14), .val (.int x21), .val (.long s0_35), .second, .val (.long s0_50), .second, .val (.int s0_72), .val (.ref b2), .val (.int (bI (q1 = q1))), .val (.long s0_125), .second, .val (.int (bI (r131 = s0_125))), .val (.long l21_187), .second, .val (.int (bI (r191 = l21_187)))]) rfl ?_
                        refine g_iload X at_207 rfl (q := 209) rfl ?_
                        refine g_jT1 X (J := 227) (P := fun (s0_227 : Int32) => s0_227 = (bI ((q1 = q1) ∧ ((r131 = s0_125) ∧ (r191 = l21_187))))) (L := fun s0_227 => #[.val (.long q1), .second, .val (.long q2), .second, .val (.long q3), .second, .val (.int p4), .val (.int p5), .val (.int x5), .val (.int x14), .val (.int x21), .val (.long s0_35), .second, .val (.long s0_50), .second, .val (.int s0_72), .val (.ref b2), .val (.int (bI (q1 = q1))), .val (.long s0_125), .second, .val (.int (bI (r131 = s0_125))), .val (.long l21_187), .second, .val (.int (bI (r191 = l21_187)))]) (S := fun s0_227 => [(.int s0_227)]) ?_ ?_
                        · intro T X s0_227 hs0_227
                          replace hs0_227 : s0_227 = (bI ((q1 = q1) ∧ ((r131 = s0_125) ∧ (r191 = l21_187)))) := hs0_227
                          subst hs0_227
                          show Goes p e below s _ n0 _ (T.setTop (mkF m 227 #[.val (.long q1), .second, .val (.long q2), .second, .val (.long q3), .second, .val (.int p4), .val (.int p5), .val (.int x5), .val (.int x14), .val (.int x21), .val (.long s0_35), .second, .val (.long s0_50), .second, .val (.int s0_72), .val (.ref b2), .val (.int (bI (q1 = q1))), .val (.long s0_125), .second, .val (.int (bI (r131 = s0_125))), .val (.long l21_187), .second, .val (.int (bI (r191 = l21_187)))] [(.int (bI ((q1 = q1) ∧ ((r131 = s0_125) ∧ (r191 = l21_187)))))]))
                          refine g_retZ X at_227 (by decide) (by decide) (bI_01 _) (own_fin ?_)
                          show (q1 = q1) ∧ ((r131 = s0_125) ∧ (r191 = l21_187))
                          refine ⟨rfl, ?_, ?_⟩
                          · rw [own_get (by omega) (by omega) (own_Fu (fun _ _ => rfl) (by omega) hn1_109.1) hr131, own_ue (by omega) (by omega), hs0_125]
                          · have hi3 := own_ltn hi2
                            rw [own_tn (by omega)] at hi3
                            rw [own_get (by omega) (by omega) (own_Fu (fun _ _ => rfl) (by omega) hn1_109.1) hr191, own_ue (by omega) (by omega), hl21_187]
                            by_cases q : s0_72 = x14
                            · rw [if_pos q, if_neg (fun z => by rw [← q, z] at hi3; omega), hv2]
                            · rw [if_neg q]
                        · intro J227_20
                          refine g_beq X at_209 (q := 212) rfl (by decide) (t := 226) rfl (fun (c21 : q1 = q1) => ?_) (fun (c21 : ¬ (q1 = q1)) => ?_)
                          · skip
                            refine g_iload X at_212 rfl (q := 214) rfl ?_
                            refine g_beq X at_214 (q := 217) rfl (by decide) (t := 226) rfl (fun (c22 : r131 = s0_125) => ?_) (fun (c22 : ¬ (r131 = s0_125)) => ?_)
                            · skip
                              refine g_iload X at_217 rfl (q := 219) rfl ?_
                              refine g_beq X at_219 (q := 222) rfl (by decide) (t := 226) rfl (fun (c23 : r191 = l21_187) => ?_) (fun (c23 : ¬ (r191 = l21_187)) => ?_)
                              · skip
                                refine g_iconst X at_222 rfl (q := 223) (v := 1) rfl ?_
                                refine g_goto X at_223 (by decide) (q := 227) rfl ?_
                                exact J227_20 T X _ (bI_t ⟨c21, ⟨c22, c23⟩⟩)
                              · skip
                                refine g_iconst X at_226 rfl (q := 227) (v := 0) rfl ?_
                                exact J227_20 T X _ (bI_f (fun z => (fun z => c23 z.2) z.2))
                            · skip
                              refine g_iconst X at_226 rfl (q := 227) (v := 0) rfl ?_
                              exact J227_20 T X _ (bI_f (fun z => (fun z => c22 z.1) z.2))
                          · skip
                            refine g_iconst X at_226 rfl (q := 227) (v := 0) rfl ?_
                            exact J227_20 T X _ (bI_f (fun z => c21 z.1))
                      · intro J205_23
                        refine g_lcmpB X at_196 (q1 := 197) rfl at_197 (Or.inr (Or.inr rfl)) (q := 200) rfl (by decide) (t := 204) rfl (fun (c24 : r191 = l21_187) => ?_) (fun (c24 : ¬ (r191 = l21_187)) => ?_)
                        · skip
                          refine g_iconst X at_200 rfl (q := 201) (v := 1) rfl ?_
                          refine g_goto X at_201 (by decide) (q := 205) rfl ?_
                          exact J205_23 T X _ (bI_t c24)
                        · skip
                          refine g_iconst X at_204 rfl (q := 205) (v := 0) rfl ?_
                          exact J205_23 T X _ (bI_f c24)
                    · intro J187_24
                      refine g_icmpB X at_160 (Or.inr (Or.inr rfl)) (q := 163) rfl (by decide) (t := 170) rfl (fun (c25 : s0_72 = x14) => ?_) (fun (c25 : ¬ (s0_72 = x14)) => ?_)
                      · skip
                        refine g_lload X at_163 rfl (q := 165) rfl ?_
                        refine g_lstore X at_165 rfl (q := 167) (L' := #[.val (.long q1), .second, .val (.long q2), .second, .val (.long q3), .second, .val (.int p4), .val (.int p5), .val (.int x5), .val (.int x14), .val (.int x21), .val (.long s0_35), .second, .val (.long s0_50), .second, .val (.int s0_72), .val (.ref b2), .val (.int (bI (q1 = q1))), .val (.long s0_125), .second, .val (.int (bI (r131 = s0_125))), .val (.long s0_50), .second, .unset]) rfl ?_
                        refine g_goto X at_167 (by decide) (q := 187) rfl ?_
                        exact J187_24 T X _ ((if_pos c25).symm)
                      · skip
                        refine g_iload X at_170 rfl (q := 172) rfl ?_
                        refine g_iload X at_172 rfl (q := 174) rfl ?_
                        refine g_icmpB X at_174 (Or.inr (Or.inr rfl)) (q := 177) rfl (by decide) (t := 184) rfl (fun (c26 : s0_72 = x5) => ?_) (fun (c26 : ¬ (s0_72 = x5)) => ?_)
                        · skip
                          refine g_lload X at_177 rfl (q := 179) rfl ?_
                          refine g_lstore X at_179 rfl (q := 181) (L' := #[.val (.long q1), .second, .val (.long q2), .second, .val (.long q3), .second, .val (.int p4), .val (.int p5), .val (.int x5), .val (.int x14), .val (.int x21), .val (.long s0_35), .second, .val (.long s0_50), .second, .val (.int s0_72), .val (.ref b2), .val (.int (bI (q1 = q1))), .val (.long s0_125), .second, .val (.int (bI (r131 = s0_125))), .val (.long s0_35), .second, .unset]) rfl ?_
                          refine g_goto X at_181 (by decide) (q := 187) rfl ?_
                          exact J187_24 T X _ (((if_pos c26).symm).trans (if_neg c25).symm)
                        · skip
                          refine g_lloadN X at_184 rfl (q := 185) rfl ?_
                          refine g_lstore X at_185 rfl (q := 187) (L' := #[.val (.long q1), .second, .val (.long q2), .second, .val (.long q3), .second, .val (.int p4), .val (.int p5), .val (.int x5), .val (.int x14), .val (.int x21), .val (.long s0_35), .second, .val (.long s0_50), .second, .val (.int s0_72), .val (.ref b2), .val (.int (bI (q1 = q1))), .val (.long s0_125), .second, .val (.int (bI (r131 = s0_125))), .val (.long q1), .second, .unset]) rfl ?_
                          exact J187_24 T X _ (((if_neg c26).symm).trans (if_neg c25).symm)
                  · skip
                    refine g_callV X O_b2.1 [(.int x14), (.long s0_50)] [] (tw18 hw) (tw19 hw) (tw21 hw) (tw20 hw) (tw2 hw) (tw22 hw) (by decide) (rm4_one l Z a0 hw [] b2 x14 s0_50 q1 v1_109 n1_109 (own_up (fun _ => q1) x5.toNatClampNeg s0_35) _ n0 X.size O_b2 A_v1_109 g_b2 g_v1_109 ne_b2_v1_109 ne_v1_109_b2 (by omega) hn1_109.2 hi2 hv2) pd4 rfl rfl rfl at_153 (q := 156) rfl (W := 0) rfl (by decide) (by decide) (c2 := 3) (s2 := 50) rfl rfl (by decide) (by decide) (fun v T h' X hQ => ?_)
                    obtain ⟨v1_153, n1_153, rfl, Kc, O_b2', A_v1_153', sq_v1_153, g_v1_153, hn1_153⟩ := hQ
                    have ne_b2_v1_153 := own_far O_b2.1.lt sq_v1_153
                    have ne_v1_153_b2 := own_apS ne_b2_v1_153
                    have ne_v1_109_v1_153 := own_far A_v1_109.lt sq_v1_153
                    have ne_v1_153_v1_109 := own_apS ne_v1_109_v1_153
                    have A_v1_109 := A_v1_109.keep Kc (ninS ne_v1_109_b2 nin0)
                    have O_b2 := O_b2'
                    have A_v1_153 := A_v1_153'
                    show Goes p e below s _ n0 _ (T.setTop (mkF m 156 #[.val (.long q1), .second, .val (.long q2), .second, .val (.long q3), .second, .val (.int p4), .val (.int p5), .val (.int x5), .val (.int x14), .val (.int x21), .val (.long s0_35), .second, .val (.long s0_50), .second, .val (.int s0_72), .val (.ref b2), .val (.int (bI (q1 = q1))), .val (.long s0_125), .second, .val (.int (bI (r131 = s0_125))), .unset, .unset, .unset] []))
                    refine g_iload X at_156 rfl (q := 158) rfl ?_
                    refine g_iload X at_158 rfl (q := 160) rfl ?_
                    refine g_jT1 X (J := 187) (P := fun (l21_187 : Int64) => l21_187 = (if s0_72 = x14 then s0_50 else (if s0_72 = x5 then s0_35 else q1))) (L := fun l21_187 => #[.val (.long q1), .second, .val (.long q2), .second, .val (.long q3), .second, .val (.int p4), .val (.int p5), .val (.int x5), .val (.int x14), .val (.int x21), .val (.long s0_35), .second, .val (.long s0_50), .second, .val (.int s0_72), .val (.ref b2), .val (.int (bI (q1 = q1))), .val (.long s0_125), .second, .val (.int (bI (r131 = s0_125))), .val (.long l21_187), .second, .unset]) (S := fun l21_187 => []) ?_ ?_
                    · intro T X l21_187 hl21_187
                      replace hl21_187 : l21_187 = (if s0_72 = x14 then s0_50 else (if s0_72 = x5 then s0_35 else q1)) := hl21_187
                      show Goes p e below s _ n0 _ (T.setTop (mkF m 187 #[.val (.long q1), .second, .val (.long q2), .second, .val (.long q3), .second, .val (.int p4), .val (.int p5), .val (.int x5), .val (.int x14), .val (.int x21), .val (.long s0_35), .second, .val (.long s0_50), .second, .val (.int s0_72), .val (.ref b2), .val (.int (bI (q1 = q1))), .val (.long s0_125), .second, .val (.int (bI (r131 = s0_125))), .val (.long l21_187), .second, .unset] []))
                      refine g_aload X at_187 rfl (q := 189) rfl rfl ?_
                      refine g_iload X at_189 rfl (q := 191) rfl ?_
                      refine g_callV X O_b2.1 [(.int s0_72)] [] (tw11 hw) (tw12 hw) (tw14 hw) (tw13 hw) (tw2 hw) (tw15 hw) (by decide) (rm3_arr l Z a0 hw [] b2 s0_72 q1 v1_153 n1_153 (own_up (fun j => if j < n1_109 then (own_up (fun _ => q1) x5.toNatClampNeg s0_35) j else q1) x14.toNatClampNeg s0_50) _ n0 X.size O_b2 A_v1_153 (by omega) (by omega)) pd3 rfl rfl rfl at_191 (q := 194) rfl (W := 0) rfl (by decide) (by decide) (c2 := 3) (s2 := 50) rfl rfl (by decide) (by decide) (fun v T h' X hQ => ?_)
                      obtain ⟨rfl, rfl⟩ := hQ
                      show Goes p e below s _ n0 _ (T.setTop (mkF m 194 #[.val (.long q1), .second, .val (.long q2), .second, .val (.long q3), .second, .val (.int p4), .val (.int p5), .val (.int x5), .val (.int x14), .val (.int x21), .val (.long s0_35), .second, .val (.long s0_50), .second, .val (.int s0_72), .val (.ref b2), .val (.int (bI (q1 = q1))), .val (.long s0_125), .second, .val (.int (bI (r131 = s0_125))), .val (.long l21_187), .second, .unset] [(.long (if s0_72 < (Nat.toInt32 n1_153) then ((own_up (fun j => if j < n1_109 then (own_up (fun _ => q1) x5.toNatClampNeg s0_35) j else q1) x14.toNatClampNeg s0_50) s0_72.toNatClampNeg) else q1))]))
                      refine g_letJ (fun r191 hr191 => ?_)
                      refine g_lload X at_194 rfl (q := 196) rfl ?_
                      refine g_jT1 X (J := 205) (P := fun (s0_205 : Int32) => s0_205 = (bI (r191 = l21_187))) (L := fun s0_205 => #[.val (.long q1), .second, .val (.long q2), .second, .val (.long q3), .second, .val (.int p4), .val (.int p5), .val (.int x5), .val (.int x14), .val (.int x21), .val (.long s0_35), .second, .val (.long s0_50), .second, .val (.int s0_72), .val (.ref b2), .val (.int (bI (q1 = q1))), .val (.long s0_125), .second, .val (.int (bI (r131 = s0_125))), .val (.long l21_187), .second, .unset]) (S := fun s0_205 => [(.int s0_205)]) ?_ ?_
                      · intro T X s0_205 hs0_205
                        replace hs0_205 : s0_205 = (bI (r191 = l21_187)) := hs0_205
                        subst hs0_205
                        show Goes p e below s _ n0 _ (T.setTop (mkF m 205 #[.val (.long q1), .second, .val (.long q2), .second, .val (.long q3), .second, .val (.int p4), .val (.int p5), .val (.int x5), .val (.int x14), .val (.int x21), .val (.long s0_35), .second, .val (.long s0_50), .second, .val (.int s0_72), .val (.ref b2), .val (.int (bI (q1 = q1))), .val (.long s0_125), .second, .val (.int (bI (r131 = s0_125))), .val (.long l21_187), .second, .unset] [(.int (bI (r191 = l21_187)))]))
                        refine g_istore X at_205 rfl (q := 207) (L' := #[.val (.long q1), .second, .val (.long q2), .second, .val (.long q3), .second, .val (.int p4), .val (.int p5), .val (.int x5), .val (.int x14), .val (.int x21), .val (.long s0_35), .second, .val (.long s0_50), .second, .val (.int s0_72), .val (.ref b2), .val (.int (bI (q1 = q1))), .val (.long s0_125), .second, .val (.int (bI (r131 = s0_125))), .val (.long l21_187), .second, .val (.int (bI (r191 = l21_187)))]) rfl ?_
                        refine g_iload X at_207 rfl (q := 209) rfl ?_
                        refine g_jT1 X (J := 227) (P := fun (s0_227 : Int32) => s0_227 = (bI ((q1 = q1) ∧ ((r131 = s0_125) ∧ (r191 = l21_187))))) (L := fun s0_227 => #[.val (.long q1), .second, .val (.long q2), .second, .val (.long q3), .second, .val (.int p4), .val (.int p5), .val (.int x5), .val (.int x14), .val (.int x21), .val (.long s0_35), .second, .val (.long s0_50), .second, .val (.int s0_72), .val (.ref b2), .val (.int (bI (q1 = q1))), .val (.long s0_125), .second, .val (.int (bI (r131 = s0_125))), .val (.long l21_187), .second, .val (.int (bI (r191 = l21_187)))]) (S := fun s0_227 => [(.int s0_227)]) ?_ ?_
                        · intro T X s0_227 hs0_227
                          replace hs0_227 : s0_227 = (bI ((q1 = q1) ∧ ((r131 = s0_125) ∧ (r191 = l21_187)))) := hs0_227
                          subst hs0_227
                          show Goes p e below s _ n0 _ (T.setTop (mkF m 227 #[.val (.long q1), .second, .val (.long q2), .second, .val (.long q3), .second, .val (.int p4), .val (.int p5), .val (.int x5), .val (.int x14), .val (.int x21), .val (.long s0_35), .second, .val (.long s0_50), .second, .val (.int s0_72), .val (.ref b2), .val (.int (bI (q1 = q1))), .val (.long s0_125), .second, .val (.int (bI (r131 = s0_125))), .val (.long l21_187), .second, .val (.int (bI (r191 = l21_187)))] [(.int (bI ((q1 = q1) ∧ ((r131 = s0_125) ∧ (r191 = l21_187)))))]))
                          refine g_retZ X at_227 (by decide) (by decide) (bI_01 _) (own_fin ?_)
                          show (q1 = q1) ∧ ((r131 = s0_125) ∧ (r191 = l21_187))
                          refine ⟨rfl, ?_, ?_⟩
                          · rw [own_get (by omega) (by omega) (own_Fu (fun _ _ => rfl) (by omega) hn1_109.1) hr131, own_ue (by omega) (by omega), hs0_125]
                          · have hi3 := own_ltn hi2
                            rw [own_tn (by omega)] at hi3
                            rw [own_get (by omega) (by omega) (own_Fu (own_FG (by omega)) (by omega) hn1_153.1) hr191, own_ue (by omega) (by omega), own_Gk (own_Fu (fun _ _ => rfl) (by omega) hn1_109.1), own_ue (by omega) (by omega), hl21_187]
                        · intro J227_26
                          refine g_beq X at_209 (q := 212) rfl (by decide) (t := 226) rfl (fun (c27 : q1 = q1) => ?_) (fun (c27 : ¬ (q1 = q1)) => ?_)
                          · skip
                            refine g_iload X at_212 rfl (q := 214) rfl ?_
                            refine g_beq X at_214 (q := 217) rfl (by decide) (t := 226) rfl (fun (c28 : r131 = s0_125) => ?_) (fun (c28 : ¬ (r131 = s0_125)) => ?_)
                            · skip
                              refine g_iload X at_217 rfl (q := 219) rfl ?_
                              refine g_beq X at_219 (q := 222) rfl (by decide) (t := 226) rfl (fun (c29 : r191 = l21_187) => ?_) (fun (c29 : ¬ (r191 = l21_187)) => ?_)
                              · skip
                                refine g_iconst X at_222 rfl (q := 223) (v := 1) rfl ?_
                                refine g_goto X at_223 (by decide) (q := 227) rfl ?_
                                exact J227_26 T X _ (bI_t ⟨c27, ⟨c28, c29⟩⟩)
                              · skip
                                refine g_iconst X at_226 rfl (q := 227) (v := 0) rfl ?_
                                exact J227_26 T X _ (bI_f (fun z => (fun z => c29 z.2) z.2))
                            · skip
                              refine g_iconst X at_226 rfl (q := 227) (v := 0) rfl ?_
                              exact J227_26 T X _ (bI_f (fun z => (fun z => c28 z.1) z.2))
                          · skip
                            refine g_iconst X at_226 rfl (q := 227) (v := 0) rfl ?_
                            exact J227_26 T X _ (bI_f (fun z => c27 z.1))
                      · intro J205_29
                        refine g_lcmpB X at_196 (q1 := 197) rfl at_197 (Or.inr (Or.inr rfl)) (q := 200) rfl (by decide) (t := 204) rfl (fun (c30 : r191 = l21_187) => ?_) (fun (c30 : ¬ (r191 = l21_187)) => ?_)
                        · skip
                          refine g_iconst X at_200 rfl (q := 201) (v := 1) rfl ?_
                          refine g_goto X at_201 (by decide) (q := 205) rfl ?_
                          exact J205_29 T X _ (bI_t c30)
                        · skip
                          refine g_iconst X at_204 rfl (q := 205) (v := 0) rfl ?_
                          exact J205_29 T X _ (bI_f c30)
                    · intro J187_30
                      refine g_icmpB X at_160 (Or.inr (Or.inr rfl)) (q := 163) rfl (by decide) (t := 170) rfl (fun (c31 : s0_72 = x14) => ?_) (fun (c31 : ¬ (s0_72 = x14)) => ?_)
                      · skip
                        refine g_lload X at_163 rfl (q := 165) rfl ?_
                        refine g_lstore X at_165 rfl (q := 167) (L' := #[.val (.long q1), .second, .val (.long q2), .second, .val (.long q3), .second, .val (.int p4), .val (.int p5), .val (.int x5), .val (.int x14), .val (.int x21), .val (.long s0_35), .second, .val (.long s0_50), .second, .val (.int s0_72), .val (.ref b2), .val (.int (bI (q1 = q1))), .val (.long s0_125), .second, .val (.int (bI (r131 = s0_125))), .val (.long s0_50), .second, .unset]) rfl ?_
                        refine g_goto X at_167 (by decide) (q := 187) rfl ?_
                        exact J187_30 T X _ ((if_pos c31).symm)
                      · skip
                        refine g_iload X at_170 rfl (q := 172) rfl ?_
                        refine g_iload X at_172 rfl (q := 174) rfl ?_
                        refine g_icmpB X at_174 (Or.inr (Or.inr rfl)) (q := 177) rfl (by decide) (t := 184) rfl (fun (c32 : s0_72 = x5) => ?_) (fun (c32 : ¬ (s0_72 = x5)) => ?_)
                        · skip
                          refine g_lload X at_177 rfl (q := 179) rfl ?_
                          refine g_lstore X at_179 rfl (q := 181) (L' := #[.val (.long q1), .second, .val (.long q2), .second, .val (.long q3), .second, .val (.int p4), .val (.int p5), .val (.int x5), .val (.int x14), .val (.int x21), .val (.long s0_35), .second, .val (.long s0_50), .second, .val (.int s0_72), .val (.ref b2), .val (.int (bI (q1 = q1))), .val (.long s0_125), .second, .val (.int (bI (r131 = s0_125))), .val (.long s0_35), .second, .unset]) rfl ?_
                          refine g_goto X at_181 (by decide) (q := 187) rfl ?_
                          exact J187_30 T X _ (((if_pos c32).symm).trans (if_neg c31).symm)
                        · skip
                          refine g_lloadN X at_184 rfl (q := 185) rfl ?_
                          refine g_lstore X at_185 rfl (q := 187) (L' := #[.val (.long q1), .second, .val (.long q2), .second, .val (.long q3), .second, .val (.int p4), .val (.int p5), .val (.int x5), .val (.int x14), .val (.int x21), .val (.long s0_35), .second, .val (.long s0_50), .second, .val (.int s0_72), .val (.ref b2), .val (.int (bI (q1 = q1))), .val (.long s0_125), .second, .val (.int (bI (r131 = s0_125))), .val (.long q1), .second, .unset]) rfl ?_
                          exact J187_30 T X _ (((if_neg c32).symm).trans (if_neg c31).symm)
              · intro J145_32
                refine g_lcmpB X at_136 (q1 := 137) rfl at_137 (Or.inr (Or.inr rfl)) (q := 140) rfl (by decide) (t := 144) rfl (fun (c33 : r131 = s0_125) => ?_) (fun (c33 : ¬ (r131 = s0_125)) => ?_)
                · skip
                  refine g_iconst X at_140 rfl (q := 141) (v := 1) rfl ?_
                  refine g_goto X at_141 (by decide) (q := 145) rfl ?_
                  exact J145_32 T X _ (bI_t c33)
                · skip
                  refine g_iconst X at_144 rfl (q := 145) (v := 0) rfl ?_
                  exact J145_32 T X _ (bI_f c33)
            · intro J125_33
              refine g_icmpB X at_116 (Or.inr (Or.inr rfl)) (q := 119) rfl (by decide) (t := 124) rfl (fun (c34 : s0_72 = x5) => ?_) (fun (c34 : ¬ (s0_72 = x5)) => ?_)
              · skip
                refine g_lload X at_119 rfl (q := 121) rfl ?_
                refine g_goto X at_121 (by decide) (q := 125) rfl ?_
                exact J125_33 T X _ ((if_pos c34).symm)
              · skip
                refine g_lloadN X at_124 rfl (q := 125) rfl ?_
                exact J125_33 T X _ ((if_neg c34).symm)
        · intro J101_34
          refine g_lcmpB X at_92 (q1 := 93) rfl at_93 (Or.inr (Or.inr rfl)) (q := 96) rfl (by decide) (t := 100) rfl (fun (c35 : q1 = q1) => ?_) (fun (c35 : ¬ (q1 = q1)) => ?_)
          · skip
            refine g_iconst X at_96 rfl (q := 97) (v := 1) rfl ?_
            refine g_goto X at_97 (by decide) (q := 101) rfl ?_
            exact J101_34 T X _ (bI_t c35)
          · skip
            refine g_iconst X at_100 rfl (q := 101) (v := 0) rfl ?_
            exact J101_34 T X _ (bI_f c35)
      · intro J72_35
        refine g_ifA X at_56 (Or.inr (Or.inr rfl)) (q := 59) rfl (by decide) (t := 67) rfl (fun (c36 : (x21 &&& (4 : Int32)) = (0 : Int32)) => ?_) (fun (c36 : ¬ ((x21 &&& (4 : Int32)) = (0 : Int32))) => ?_)
        · skip
          refine g_iload X at_67 rfl (q := 69) rfl ?_
          refine g_bipush X at_69 rfl (q := 71) (v := 31) rfl ?_
          refine g_iand X at_71 rfl (q := 72) ?_
          exact J72_35 T X _ ((if_pos c36).symm)
        · skip
          refine g_iload X at_59 rfl (q := 61) rfl ?_
          refine g_ldc X (tw54 hw) at_61 (q := 63) rfl ?_
          refine g_iand X at_63 rfl (q := 64) ?_
          refine g_goto X at_64 (by decide) (q := 72) rfl ?_
          exact J72_35 T X _ ((if_neg c36).symm)
    · intro J50_36
      refine g_ifA X at_41 (Or.inr (Or.inr rfl)) (q := 44) rfl (by decide) (t := 48) rfl (fun (c37 : (x21 &&& (2 : Int32)) = (0 : Int32)) => ?_) (fun (c37 : ¬ ((x21 &&& (2 : Int32)) = (0 : Int32))) => ?_)
      · skip
        refine g_lload X at_48 rfl (q := 50) rfl ?_
        exact J50_36 T X _ ((if_pos c37).symm)
      · skip
        refine g_lloadN X at_44 rfl (q := 45) rfl ?_
        refine g_goto X at_45 (by decide) (q := 50) rfl ?_
        exact J50_36 T X _ ((if_neg c37).symm)
  · intro J35_37
    refine g_ifA X at_27 (Or.inr (Or.inr rfl)) (q := 30) rfl (by decide) (t := 34) rfl (fun (c38 : (x21 &&& (1 : Int32)) = (0 : Int32)) => ?_) (fun (c38 : ¬ ((x21 &&& (1 : Int32)) = (0 : Int32))) => ?_)
    · skip
      refine g_lloadN X at_34 rfl (q := 35) rfl ?_
      exact J35_37 T X _ ((if_pos c38).symm)
    · skip
      refine g_lloadN X at_30 rfl (q := 31) rfl ?_
      refine g_goto X at_31 (by decide) (q := 35) rfl ?_
      exact J35_37 T X _ ((if_neg c38).symm)
set_option maxRecDepth 65536 in
set_option maxHeartbeats 40000000 in
theorem comes_1 {Post : Tables → Env → Array Value → State → Outcome → State → Prop} (hpost : ∀ tb e args s v u, (limb_1_1.after args s (.returned v) u = true ∧ limb_1_2.after args s (.returned v) u = true ∧ True) → FrameEnd s (.returned v) u (Jvm.fieldLocs frame_1_writes args s ++ Jvm.arrayLocs frame_1_arrays args s ++ Jvm.staticLocs frame_1_statics s) 16 192 → Post tb e args s (.returned v) u) :
    ArmFor flags0 classFile x code maxLocals ret World_1 tables_1 room_1 Calls_1 rest_1 Pre_1 Post := by
  intro l hfl _ _ p e ha hc hk s m args below hf hA hF happ hP
  obtain ⟨hcalls, hrest, hpre⟩ := hP
  obtain ⟨-, -, -, hnamed, -, -, -, hat⟩ := (Spec.applies_iff hf).mp happ
  obtain ⟨hg, hn⟩ := and_e (Cond.before_iff.mp (show (Jvm.Cond.and given_1 narrow_1).before args s = true from hpre))
  obtain ⟨u1, w1⟩ := and_e hg
  obtain ⟨u2, w2⟩ := and_e w1
  obtain ⟨u3, w3⟩ := and_e w2
  obtain ⟨u4, w4⟩ := and_e w3
  obtain ⟨u5, w5⟩ := and_e w4
  obtain ⟨z0, z1, z2, z3, z4, rfl⟩ : ∃ z0 z1 z2 z3 z4 : Value, args = #[z0, z1, z2, z3, z4] := by
    have hs : args.size = 5 := by simpa [Cond.value, given_1] using u1
    obtain ⟨L⟩ := args
    match L, hs with
    | [z0, z1, z2, z3, z4], _ => exact ⟨z0, z1, z2, z3, z4, rfl⟩
  have hw := fun d (hd : d ∈ tables_1) => atoms_spec (ws := Jvm.Cond.code x code maxLocals ret :: tables_1) hat d (List.mem_cons_of_mem _ hd)
  obtain ⟨i0, ei0⟩ := isL_v u2
  obtain rfl : z0 = (.long i0) := Option.some.inj ei0
  obtain ⟨i1, ei1⟩ := isL_v u3
  obtain rfl : z1 = (.long i1) := Option.some.inj ei1
  obtain ⟨i2, ei2⟩ := isL_v u4
  obtain rfl : z2 = (.long i2) := Option.some.inj ei2
  obtain ⟨i3, ei3⟩ := is_v u5
  obtain rfl : z3 = (.int i3) := Option.some.inj ei3
  obtain ⟨i4, ei4⟩ := is_v w5
  obtain rfl : z4 = (.int i4) := Option.some.inj ei4
  obtain ⟨n, o, h1, h2, h3, _, L, rfl, ⟨N, rfl⟩, hq⟩ := rm0 l s _ hw tables_1 i0 i1 i2 i3 i4 s.heap s.heap.size (Nat.le_refl _) p e ha hc hk s m _ below hf ((Spec.applies_iff_loose hf).mp happ).1 ⟨rfl, State.Warmed39.refl s, rfl⟩ trivial
  refine ⟨n, _, h1, h2, h3, hpost _ _ _ _ _ _ ⟨Cond.after_iff.mpr rfl, Cond.after_iff.mpr (eq_i res_at (Term.int_eval (1)) rfl), trivial⟩ ⟨hq.1, hq.2.1, (hq.2.2.sift fun y hy => Or.inr (N y hy)).mono (by decide) (by decide)⟩⟩
theorem main_1_1 : Claimed_1_1 := comes_1 fun _ _ _ _ _ _ h hF => ⟨h.1, hF⟩
theorem main_1_2 : Claimed_1_2 := comes_1 fun _ _ _ _ _ _ h hF => ⟨h.2.1, hF⟩
end Jvm.Pilot.@@N@@
namespace Jvm.Pilot.@@N@@
open Jvm Jvm.ClassFile Sem Op Lib Jvm.Free Jvm.Stand Jvm.Pilot.@@N@@.Jvm.D
/-! MADE BY PROGRAM (witnessworld.py) out of the Statement's table words and the real class files: 14 classes; the members and pool entries that the words name. The judged class is class 1, her method 1. -/
namespace start1
open Jvm.ClassFile
def u (s : String) : CpInfo := .utf8 (stringToUtf16 s)
/-- a pool by its gaps: so many unusable entries, then the entry; so many at the end -/
def gap : Nat → List CpInfo → List CpInfo
  | 0, r => r
  | n + 1, r => .unusable :: gap n r
def poolList (es : List (Nat × CpInfo)) (last : Nat) : List CpInfo := es.foldr (fun e r => gap e.1 (e.2 :: r)) (gap last [])
def pool (es : List (Nat × CpInfo)) (last : Nat) : Array CpInfo := ⟨poolList es last⟩
def fileOf (pool : Array CpInfo) (this : Nat) (attrs : Array Attribute := #[]) (ms : Array MethodInfo := #[]) (fl : Nat := 33) (sup : Nat := 0) (ifs : Array Nat := #[]) (fds : Array FieldInfo := #[]) : ClassFile where
  minorVersion := 0
  majorVersion := 65
  constantPool := pool
  accessFlags := fl
  thisClass := this
  superClass := sup
  interfaces := ifs
  fields := fds
  methods := ms
  attributes := attrs
def plain (name : String) (sup : Option ClassId) : Class where
  name := name
  kind := .ordinary
  loader := none
  accessFlags := 33
  super := sup
  interfaces := #[]
  cf := none
  fields := #[]
  methods := #[]
  instanceTypes := #[]
  staticTypes := #[]
  resolved := #[]
  callSites := []
  init := .initialized
  statics := none
  mirror := none

def pool0 : Array CpInfo := pool [(5, u "<init>"), (0, u "()V"), (1, .class_ 10), (1, u "java/lang/Object")] 113

def k0c0 : Code := { maxStack := 0, maxLocals := 1, code := object_method_1_code, exceptionTable := #[], attributes := #[] }
def k0m0 : Method := { name := "<init>", desc := "()V", sig := { parameters := [], returnType := none }, accessFlags := 1, code := some k0c0 }
/-- java/lang/Object -/
def k0 : Class := { plain "java/lang/Object" none with
  accessFlags := 33
  interfaces := #[]
  cf := some (fileOf pool0 8 #[] #[{ accessFlags := 1, nameIndex := 5, descriptorIndex := 6, attributes := #[] }] 33 0 #[] #[])
  fields := #[]
  methods := #[k0m0]
  instanceTypes := #[]
  staticTypes := #[]
  resolved := Array.replicate 124 none
  statics := none }

def pool1 : Array CpInfo := pool [(2, .class_ 4), (1, u "java/lang/Object"), (0, u "<init>"), (0, u "()V"), (0, .integer 2147483647), (0, .class_ 9), (0, u "com/example/retention/retention/group/LazyLongArray"), (0, .methodref 8 11), (0, .nameAndType 5 12), (0, u "(J)V"), (0, .methodref 8 14), (0, .nameAndType 15 16), (0, u "get"), (0, u "(I)J"), (0, .methodref 8 18), (0, .nameAndType 19 20), (0, u "set"), (0, u "(IJ)V"), (0, .class_ 22), (0, u "com/example/retention/retention/group/LazyLongArrayGetPinLaw"), (2, u "law"), (0, u "(JJJII)Z")] 3

def k1m0 : Method := { name := "<init>", desc := "()V", sig := { parameters := [], returnType := none }, accessFlags := 1, code := none }
def k1c1 : Code := { maxStack := 4, maxLocals := 24, code := code, exceptionTable := #[], attributes := #[] }
def k1m1 : Method := { name := "law", desc := "(JJJII)Z", sig := { parameters := [.long, .long, .long, .int, .int], returnType := some .boolean }, accessFlags := 9, code := some k1c1 }
/-- com/example/retention/retention/group/LazyLongArrayGetPinLaw -/
def k1 : Class := { plain "com/example/retention/retention/group/LazyLongArrayGetPinLaw" (some 0) with
  accessFlags := 49
  interfaces := #[]
  cf := some (fileOf pool1 21 #[] #[{ accessFlags := 1, nameIndex := 5, descriptorIndex := 6, attributes := #[] }, { accessFlags := 9, nameIndex := 25, descriptorIndex := 26, attributes := #[] }] 49 2 #[] #[])
  fields := #[]
  methods := #[k1m0, k1m1]
  instanceTypes := #[]
  staticTypes := #[]
  resolved := Array.replicate 30 none
  statics := none }

def pool2 : Array CpInfo := pool [(3, .methodref 4 5), (0, .class_ 6), (0, .nameAndType 7 8), (0, u "java/lang/Object"), (0, u "<init>"), (0, u "()V"), (0, .fieldref 10 11), (0, .class_ 12), (0, .nameAndType 13 14), (0, u "com/example/retention/retention/group/LazyLongArray"), (0, u "defaultValue"), (0, u "J"), (0, .fieldref 10 16), (0, .nameAndType 17 18), (0, u "values"), (0, u "[J"), (0, .methodref 10 20), (0, .nameAndType 21 22), (0, u "grow"), (0, u "(I)V"), (0, .methodref 24 25), (0, .class_ 26), (0, .nameAndType 27 28), (0, u "java/util/Arrays"), (0, u "copyOf"), (0, u "([JI)[J"), (2, u "(J)V"), (6, .class_ 40), (1, u "java/lang/Math"), (0, u "min"), (5, .long 2), (1, .methodref 38 50), (0, .nameAndType 51 52), (0, u "max"), (0, u "(JJ)J"), (0, .long 2147483639), (1, .methodref 38 56), (0, .nameAndType 41 52), (0, .methodref 24 58), (0, .nameAndType 59 60), (0, u "fill"), (0, u "([JIIJ)V"), (0, u "MAX_LENGTH"), (0, u "I"), (4, u "get"), (0, u "(I)J"), (1, u "set"), (0, u "(IJ)V")] 8

def k2c0 : Code := { maxStack := 3, maxLocals := 3, code := prog_38_method_1_code, exceptionTable := #[], attributes := #[] }
def k2m0 : Method := { name := "<init>", desc := "(J)V", sig := { parameters := [.long], returnType := none }, accessFlags := 0, code := some k2c0 }
def k2c1 : Code := { maxStack := 2, maxLocals := 2, code := prog_38_method_2_code, exceptionTable := #[], attributes := #[] }
def k2m1 : Method := { name := "get", desc := "(I)J", sig := { parameters := [.int], returnType := some .long }, accessFlags := 0, code := some k2c1 }
def k2c2 : Code := { maxStack := 4, maxLocals := 4, code := prog_38_method_3_code, exceptionTable := #[], attributes := #[] }
def k2m2 : Method := { name := "set", desc := "(IJ)V", sig := { parameters := [.int, .long], returnType := none }, accessFlags := 0, code := some k2c2 }
def k2c3 : Code := { maxStack := 6, maxLocals := 4, code := prog_38_method_8_code, exceptionTable := #[], attributes := #[] }
def k2m3 : Method := { name := "grow", desc := "(I)V", sig := { parameters := [.int], returnType := none }, accessFlags := 2, code := some k2c3 }
/-- com/example/retention/retention/group/LazyLongArray -/
def k2 : Class := { plain "com/example/retention/retention/group/LazyLongArray" (some 0) with
  accessFlags := 48
  interfaces := #[]
  cf := some (fileOf pool2 10 #[] #[{ accessFlags := 0, nameIndex := 7, descriptorIndex := 31, attributes := #[] }, { accessFlags := 0, nameIndex := 67, descriptorIndex := 68, attributes := #[] }, { accessFlags := 0, nameIndex := 70, descriptorIndex := 71, attributes := #[] }, { accessFlags := 2, nameIndex := 21, descriptorIndex := 22, attributes := #[] }] 48 4 #[] #[{ accessFlags := 26, nameIndex := 61, descriptorIndex := 62, attributes := #[] }, { accessFlags := 18, nameIndex := 13, descriptorIndex := 14, attributes := #[] }, { accessFlags := 2, nameIndex := 17, descriptorIndex := 18, attributes := #[] }])
  fields := #[{ name := "MAX_LENGTH", type := .int, accessFlags := 26, slot := 0, constantValue := 0 }, { name := "defaultValue", type := .long, accessFlags := 18, slot := 0, constantValue := 0 }, { name := "values", type := (.array .long), accessFlags := 2, slot := 1, constantValue := 0 }]
  methods := #[k2m0, k2m1, k2m2, k2m3]
  instanceTypes := #[.long, (.array .long)]
  staticTypes := #[.int]
  resolved := Array.replicate 80 none
  statics := none }

def pool3 : Array CpInfo := pool [(1, .class_ 2), (0, u "java/lang/Math"), (1, .class_ 6), (1, u "java/lang/Object"), (0, u "<init>"), (0, u "()V"), (89, .class_ 100), (1, u "java/lang/Math$RandomNumberGeneratorHolder"), (20, u "(JJ)J"), (50, u "negativeZeroFloatBits"), (0, u "J"), (2, u "negativeZeroDoubleBits"), (21, u "max"), (2, u "min"), (43, u "$assertionsDisabled"), (0, u "Z"), (88, u "(II)I"), (2, u "twoToTheDoubleScaleDown"), (0, u "D"), (4, u "twoToTheDoubleScaleUp"), (9, u "E"), (3, u "PI"), (2, u "TAU"), (2, u "DEGREES_TO_RADIANS"), (0, u "RADIANS_TO_DEGREES")] 94

def k3m0 : Method := { name := "<init>", desc := "()V", sig := { parameters := [], returnType := none }, accessFlags := 2, code := none }
def k3c1 : Code := { maxStack := 4, maxLocals := 4, code := jdk_29_method_66_code, exceptionTable := #[], attributes := #[] }
def k3m1 : Method := { name := "max", desc := "(JJ)J", sig := { parameters := [.long, .long], returnType := some .long }, accessFlags := 9, code := some k3c1 }
def k3c2 : Code := { maxStack := 2, maxLocals := 2, code := jdk_29_method_69_code, exceptionTable := #[], attributes := #[] }
def k3m2 : Method := { name := "min", desc := "(II)I", sig := { parameters := [.int, .int], returnType := some .int }, accessFlags := 9, code := some k3c2 }
def k3c3 : Code := { maxStack := 4, maxLocals := 4, code := jdk_29_method_70_code, exceptionTable := #[], attributes := #[] }
def k3m3 : Method := { name := "min", desc := "(JJ)J", sig := { parameters := [.long, .long], returnType := some .long }, accessFlags := 9, code := some k3c3 }
/-- java/lang/Math -/
def k3 : Class := { plain "java/lang/Math" (some 0) with
  accessFlags := 49
  interfaces := #[]
  cf := some (fileOf pool3 1 #[.nestMembers #[98]] #[{ accessFlags := 2, nameIndex := 7, descriptorIndex := 8, attributes := #[] }, { accessFlags := 9, nameIndex := 198, descriptorIndex := 121, attributes := #[] }, { accessFlags := 9, nameIndex := 201, descriptorIndex := 335, attributes := #[] }, { accessFlags := 9, nameIndex := 201, descriptorIndex := 121, attributes := #[] }] 49 4 #[] #[{ accessFlags := 25, nameIndex := 354, descriptorIndex := 339, attributes := #[] }, { accessFlags := 25, nameIndex := 358, descriptorIndex := 339, attributes := #[] }, { accessFlags := 25, nameIndex := 361, descriptorIndex := 339, attributes := #[] }, { accessFlags := 26, nameIndex := 364, descriptorIndex := 339, attributes := #[] }, { accessFlags := 26, nameIndex := 365, descriptorIndex := 339, attributes := #[] }, { accessFlags := 26, nameIndex := 172, descriptorIndex := 173, attributes := #[] }, { accessFlags := 26, nameIndex := 176, descriptorIndex := 173, attributes := #[] }, { accessFlags := 8, nameIndex := 344, descriptorIndex := 339, attributes := #[] }, { accessFlags := 8, nameIndex := 338, descriptorIndex := 339, attributes := #[] }, { accessFlags := 4120, nameIndex := 245, descriptorIndex := 246, attributes := #[] }])
  fields := #[{ name := "E", type := .double, accessFlags := 25, slot := 0, constantValue := 0 }, { name := "PI", type := .double, accessFlags := 25, slot := 1, constantValue := 0 }, { name := "TAU", type := .double, accessFlags := 25, slot := 2, constantValue := 0 }, { name := "DEGREES_TO_RADIANS", type := .double, accessFlags := 26, slot := 3, constantValue := 0 }, { name := "RADIANS_TO_DEGREES", type := .double, accessFlags := 26, slot := 4, constantValue := 0 }, { name := "negativeZeroFloatBits", type := .long, accessFlags := 26, slot := 5, constantValue := 0 }, { name := "negativeZeroDoubleBits", type := .long, accessFlags := 26, slot := 6, constantValue := 0 }, { name := "twoToTheDoubleScaleUp", type := .double, accessFlags := 8, slot := 7, constantValue := 0 }, { name := "twoToTheDoubleScaleDown", type := .double, accessFlags := 8, slot := 8, constantValue := 0 }, { name := "$assertionsDisabled", type := .boolean, accessFlags := 4120, slot := 9, constantValue := 0 }]
  methods := #[k3m0, k3m1, k3m2, k3m3]
  instanceTypes := #[]
  staticTypes := #[.double, .double, .double, .double, .double, .long, .long, .double, .double, .boolean]
  resolved := Array.replicate 460 none
  statics := none }

def pool4 : Array CpInfo := pool [(2, .class_ 4), (1, u "java/lang/Object"), (0, u "<init>"), (0, u "()V"), (6, .methodref 14 15), (0, .class_ 16), (0, .nameAndType 17 18), (0, u "java/util/Arrays"), (0, u "rangeCheck"), (0, u "(III)V"), (55, .class_ 76), (1, u "java/util/Arrays$NaturalOrder"), (36, .class_ 115), (1, u "java/util/Arrays$LegacyMergeSort"), (1, u "Z"), (32, .methodref 151 152), (0, .class_ 153), (0, .nameAndType 154 155), (0, u "java/lang/System"), (0, u "arraycopy"), (0, u "(Ljava/lang/Object;ILjava/lang/Object;II)V"), (146, u "copyOf"), (1, .methodref 305 306), (0, .class_ 307), (0, .nameAndType 308 309), (0, u "java/lang/Math"), (0, u "min"), (0, u "(II)I"), (65, .class_ 376), (0, u "java/util/Arrays$ArrayList"), (68, u "$assertionsDisabled"), (269, u "MIN_ARRAY_SORT_GRAN"), (0, u "I"), (2, u "INSERTIONSORT_THRESHOLD"), (120, u "fill"), (3, u "([JIIJ)V"), (27, u "([JI)[J"), (102, .class_ 976), (0, u "java/util/Arrays$ArrayItr")] 52

def k4m0 : Method := { name := "<init>", desc := "()V", sig := { parameters := [], returnType := none }, accessFlags := 2, code := none }
def k4c1 : Code := { maxStack := 4, maxLocals := 3, code := jdk_65_method_30_code, exceptionTable := #[], attributes := #[] }
def k4m1 : Method := { name := "rangeCheck", desc := "(III)V", sig := { parameters := [.int, .int, .int], returnType := none }, accessFlags := 8, code := some k4c1 }
def k4c2 : Code := { maxStack := 4, maxLocals := 6, code := jdk_65_method_102_code, exceptionTable := #[], attributes := #[] }
def k4m2 : Method := { name := "fill", desc := "([JIIJ)V", sig := { parameters := [(.array .long), .int, .int, .long], returnType := none }, accessFlags := 9, code := some k4c2 }
def k4c3 : Code := { maxStack := 6, maxLocals := 3, code := jdk_65_method_124_code, exceptionTable := #[], attributes := #[] }
def k4m3 : Method := { name := "copyOf", desc := "([JI)[J", sig := { parameters := [(.array .long), .int], returnType := some (.array .long) }, accessFlags := 9, code := some k4c3 }
/-- java/util/Arrays -/
def k4 : Class := { plain "java/util/Arrays" (some 0) with
  accessFlags := 49
  interfaces := #[]
  cf := some (fileOf pool4 14 #[.nestMembers #[975, 375, 113, 74]] #[{ accessFlags := 2, nameIndex := 5, descriptorIndex := 6, attributes := #[] }, { accessFlags := 8, nameIndex := 17, descriptorIndex := 18, attributes := #[] }, { accessFlags := 9, nameIndex := 840, descriptorIndex := 844, attributes := #[] }, { accessFlags := 9, nameIndex := 302, descriptorIndex := 872, attributes := #[] }] 49 2 #[] #[{ accessFlags := 26, nameIndex := 715, descriptorIndex := 716, attributes := #[] }, { accessFlags := 26, nameIndex := 719, descriptorIndex := 716, attributes := #[] }, { accessFlags := 4120, nameIndex := 445, descriptorIndex := 117, attributes := #[] }])
  fields := #[{ name := "MIN_ARRAY_SORT_GRAN", type := .int, accessFlags := 26, slot := 0, constantValue := 0 }, { name := "INSERTIONSORT_THRESHOLD", type := .int, accessFlags := 26, slot := 1, constantValue := 0 }, { name := "$assertionsDisabled", type := .boolean, accessFlags := 4120, slot := 2, constantValue := 0 }]
  methods := #[k4m0, k4m1, k4m2, k4m3]
  instanceTypes := #[]
  staticTypes := #[.int, .int, .boolean]
  resolved := Array.replicate 1029 none
  statics := none }

def pool5 : Array CpInfo := pool [(2, .class_ 4), (1, u "java/lang/Object"), (0, u "<init>"), (0, u "()V"), (1, .class_ 10), (1, u "java/lang/System"), (0, u "allowSecurityManager"), (0, u "I"), (16, u "cons"), (0, u "Ljava/io/Console;"), (77, .class_ 110), (1, u "java/lang/System$CallersHolder"), (43, u "initialErrStream"), (0, u "Ljava/io/PrintStream;"), (19, u "security"), (0, u "Ljava/lang/SecurityManager;"), (31, .class_ 209), (0, u "java/lang/System$1"), (7, u "props"), (0, u "Ljava/util/Properties;"), (2, u "lineSeparator"), (0, u "Ljava/lang/String;"), (96, .class_ 321), (1, u "java/lang/System$LoggerFinder"), (5, .class_ 328), (0, u "java/lang/System$Logger"), (67, u "err"), (2, u "out"), (91, u "notSupportedJnuEncoding"), (15, u "in"), (17, u "initialIn"), (0, u "Ljava/io/InputStream;"), (35, u "bootLayer"), (0, u "Ljava/lang/ModuleLayer;"), (99, .class_ 664), (0, u "java/lang/System$2"), (9, u "NEVER"), (2, u "MAYBE"), (49, u "arraycopy"), (0, u "(Ljava/lang/Object;ILjava/lang/Object;II)V"), (72, .class_ 802), (0, u "java/lang/System$Logger$Level")] 31

def k5m0 : Method := { name := "<init>", desc := "()V", sig := { parameters := [], returnType := none }, accessFlags := 2, code := none }
def k5m1 : Method := { name := "arraycopy", desc := "(Ljava/lang/Object;ILjava/lang/Object;II)V", sig := { parameters := [(.object "java/lang/Object"), .int, (.object "java/lang/Object"), .int, .int], returnType := none }, accessFlags := 265, code := none }
/-- java/lang/System -/
def k5 : Class := { plain "java/lang/System" (some 0) with
  accessFlags := 49
  interfaces := #[]
  cf := some (fileOf pool5 8 #[.nestMembers #[319, 327, 801, 108, 663, 208]] #[{ accessFlags := 2, nameIndex := 5, descriptorIndex := 6, attributes := #[] }, { accessFlags := 265, nameIndex := 727, descriptorIndex := 728, attributes := #[] }] 49 2 #[] #[{ accessFlags := 25, nameIndex := 507, descriptorIndex := 526, attributes := #[] }, { accessFlags := 25, nameIndex := 399, descriptorIndex := 155, attributes := #[] }, { accessFlags := 25, nameIndex := 396, descriptorIndex := 155, attributes := #[] }, { accessFlags := 10, nameIndex := 525, descriptorIndex := 526, attributes := #[] }, { accessFlags := 26, nameIndex := 674, descriptorIndex := 12, attributes := #[] }, { accessFlags := 26, nameIndex := 677, descriptorIndex := 12, attributes := #[] }, { accessFlags := 10, nameIndex := 11, descriptorIndex := 12, attributes := #[] }, { accessFlags := 74, nameIndex := 175, descriptorIndex := 176, attributes := #[] }, { accessFlags := 10, nameIndex := 491, descriptorIndex := 222, attributes := #[] }, { accessFlags := 74, nameIndex := 29, descriptorIndex := 30, attributes := #[] }, { accessFlags := 74, nameIndex := 154, descriptorIndex := 155, attributes := #[] }, { accessFlags := 10, nameIndex := 217, descriptorIndex := 218, attributes := #[] }, { accessFlags := 10, nameIndex := 221, descriptorIndex := 222, attributes := #[] }, { accessFlags := 8, nameIndex := 562, descriptorIndex := 563, attributes := #[] }])
  fields := #[{ name := "in", type := (.object "java/io/InputStream"), accessFlags := 25, slot := 0, constantValue := 0 }, { name := "out", type := (.object "java/io/PrintStream"), accessFlags := 25, slot := 1, constantValue := 0 }, { name := "err", type := (.object "java/io/PrintStream"), accessFlags := 25, slot := 2, constantValue := 0 }, { name := "initialIn", type := (.object "java/io/InputStream"), accessFlags := 10, slot := 3, constantValue := 0 }, { name := "NEVER", type := .int, accessFlags := 26, slot := 4, constantValue := 0 }, { name := "MAYBE", type := .int, accessFlags := 26, slot := 5, constantValue := 0 }, { name := "allowSecurityManager", type := .int, accessFlags := 10, slot := 6, constantValue := 0 }, { name := "security", type := (.object "java/lang/SecurityManager"), accessFlags := 74, slot := 7, constantValue := 0 }, { name := "notSupportedJnuEncoding", type := (.object "java/lang/String"), accessFlags := 10, slot := 8, constantValue := 0 }, { name := "cons", type := (.object "java/io/Console"), accessFlags := 74, slot := 9, constantValue := 0 }, { name := "initialErrStream", type := (.object "java/io/PrintStream"), accessFlags := 74, slot := 10, constantValue := 0 }, { name := "props", type := (.object "java/util/Properties"), accessFlags := 10, slot := 11, constantValue := 0 }, { name := "lineSeparator", type := (.object "java/lang/String"), accessFlags := 10, slot := 12, constantValue := 0 }, { name := "bootLayer", type := (.object "java/lang/ModuleLayer"), accessFlags := 8, slot := 13, constantValue := 0 }]
  methods := #[k5m0, k5m1]
  instanceTypes := #[]
  staticTypes := #[(.object "java/io/InputStream"), (.object "java/io/PrintStream"), (.object "java/io/PrintStream"), (.object "java/io/InputStream"), .int, .int, .int, (.object "java/lang/SecurityManager"), (.object "java/lang/String"), (.object "java/io/Console"), (.object "java/io/PrintStream"), (.object "java/util/Properties"), (.object "java/lang/String"), (.object "java/lang/ModuleLayer")]
  resolved := Array.replicate 834 none
  statics := none }

def pool6 : Array CpInfo := pool [(1, u "java/lang/Cloneable"), (0, .class_ 1), (0, u "java/lang/Object"), (0, .class_ 3)] 3

/-- java/lang/Cloneable -/
def k6 : Class := { plain "java/lang/Cloneable" (some 0) with
  accessFlags := 1537
  interfaces := #[]
  cf := some (fileOf pool6 2 #[] #[] 1537 4 #[] #[])
  fields := #[]
  methods := #[]
  instanceTypes := #[]
  staticTypes := #[]
  resolved := Array.replicate 8 none
  statics := none }

def pool7 : Array CpInfo := pool [(1, u "java/io/Serializable"), (0, .class_ 1), (0, u "java/lang/Object"), (0, .class_ 3)] 3

/-- java/io/Serializable -/
def k7 : Class := { plain "java/io/Serializable" (some 0) with
  accessFlags := 1537
  interfaces := #[]
  cf := some (fileOf pool7 2 #[] #[] 1537 4 #[] #[])
  fields := #[]
  methods := #[]
  instanceTypes := #[]
  staticTypes := #[]
  resolved := Array.replicate 8 none
  statics := none }

/-- the primitive byte -/
def k8 : Class := { plain "byte" none with kind := .primitive 'B', accessFlags := 0x411 }
/-- [B -/
def k9 : Class := { plain "[B" (some 0) with kind := .array 8 .byte, interfaces := #[6, 7], accessFlags := 1041 }

/-- the primitive int -/
def k10 : Class := { plain "int" none with kind := .primitive 'I', accessFlags := 0x411 }
/-- [I -/
def k11 : Class := { plain "[I" (some 0) with kind := .array 10 .int, interfaces := #[6, 7], accessFlags := 1041 }

/-- the primitive long -/
def k12 : Class := { plain "long" none with kind := .primitive 'J', accessFlags := 0x411 }
/-- [J -/
def k13 : Class := { plain "[J" (some 0) with kind := .array 12 .long, interfaces := #[6, 7], accessFlags := 1041 }

def heap : Heap := #[]
def classes : Array Class := #[k0, k1, k2, k3, k4, k5, k6, k7, k8, k9, k10, k11, k12, k13]
def interned : List (Array UInt16 × Addr) := []
def slotsUsed : Nat := 0
def theMethod : MethodId := ⟨1, 1⟩
def args0 : Array Value := #[.long 5, .long 7, .long 3, .int 2, .int 1]
def aboutOver (below : List Frame) : State where
  vm := { classes := classes, interned := interned.toArray }
  heap := heap
  slotsUsed := slotsUsed
  threads := #[{ frames := .invoking theMethod args0 :: below }]
def below0 : List Frame := [.native { method := ⟨0, 0⟩, args := #[] }]
def about1 : State := aboutOver below0
def p0 : Program := .bare "" "" ""
def e0 : Env := launch0.env 0 0 0
theorem w_frames : about1.frames = Frame.invoking theMethod args0 :: below0 := rfl
set_option maxRecDepth 65536 in
theorem w_args : argsFit about1.vm theMethod args0 = true := by decide +kernel
set_option maxRecDepth 65536 in
theorem w_heap : heapFits about1 = true := by decide +kernel
set_option maxRecDepth 65536 in
theorem w_runnable : about1.curStatus? = some .runnable := by decide +kernel
set_option maxRecDepth 65536 in
theorem w_alone : about1.alone = true := by decide +kernel
set_option maxRecDepth 65536 in
theorem w_named : about1.methodNamed? x = some theMethod := by decide +kernel
set_option maxRecDepth 65536 in
theorem w_hears : about1.hears theMethod below0 = true := by decide +kernel
set_option maxRecDepth 65536 in
theorem w_ripe : about1.ripe theMethod args0 below0 = true := by decide +kernel
theorem w_running : about1.status = .running := rfl
set_option maxRecDepth 65536 in
theorem w_room : about1.hasRoom e0.platform room_1 = true :=
  launch0.hasRoom_least _ room_1 (by decide +kernel) (by decide +kernel) (by decide +kernel) (by decide +kernel) (by decide +kernel) (by decide +kernel)
theorem allAtoms_all (ts : List Jvm.Cond) (a : Array Jvm.Value) (st : Jvm.State) : (allAtoms ts).before a st = ts.all (fun c => c.before a st) := by
  induction ts with
  | nil => rfl
  | cons c t ih =>
    show (Jvm.Cond.and c (allAtoms t)).before a st = _
    rw [Jvm.Cond.before_and, ih, List.all_cons]
def words1 : List Jvm.Cond := Jvm.Cond.code x code maxLocals ret :: tables_1
/-- a 'code' word, met by the world's own term for the bytes: nothing is compared byte by byte -/
theorem code_word {y : MethodName} {bytes : ByteArray} {mx : Nat} {rt : Option FieldType} {a : Array Value} {s : State} {m : MethodId} {meth : Method} {c : Code} (h1 : s.methodNamed? y = some m) (h2 : s.vm.method? m = some meth) (h3 : meth.code = some c) (h4 : c.code = bytes)
    (h5 : (c.maxLocals == mx && c.exceptionTable.isEmpty && decide (c.maxStack ≤ mostOperands) && decide (meth.sig.returnType = rt) && !meth.locks && decide (parseMethodDescriptor y.desc = some meth.sig)) = true) : (Jvm.Cond.code y bytes mx rt).before a s = true := by
  simp only [Bool.and_eq_true, beq_iff_eq, Bool.not_eq_true', decide_eq_true_eq] at h5
  obtain ⟨⟨⟨⟨⟨g1, g2⟩, g3⟩, g4⟩, g5⟩, g6⟩ := h5
  simp [Cond.before, Cond.holds, Cond.value, h1, h2, h3, h4, g1, g2, g3, g4, g5, g6]
def isCode : Jvm.Cond → Bool
  | .code _ _ _ _ => true
  | _ => false
theorem all_split {L : List Jvm.Cond} {P : Jvm.Cond → Bool} (h1 : L.all (fun c => isCode c || P c) = true) (h2 : ∀ c ∈ L.filter isCode, P c = true) : L.all P = true := by
  refine List.all_eq_true.mpr fun c hc => ?_
  have h := List.all_eq_true.mp h1 c hc
  rcases Bool.eq_false_or_eq_true (isCode c) with hi | hi
  · exact h2 c (List.mem_filter.mpr ⟨hc, hi⟩)
  · simpa [hi] using h
set_option maxRecDepth 65536 in
theorem w_c0 : (Jvm.Cond.code x code maxLocals ret).before args0 about1 = true := code_word (m := ⟨1, 1⟩) (meth := k1m1) (c := k1c1) (by decide +kernel) rfl rfl rfl (by decide +kernel)
set_option maxRecDepth 65536 in
theorem w_c1 : (Jvm.Cond.code ({ cls := "com/example/retention/retention/group/LazyLongArray", name := "<init>", desc := "(J)V" } : Jvm.MethodName) prog_38_method_1_code (3 : Nat) (Option.none : Option Jvm.ClassFile.FieldType)).before args0 about1 = true := code_word (m := ⟨2, 0⟩) (meth := k2m0) (c := k2c0) (by decide +kernel) rfl rfl rfl (by decide +kernel)
set_option maxRecDepth 65536 in
theorem w_c2 : (Jvm.Cond.code ({ cls := "java/lang/Object", name := "<init>", desc := "()V" } : Jvm.MethodName) object_method_1_code (1 : Nat) (Option.none : Option Jvm.ClassFile.FieldType)).before args0 about1 = true := code_word (m := ⟨0, 0⟩) (meth := k0m0) (c := k0c0) (by decide +kernel) rfl rfl rfl (by decide +kernel)
set_option maxRecDepth 65536 in
theorem w_c3 : (Jvm.Cond.code ({ cls := "com/example/retention/retention/group/LazyLongArray", name := "get", desc := "(I)J" } : Jvm.MethodName) prog_38_method_2_code (2 : Nat) (Option.some Jvm.ClassFile.FieldType.long)).before args0 about1 = true := code_word (m := ⟨2, 1⟩) (meth := k2m1) (c := k2c1) (by decide +kernel) rfl rfl rfl (by decide +kernel)
set_option maxRecDepth 65536 in
theorem w_c4 : (Jvm.Cond.code ({ cls := "com/example/retention/retention/group/LazyLongArray", name := "set", desc := "(IJ)V" } : Jvm.MethodName) prog_38_method_3_code (4 : Nat) (Option.none : Option Jvm.ClassFile.FieldType)).before args0 about1 = true := code_word (m := ⟨2, 2⟩) (meth := k2m2) (c := k2c2) (by decide +kernel) rfl rfl rfl (by decide +kernel)
set_option maxRecDepth 65536 in
theorem w_c5 : (Jvm.Cond.code ({ cls := "com/example/retention/retention/group/LazyLongArray", name := "grow", desc := "(I)V" } : Jvm.MethodName) prog_38_method_8_code (4 : Nat) (Option.none : Option Jvm.ClassFile.FieldType)).before args0 about1 = true := code_word (m := ⟨2, 3⟩) (meth := k2m3) (c := k2c3) (by decide +kernel) rfl rfl rfl (by decide +kernel)
set_option maxRecDepth 65536 in
theorem w_c6 : (Jvm.Cond.code ({ cls := "java/lang/Math", name := "max", desc := "(JJ)J" } : Jvm.MethodName) jdk_29_method_66_code (4 : Nat) (Option.some Jvm.ClassFile.FieldType.long)).before args0 about1 = true := code_word (m := ⟨3, 1⟩) (meth := k3m1) (c := k3c1) (by decide +kernel) rfl rfl rfl (by decide +kernel)
set_option maxRecDepth 65536 in
theorem w_c7 : (Jvm.Cond.code ({ cls := "java/lang/Math", name := "min", desc := "(JJ)J" } : Jvm.MethodName) jdk_29_method_70_code (4 : Nat) (Option.some Jvm.ClassFile.FieldType.long)).before args0 about1 = true := code_word (m := ⟨3, 3⟩) (meth := k3m3) (c := k3c3) (by decide +kernel) rfl rfl rfl (by decide +kernel)
set_option maxRecDepth 65536 in
theorem w_c8 : (Jvm.Cond.code ({ cls := "java/util/Arrays", name := "fill", desc := "([JIIJ)V" } : Jvm.MethodName) jdk_65_method_102_code (6 : Nat) (Option.none : Option Jvm.ClassFile.FieldType)).before args0 about1 = true := code_word (m := ⟨4, 2⟩) (meth := k4m2) (c := k4c2) (by decide +kernel) rfl rfl rfl (by decide +kernel)
set_option maxRecDepth 65536 in
theorem w_c9 : (Jvm.Cond.code ({ cls := "java/util/Arrays", name := "rangeCheck", desc := "(III)V" } : Jvm.MethodName) jdk_65_method_30_code (3 : Nat) (Option.none : Option Jvm.ClassFile.FieldType)).before args0 about1 = true := code_word (m := ⟨4, 1⟩) (meth := k4m1) (c := k4c1) (by decide +kernel) rfl rfl rfl (by decide +kernel)
set_option maxRecDepth 65536 in
theorem w_c10 : (Jvm.Cond.code ({ cls := "java/util/Arrays", name := "copyOf", desc := "([JI)[J" } : Jvm.MethodName) jdk_65_method_124_code (3 : Nat) (Option.some (Jvm.ClassFile.FieldType.array Jvm.ClassFile.FieldType.long))).before args0 about1 = true := code_word (m := ⟨4, 3⟩) (meth := k4m3) (c := k4c3) (by decide +kernel) rfl rfl rfl (by decide +kernel)
set_option maxRecDepth 65536 in
theorem w_c11 : (Jvm.Cond.code ({ cls := "java/lang/Math", name := "min", desc := "(II)I" } : Jvm.MethodName) jdk_29_method_69_code (2 : Nat) (Option.some Jvm.ClassFile.FieldType.int)).before args0 about1 = true := code_word (m := ⟨3, 2⟩) (meth := k3m2) (c := k3c2) (by decide +kernel) rfl rfl rfl (by decide +kernel)
def codes1 : List Jvm.Cond := [Jvm.Cond.code x code maxLocals ret, Jvm.Cond.code ({ cls := "com/example/retention/retention/group/LazyLongArray", name := "<init>", desc := "(J)V" } : Jvm.MethodName) prog_38_method_1_code (3 : Nat) (Option.none : Option Jvm.ClassFile.FieldType), Jvm.Cond.code ({ cls := "java/lang/Object", name := "<init>", desc := "()V" } : Jvm.MethodName) object_method_1_code (1 : Nat) (Option.none : Option Jvm.ClassFile.FieldType), Jvm.Cond.code ({ cls := "com/example/retention/retention/group/LazyLongArray", name := "get", desc := "(I)J" } : Jvm.MethodName) prog_38_method_2_code (2 : Nat) (Option.some Jvm.ClassFile.FieldType.long), Jvm.Cond.code ({ cls := "com/example/retention/retention/group/LazyLongArray", name := "set", desc := "(IJ)V" } : Jvm.MethodName) prog_38_method_3_code (4 : Nat) (Option.none : Option Jvm.ClassFile.FieldType), Jvm.Cond.code ({ cls := "com/example/retention/retention/group/LazyLongArray", name := "grow", desc := "(I)V" } : Jvm.MethodName) prog_38_method_8_code (4 : Nat) (Option.none : Option Jvm.ClassFile.FieldType), Jvm.Cond.code ({ cls := "java/lang/Math", name := "max", desc := "(JJ)J" } : Jvm.MethodName) jdk_29_method_66_code (4 : Nat) (Option.some Jvm.ClassFile.FieldType.long), Jvm.Cond.code ({ cls := "java/lang/Math", name := "min", desc := "(JJ)J" } : Jvm.MethodName) jdk_29_method_70_code (4 : Nat) (Option.some Jvm.ClassFile.FieldType.long), Jvm.Cond.code ({ cls := "java/util/Arrays", name := "fill", desc := "([JIIJ)V" } : Jvm.MethodName) jdk_65_method_102_code (6 : Nat) (Option.none : Option Jvm.ClassFile.FieldType), Jvm.Cond.code ({ cls := "java/util/Arrays", name := "rangeCheck", desc := "(III)V" } : Jvm.MethodName) jdk_65_method_30_code (3 : Nat) (Option.none : Option Jvm.ClassFile.FieldType), Jvm.Cond.code ({ cls := "java/util/Arrays", name := "copyOf", desc := "([JI)[J" } : Jvm.MethodName) jdk_65_method_124_code (3 : Nat) (Option.some (Jvm.ClassFile.FieldType.array Jvm.ClassFile.FieldType.long)), Jvm.Cond.code ({ cls := "java/lang/Math", name := "min", desc := "(II)I" } : Jvm.MethodName) jdk_29_method_69_code (2 : Nat) (Option.some Jvm.ClassFile.FieldType.int)]
set_option maxRecDepth 65536 in
theorem codes_eq : words1.filter isCode = codes1 := rfl
theorem w_codes : ∀ c ∈ words1.filter isCode, c.before args0 about1 = true := by
  rw [codes_eq]
  intro c hc
  simp only [codes1, List.mem_cons, List.not_mem_nil, or_false] at hc
  rcases hc with rfl | rfl | rfl | rfl | rfl | rfl | rfl | rfl | rfl | rfl | rfl | rfl
  · exact w_c0
  · exact w_c1
  · exact w_c2
  · exact w_c3
  · exact w_c4
  · exact w_c5
  · exact w_c6
  · exact w_c7
  · exact w_c8
  · exact w_c9
  · exact w_c10
  · exact w_c11
set_option maxRecDepth 65536 in
theorem w_t1 : (words1.take 24).all (fun c => isCode c || c.before args0 about1) = true := by decide +kernel
set_option maxRecDepth 65536 in
theorem w_t2 : ((words1.drop 24).take 24).all (fun c => isCode c || c.before args0 about1) = true := by decide +kernel
set_option maxRecDepth 65536 in
theorem w_t3 : ((words1.drop 24).drop 24).all (fun c => isCode c || c.before args0 about1) = true := by decide +kernel
theorem w_tables : (allAtoms (Jvm.Cond.code x code maxLocals ret :: tables_1)).before args0 about1 = true := by
  rw [allAtoms_all]
  show words1.all (fun c => c.before args0 about1) = true
  refine all_split ?_ w_codes
  rw [← List.take_append_drop 24 words1, List.all_append, w_t1, ← List.take_append_drop 24 (words1.drop 24), List.all_append, w_t2, w_t3]
  rfl
set_option maxRecDepth 65536 in
theorem w_case : (Jvm.Cond.and given_1 narrow_1).before args0 about1 = true := by decide +kernel
theorem w_applies : (headSpec (Jvm.Cond.code x code maxLocals ret :: tables_1) room_1).applies x e0.platform about1 = true :=
  (Spec.applies_iff w_frames).mpr ⟨w_running, w_runnable, w_alone, w_named, w_hears, w_ripe, w_room, w_tables⟩
theorem atStart : AtStart classFile x code maxLocals ret World_1 tables_1 room_1 Calls_1 rest_1 Pre_1 launch0 p0 e0 about1 theMethod args0 below0 :=
  ⟨lists_1, trivial, launch0.admits_env _ _ _, launch0.least_env, fairChoices_fair.cas, fairChoices_fair.clock, w_frames, w_args, w_heap, w_applies, trivial, trivial, w_case⟩
end start1
theorem witness_1 : WitnessClaimed_1 := ⟨start1.p0, start1.e0, start1.about1, start1.theMethod, start1.args0, start1.below0, start1.atStart⟩
end Jvm.Pilot.@@N@@
