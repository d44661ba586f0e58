import JvmDerived
import JvmDerived.Pilot.@@N@@Statement
import JvmDerived.Pilot.@@N@@Code
set_option linter.unusedVariables false
set_option linter.unusedSimpArgs false
namespace Jvm.Own
open Jvm Jvm.ClassFile Sem Op Lib Jvm.Free Jvm.Stand Jvm.LawKit Jvm.RoadKit Bundle

/-! a calculus of walks, over the library's step laws -/
def Wk (Z : State) (own nm : String) (bytes : ByteArray) (ml : Nat) (ret : Option FieldType) (R : Room) (n0 : Nat) (p : Program) (l : Launch) (e : Env) (s : State) (m : MethodId) (args : Array Value) (below : List Frame) (meth : Method) (c : Code) (T : State) (cells slots : Nat) (h : Heap) : Prop :=
  ∃ locs, Stand p l e R s m args below meth c T locs cells slots ∧ Fr n0 locs ∧ T.heap = h ∧ n0 ≤ s.heap.size ∧ p.tables.exec = Jvm.exec ∧ Z.Warmed39 s.vm ∧ c.code = bytes ∧ c.maxLocals = ml ∧ s.vm.findClass own = some m.cls ∧ meth.name = nm ∧ meth.sig.returnType = ret ∧ meth.locks = false
def Goes (p : Program) (e : Env) (below : List Frame) (s : State) (R : Room) (n0 : Nat) (Q : Option Value → Heap → Prop) (t : State) : Prop :=
  ∃ s₂ o, Steps p.tables e below t s₂ ∧ s₂.status = .running ∧ Ended s₂ below o ∧ ∃ v L, o = .returned v ∧ (Fr n0 L ∧ Q v s₂.heap) ∧ FrameEnd s o s₂ L R.cells R.slots
def Met (l : Launch) (Z : State) (y : MethodName) (bytes : ByteArray) (ml : Nat) (ret : Option FieldType) (R : Room) (ws : List Jvm.Cond) (n0 : Nat) (as : Array Value) (h0 : Heap) (Q : Option Value → Heap → Prop) : Prop :=
  MetFree l y (head1 (Jvm.Cond.code y bytes ml ret :: ws) R) (fun a U => a = as ∧ Z.Warmed39 U.vm ∧ U.heap = h0) (fun _ _ _ _ _ => True) (fun _ U o U' => ∃ v L, o = .returned v ∧ (Fr n0 L ∧ Q v U'.heap) ∧ FrameEnd U o U' L R.cells R.slots)
def bI (c : Prop) [Decidable c] : Int32 := if c then 1 else 0
theorem bI_t {c : Prop} [Decidable c] (h : c) : (1 : Int32) = bI c := (if_pos h).symm
theorem bI_f {c : Prop} [Decidable c] (h : ¬ c) : (0 : Int32) = bI c := (if_neg h).symm
theorem bI_01 (c : Prop) [Decidable c] : bI c = 0 ∨ bI c = 1 := by unfold bI; split <;> simp
theorem bI_eq0 (c : Prop) [Decidable c] : bI c = 0 ↔ ¬ c := by unfold bI; split <;> simp_all
theorem bI_eq1 (c : Prop) [Decidable c] : bI c = 1 ↔ c := by unfold bI; split <;> simp_all
theorem bI_inj (c d : Prop) [Decidable c] [Decidable d] : bI c = bI d ↔ (c ↔ d) := by unfold bI; split <;> split <;> simp_all
theorem bI_cong {c d : Prop} [Decidable c] [Decidable d] (h : c ↔ d) : bI c = bI d := (bI_inj c d).mpr h
def pcI (cd : ClassFile.Cond) (x y : Int32) : Prop := match cd with
  | .lt | .ge => x < y
  | .gt | .le => y < x
  | .eq | .ne => x = y
def pcJ (cd : ClassFile.Cond) (x y : Int64) : Prop := match cd with
  | .lt | .ge => x < y
  | .gt | .le => y < x
  | .eq | .ne => x = y

theorem own_selP {Z : State} {a0 : Array Value} {y : MethodName} {n : Nat} (wi : (Jvm.Cond.instantiable y.cls n).before a0 Z = true) (w6 : (Jvm.Cond.instanceMethod y).before a0 Z = true) (w7 : (Jvm.Cond.privateMethod y).before a0 Z = true) (hy : y.cls ≠ "java/lang/invoke/MethodHandle" ∧ y.cls ≠ "java/lang/invoke/VarHandle") : (Jvm.Cond.selects y.cls y y).before a0 Z = true := by
  obtain ⟨c, k, hc, hk, -, hf, -⟩ := Cond.instantiable_spec (show (Jvm.Cond.instantiable y.cls n).holds a0 Z none Z [] = true from wi)
  exact selects_self_of_private hc hk ((Bool.or_eq_false_iff.mp hf).1) (Cond.privateMethod_at w7) w6 hy
theorem own_bI01 (c : Prop) [Decidable c] : (c ∧ (bI c).toInt = 1) ∨ (¬ c ∧ (bI c).toInt = 0) := by unfold bI; split <;> simp_all
theorem own_mask' (m x : Int32) (k : Nat) (hk : k ≤ 31) (hm : m.toBitVec.toNat = 2 ^ k - 1) : (m &&& x).toInt = x.toInt % (2 ^ k : Nat) := by rw [Int32.and_comm]; exact c_mask x m k hk hm
theorem own_maskL' (m x : Int64) (k : Nat) (hk : k ≤ 63) (hm : m.toBitVec.toNat = 2 ^ k - 1) : (m &&& x).toInt = x.toInt % (2 ^ k : Nat) := by rw [Int64.and_comm]; exact c_maskL x m k hk hm
theorem own_mB (x m : Int32) (k : Nat) (hk : k ≤ 31) (hm : m.toBitVec.toNat = 2 ^ k - 1) (M : Nat) (hM : M + 1 = 2 ^ k) : 0 ≤ (x &&& m).toInt ∧ (x &&& m).toInt ≤ M := by
  rw [c_mask x m k hk hm, ← hM]; have a := Int.emod_nonneg x.toInt (b := ((M + 1 : Nat) : Int)) (by omega); have b := Int.emod_lt_of_pos x.toInt (b := ((M + 1 : Nat) : Int)) (by omega); omega
theorem own_mBL (x m : Int64) (k : Nat) (hk : k ≤ 63) (hm : m.toBitVec.toNat = 2 ^ k - 1) (M : Nat) (hM : M + 1 = 2 ^ k) : 0 ≤ (x &&& m).toInt ∧ (x &&& m).toInt ≤ M := by
  rw [c_maskL x m k hk hm, ← hM]; have a := Int.emod_nonneg x.toInt (b := ((M + 1 : Nat) : Int)) (by omega); have b := Int.emod_lt_of_pos x.toInt (b := ((M + 1 : Nat) : Int)) (by omega); omega
theorem own_mB' (m x : Int32) (k : Nat) (hk : k ≤ 31) (hm : m.toBitVec.toNat = 2 ^ k - 1) (M : Nat) (hM : M + 1 = 2 ^ k) : 0 ≤ (m &&& x).toInt ∧ (m &&& x).toInt ≤ M := by rw [Int32.and_comm]; exact own_mB x m k hk hm M hM
theorem own_mBL' (m x : Int64) (k : Nat) (hk : k ≤ 63) (hm : m.toBitVec.toNat = 2 ^ k - 1) (M : Nat) (hM : M + 1 = 2 ^ k) : 0 ≤ (m &&& x).toInt ∧ (m &&& x).toInt ≤ M := by rw [Int64.and_comm]; exact own_mBL x m k hk hm M hM
theorem own_iaddE (x y : Int32) (h : -2147483648 ≤ x.toInt + y.toInt ∧ x.toInt + y.toInt < 2147483648) : (x + y).toInt = x.toInt + y.toInt := by
  have a := c_iadd x y; have b := rng32 (x + y); omega
theorem own_isubE (x y : Int32) (h : -2147483648 ≤ x.toInt - y.toInt ∧ x.toInt - y.toInt < 2147483648) : (x - y).toInt = x.toInt - y.toInt := by
  have a := c_isub x y; have b := rng32 (x - y); omega
theorem own_imulE (x y : Int32) (h : -2147483648 ≤ x.toInt * y.toInt ∧ x.toInt * y.toInt < 2147483648) : (x * y).toInt = x.toInt * y.toInt := by
  have a := c_imul x y; have b := rng32 (x * y); omega
theorem own_inegE (x : Int32) (h : -2147483648 ≤ -x.toInt ∧ -x.toInt < 2147483648) : (-x).toInt = -x.toInt := by
  have a := c_ineg x; have b := rng32 (-x); omega
theorem own_laddE (x y : Int64) (h : -9223372036854775808 ≤ x.toInt + y.toInt ∧ x.toInt + y.toInt < 9223372036854775808) : (x + y).toInt = x.toInt + y.toInt := by
  have a := c_ladd x y; have b := rng64 (x + y); omega
theorem own_lsubE (x y : Int64) (h : -9223372036854775808 ≤ x.toInt - y.toInt ∧ x.toInt - y.toInt < 9223372036854775808) : (x - y).toInt = x.toInt - y.toInt := by
  have a := c_lsub x y; have b := rng64 (x - y); omega
theorem own_lmulE (x y : Int64) (h : -9223372036854775808 ≤ x.toInt * y.toInt ∧ x.toInt * y.toInt < 9223372036854775808) : (x * y).toInt = x.toInt * y.toInt := by
  have a := c_lmul x y; have b := rng64 (x * y); omega
theorem own_lnegE (x : Int64) (h : -9223372036854775808 ≤ -x.toInt ∧ -x.toInt < 9223372036854775808) : (-x).toInt = -x.toInt := by
  have a := c_lneg x; have b := rng64 (-x); omega
theorem own_l2iE (x : Int64) (h : -2147483648 ≤ x.toInt ∧ x.toInt < 2147483648) : x.toInt32.toInt = x.toInt := by
  have a := c_l2i x; have b := rng32 x.toInt32; omega
theorem own_ushB (x q : Int32) (k : Nat) (hk : q.toBitVec.toNat % 32 = k) (h0 : 0 < k) (M : Nat) (hM : M * 2 ^ k = 4294967296) : 0 ≤ ((x.toUInt32 >>> (q &&& 31).toUInt32).toInt32).toInt ∧ ((x.toUInt32 >>> (q &&& 31).toUInt32).toInt32).toInt < M := by
  rw [c_iushr x q k hk h0]
  have h2 : (0 : Int) < ((2 ^ k : Nat) : Int) := Int.natCast_pos.mpr (Nat.pow_pos (by decide))
  refine ⟨Int.ediv_nonneg (by omega) (Int.le_of_lt h2), Int.ediv_lt_of_lt_mul h2 ?_⟩
  have q : ((M : Int)) * ((2 ^ k : Nat) : Int) = 4294967296 := by rw [← Int.natCast_mul, hM]; rfl
  omega
theorem own_irem (x y : Int32) (d : Int) (hy : y.toInt = d) : (0 ≤ x.toInt → (x % y).toInt = x.toInt % d) ∧ (x.toInt < 0 → (x % y).toInt = -((-x.toInt) % d)) := c_irem x y d hy
theorem own_lrem (x y : Int64) (d : Int) (hy : y.toInt = d) : (0 ≤ x.toInt → (x % y).toInt = x.toInt % d) ∧ (x.toInt < 0 → (x % y).toInt = -((-x.toInt) % d)) := by rw [← lrem_mod]; exact c_lrem x y d hy
theorem own_iremV (x y : Int32) : (0 ≤ x.toInt → 0 < y.toInt → 0 ≤ (x % y).toInt ∧ (x % y).toInt < y.toInt ∧ (x % y).toInt ≤ x.toInt) := fun h1 h2 => ⟨((c_iremV x y).1 h1 h2).1, ((c_iremV x y).1 h1 h2).2.1, ((c_iremV x y).1 h1 h2).2.2.1⟩
theorem own_emod_le {a b : Int} (h1 : 0 ≤ a) (h2 : 0 < b) : a % b ≤ a := by
  have q := Int.emod_add_mul_ediv a b; have z : 0 ≤ b * (a / b) := Int.mul_nonneg (Int.le_of_lt h2) (Int.ediv_nonneg h1 (Int.le_of_lt h2)); omega
theorem own_lremV (x y : Int64) : (0 ≤ x.toInt → 0 < y.toInt → 0 ≤ (x % y).toInt ∧ (x % y).toInt < y.toInt ∧ (x % y).toInt ≤ x.toInt) := fun h1 h2 => by
  rw [Int64.toInt_mod, Int.tmod_eq_emod_of_nonneg h1]
  exact ⟨Int.emod_nonneg _ (by omega), Int.emod_lt_of_pos _ h2, own_emod_le h1 h2⟩
theorem own_iremP (x y : Int32) (d : Int) (hy : y.toInt = d) (h0 : 0 ≤ x.toInt) : (x % y).toInt = x.toInt % d := (own_irem x y d hy).1 h0
theorem own_iremB (x y : Int32) (d : Int) (hy : y.toInt = d) (hd : 0 < d) (h0 : 0 ≤ x.toInt) : 0 ≤ (x % y).toInt ∧ (x % y).toInt < d ∧ (x % y).toInt ≤ x.toInt := by
  rw [own_iremP x y d hy h0]; exact ⟨Int.emod_nonneg _ (by omega), Int.emod_lt_of_pos _ hd, own_emod_le h0 hd⟩
theorem own_iremM (x y : Int32) (d : Int) (hy : y.toInt = d) (hd : 0 < d) : -d < (x % y).toInt ∧ (x % y).toInt < d := by
  rcases Int.lt_or_le x.toInt 0 with h | h
  · rw [(own_irem x y d hy).2 h]; have a := Int.emod_nonneg (-x.toInt) (b := d) (by omega); have b := Int.emod_lt_of_pos (-x.toInt) hd; omega
  · have q := own_iremB x y d hy hd h; omega
theorem own_lremP (x y : Int64) (d : Int) (hy : y.toInt = d) (h0 : 0 ≤ x.toInt) : (x % y).toInt = x.toInt % d := (own_lrem x y d hy).1 h0
theorem own_lremB (x y : Int64) (d : Int) (hy : y.toInt = d) (hd : 0 < d) (h0 : 0 ≤ x.toInt) : 0 ≤ (x % y).toInt ∧ (x % y).toInt < d ∧ (x % y).toInt ≤ x.toInt := by
  rw [own_lremP x y d hy h0]; exact ⟨Int.emod_nonneg _ (by omega), Int.emod_lt_of_pos _ hd, own_emod_le h0 hd⟩
theorem own_lremM (x y : Int64) (d : Int) (hy : y.toInt = d) (hd : 0 < d) : -d < (x % y).toInt ∧ (x % y).toInt < d := by
  rcases Int.lt_or_le x.toInt 0 with h | h
  · rw [(own_lrem x y d hy).2 h]; have a := Int.emod_nonneg (-x.toInt) (b := d) (by omega); have b := Int.emod_lt_of_pos (-x.toInt) hd; omega
  · have q := own_lremB x y d hy hd h; omega
theorem own_bor (A B : Prop) [Decidable A] [Decidable B] : bI A ||| bI B = bI (A ∨ B) := by unfold bI; by_cases a : A <;> by_cases b : B <;> simp [a, b] <;> decide
theorem own_band (A B : Prop) [Decidable A] [Decidable B] : bI A &&& bI B = bI (A ∧ B) := by unfold bI; by_cases a : A <;> by_cases b : B <;> simp [a, b] <;> decide
def Apart (a b : Addr) : Prop := a ≠ b
theorem own_apS {a b : Addr} (h : Apart a b) : Apart b a := Ne.symm h
theorem own_new {h : Heap} {a b : Addr} (hb : b = h.size) (ha : a < h.size) : Apart a b := by subst hb; exact Nat.ne_of_lt ha
theorem own_sz {h0 h : Heap} {b : Addr} {ws : List Addr} (hb : b = h.size) (K : Keep h0 h ws) : h0.size ≤ b := by subst hb; exact K.1
theorem own_far {h : Heap} {a b : Addr} (ha : a < h.size) (hb : h.size ≤ b) : Apart a b := Nat.ne_of_lt (Nat.lt_of_lt_of_le ha hb)
theorem own_narZ {z : Int32} (hz : z = 0 ∨ z = 1) : narrow .boolean (.int z) = .int z := by rcases hz with rfl | rfl <;> rfl
theorem own_fitZ {z : Int32} (hz : z = 0 ∨ z = 1) : fits .boolean (.int z) = true := by rcases hz with rfl | rfl <;> rfl
theorem own_narZ' {z : Int32} (hz : z = 0 ∨ z = 1) : nar .boolean z = z := by rcases hz with rfl | rfl <;> rfl
theorem own_fin {c : Prop} [Decidable c] (h : c) : (some (Value.int (bI c))) = some (Value.int 1) := by rw [← bI_t h]
def own_up {α : Type} (f : Nat → α) (i : Nat) (x : α) : Nat → α := fun k => if k = i then x else f k
def AI (Z : State) (h : Heap) (a : Addr) (ty : FieldType) (n : Nat) (f : Nat → Int32) : Prop := n < 2 ^ 31 ∧ ∃ c : Cell, Arr Z h a c ty ∧ c.slots.size = n ∧ ∀ j, j < n → c.slots[j]? = some (.int (f j))
def AJ (Z : State) (h : Heap) (a : Addr) (n : Nat) (f : Nat → Int64) : Prop := n < 2 ^ 31 ∧ ∃ c : Cell, Arr Z h a c .long ∧ c.slots.size = n ∧ ∀ j, j < n → c.slots[j]? = some (.long (f j))
theorem AI.lt {Z : State} {h : Heap} {a : Addr} {ty : FieldType} {n : Nat} {f : Nat → Int32} (A : AI Z h a ty n f) : a < h.size := by obtain ⟨_, c, A, _⟩ := A; exact A.lt
theorem AI.ext {Z : State} {h h' : Heap} {a : Addr} {ty : FieldType} {n : Nat} {f : Nat → Int32} (A : AI Z h a ty n f) (E : Ext h h') : AI Z h' a ty n f := by obtain ⟨q, c, A, r⟩ := A; exact ⟨q, c, A.ext E, r⟩
theorem AI.keep {Z : State} {h h' : Heap} {a : Addr} {ws : List Addr} {ty : FieldType} {n : Nat} {f : Nat → Int32} (A : AI Z h a ty n f) (K : Keep h h' ws) (q : a ∉ ws) : AI Z h' a ty n f := by obtain ⟨z, c, A, r⟩ := A; exact ⟨z, c, ⟨K.2.1 a c A.1 q, A.2⟩, r⟩
theorem AI.other {Z : State} {h h' : Heap} {a b : Addr} {sl : Nat} {w : Value} {ty : FieldType} {n : Nat} {f : Nat → Int32} (A : AI Z h a ty n f) (W : Wr h h' b sl w) (q : a ≠ b) : AI Z h' a ty n f := by obtain ⟨z, c, A, r⟩ := A; exact ⟨z, c, A.other W q, r⟩
theorem AI.set {Z : State} {h h' : Heap} {a : Addr} {i : Nat} {x : Int32} {ty : FieldType} {n : Nat} {f : Nat → Int32} (A : AI Z h a ty n f) (W : Wr h h' a i (.int x)) : AI Z h' a ty n (own_up f i x) := by
  obtain ⟨z, c, A, r1, r2⟩ := A
  refine ⟨z, _, A.same W, by rw [sz_set]; exact r1, fun j hj => ?_⟩
  by_cases q : j = i
  · subst q; simp [Cell.setSlot, own_up, r1, hj]
  · simp only [Cell.setSlot, own_up, if_neg q]; rw [Array.getElem?_setIfInBounds_ne (Ne.symm q)]; exact r2 j hj
theorem AI.to {Z : State} {h : Heap} {a : Addr} {ty : FieldType} {n : Nat} {f g : Nat → Int32} (A : AI Z h a ty n f) (q : ∀ j, j < n → f j = g j) : AI Z h a ty n g := by obtain ⟨z, c, A, r1, r2⟩ := A; exact ⟨z, c, A, r1, fun j hj => by rw [← q j hj]; exact r2 j hj⟩
theorem AJ.lt {Z : State} {h : Heap} {a : Addr} {n : Nat} {f : Nat → Int64} (A : AJ Z h a n f) : a < h.size := by obtain ⟨_, c, A, _⟩ := A; exact A.lt
theorem AJ.ext {Z : State} {h h' : Heap} {a : Addr} {n : Nat} {f : Nat → Int64} (A : AJ Z h a n f) (E : Ext h h') : AJ Z h' a n f := by obtain ⟨q, c, A, r⟩ := A; exact ⟨q, c, A.ext E, r⟩
theorem AJ.keep {Z : State} {h h' : Heap} {a : Addr} {ws : List Addr} {n : Nat} {f : Nat → Int64} (A : AJ Z h a n f) (K : Keep h h' ws) (q : a ∉ ws) : AJ Z h' a n f := by obtain ⟨z, c, A, r⟩ := A; exact ⟨z, c, ⟨K.2.1 a c A.1 q, A.2⟩, r⟩
theorem AJ.other {Z : State} {h h' : Heap} {a b : Addr} {sl : Nat} {w : Value} {n : Nat} {f : Nat → Int64} (A : AJ Z h a n f) (W : Wr h h' b sl w) (q : a ≠ b) : AJ Z h' a n f := by obtain ⟨z, c, A, r⟩ := A; exact ⟨z, c, A.other W q, r⟩
theorem AJ.set {Z : State} {h h' : Heap} {a : Addr} {i : Nat} {x : Int64} {n : Nat} {f : Nat → Int64} (A : AJ Z h a n f) (W : Wr h h' a i (.long x)) : AJ Z h' a n (own_up f i x) := by
  obtain ⟨z, c, A, r1, r2⟩ := A
  refine ⟨z, _, A.same W, by rw [sz_set]; exact r1, fun j hj => ?_⟩
  by_cases q : j = i
  · subst q; simp [Cell.setSlot, own_up, r1, hj]
  · simp only [Cell.setSlot, own_up, if_neg q]; rw [Array.getElem?_setIfInBounds_ne (Ne.symm q)]; exact r2 j hj
theorem AJ.to {Z : State} {h : Heap} {a : Addr} {n : Nat} {f g : Nat → Int64} (A : AJ Z h a n f) (q : ∀ j, j < n → f j = g j) : AJ Z h a n g := by obtain ⟨z, c, A, r1, r2⟩ := A; exact ⟨z, c, A, r1, fun j hj => by rw [← q j hj]; exact r2 j hj⟩
theorem own_clN {n : Nat} (z : n < 2 ^ 31) : (Int32.ofNat n).toNatClampNeg = n ∧ ¬ Int32.ofNat n < 0 := by
  have q : (Int32.ofNat n).toInt = n := Int32.toInt_ofNat_small z
  constructor
  · simp only [Int32.toNatClampNeg, q]; omega
  · rw [Int32.lt_iff_toInt_lt, q]; simp only [Int32.reduceToInt]; omega
theorem own_rg (n : Nat) (f : Nat → Value) (d : Value) (i : Nat) (hi : i < n) : ((List.range n).map f).getD i d = f i := by simp [List.getD_eq_getElem?_getD, hi]
theorem own_arv {Z : State} {h : Heap} {a : Addr} {n : Nat} {f : Nat → Int64} (A : AJ Z h a n f) : ∃ k, Arv Z h a k .long (Int32.ofNat n) ((List.range n).map fun j => Value.long (f j)) (.long 0) := by
  obtain ⟨z, c, A, s1, e1⟩ := A
  have q := own_clN z
  refine ⟨c.cls, c, A, rfl, by rw [q.1]; exact s1, q.2, fun i hi => ?_, fun i hi => ?_⟩
  · rw [own_rg n _ _ i (by omega)]; exact e1 i (by omega)
  · rw [own_rg n _ _ i (by omega)]; rfl
theorem own_arvB {Z : State} {h : Heap} {b : Addr} {k : ClassId} {n : Nat} {vs : List Value} {f : Nat → Int64} (z : n < 2 ^ 31) (B : Arv Z h b k .long (Int32.ofNat n) vs (.long 0)) (q : ∀ j, j < n → vs.getD j (.long 0) = .long (f j)) : AJ Z h b n f := by
  obtain ⟨c, B1, -, s, -, H, -⟩ := B
  rw [(own_clN z).1] at s
  exact ⟨z, c, B1, s, fun j hj => by rw [H j (by omega), q j hj]⟩
theorem own_cpl (n n' k : Nat) (f f' : Nat → Int64) (h1 : k ≤ n) (h2 : k ≤ n') (j : Nat) (hj : j < n') : (((List.range n').map fun j => Value.long (f' j)).take 0 ++ ((List.range k).map fun i => ((List.range n).map fun j => Value.long (f j)).getD (0 + i) (.long 0)) ++ ((List.range n').map fun j => Value.long (f' j)).drop (0 + k)).getD j (.long 0) = .long (if j < k then f j else f' j) := by
  rw [List.take_zero, List.nil_append, List.getD_eq_getElem?_getD]
  by_cases q : j < k
  · rw [List.getElem?_append_left (by simpa using q), if_pos q, List.getElem?_map, List.getElem?_range q, Option.map_some, Option.getD_some, Nat.zero_add, own_rg n _ _ j (by omega)]
  · rw [List.getElem?_append_right (by simpa using q), if_neg q, List.getElem?_drop, List.length_map, List.length_range, Nat.zero_add, List.getElem?_map, show k + (j - k) = j by omega, List.getElem?_range hj, Option.map_some, Option.getD_some]
theorem own_ix {j : Int32} {n k : Nat} (hk : k = n) (q : 0 ≤ j.toInt ∧ j.toInt < n) : ¬ (j < 0 ∨ k ≤ j.toNatClampNeg) := by
  simp only [Int32.lt_iff_toInt_lt, Int32.toNatClampNeg, Int32.reduceToInt]; omega
theorem own_ixn {j : Int32} {n : Nat} (q : 0 ≤ j.toInt ∧ j.toInt < n) : j.toNatClampNeg < n := by simp only [Int32.toNatClampNeg]; omega
section Walk
variable {Z : State} {a0 : Array Value} {own nm : String} {bytes : ByteArray} {ml : Nat} {ret : Option FieldType} {R : Room} {n0 : Nat} {p : Program} {l : Launch} {e : Env} {s : State} {m : MethodId} {args : Array Value} {below : List Frame} {meth : Method} {c : Code} {T : State} {cells slots : Nat} {h : Heap} {Q : Option Value → Heap → Prop}
theorem Met.intro {y : MethodName} {as : Array Value} {h0 : Heap} {ws : List Jvm.Cond} (hp : plainFor y = true) (hn : n0 ≤ h0.size)
    (body : ∀ p e s m below meth c T, Wk Z y.cls y.name bytes ml ret R n0 p l e s m as below meth c T 0 0 h0 → Goes p e below s R n0 Q (T.setTop (entryFrame m as ml))) : Met l Z y bytes ml ret R ws n0 as h0 Q := by
  refine MetFree.of_bodySF hp hisR ?_
  intro p e s m args below meth c s₁ Bd hml0 hP hK
  obtain ⟨rfl, hZ, hh⟩ := hP
  have e0 : s₁.heap = h0 := by rw [← hh, Bd.state]; rfl
  exact body p e s m below meth c s₁ ⟨[], Stand.of_body Bd, Fr.nil n0, e0, by rw [hh]; exact hn, Bd.exec, hZ, Bd.bytes, hml0, findClass_of_methodNamed Bd.named, (name_of_methodNamed Bd.named Bd.method).1, Bd.returns, Bd.notSynchronized⟩
theorem g_of {A B : State} (hs : ∀ t, Steps p.tables e below A t → Steps p.tables e below B t) (k : Goes p e below s R n0 Q A) : Goes p e below s R n0 Q B := by
  obtain ⟨s2, o, h1, h2⟩ := k
  exact ⟨s2, o, hs _ h1, h2⟩
theorem g_cast {g g' : JFrame} (q : g = g') (k : Goes p e below s R n0 Q (T.setTop g')) : Goes p e below s R n0 Q (T.setTop g) := q ▸ k
theorem g_eqI {pc : Nat} {Ls : Array Slot} {x y : Int32} {rest : List Value} (q : x = y) (k : Goes p e below s R n0 Q (T.setTop (mkF m pc Ls (.int y :: rest)))) : Goes p e below s R n0 Q (T.setTop (mkF m pc Ls (.int x :: rest))) := q ▸ k
theorem g_eqJ {pc : Nat} {Ls : Array Slot} {x y : Int64} {rest : List Value} (q : x = y) (k : Goes p e below s R n0 Q (T.setTop (mkF m pc Ls (.long y :: rest)))) : Goes p e below s R n0 Q (T.setTop (mkF m pc Ls (.long x :: rest))) := q ▸ k
theorem g_letJ {pc : Nat} {Ls : Array Slot} {x : Int64} {rest : List Value} (k : ∀ y, y = x → Goes p e below s R n0 Q (T.setTop (mkF m pc Ls (.long y :: rest)))) : Goes p e below s R n0 Q (T.setTop (mkF m pc Ls (.long x :: rest))) := k x rfl
theorem g_letI {pc : Nat} {Ls : Array Slot} {x : Int32} {rest : List Value} (k : ∀ y, y = x → Goes p e below s R n0 Q (T.setTop (mkF m pc Ls (.int y :: rest)))) : Goes p e below s R n0 Q (T.setTop (mkF m pc Ls (.int x :: rest))) := k x rfl
theorem Wk.size (X : Wk Z own nm bytes ml ret R n0 p l e s m args below meth c T cells slots h) : n0 ≤ h.size := by
  obtain ⟨locs, X, N, eh, hn, hx, hZ, hby, hml, hown, hnm, hret, hlk⟩ := X
  have q : s.heap.size ≤ T.heap.size := X.same.2.1
  rw [eh] at q
  exact Nat.le_trans hn q
theorem Wk.mono (X : Wk Z own nm bytes ml ret R n0 p l e s m args below meth c T cells slots h) {cells' slots' : Nat} (hc : cells ≤ cells') (hs : slots ≤ slots') : Wk Z own nm bytes ml ret R n0 p l e s m args below meth c T cells' slots' h := by
  obtain ⟨locs, X, N, eh, hn, hx, hZ, hby, hml, hown, hnm, hret, hlk⟩ := X
  exact ⟨locs, X.mono hc hs, N, eh, hn, hx, hZ, hby, hml, hown, hnm, hret, hlk⟩
theorem g_out (X : Wk Z own nm bytes ml ret R n0 p l e s m args below meth c T cells slots h) {g : JFrame} {v : Option Value} (hv : ret = none → v = none) (hc : cells ≤ R.cells) (hs : slots ≤ R.slots)
    (st : ∀ locs, Stand p l e R s m args below meth c T locs cells slots → p.tables.exec = Jvm.exec → meth.sig.returnType = ret → c.code = bytes → ∀ fs, (∀ (f : JFrame) (acts : List Action), f.method = m → f.locked = none → f.entered = [] → (doReturn e (T.setTop f) acts v).1 = T.setFrames fs) → Steps p.tables e below (T.setTop g) (T.setFrames fs))
    (hQ : Q v h) : Goes p e below s R n0 Q (T.setTop g) := by
  obtain ⟨locs, X, N, eh, hn, hx, hZ, hby, hml, hown, hnm, hret, hlk⟩ := X
  obtain ⟨fs, hr, hrun, hended, hW, hsame⟩ := X.leave (v := v) (fun q => hv (hret ▸ q)) hlk
  exact ⟨_, _, st _ X hx hret hby fs hr, hrun, hended, _, _, rfl, ⟨N, by rw [show (T.setFrames fs).heap = T.heap from rfl, eh]; exact hQ⟩, ⟨_, rfl⟩, hW, hsame.mono hc hs⟩
theorem g_retI (X : Wk Z own nm bytes ml (some .int) R n0 p l e s m args below meth c T cells slots h) {pc : Nat} {Ls : Array Slot} {z : Int32} {rest : List Value} (hd : decode bytes pc = .ok (.ireturn, 1)) (hc : cells ≤ R.cells) (hs : slots ≤ R.slots) (hQ : Q (some (.int z)) h) : Goes p e below s R n0 Q (T.setTop (mkF m pc Ls (.int z :: rest))) :=
  g_out X nofun hc hs (fun _ Y hx hr hb fs hl => retOut Y hx hr rfl (Or.inl ⟨rfl, Or.inl rfl, _, rfl⟩) (hb ▸ hd) hl) hQ
theorem g_retZ (X : Wk Z own nm bytes ml (some .boolean) R n0 p l e s m args below meth c T cells slots h) {pc : Nat} {Ls : Array Slot} {z : Int32} {rest : List Value} (hd : decode bytes pc = .ok (.ireturn, 1)) (hc : cells ≤ R.cells) (hs : slots ≤ R.slots) (hz : z = 0 ∨ z = 1) (hQ : Q (some (.int z)) h) : Goes p e below s R n0 Q (T.setTop (mkF m pc Ls (.int z :: rest))) :=
  g_out X nofun hc hs (fun _ Y hx hr hb fs hl => retOut Y hx hr (by rcases hz with rfl | rfl <;> rfl) (Or.inl ⟨rfl, Or.inr (Or.inl rfl), _, rfl⟩) (hb ▸ hd) hl) hQ
theorem g_retJ (X : Wk Z own nm bytes ml (some .long) R n0 p l e s m args below meth c T cells slots h) {pc : Nat} {Ls : Array Slot} {z : Int64} {rest : List Value} (hd : decode bytes pc = .ok (.lreturn, 1)) (hc : cells ≤ R.cells) (hs : slots ≤ R.slots) (hQ : Q (some (.long z)) h) : Goes p e below s R n0 Q (T.setTop (mkF m pc Ls (.long z :: rest))) :=
  g_out X nofun hc hs (fun _ Y hx hr hb fs hl => retOut Y hx hr rfl (Or.inr (Or.inl ⟨rfl, rfl, _, rfl⟩)) (hb ▸ hd) hl) hQ
theorem g_retA {t : FieldType} (X : Wk Z own nm bytes ml (some t) R n0 p l e s m args below meth c T cells slots h) (ht : t.isReference = true) {pc : Nat} {Ls : Array Slot} {w : Value} (hw : w.isRef = true) {rest : List Value} (hd : decode bytes pc = .ok (.areturn, 1)) (hc : cells ≤ R.cells) (hs : slots ≤ R.slots) (hQ : Q (some w) h) : Goes p e below s R n0 Q (T.setTop (mkF m pc Ls (w :: rest))) :=
  g_out X nofun hc hs (fun _ Y hx hr hb fs hl => retOut Y hx hr (by cases t <;> simp_all [narrow, FieldType.isReference]) (Or.inr (Or.inr (Or.inr (Or.inr ⟨rfl, ht, hw⟩)))) (hb ▸ hd) hl) hQ
theorem g_ret0 (X : Wk Z own nm bytes ml none R n0 p l e s m args below meth c T cells slots h) {pc : Nat} {Ls : Array Slot} (hd : decode bytes pc = .ok (.return_, 1)) (hc : cells ≤ R.cells) (hs : slots ≤ R.slots) (hQ : Q none h) : Goes p e below s R n0 Q (T.setTop (mkF m pc Ls [])) :=
  g_out X (fun _ => rfl) hc hs (fun _ Y hx hr hb fs hl => Y.returnOut hx hr (hb ▸ hd) hl) hQ
theorem g_lcmp (X : Wk Z own nm bytes ml ret R n0 p l e s m args below meth c T cells slots h) {pc q : Nat} {Ls : Array Slot} {rest : List Value} {x y : Int64} (hd : decode bytes pc = .ok (.lcmp, 1)) (hq : pc + 1 = q) (k : Goes p e below s R n0 Q (T.setTop (mkF m q Ls (.int (lcmpW x y) :: rest)))) : Goes p e below s R n0 Q (T.setTop (mkF m pc Ls (.long y :: .long x :: rest))) := by
  obtain ⟨locs, X, N, eh, hn, hx, hZ, hby, hml, hown, hnm, hret, hlk⟩ := X
  subst hby hq
  exact g_of (fun t r => XS.lcmp X.here hx rfl hd rfl r) k
theorem g_iadd (X : Wk Z own nm bytes ml ret R n0 p l e s m args below meth c T cells slots h) {pc q : Nat} {Ls : Array Slot} {rest : List Value} {x y : Int32} (hd : decode bytes pc = .ok (.iadd, 1)) (hq : pc + 1 = q) (k : Goes p e below s R n0 Q (T.setTop (mkF m q Ls (.int (x + y) :: rest)))) : Goes p e below s R n0 Q (T.setTop (mkF m pc Ls (.int y :: .int x :: rest))) := by
  obtain ⟨locs, X, N, eh, hn, hx, hZ, hby, hml, hown, hnm, hret, hlk⟩ := X
  subst hby hq
  exact g_of (fun t r => XS.iadd X.here hx rfl hd rfl r) k
theorem g_isub (X : Wk Z own nm bytes ml ret R n0 p l e s m args below meth c T cells slots h) {pc q : Nat} {Ls : Array Slot} {rest : List Value} {x y : Int32} (hd : decode bytes pc = .ok (.isub, 1)) (hq : pc + 1 = q) (k : Goes p e below s R n0 Q (T.setTop (mkF m q Ls (.int (x - y) :: rest)))) : Goes p e below s R n0 Q (T.setTop (mkF m pc Ls (.int y :: .int x :: rest))) := by
  obtain ⟨locs, X, N, eh, hn, hx, hZ, hby, hml, hown, hnm, hret, hlk⟩ := X
  subst hby hq
  exact g_of (fun t r => XS.isub X.here hx rfl hd rfl r) k
theorem g_imul (X : Wk Z own nm bytes ml ret R n0 p l e s m args below meth c T cells slots h) {pc q : Nat} {Ls : Array Slot} {rest : List Value} {x y : Int32} (hd : decode bytes pc = .ok (.imul, 1)) (hq : pc + 1 = q) (k : Goes p e below s R n0 Q (T.setTop (mkF m q Ls (.int (x * y) :: rest)))) : Goes p e below s R n0 Q (T.setTop (mkF m pc Ls (.int y :: .int x :: rest))) := by
  obtain ⟨locs, X, N, eh, hn, hx, hZ, hby, hml, hown, hnm, hret, hlk⟩ := X
  subst hby hq
  exact g_of (fun t r => XS.imul X.here hx rfl hd rfl r) k
theorem g_iand (X : Wk Z own nm bytes ml ret R n0 p l e s m args below meth c T cells slots h) {pc q : Nat} {Ls : Array Slot} {rest : List Value} {x y : Int32} (hd : decode bytes pc = .ok (.iand, 1)) (hq : pc + 1 = q) (k : Goes p e below s R n0 Q (T.setTop (mkF m q Ls (.int (x &&& y) :: rest)))) : Goes p e below s R n0 Q (T.setTop (mkF m pc Ls (.int y :: .int x :: rest))) := by
  obtain ⟨locs, X, N, eh, hn, hx, hZ, hby, hml, hown, hnm, hret, hlk⟩ := X
  subst hby hq
  exact g_of (fun t r => XS.iand X.here hx rfl hd rfl r) k
theorem g_ior (X : Wk Z own nm bytes ml ret R n0 p l e s m args below meth c T cells slots h) {pc q : Nat} {Ls : Array Slot} {rest : List Value} {x y : Int32} (hd : decode bytes pc = .ok (.ior, 1)) (hq : pc + 1 = q) (k : Goes p e below s R n0 Q (T.setTop (mkF m q Ls (.int (x ||| y) :: rest)))) : Goes p e below s R n0 Q (T.setTop (mkF m pc Ls (.int y :: .int x :: rest))) := by
  obtain ⟨locs, X, N, eh, hn, hx, hZ, hby, hml, hown, hnm, hret, hlk⟩ := X
  subst hby hq
  exact g_of (fun t r => XS.ior X.here hx rfl hd rfl r) k
theorem g_ixor (X : Wk Z own nm bytes ml ret R n0 p l e s m args below meth c T cells slots h) {pc q : Nat} {Ls : Array Slot} {rest : List Value} {x y : Int32} (hd : decode bytes pc = .ok (.ixor, 1)) (hq : pc + 1 = q) (k : Goes p e below s R n0 Q (T.setTop (mkF m q Ls (.int (x ^^^ y) :: rest)))) : Goes p e below s R n0 Q (T.setTop (mkF m pc Ls (.int y :: .int x :: rest))) := by
  obtain ⟨locs, X, N, eh, hn, hx, hZ, hby, hml, hown, hnm, hret, hlk⟩ := X
  subst hby hq
  exact g_of (fun t r => XS.ixor X.here hx rfl hd rfl r) k
theorem g_ladd (X : Wk Z own nm bytes ml ret R n0 p l e s m args below meth c T cells slots h) {pc q : Nat} {Ls : Array Slot} {rest : List Value} {x y : Int64} (hd : decode bytes pc = .ok (.ladd, 1)) (hq : pc + 1 = q) (k : Goes p e below s R n0 Q (T.setTop (mkF m q Ls (.long (x + y) :: rest)))) : Goes p e below s R n0 Q (T.setTop (mkF m pc Ls (.long y :: .long x :: rest))) := by
  obtain ⟨locs, X, N, eh, hn, hx, hZ, hby, hml, hown, hnm, hret, hlk⟩ := X
  subst hby hq
  exact g_of (fun t r => XS.ladd X.here hx rfl hd rfl r) k
theorem g_lsub (X : Wk Z own nm bytes ml ret R n0 p l e s m args below meth c T cells slots h) {pc q : Nat} {Ls : Array Slot} {rest : List Value} {x y : Int64} (hd : decode bytes pc = .ok (.lsub, 1)) (hq : pc + 1 = q) (k : Goes p e below s R n0 Q (T.setTop (mkF m q Ls (.long (x - y) :: rest)))) : Goes p e below s R n0 Q (T.setTop (mkF m pc Ls (.long y :: .long x :: rest))) := by
  obtain ⟨locs, X, N, eh, hn, hx, hZ, hby, hml, hown, hnm, hret, hlk⟩ := X
  subst hby hq
  exact g_of (fun t r => XS.lsub X.here hx rfl hd rfl r) k
theorem g_lmul (X : Wk Z own nm bytes ml ret R n0 p l e s m args below meth c T cells slots h) {pc q : Nat} {Ls : Array Slot} {rest : List Value} {x y : Int64} (hd : decode bytes pc = .ok (.lmul, 1)) (hq : pc + 1 = q) (k : Goes p e below s R n0 Q (T.setTop (mkF m q Ls (.long (x * y) :: rest)))) : Goes p e below s R n0 Q (T.setTop (mkF m pc Ls (.long y :: .long x :: rest))) := by
  obtain ⟨locs, X, N, eh, hn, hx, hZ, hby, hml, hown, hnm, hret, hlk⟩ := X
  subst hby hq
  exact g_of (fun t r => XS.lmul X.here hx rfl hd rfl r) k
theorem g_land (X : Wk Z own nm bytes ml ret R n0 p l e s m args below meth c T cells slots h) {pc q : Nat} {Ls : Array Slot} {rest : List Value} {x y : Int64} (hd : decode bytes pc = .ok (.land, 1)) (hq : pc + 1 = q) (k : Goes p e below s R n0 Q (T.setTop (mkF m q Ls (.long (x &&& y) :: rest)))) : Goes p e below s R n0 Q (T.setTop (mkF m pc Ls (.long y :: .long x :: rest))) := by
  obtain ⟨locs, X, N, eh, hn, hx, hZ, hby, hml, hown, hnm, hret, hlk⟩ := X
  subst hby hq
  exact g_of (fun t r => XS.land X.here hx rfl hd rfl r) k
theorem g_lor (X : Wk Z own nm bytes ml ret R n0 p l e s m args below meth c T cells slots h) {pc q : Nat} {Ls : Array Slot} {rest : List Value} {x y : Int64} (hd : decode bytes pc = .ok (.lor, 1)) (hq : pc + 1 = q) (k : Goes p e below s R n0 Q (T.setTop (mkF m q Ls (.long (x ||| y) :: rest)))) : Goes p e below s R n0 Q (T.setTop (mkF m pc Ls (.long y :: .long x :: rest))) := by
  obtain ⟨locs, X, N, eh, hn, hx, hZ, hby, hml, hown, hnm, hret, hlk⟩ := X
  subst hby hq
  exact g_of (fun t r => XS.lor X.here hx rfl hd rfl r) k
theorem g_lxor (X : Wk Z own nm bytes ml ret R n0 p l e s m args below meth c T cells slots h) {pc q : Nat} {Ls : Array Slot} {rest : List Value} {x y : Int64} (hd : decode bytes pc = .ok (.lxor, 1)) (hq : pc + 1 = q) (k : Goes p e below s R n0 Q (T.setTop (mkF m q Ls (.long (x ^^^ y) :: rest)))) : Goes p e below s R n0 Q (T.setTop (mkF m pc Ls (.long y :: .long x :: rest))) := by
  obtain ⟨locs, X, N, eh, hn, hx, hZ, hby, hml, hown, hnm, hret, hlk⟩ := X
  subst hby hq
  exact g_of (fun t r => XS.lxor X.here hx rfl hd rfl r) k
theorem g_idiv (X : Wk Z own nm bytes ml ret R n0 p l e s m args below meth c T cells slots h) {pc q : Nat} {Ls : Array Slot} {rest : List Value} {x y : Int32} (hd : decode bytes pc = .ok (.idiv, 1)) (hq : pc + 1 = q) (hy : y ≠ 0) (k : Goes p e below s R n0 Q (T.setTop (mkF m q Ls (.int (x / y) :: rest)))) : Goes p e below s R n0 Q (T.setTop (mkF m pc Ls (.int y :: .int x :: rest))) := by
  obtain ⟨locs, X, N, eh, hn, hx, hZ, hby, hml, hown, hnm, hret, hlk⟩ := X
  subst hby hq
  exact g_of (fun t r => XS.idiv X.here hx rfl hd rfl hy r) k
theorem g_irem (X : Wk Z own nm bytes ml ret R n0 p l e s m args below meth c T cells slots h) {pc q : Nat} {Ls : Array Slot} {rest : List Value} {x y : Int32} (hd : decode bytes pc = .ok (.irem, 1)) (hq : pc + 1 = q) (hy : y ≠ 0) (k : Goes p e below s R n0 Q (T.setTop (mkF m q Ls (.int (x % y) :: rest)))) : Goes p e below s R n0 Q (T.setTop (mkF m pc Ls (.int y :: .int x :: rest))) := by
  obtain ⟨locs, X, N, eh, hn, hx, hZ, hby, hml, hown, hnm, hret, hlk⟩ := X
  subst hby hq
  exact g_of (fun t r => XS.irem X.here hx rfl hd rfl hy (by rw [irem_eq_mod x y]; exact r)) k
theorem g_ldiv (X : Wk Z own nm bytes ml ret R n0 p l e s m args below meth c T cells slots h) {pc q : Nat} {Ls : Array Slot} {rest : List Value} {x y : Int64} (hd : decode bytes pc = .ok (.ldiv, 1)) (hq : pc + 1 = q) (hy : y ≠ 0) (k : Goes p e below s R n0 Q (T.setTop (mkF m q Ls (.long (x / y) :: rest)))) : Goes p e below s R n0 Q (T.setTop (mkF m pc Ls (.long y :: .long x :: rest))) := by
  obtain ⟨locs, X, N, eh, hn, hx, hZ, hby, hml, hown, hnm, hret, hlk⟩ := X
  subst hby hq
  exact g_of (fun t r => XS.ldiv X.here hx rfl hd rfl hy r) k
theorem g_lrem (X : Wk Z own nm bytes ml ret R n0 p l e s m args below meth c T cells slots h) {pc q : Nat} {Ls : Array Slot} {rest : List Value} {x y : Int64} (hd : decode bytes pc = .ok (.lrem, 1)) (hq : pc + 1 = q) (hy : y ≠ 0) (k : Goes p e below s R n0 Q (T.setTop (mkF m q Ls (.long (x % y) :: rest)))) : Goes p e below s R n0 Q (T.setTop (mkF m pc Ls (.long y :: .long x :: rest))) := by
  obtain ⟨locs, X, N, eh, hn, hx, hZ, hby, hml, hown, hnm, hret, hlk⟩ := X
  subst hby hq
  exact g_of (fun t r => XS.lrem X.here hx rfl hd rfl hy (by rw [lrem_mod x y]; exact r)) k
theorem g_ineg (X : Wk Z own nm bytes ml ret R n0 p l e s m args below meth c T cells slots h) {pc q : Nat} {Ls : Array Slot} {rest : List Value} {x : Int32} (hd : decode bytes pc = .ok (.ineg, 1)) (hq : pc + 1 = q) (k : Goes p e below s R n0 Q (T.setTop (mkF m q Ls (.int (-x) :: rest)))) : Goes p e below s R n0 Q (T.setTop (mkF m pc Ls (.int x :: rest))) := by
  obtain ⟨locs, X, N, eh, hn, hx, hZ, hby, hml, hown, hnm, hret, hlk⟩ := X
  subst hby hq
  exact g_of (fun t r => XS.ineg X.here hx rfl hd rfl r) k
theorem g_lneg (X : Wk Z own nm bytes ml ret R n0 p l e s m args below meth c T cells slots h) {pc q : Nat} {Ls : Array Slot} {rest : List Value} {x : Int64} (hd : decode bytes pc = .ok (.lneg, 1)) (hq : pc + 1 = q) (k : Goes p e below s R n0 Q (T.setTop (mkF m q Ls (.long (-x) :: rest)))) : Goes p e below s R n0 Q (T.setTop (mkF m pc Ls (.long x :: rest))) := by
  obtain ⟨locs, X, N, eh, hn, hx, hZ, hby, hml, hown, hnm, hret, hlk⟩ := X
  subst hby hq
  exact g_of (fun t r => XS.lneg X.here hx rfl hd rfl r) k
theorem g_i2l (X : Wk Z own nm bytes ml ret R n0 p l e s m args below meth c T cells slots h) {pc q : Nat} {Ls : Array Slot} {rest : List Value} {x : Int32} (hd : decode bytes pc = .ok (.i2l, 1)) (hq : pc + 1 = q) (k : Goes p e below s R n0 Q (T.setTop (mkF m q Ls (.long x.toInt64 :: rest)))) : Goes p e below s R n0 Q (T.setTop (mkF m pc Ls (.int x :: rest))) := by
  obtain ⟨locs, X, N, eh, hn, hx, hZ, hby, hml, hown, hnm, hret, hlk⟩ := X
  subst hby hq
  exact g_of (fun t r => XS.i2l X.here hx rfl hd rfl r) k
theorem g_l2i (X : Wk Z own nm bytes ml ret R n0 p l e s m args below meth c T cells slots h) {pc q : Nat} {Ls : Array Slot} {rest : List Value} {x : Int64} (hd : decode bytes pc = .ok (.l2i, 1)) (hq : pc + 1 = q) (k : Goes p e below s R n0 Q (T.setTop (mkF m q Ls (.int x.toInt32 :: rest)))) : Goes p e below s R n0 Q (T.setTop (mkF m pc Ls (.long x :: rest))) := by
  obtain ⟨locs, X, N, eh, hn, hx, hZ, hby, hml, hown, hnm, hret, hlk⟩ := X
  subst hby hq
  exact g_of (fun t r => XS.l2i X.here hx rfl hd rfl r) k
theorem g_i2b (X : Wk Z own nm bytes ml ret R n0 p l e s m args below meth c T cells slots h) {pc q : Nat} {Ls : Array Slot} {rest : List Value} {x : Int32} (hd : decode bytes pc = .ok (.i2b, 1)) (hq : pc + 1 = q) (k : Goes p e below s R n0 Q (T.setTop (mkF m q Ls (.int x.toInt8.toInt32 :: rest)))) : Goes p e below s R n0 Q (T.setTop (mkF m pc Ls (.int x :: rest))) := by
  obtain ⟨locs, X, N, eh, hn, hx, hZ, hby, hml, hown, hnm, hret, hlk⟩ := X
  subst hby hq
  exact g_of (fun t r => XS.i2b X.here hx rfl hd rfl r) k
theorem g_i2s (X : Wk Z own nm bytes ml ret R n0 p l e s m args below meth c T cells slots h) {pc q : Nat} {Ls : Array Slot} {rest : List Value} {x : Int32} (hd : decode bytes pc = .ok (.i2s, 1)) (hq : pc + 1 = q) (k : Goes p e below s R n0 Q (T.setTop (mkF m q Ls (.int x.toInt16.toInt32 :: rest)))) : Goes p e below s R n0 Q (T.setTop (mkF m pc Ls (.int x :: rest))) := by
  obtain ⟨locs, X, N, eh, hn, hx, hZ, hby, hml, hown, hnm, hret, hlk⟩ := X
  subst hby hq
  exact g_of (fun t r => XS.i2s X.here hx rfl hd rfl r) k
theorem g_ishl (X : Wk Z own nm bytes ml ret R n0 p l e s m args below meth c T cells slots h) {pc q : Nat} {Ls : Array Slot} {rest : List Value} {x y : Int32} (hd : decode bytes pc = .ok (.ishl, 1)) (hq : pc + 1 = q) (k : Goes p e below s R n0 Q (T.setTop (mkF m q Ls (.int (x <<< (y &&& 31)) :: rest)))) : Goes p e below s R n0 Q (T.setTop (mkF m pc Ls (.int y :: .int x :: rest))) := by
  obtain ⟨locs, X, N, eh, hn, hx, hZ, hby, hml, hown, hnm, hret, hlk⟩ := X
  subst hby hq
  exact g_of (fun t r => XS.ishl X.here hx rfl hd rfl r) k
theorem g_ishr (X : Wk Z own nm bytes ml ret R n0 p l e s m args below meth c T cells slots h) {pc q : Nat} {Ls : Array Slot} {rest : List Value} {x y : Int32} (hd : decode bytes pc = .ok (.ishr, 1)) (hq : pc + 1 = q) (k : Goes p e below s R n0 Q (T.setTop (mkF m q Ls (.int (x >>> (y &&& 31)) :: rest)))) : Goes p e below s R n0 Q (T.setTop (mkF m pc Ls (.int y :: .int x :: rest))) := by
  obtain ⟨locs, X, N, eh, hn, hx, hZ, hby, hml, hown, hnm, hret, hlk⟩ := X
  subst hby hq
  exact g_of (fun t r => XS.ishr X.here hx rfl hd rfl r) k
theorem g_iushr (X : Wk Z own nm bytes ml ret R n0 p l e s m args below meth c T cells slots h) {pc q : Nat} {Ls : Array Slot} {rest : List Value} {x y : Int32} (hd : decode bytes pc = .ok (.iushr, 1)) (hq : pc + 1 = q) (k : Goes p e below s R n0 Q (T.setTop (mkF m q Ls (.int ((x.toUInt32 >>> (y &&& 31).toUInt32).toInt32) :: rest)))) : Goes p e below s R n0 Q (T.setTop (mkF m pc Ls (.int y :: .int x :: rest))) := by
  obtain ⟨locs, X, N, eh, hn, hx, hZ, hby, hml, hown, hnm, hret, hlk⟩ := X
  subst hby hq
  exact g_of (fun t r => XS.iushr X.here hx rfl hd rfl r) k
theorem g_lshl (X : Wk Z own nm bytes ml ret R n0 p l e s m args below meth c T cells slots h) {pc q : Nat} {Ls : Array Slot} {rest : List Value} {x : Int64} {y : Int32} (hd : decode bytes pc = .ok (.lshl, 1)) (hq : pc + 1 = q) (k : Goes p e below s R n0 Q (T.setTop (mkF m q Ls (.long (x <<< (y &&& 0x3f).toInt64) :: rest)))) : Goes p e below s R n0 Q (T.setTop (mkF m pc Ls (.int y :: .long x :: rest))) := by
  obtain ⟨locs, X, N, eh, hn, hx, hZ, hby, hml, hown, hnm, hret, hlk⟩ := X
  subst hby hq
  exact g_of (fun t r => XS.lshl X.here hx rfl hd rfl r) k
theorem g_lshr (X : Wk Z own nm bytes ml ret R n0 p l e s m args below meth c T cells slots h) {pc q : Nat} {Ls : Array Slot} {rest : List Value} {x : Int64} {y : Int32} (hd : decode bytes pc = .ok (.lshr, 1)) (hq : pc + 1 = q) (k : Goes p e below s R n0 Q (T.setTop (mkF m q Ls (.long (x >>> (y &&& 0x3f).toInt64) :: rest)))) : Goes p e below s R n0 Q (T.setTop (mkF m pc Ls (.int y :: .long x :: rest))) := by
  obtain ⟨locs, X, N, eh, hn, hx, hZ, hby, hml, hown, hnm, hret, hlk⟩ := X
  subst hby hq
  exact g_of (fun t r => XS.lshr X.here hx rfl hd rfl r) k
theorem g_lushr (X : Wk Z own nm bytes ml ret R n0 p l e s m args below meth c T cells slots h) {pc q : Nat} {Ls : Array Slot} {rest : List Value} {x : Int64} {y : Int32} (hd : decode bytes pc = .ok (.lushr, 1)) (hq : pc + 1 = q) (k : Goes p e below s R n0 Q (T.setTop (mkF m q Ls (.long ((x.toUInt64 >>> (y &&& 0x3f).toInt64.toUInt64).toInt64) :: rest)))) : Goes p e below s R n0 Q (T.setTop (mkF m pc Ls (.int y :: .long x :: rest))) := by
  obtain ⟨locs, X, N, eh, hn, hx, hZ, hby, hml, hown, hnm, hret, hlk⟩ := X
  subst hby hq
  exact g_of (fun t r => XS.lushr X.here hx rfl hd rfl r) k
theorem g_iload (X : Wk Z own nm bytes ml ret R n0 p l e s m args below meth c T cells slots h) {pc q : Nat} {Ls : Array Slot} {st : List Value} {i : Nat} {v : Int32} (hd : decode bytes pc = .ok (.iload i, 2)) (hq : pc + 2 = q) (hl : Ls[i]? = some (.val (.int v))) (k : Goes p e below s R n0 Q (T.setTop (mkF m q Ls (.int v :: st)))) : Goes p e below s R n0 Q (T.setTop (mkF m pc Ls st)) := by
  obtain ⟨locs, X, N, eh, hn, hx, hZ, hby, hml, hown, hnm, hret, hlk⟩ := X
  subst hby hq
  exact g_of (fun t r => XS.iload X.here hx rfl hd hl r) k
theorem g_iloadN (X : Wk Z own nm bytes ml ret R n0 p l e s m args below meth c T cells slots h) {pc q : Nat} {Ls : Array Slot} {st : List Value} {i : Fin 4} {v : Int32} (hd : decode bytes pc = .ok (.iload_n i, 1)) (hq : pc + 1 = q) (hl : Ls[i.val]? = some (.val (.int v))) (k : Goes p e below s R n0 Q (T.setTop (mkF m q Ls (.int v :: st)))) : Goes p e below s R n0 Q (T.setTop (mkF m pc Ls st)) := by
  obtain ⟨locs, X, N, eh, hn, hx, hZ, hby, hml, hown, hnm, hret, hlk⟩ := X
  subst hby hq
  exact g_of (fun t r => XS.iloadN X.here hx rfl hd hl r) k
theorem g_lload (X : Wk Z own nm bytes ml ret R n0 p l e s m args below meth c T cells slots h) {pc q : Nat} {Ls : Array Slot} {st : List Value} {i : Nat} {v : Int64} (hd : decode bytes pc = .ok (.lload i, 2)) (hq : pc + 2 = q) (hl : Ls[i]? = some (.val (.long v))) (k : Goes p e below s R n0 Q (T.setTop (mkF m q Ls (.long v :: st)))) : Goes p e below s R n0 Q (T.setTop (mkF m pc Ls st)) := by
  obtain ⟨locs, X, N, eh, hn, hx, hZ, hby, hml, hown, hnm, hret, hlk⟩ := X
  subst hby hq
  exact g_of (fun t r => XS.lload X.here hx rfl hd hl r) k
theorem g_lloadN (X : Wk Z own nm bytes ml ret R n0 p l e s m args below meth c T cells slots h) {pc q : Nat} {Ls : Array Slot} {st : List Value} {i : Fin 4} {v : Int64} (hd : decode bytes pc = .ok (.lload_n i, 1)) (hq : pc + 1 = q) (hl : Ls[i.val]? = some (.val (.long v))) (k : Goes p e below s R n0 Q (T.setTop (mkF m q Ls (.long v :: st)))) : Goes p e below s R n0 Q (T.setTop (mkF m pc Ls st)) := by
  obtain ⟨locs, X, N, eh, hn, hx, hZ, hby, hml, hown, hnm, hret, hlk⟩ := X
  subst hby hq
  exact g_of (fun t r => XS.lloadN X.here hx rfl hd hl r) k
theorem g_aload (X : Wk Z own nm bytes ml ret R n0 p l e s m args below meth c T cells slots h) {pc q : Nat} {Ls : Array Slot} {st : List Value} {i : Nat} {v : Value} (hd : decode bytes pc = .ok (.aload i, 2)) (hq : pc + 2 = q) (hl : Ls[i]? = some (.val v)) (hv : v.isRef = true) (k : Goes p e below s R n0 Q (T.setTop (mkF m q Ls (v :: st)))) : Goes p e below s R n0 Q (T.setTop (mkF m pc Ls st)) := by
  obtain ⟨locs, X, N, eh, hn, hx, hZ, hby, hml, hown, hnm, hret, hlk⟩ := X
  subst hby hq
  exact g_of (fun t r => XS.aload X.here hx rfl hd hl hv r) k
theorem g_aloadN (X : Wk Z own nm bytes ml ret R n0 p l e s m args below meth c T cells slots h) {pc q : Nat} {Ls : Array Slot} {st : List Value} {i : Fin 4} {v : Value} (hd : decode bytes pc = .ok (.aload_n i, 1)) (hq : pc + 1 = q) (hl : Ls[i.val]? = some (.val v)) (hv : v.isRef = true) (k : Goes p e below s R n0 Q (T.setTop (mkF m q Ls (v :: st)))) : Goes p e below s R n0 Q (T.setTop (mkF m pc Ls st)) := by
  obtain ⟨locs, X, N, eh, hn, hx, hZ, hby, hml, hown, hnm, hret, hlk⟩ := X
  subst hby hq
  exact g_of (fun t r => XS.aloadN X.here hx rfl hd hl hv r) k
theorem g_istore (X : Wk Z own nm bytes ml ret R n0 p l e s m args below meth c T cells slots h) {pc q : Nat} {Ls : Array Slot} {rest : List Value} {i : Nat} {v : Int32} {L' : Array Slot} (hd : decode bytes pc = .ok (.istore i, 2)) (hq : pc + 2 = q) (hl : storeLocals Ls i (.int v) = some L') (k : Goes p e below s R n0 Q (T.setTop (mkF m q L' rest))) : Goes p e below s R n0 Q (T.setTop (mkF m pc Ls (.int v :: rest))) := by
  obtain ⟨locs, X, N, eh, hn, hx, hZ, hby, hml, hown, hnm, hret, hlk⟩ := X
  subst hby hq
  exact g_of (fun t r => XS.istore X.here hx rfl hd rfl hl r) k
theorem g_istoreN (X : Wk Z own nm bytes ml ret R n0 p l e s m args below meth c T cells slots h) {pc q : Nat} {Ls : Array Slot} {rest : List Value} {i : Fin 4} {v : Int32} {L' : Array Slot} (hd : decode bytes pc = .ok (.istore_n i, 1)) (hq : pc + 1 = q) (hl : storeLocals Ls i.val (.int v) = some L') (k : Goes p e below s R n0 Q (T.setTop (mkF m q L' rest))) : Goes p e below s R n0 Q (T.setTop (mkF m pc Ls (.int v :: rest))) := by
  obtain ⟨locs, X, N, eh, hn, hx, hZ, hby, hml, hown, hnm, hret, hlk⟩ := X
  subst hby hq
  exact g_of (fun t r => XS.istoreN X.here hx rfl hd rfl hl r) k
theorem g_lstore (X : Wk Z own nm bytes ml ret R n0 p l e s m args below meth c T cells slots h) {pc q : Nat} {Ls : Array Slot} {rest : List Value} {i : Nat} {v : Int64} {L' : Array Slot} (hd : decode bytes pc = .ok (.lstore i, 2)) (hq : pc + 2 = q) (hl : storeLocals Ls i (.long v) = some L') (k : Goes p e below s R n0 Q (T.setTop (mkF m q L' rest))) : Goes p e below s R n0 Q (T.setTop (mkF m pc Ls (.long v :: rest))) := by
  obtain ⟨locs, X, N, eh, hn, hx, hZ, hby, hml, hown, hnm, hret, hlk⟩ := X
  subst hby hq
  exact g_of (fun t r => XS.lstore X.here hx rfl hd rfl hl r) k
theorem g_lstoreN (X : Wk Z own nm bytes ml ret R n0 p l e s m args below meth c T cells slots h) {pc q : Nat} {Ls : Array Slot} {rest : List Value} {i : Fin 4} {v : Int64} {L' : Array Slot} (hd : decode bytes pc = .ok (.lstore_n i, 1)) (hq : pc + 1 = q) (hl : storeLocals Ls i.val (.long v) = some L') (k : Goes p e below s R n0 Q (T.setTop (mkF m q L' rest))) : Goes p e below s R n0 Q (T.setTop (mkF m pc Ls (.long v :: rest))) := by
  obtain ⟨locs, X, N, eh, hn, hx, hZ, hby, hml, hown, hnm, hret, hlk⟩ := X
  subst hby hq
  exact g_of (fun t r => XS.lstoreN X.here hx rfl hd rfl hl r) k
theorem g_astore (X : Wk Z own nm bytes ml ret R n0 p l e s m args below meth c T cells slots h) {pc q : Nat} {Ls : Array Slot} {rest : List Value} {i : Nat} {v : Value} {L' : Array Slot} (hd : decode bytes pc = .ok (.astore i, 2)) (hq : pc + 2 = q) (hv : v.isRef = true) (hl : storeLocals Ls i v = some L') (k : Goes p e below s R n0 Q (T.setTop (mkF m q L' rest))) : Goes p e below s R n0 Q (T.setTop (mkF m pc Ls (v :: rest))) := by
  obtain ⟨locs, X, N, eh, hn, hx, hZ, hby, hml, hown, hnm, hret, hlk⟩ := X
  subst hby hq
  exact g_of (fun t r => XS.astore X.here hx rfl hd rfl hv hl r) k
theorem g_astoreN (X : Wk Z own nm bytes ml ret R n0 p l e s m args below meth c T cells slots h) {pc q : Nat} {Ls : Array Slot} {rest : List Value} {i : Fin 4} {v : Value} {L' : Array Slot} (hd : decode bytes pc = .ok (.astore_n i, 1)) (hq : pc + 1 = q) (hv : v.isRef = true) (hl : storeLocals Ls i.val v = some L') (k : Goes p e below s R n0 Q (T.setTop (mkF m q L' rest))) : Goes p e below s R n0 Q (T.setTop (mkF m pc Ls (v :: rest))) := by
  obtain ⟨locs, X, N, eh, hn, hx, hZ, hby, hml, hown, hnm, hret, hlk⟩ := X
  subst hby hq
  exact g_of (fun t r => XS.astoreN X.here hx rfl hd rfl hv hl r) k
theorem g_iconst (X : Wk Z own nm bytes ml ret R n0 p l e s m args below meth c T cells slots h) {pc q : Nat} {Ls : Array Slot} {st : List Value} {i : Int} {v : Int32} (hd : decode bytes pc = .ok (.iconst i, 1)) (hq : pc + 1 = q) (hv : Int32.ofInt i = v) (k : Goes p e below s R n0 Q (T.setTop (mkF m q Ls (.int v :: st)))) : Goes p e below s R n0 Q (T.setTop (mkF m pc Ls st)) := by
  obtain ⟨locs, X, N, eh, hn, hx, hZ, hby, hml, hown, hnm, hret, hlk⟩ := X
  subst hby hq
  exact g_of (fun t r => XS.iconst X.here hx rfl hd (by rw [hv]; exact r)) k
theorem g_bipush (X : Wk Z own nm bytes ml ret R n0 p l e s m args below meth c T cells slots h) {pc q : Nat} {Ls : Array Slot} {st : List Value} {i : Int} {v : Int32} (hd : decode bytes pc = .ok (.bipush i, 2)) (hq : pc + 2 = q) (hv : (Int8.ofInt i).toInt32 = v) (k : Goes p e below s R n0 Q (T.setTop (mkF m q Ls (.int v :: st)))) : Goes p e below s R n0 Q (T.setTop (mkF m pc Ls st)) := by
  obtain ⟨locs, X, N, eh, hn, hx, hZ, hby, hml, hown, hnm, hret, hlk⟩ := X
  subst hby hq
  exact g_of (fun t r => XS.bipush X.here hx rfl hd (by rw [hv]; exact r)) k
theorem g_sipush (X : Wk Z own nm bytes ml ret R n0 p l e s m args below meth c T cells slots h) {pc q : Nat} {Ls : Array Slot} {st : List Value} {i : Int} {v : Int32} (hd : decode bytes pc = .ok (.sipush i, 3)) (hq : pc + 3 = q) (hv : (Int16.ofInt i).toInt32 = v) (k : Goes p e below s R n0 Q (T.setTop (mkF m q Ls (.int v :: st)))) : Goes p e below s R n0 Q (T.setTop (mkF m pc Ls st)) := by
  obtain ⟨locs, X, N, eh, hn, hx, hZ, hby, hml, hown, hnm, hret, hlk⟩ := X
  subst hby hq
  exact g_of (fun t r => XS.sipush X.here hx rfl hd (by rw [hv]; exact r)) k
theorem g_lconst (X : Wk Z own nm bytes ml ret R n0 p l e s m args below meth c T cells slots h) {pc q : Nat} {Ls : Array Slot} {st : List Value} {i : Fin 2} {v : Int64} (hd : decode bytes pc = .ok (.lconst i, 1)) (hq : pc + 1 = q) (hv : Int64.ofNat i = v) (k : Goes p e below s R n0 Q (T.setTop (mkF m q Ls (.long v :: st)))) : Goes p e below s R n0 Q (T.setTop (mkF m pc Ls st)) := by
  obtain ⟨locs, X, N, eh, hn, hx, hZ, hby, hml, hown, hnm, hret, hlk⟩ := X
  subst hby hq
  exact g_of (fun t r => XS.lconst X.here hx rfl hd (by rw [hv]; exact r)) k
theorem g_aconst_null (X : Wk Z own nm bytes ml ret R n0 p l e s m args below meth c T cells slots h) {pc q : Nat} {Ls : Array Slot} {st : List Value} (hd : decode bytes pc = .ok (.aconst_null, 1)) (hq : pc + 1 = q) (k : Goes p e below s R n0 Q (T.setTop (mkF m q Ls (.null :: st)))) : Goes p e below s R n0 Q (T.setTop (mkF m pc Ls st)) := by
  obtain ⟨locs, X, N, eh, hn, hx, hZ, hby, hml, hown, hnm, hret, hlk⟩ := X
  subst hby hq
  exact g_of (fun t r => XS.aconstNull X.here hx rfl hd r) k
theorem g_dup (X : Wk Z own nm bytes ml ret R n0 p l e s m args below meth c T cells slots h) {pc q : Nat} {Ls : Array Slot} {rest : List Value} {v : Value} (hd : decode bytes pc = .ok (.dup, 1)) (hq : pc + 1 = q) (hv : v.category = 1) (k : Goes p e below s R n0 Q (T.setTop (mkF m q Ls (v :: v :: rest)))) : Goes p e below s R n0 Q (T.setTop (mkF m pc Ls (v :: rest))) := by
  obtain ⟨locs, X, N, eh, hn, hx, hZ, hby, hml, hown, hnm, hret, hlk⟩ := X
  subst hby hq
  exact g_of (fun t r => XS.dup X.here hx rfl hd rfl hv r) k
theorem g_dup_x1 (X : Wk Z own nm bytes ml ret R n0 p l e s m args below meth c T cells slots h) {pc q : Nat} {Ls : Array Slot} {rest : List Value} {v w : Value} (hd : decode bytes pc = .ok (.dup_x1, 1)) (hq : pc + 1 = q) (hv : v.category = 1) (hw : w.category = 1) (k : Goes p e below s R n0 Q (T.setTop (mkF m q Ls (v :: w :: v :: rest)))) : Goes p e below s R n0 Q (T.setTop (mkF m pc Ls (v :: w :: rest))) := by
  obtain ⟨locs, X, N, eh, hn, hx, hZ, hby, hml, hown, hnm, hret, hlk⟩ := X
  subst hby hq
  exact g_of (fun t r => XS.dupX1 X.here hx rfl hd rfl hv hw r) k
theorem g_dup2 (X : Wk Z own nm bytes ml ret R n0 p l e s m args below meth c T cells slots h) {pc q : Nat} {Ls : Array Slot} {rest : List Value} {v w : Value} (hd : decode bytes pc = .ok (.dup2, 1)) (hq : pc + 1 = q) (hv : v.category = 1) (hw : w.category = 1) (k : Goes p e below s R n0 Q (T.setTop (mkF m q Ls (v :: w :: v :: w :: rest)))) : Goes p e below s R n0 Q (T.setTop (mkF m pc Ls (v :: w :: rest))) := by
  obtain ⟨locs, X, N, eh, hn, hx, hZ, hby, hml, hown, hnm, hret, hlk⟩ := X
  subst hby hq
  exact g_of (fun t r => Jvm.Free.XT.dup2 X.here hx rfl hd rfl hv hw r) k
theorem g_dup2L (X : Wk Z own nm bytes ml ret R n0 p l e s m args below meth c T cells slots h) {pc q : Nat} {Ls : Array Slot} {rest : List Value} {x : Int64} (hd : decode bytes pc = .ok (.dup2, 1)) (hq : pc + 1 = q) (k : Goes p e below s R n0 Q (T.setTop (mkF m q Ls (.long x :: .long x :: rest)))) : Goes p e below s R n0 Q (T.setTop (mkF m pc Ls (.long x :: rest))) := by
  obtain ⟨locs, X, N, eh, hn, hx, hZ, hby, hml, hown, hnm, hret, hlk⟩ := X
  subst hby hq
  exact g_of (fun t r => Jvm.Free.XT.dup2L X.here hx rfl hd rfl r) k
theorem g_pop (X : Wk Z own nm bytes ml ret R n0 p l e s m args below meth c T cells slots h) {pc q : Nat} {Ls : Array Slot} {rest : List Value} {v : Value} (hd : decode bytes pc = .ok (.pop, 1)) (hq : pc + 1 = q) (hv : v.category = 1) (k : Goes p e below s R n0 Q (T.setTop (mkF m q Ls rest))) : Goes p e below s R n0 Q (T.setTop (mkF m pc Ls (v :: rest))) := by
  obtain ⟨locs, X, N, eh, hn, hx, hZ, hby, hml, hown, hnm, hret, hlk⟩ := X
  subst hby hq
  exact g_of (fun t r => XS.pop X.here hx rfl hd rfl hv r) k
theorem g_iinc (X : Wk Z own nm bytes ml ret R n0 p l e s m args below meth c T cells slots h) {pc q : Nat} {Ls L' : Array Slot} {st : List Value} {i : Nat} {cst : Int} {x d : Int32} (hd : decode bytes pc = .ok (.iinc i cst, 3)) (hq : pc + 3 = q) (hl : Ls[i]? = some (.val (.int x))) (hc : Int32.ofInt cst = d) (hl' : storeLocals Ls i (.int (x + d)) = some L') (k : Goes p e below s R n0 Q (T.setTop (mkF m q L' st))) : Goes p e below s R n0 Q (T.setTop (mkF m pc Ls st)) := by
  obtain ⟨locs, X, N, eh, hn, hx, hZ, hby, hml, hown, hnm, hret, hlk⟩ := X
  subst hby hq hc
  exact g_of (fun t r => XS.iinc X.here hx rfl hd hl hl' r) k
theorem g_goto (X : Wk Z own nm bytes ml ret R n0 p l e s m args below meth c T cells slots h) {pc q : Nat} {Ls : Array Slot} {st : List Value} {o : Int} (hd : decode bytes pc = .ok (.goto o, 3)) (ho : 0 ≤ (pc : Int) + o) (hq : ((pc : Int) + o).toNat = q) (k : Goes p e below s R n0 Q (T.setTop (mkF m q Ls st))) : Goes p e below s R n0 Q (T.setTop (mkF m pc Ls st)) := by
  obtain ⟨locs, X, N, eh, hn, hx, hZ, hby, hml, hown, hnm, hret, hlk⟩ := X
  subst hby
  exact g_of (fun t r => XS.goto X.here hx rfl (pc0 := pc) rfl hd ho hq r) k
theorem g_bor (X : Wk Z own nm bytes ml ret R n0 p l e s m args below meth c T cells slots h) {pc q : Nat} {Ls : Array Slot} {rest : List Value} {A B : Prop} [Decidable A] [Decidable B] (hd : decode bytes pc = .ok (.ior, 1)) (hq : pc + 1 = q) (k : Goes p e below s R n0 Q (T.setTop (mkF m q Ls (.int (bI (A ∨ B)) :: rest)))) : Goes p e below s R n0 Q (T.setTop (mkF m pc Ls (.int (bI B) :: .int (bI A) :: rest))) :=
  g_ior X hd hq (by rw [show bI A ||| bI B = bI (A ∨ B) from own_bor A B]; exact k)
theorem g_band (X : Wk Z own nm bytes ml ret R n0 p l e s m args below meth c T cells slots h) {pc q : Nat} {Ls : Array Slot} {rest : List Value} {A B : Prop} [Decidable A] [Decidable B] (hd : decode bytes pc = .ok (.iand, 1)) (hq : pc + 1 = q) (k : Goes p e below s R n0 Q (T.setTop (mkF m q Ls (.int (bI (A ∧ B)) :: rest)))) : Goes p e below s R n0 Q (T.setTop (mkF m pc Ls (.int (bI B) :: .int (bI A) :: rest))) :=
  g_iand X hd hq (by rw [show bI A &&& bI B = bI (A ∧ B) from own_band A B]; exact k)
theorem hI {cd : ClassFile.Cond} {x y : Int32} (hcd : cd = .lt ∨ cd = .gt ∨ cd = .eq) : (pcI cd x y → if_icmp.holds cd x y = true) ∧ (¬ pcI cd x y → if_icmp.holds cd x y = false) := by
  rcases hcd with rfl | rfl | rfl
  · exact ⟨fun q => (tlt q).1, fun q => (flt q).1⟩
  · exact ⟨fun q => (tlt q).2.2.1, fun q => (flt q).2.2.1⟩
  · exact ⟨fun q => (teq q).1, fun q => (feq q).1⟩
theorem hN {cd : ClassFile.Cond} {x y : Int32} (hcd : cd = .ge ∨ cd = .le ∨ cd = .ne) : (pcI cd x y → if_icmp.holds cd x y = false) ∧ (¬ pcI cd x y → if_icmp.holds cd x y = true) := by
  rcases hcd with rfl | rfl | rfl
  · exact ⟨fun q => (tlt q).2.1, fun q => (flt q).2.1⟩
  · exact ⟨fun q => (tlt q).2.2.2, fun q => (flt q).2.2.2⟩
  · exact ⟨fun q => (teq q).2, fun q => (feq q).2⟩
theorem pcL {cd : ClassFile.Cond} {x y : Int64} : pcI cd (lcmpW x y) 0 ↔ pcJ cd x y := by
  cases cd
  · exact lw_eq x y
  · exact lw_eq x y
  · exact lw_lt x y
  · exact lw_lt x y
  · exact lw_gt x y
  · exact lw_gt x y
instance pcI_dec (cd : ClassFile.Cond) (x y : Int32) : Decidable (pcI cd x y) := by cases cd <;> (unfold pcI; infer_instance)
theorem g_icmpA (X : Wk Z own nm bytes ml ret R n0 p l e s m args below meth c T cells slots h) {pc q t : Nat} {Ls : Array Slot} {rest : List Value} {o : Int} {cd : ClassFile.Cond} {x y : Int32} (hd : decode bytes pc = .ok (.if_icmp cd o, 3)) (hcd : cd = .lt ∨ cd = .gt ∨ cd = .eq) (hq : pc + 3 = q) (ho : 0 ≤ (pc : Int) + o) (ht : ((pc : Int) + o).toNat = t) (kP : pcI cd x y → Goes p e below s R n0 Q (T.setTop (mkF m t Ls rest))) (kN : ¬ pcI cd x y → Goes p e below s R n0 Q (T.setTop (mkF m q Ls rest))) : Goes p e below s R n0 Q (T.setTop (mkF m pc Ls (.int y :: .int x :: rest))) := by
  obtain ⟨locs, X, N, eh, hn, hx, hZ, hby, hml, hown, hnm, hret, hlk⟩ := X
  subst hby hq
  by_cases hP : pcI cd x y
  · exact g_of (fun _ r => XS.icmpYes X.here hx rfl (pc0 := pc) rfl hd rfl ((hI hcd).1 hP) ho ht r) (kP hP)
  · exact g_of (fun _ r => XS.icmpNo X.here hx rfl hd rfl ((hI hcd).2 hP) r) (kN hP)
theorem g_ifA (X : Wk Z own nm bytes ml ret R n0 p l e s m args below meth c T cells slots h) {pc q t : Nat} {Ls : Array Slot} {rest : List Value} {o : Int} {cd : ClassFile.Cond} {x : Int32} (hd : decode bytes pc = .ok (.ifCond cd o, 3)) (hcd : cd = .lt ∨ cd = .gt ∨ cd = .eq) (hq : pc + 3 = q) (ho : 0 ≤ (pc : Int) + o) (ht : ((pc : Int) + o).toNat = t) (kP : pcI cd x 0 → Goes p e below s R n0 Q (T.setTop (mkF m t Ls rest))) (kN : ¬ pcI cd x 0 → Goes p e below s R n0 Q (T.setTop (mkF m q Ls rest))) : Goes p e below s R n0 Q (T.setTop (mkF m pc Ls (.int x :: rest))) := by
  obtain ⟨locs, X, N, eh, hn, hx, hZ, hby, hml, hown, hnm, hret, hlk⟩ := X
  subst hby hq
  by_cases hP : pcI cd x 0
  · exact g_of (fun _ r => XS.ifYes X.here hx rfl (pc0 := pc) rfl hd rfl ((if0 _ _).trans ((hI hcd).1 hP)) ho ht r) (kP hP)
  · exact g_of (fun _ r => XS.ifNo X.here hx rfl hd rfl ((if0 _ _).trans ((hI hcd).2 hP)) r) (kN hP)
theorem g_lcmpA (X : Wk Z own nm bytes ml ret R n0 p l e s m args below meth c T cells slots h) {pc q t : Nat} {Ls : Array Slot} {rest : List Value} {o : Int} {cd : ClassFile.Cond} {x y : Int64} {q1 : Nat} (hd0 : decode bytes pc = .ok (.lcmp, 1)) (hq1 : pc + 1 = q1) (hd : decode bytes q1 = .ok (.ifCond cd o, 3)) (hcd : cd = .lt ∨ cd = .gt ∨ cd = .eq) (hq : q1 + 3 = q) (ho : 0 ≤ (q1 : Int) + o) (ht : ((q1 : Int) + o).toNat = t) (kP : pcJ cd x y → Goes p e below s R n0 Q (T.setTop (mkF m t Ls rest))) (kN : ¬ pcJ cd x y → Goes p e below s R n0 Q (T.setTop (mkF m q Ls rest))) : Goes p e below s R n0 Q (T.setTop (mkF m pc Ls (.long y :: .long x :: rest))) := by
  refine g_lcmp X hd0 hq1 (g_ifA X hd hcd hq ho ht (fun z => kP (pcL.mp z)) (fun z => kN (fun w => z (pcL.mpr w))))
theorem g_icmpB (X : Wk Z own nm bytes ml ret R n0 p l e s m args below meth c T cells slots h) {pc q t : Nat} {Ls : Array Slot} {rest : List Value} {o : Int} {cd : ClassFile.Cond} {x y : Int32} (hd : decode bytes pc = .ok (.if_icmp cd o, 3)) (hcd : cd = .ge ∨ cd = .le ∨ cd = .ne) (hq : pc + 3 = q) (ho : 0 ≤ (pc : Int) + o) (ht : ((pc : Int) + o).toNat = t) (kP : pcI cd x y → Goes p e below s R n0 Q (T.setTop (mkF m q Ls rest))) (kN : ¬ pcI cd x y → Goes p e below s R n0 Q (T.setTop (mkF m t Ls rest))) : Goes p e below s R n0 Q (T.setTop (mkF m pc Ls (.int y :: .int x :: rest))) := by
  obtain ⟨locs, X, N, eh, hn, hx, hZ, hby, hml, hown, hnm, hret, hlk⟩ := X
  subst hby hq
  by_cases hP : pcI cd x y
  · exact g_of (fun _ r => XS.icmpNo X.here hx rfl hd rfl ((hN hcd).1 hP) r) (kP hP)
  · exact g_of (fun _ r => XS.icmpYes X.here hx rfl (pc0 := pc) rfl hd rfl ((hN hcd).2 hP) ho ht r) (kN hP)
theorem g_ifB (X : Wk Z own nm bytes ml ret R n0 p l e s m args below meth c T cells slots h) {pc q t : Nat} {Ls : Array Slot} {rest : List Value} {o : Int} {cd : ClassFile.Cond} {x : Int32} (hd : decode bytes pc = .ok (.ifCond cd o, 3)) (hcd : cd = .ge ∨ cd = .le ∨ cd = .ne) (hq : pc + 3 = q) (ho : 0 ≤ (pc : Int) + o) (ht : ((pc : Int) + o).toNat = t) (kP : pcI cd x 0 → Goes p e below s R n0 Q (T.setTop (mkF m q Ls rest))) (kN : ¬ pcI cd x 0 → Goes p e below s R n0 Q (T.setTop (mkF m t Ls rest))) : Goes p e below s R n0 Q (T.setTop (mkF m pc Ls (.int x :: rest))) := by
  obtain ⟨locs, X, N, eh, hn, hx, hZ, hby, hml, hown, hnm, hret, hlk⟩ := X
  subst hby hq
  by_cases hP : pcI cd x 0
  · exact g_of (fun _ r => XS.ifNo X.here hx rfl hd rfl ((if0 _ _).trans ((hN hcd).1 hP)) r) (kP hP)
  · exact g_of (fun _ r => XS.ifYes X.here hx rfl (pc0 := pc) rfl hd rfl ((if0 _ _).trans ((hN hcd).2 hP)) ho ht r) (kN hP)
theorem g_lcmpB (X : Wk Z own nm bytes ml ret R n0 p l e s m args below meth c T cells slots h) {pc q t : Nat} {Ls : Array Slot} {rest : List Value} {o : Int} {cd : ClassFile.Cond} {x y : Int64} {q1 : Nat} (hd0 : decode bytes pc = .ok (.lcmp, 1)) (hq1 : pc + 1 = q1) (hd : decode bytes q1 = .ok (.ifCond cd o, 3)) (hcd : cd = .ge ∨ cd = .le ∨ cd = .ne) (hq : q1 + 3 = q) (ho : 0 ≤ (q1 : Int) + o) (ht : ((q1 : Int) + o).toNat = t) (kP : pcJ cd x y → Goes p e below s R n0 Q (T.setTop (mkF m q Ls rest))) (kN : ¬ pcJ cd x y → Goes p e below s R n0 Q (T.setTop (mkF m t Ls rest))) : Goes p e below s R n0 Q (T.setTop (mkF m pc Ls (.long y :: .long x :: rest))) := by
  refine g_lcmp X hd0 hq1 (g_ifB X hd hcd hq ho ht (fun z => kP (pcL.mp z)) (fun z => kN (fun w => z (pcL.mpr w))))
theorem g_bne (X : Wk Z own nm bytes ml ret R n0 p l e s m args below meth c T cells slots h) {pc q t : Nat} {Ls : Array Slot} {rest : List Value} {o : Int} {c' : Prop} [Decidable c'] (hd : decode bytes pc = .ok (.ifCond .ne o, 3)) (hq : pc + 3 = q) (ho : 0 ≤ (pc : Int) + o) (ht : ((pc : Int) + o).toNat = t) (kP : c' → Goes p e below s R n0 Q (T.setTop (mkF m t Ls rest))) (kN : ¬ c' → Goes p e below s R n0 Q (T.setTop (mkF m q Ls rest))) : Goes p e below s R n0 Q (T.setTop (mkF m pc Ls (.int (bI c') :: rest))) :=
  g_ifB X hd (Or.inr (Or.inr rfl)) hq ho ht (fun z => kN ((bI_eq0 c').mp z)) (fun z => kP (Decidable.of_not_not fun w => z ((bI_eq0 c').mpr w)))
theorem g_beq (X : Wk Z own nm bytes ml ret R n0 p l e s m args below meth c T cells slots h) {pc q t : Nat} {Ls : Array Slot} {rest : List Value} {o : Int} {c' : Prop} [Decidable c'] (hd : decode bytes pc = .ok (.ifCond .eq o, 3)) (hq : pc + 3 = q) (ho : 0 ≤ (pc : Int) + o) (ht : ((pc : Int) + o).toNat = t) (kP : c' → Goes p e below s R n0 Q (T.setTop (mkF m q Ls rest))) (kN : ¬ c' → Goes p e below s R n0 Q (T.setTop (mkF m t Ls rest))) : Goes p e below s R n0 Q (T.setTop (mkF m pc Ls (.int (bI c') :: rest))) :=
  g_ifA X hd (Or.inr (Or.inr rfl)) hq ho ht (fun z => kN ((bI_eq0 c').mp z)) (fun z => kP (Decidable.of_not_not fun w => z ((bI_eq0 c').mpr w)))
theorem g_ifnullY (X : Wk Z own nm bytes ml ret R n0 p l e s m args below meth c T cells slots h) {pc q : Nat} {Ls : Array Slot} {rest : List Value} {o : Int} (hd : decode bytes pc = .ok (.ifnull o, 3)) (ho : 0 ≤ (pc : Int) + o) (hq : ((pc : Int) + o).toNat = q) (k : Goes p e below s R n0 Q (T.setTop (mkF m q Ls rest))) : Goes p e below s R n0 Q (T.setTop (mkF m pc Ls (.null :: rest))) := by
  obtain ⟨locs, X, N, eh, hn, hx, hZ, hby, hml, hown, hnm, hret, hlk⟩ := X
  subst hby
  exact g_of (fun t r => XS.ifnullYes X.here hx rfl (pc0 := pc) rfl hd rfl ho hq r) k
theorem g_ifnullN (X : Wk Z own nm bytes ml ret R n0 p l e s m args below meth c T cells slots h) {pc q : Nat} {Ls : Array Slot} {rest : List Value} {o : Int} {b : Addr} (hd : decode bytes pc = .ok (.ifnull o, 3)) (hq : pc + 3 = q) (k : Goes p e below s R n0 Q (T.setTop (mkF m q Ls rest))) : Goes p e below s R n0 Q (T.setTop (mkF m pc Ls (.ref b :: rest))) := by
  obtain ⟨locs, X, N, eh, hn, hx, hZ, hby, hml, hown, hnm, hret, hlk⟩ := X
  subst hby hq
  exact g_of (fun t r => XS.ifnullNo X.here hx rfl hd rfl r) k
theorem g_ifnonnullY (X : Wk Z own nm bytes ml ret R n0 p l e s m args below meth c T cells slots h) {pc q : Nat} {Ls : Array Slot} {rest : List Value} {o : Int} {b : Addr} (hd : decode bytes pc = .ok (.ifnonnull o, 3)) (ho : 0 ≤ (pc : Int) + o) (hq : ((pc : Int) + o).toNat = q) (k : Goes p e below s R n0 Q (T.setTop (mkF m q Ls rest))) : Goes p e below s R n0 Q (T.setTop (mkF m pc Ls (.ref b :: rest))) := by
  obtain ⟨locs, X, N, eh, hn, hx, hZ, hby, hml, hown, hnm, hret, hlk⟩ := X
  subst hby
  exact g_of (fun t r => XS.ifnonnullYes X.here hx rfl (pc0 := pc) rfl hd rfl ho hq r) k
theorem g_ifnonnullN (X : Wk Z own nm bytes ml ret R n0 p l e s m args below meth c T cells slots h) {pc q : Nat} {Ls : Array Slot} {rest : List Value} {o : Int} (hd : decode bytes pc = .ok (.ifnonnull o, 3)) (hq : pc + 3 = q) (k : Goes p e below s R n0 Q (T.setTop (mkF m q Ls rest))) : Goes p e below s R n0 Q (T.setTop (mkF m pc Ls (.null :: rest))) := by
  obtain ⟨locs, X, N, eh, hn, hx, hZ, hby, hml, hown, hnm, hret, hlk⟩ := X
  subst hby hq
  exact g_of (fun t r => XS.ifnonnullNo X.here hx rfl hd rfl r) k
theorem g_acmp (X : Wk Z own nm bytes ml ret R n0 p l e s m args below meth c T cells slots h) {pc q : Nat} {Ls : Array Slot} {rest : List Value} {o : Int} {cd : ACond} {x y : Value} {same : Bool} (hd : decode bytes pc = .ok (.if_acmp cd o, 3)) (h1 : x.isRef = true) (h2 : y.isRef = true) (hs : decide (x = y) = same) (ho : 0 ≤ (pc : Int) + o) (hq : q = if acV cd same = true then ((pc : Int) + o).toNat else pc + 3) (k : Goes p e below s R n0 Q (T.setTop (mkF m q Ls rest))) : Goes p e below s R n0 Q (T.setTop (mkF m pc Ls (y :: x :: rest))) := by
  obtain ⟨locs, X, N, eh, hn, hx, hZ, hby, hml, hown, hnm, hret, hlk⟩ := X
  subst hby
  exact g_of (fun t r => Jvm.RoadKit.acmp (g := mkF m pc Ls (y :: x :: rest)) X hx rfl h1 h2 (pc0 := pc) rfl hd rfl hs ho hq r) k

theorem g_ldc2 (X : Wk Z own nm bytes ml ret R n0 p l e s m args below meth c T cells slots h) {index : Nat} {v : Int64} (w : (Jvm.Cond.constantLong own index v).before a0 Z = true) {pc q : Nat} {Ls : Array Slot} {st : List Value} (hd : decode bytes pc = .ok (.ldc2_w index, 3)) (hq : pc + 3 = q) (k : Goes p e below s R n0 Q (T.setTop (mkF m q Ls (.long v :: st)))) : Goes p e below s R n0 Q (T.setTop (mkF m pc Ls st)) := by
  obtain ⟨locs, X, N, eh, hn, hx, hZ, hby, hml, hown, hnm, hret, hlk⟩ := X
  subst hby hq
  exact g_of (fun t r => X.ldc2Long hx hown (mvT hZ w) (g := mkF m pc Ls st) rfl hd t r) k
theorem g_ldc (X : Wk Z own nm bytes ml ret R n0 p l e s m args below meth c T cells slots h) {index : Nat} {v : Int32} (w : (Jvm.Cond.constant own index v).before a0 Z = true) {pc q : Nat} {Ls : Array Slot} {st : List Value} (hd : decode bytes pc = .ok (.ldc index, 2)) (hq : pc + 2 = q) (k : Goes p e below s R n0 Q (T.setTop (mkF m q Ls (.int v :: st)))) : Goes p e below s R n0 Q (T.setTop (mkF m pc Ls st)) := by
  obtain ⟨locs, X, N, eh, hn, hx, hZ, hby, hml, hown, hnm, hret, hlk⟩ := X
  subst hby hq
  exact g_of (fun t r => X.ldcInt hx hown (mvT hZ w) (g := mkF m pc Ls st) rfl hd t r) k
theorem g_ldcw (X : Wk Z own nm bytes ml ret R n0 p l e s m args below meth c T cells slots h) {index : Nat} {v : Int32} (w : (Jvm.Cond.constant own index v).before a0 Z = true) {pc q : Nat} {Ls : Array Slot} {st : List Value} (hd : decode bytes pc = .ok (.ldc_w index, 3)) (hq : pc + 3 = q) (k : Goes p e below s R n0 Q (T.setTop (mkF m q Ls (.int v :: st)))) : Goes p e below s R n0 Q (T.setTop (mkF m pc Ls st)) := by
  obtain ⟨locs, X, N, eh, hn, hx, hZ, hby, hml, hown, hnm, hret, hlk⟩ := X
  subst hby hq
  exact g_of (fun t r => X.ldcwInt hx hown (mvT hZ w) (g := mkF m pc Ls st) rfl hd t r) k
theorem g_getF (X : Wk Z own nm bytes ml ret R n0 p l e s m args below meth c T cells slots h) {index : Nat} {R0 O n d : String} (w : (Jvm.Cond.fieldLink own index R0 n d).before a0 Z = true) (via : Via Z R0 O n d) {a : Addr} {v : Value} (F : Fld Z h a O n d v) {pc q : Nat} {Ls : Array Slot} {rest : List Value} (hd : decode bytes pc = .ok (.getfield index, 3)) (hq : pc + 3 = q)
    (k : ∀ T', Wk Z own nm bytes ml ret R n0 p l e s m args below meth c T' cells slots h → Goes p e below s R n0 Q (T'.setTop (mkF m q Ls (v :: rest)))) : Goes p e below s R n0 Q (T.setTop (mkF m pc Ls (.ref a :: rest))) := by
  obtain ⟨locs, X, N, eh, hn, hx, hZ, hby, hml, hown, hnm, hret, hlk⟩ := X
  subst hby hq
  obtain ⟨T', X', e', st⟩ := getF X hx hZ hown (host := "") (Or.inl w) via eh F (g := mkF m pc Ls (.ref a :: rest)) rfl rfl hd
  exact g_of st (k T' ⟨locs, X', N, e', hn, hx, hZ, rfl, hml, hown, hnm, hret, hlk⟩)
theorem g_putF (X : Wk Z own nm bytes ml ret R n0 p l e s m args below meth c T cells slots h) {index kk : Nat} {R0 O n d C : String} {ty : FieldType} (w : (Jvm.Cond.fieldLink own index R0 n d).before a0 Z = true) (via : Via Z R0 O n d) {a : Addr} {v old : Value} (F : Fld Z h a O n d old) (E : Exa Z h a C) (L : (Jvm.Cond.lays C O n d).before a0 Z = true ∨ ((Jvm.Cond.laysFinal C O n d).before a0 Z = true ∧ own = O ∧ nm = "<init>")) (wi : (Jvm.Cond.instantiable C kk).before a0 Z = true) (hty : parseFieldDescriptor d = some ty) (hnr : narrow ty v = v) (hf : fits ty v = true) (ga : n0 ≤ a) {pc q : Nat} {Ls : Array Slot} {rest : List Value} (hd : decode bytes pc = .ok (.putfield index, 3)) (hq : pc + 3 = q)
    (k : ∀ T' h', Wk Z own nm bytes ml ret R n0 p l e s m args below meth c T' cells slots h' → Wr h h' a (Jvm.RoadKit.slotOf Z O n d) v → Goes p e below s R n0 Q (T'.setTop (mkF m q Ls rest))) : Goes p e below s R n0 Q (T.setTop (mkF m pc Ls (v :: .ref a :: rest))) := by
  obtain ⟨locs, X, N, eh, hn, hx, hZ, hby, hml, hown, hnm, hret, hlk⟩ := X
  subst hby hq
  obtain ⟨T', h', X', e', W', st⟩ := putF X hx hZ hown (host := "") (Or.inl w) via eh F E (L.imp id fun z => ⟨z.1, z.2.1, hnm.trans z.2.2⟩) wi hty hnr hf (g := mkF m pc Ls (v :: .ref a :: rest)) rfl rfl hd
  exact g_of st (k T' h' ⟨_, X', Fr.snoc X' N ga, e', hn, hx, hZ, rfl, hml, hown, hnm, hret, hlk⟩ W')
theorem g_new (X : Wk Z own nm bytes ml ret R n0 p l e s m args below meth c T cells slots h) {index n : Nat} {C : String} (w : (Jvm.Cond.classLink own index C).before a0 Z = true) (wi : (Jvm.Cond.instantiable C n).before a0 Z = true) (wz : (Jvm.Cond.initialized C).before a0 Z = true) {pc q c2 s2 : Nat} {Ls : Array Slot} {st : List Value} (hd : decode bytes pc = .ok (.new index, 3)) (hq : pc + 3 = q) (hc : cells + 1 = c2) (hs : slots + n = s2) (hcR : c2 ≤ R.cells) (hsR : s2 ≤ R.slots)
    (k : ∀ T' h' b, Wk Z own nm bytes ml ret R n0 p l e s m args below meth c T' c2 s2 h' → b = h.size → n0 ≤ b → Ext h h' → Exa Z h' b C → (∀ {O nm d : String} {ty : FieldType}, Laid Z a0 C O nm d → parseFieldDescriptor d = some ty → Fld Z h' b O nm d (defaultValue ty)) → Goes p e below s R n0 Q (T'.setTop (mkF m q Ls (.ref b :: st)))) : Goes p e below s R n0 Q (T.setTop (mkF m pc Ls st)) := by
  obtain ⟨locs, X, N, eh, hn, hx, hZ, hby, hml, hown, hnm, hret, hlk⟩ := X
  subst hby hq hc hs
  obtain ⟨T', h', X', e', E', A', D', -, stp⟩ := newO X hx hZ hown w wi wz eh (g := mkF m pc Ls st) rfl hd hcR hsR
  exact g_of stp (k T' h' _ ⟨locs, X', N, e', hn, hx, hZ, rfl, hml, hown, hnm, hret, hlk⟩ rfl (Wk.size ⟨locs, X, N, eh, hn, hx, hZ, rfl, hml, hown, hnm, hret, hlk⟩) E' A' D')
theorem g_initO (X : Wk Z own nm bytes ml ret R n0 p l e s m args below meth c T cells slots h) {index : Nat} (w1 : (Jvm.Cond.methodLink own index Lib.objectInit).before a0 Z = true) (w2 : (Jvm.Cond.instanceMethod Lib.objectInit).before a0 Z = true) (w3 : (Jvm.Cond.code Lib.objectInit ⟨#[0xb1]⟩ 1 none).before a0 Z = true) {a : Addr} {pc q W : Nat} {Ls : Array Slot} {rest : List Value} (hd : decode bytes pc = .ok (.invokespecial index, 3)) (hq : pc + 3 = q) (hLs : Ls.size = ml) (hf : 1 ≤ R.frames) (hW : (rest.map fun v => v.category).sum = W) (hl : W + 12 ≤ R.locals)
    (k : ∀ T', Wk Z own nm bytes ml ret R n0 p l e s m args below meth c T' cells slots h → Goes p e below s R n0 Q (T'.setTop (mkF m q Ls rest))) : Goes p e below s R n0 Q (T.setTop (mkF m pc Ls (.ref a :: rest))) := by
  obtain ⟨locs, X, N, eh, hn, hx, hZ, hby, hml, hown, hnm, hret, hlk⟩ := X
  subst hby hq
  obtain ⟨T', X', e', st⟩ := initO X hx hZ hown w1 w2 w3 eh (g := mkF m pc Ls (.ref a :: rest)) rfl (hLs.trans hml.symm) rfl hd hf (W := W) (by show 2 * 0 + _ ≤ _; omega) hl
  exact g_of st (k T' ⟨locs, X', N, e', hn, hx, hZ, rfl, hml, hown, hnm, hret, hlk⟩)
theorem own_back {index W : Nat} {y : MethodName} {yb : ByteArray} {yml : Nat} {yret : Option FieldType} {Ry : Room} {as' : Array Value} {len : Nat} {Qy : Option Value → Heap → Prop} (hZ : Z.Warmed39 s.vm) (w3 : (Jvm.Cond.initialized y.cls).before a0 Z = true) (w4 : (Jvm.Cond.code y yb yml yret).before a0 Z = true) (hM : Met l Z y yb yml yret Ry [] n0 as' h Qy) (hf : Ry.frames + 1 ≤ R.frames) (hlc : W + (yml + 11) + Ry.locals ≤ R.locals) :
    Back l R p e below s args y len W (fun A a => a = as' ∧ A.U.heap = h ∧ A.cells + Ry.cells ≤ R.cells ∧ A.slots + Ry.slots ≤ R.slots)
      (fun A _ v B => ∃ L, (Fr n0 L ∧ Qy v B.U.heap) ∧ B.locs = A.locs ++ L ∧ B.cells = A.cells + Ry.cells ∧ B.slots = A.slots + Ry.slots) :=
  backOf (Q := fun v h L => Fr n0 L ∧ Qy v h) hM hZ w4 w3 hf hlc
theorem g_callS (X : Wk Z own nm bytes ml ret R n0 p l e s m args below meth c T cells slots h) {index : Nat} {y : MethodName} {yb : ByteArray} {yml : Nat} {yret : Option FieldType} {Ry : Room} {Qy : Option Value → Heap → Prop} {ps : List FieldType} {r : Option FieldType} (as rest : List Value) (w1 : (Jvm.Cond.methodLink own index y).before a0 Z = true) (w2 : (Jvm.Cond.static y).before a0 Z = true) (w3 : (Jvm.Cond.initialized y.cls).before a0 Z = true) (w4 : (Jvm.Cond.code y yb yml yret).before a0 Z = true) (hy : y.cls ≠ "java/lang/invoke/MethodHandle" ∧ y.cls ≠ "java/lang/invoke/VarHandle") (hM : Met l Z y yb yml yret Ry [] n0 as.toArray h Qy) (hp : parseMethodDescriptor y.desc = some ⟨ps, r⟩) (hl : as.length = ps.length)
    {pc q c2 s2 W : Nat} {Ls : Array Slot} {st : List Value} (hst : st = as.reverse ++ rest) (hLs : Ls.size = ml) (hd : decode bytes pc = .ok (.invokestatic index, 3)) (hq : pc + 3 = q) (hW : (rest.map fun v => v.category).sum = W) (hf : Ry.frames + 1 ≤ R.frames) (hlc : W + (yml + 11) + Ry.locals ≤ R.locals) (hc : cells + Ry.cells = c2) (hs : slots + Ry.slots = s2) (hcR : c2 ≤ R.cells) (hsR : s2 ≤ R.slots)
    (k : ∀ v T' h', Wk Z own nm bytes ml ret R n0 p l e s m args below meth c T' c2 s2 h' → Qy v h' → Goes p e below s R n0 Q (T'.setTop (mkF m q Ls (v.toList ++ rest)))) : Goes p e below s R n0 Q (T.setTop (mkF m pc Ls st)) := by
  obtain ⟨locs, X, N, eh, hn, hx, hZ, hby, hml, hown, hnm, hret, hlk⟩ := X
  subst hby hq hc hs hst
  obtain ⟨v, _, ⟨T', L', k', n'⟩, -, X', ⟨Lc, ⟨hF, hQy⟩, l', y', z'⟩, stp⟩ := Jvm.LawKit.callS X hx (y := y) hown (mvT hZ w1) (mvT hZ w2) (mvT hZ w3) (mvT hZ w4) hy (own_back (index := index) (W := W) hZ w3 w4 hM hf hlc) (g := mkF m pc Ls (as.reverse ++ rest)) rfl (hLs.trans hml.symm) (argsL := as) (rest := rest) (lenOf hp hl) rfl (by show 2 * 0 + _ ≤ _; omega) hd (fun _ _ => ⟨rfl, eh, hcR, hsR⟩)
  dsimp only [Pt.U, Pt.locs, Pt.cells, Pt.slots] at X' l' y' z' stp hQy
  subst l' y' z'
  exact g_of stp (k v T' _ ⟨_, X', Fr.app N hF, rfl, hn, hx, hZ, rfl, hml, hown, hnm, hret, hlk⟩ hQy)
theorem g_callI (X : Wk Z own nm bytes ml ret R n0 p l e s m args below meth c T cells slots h) {index : Nat} {y : MethodName} {yb : ByteArray} {yml : Nat} {Ry : Room} {Qy : Option Value → Heap → Prop} {ps : List FieldType} {r : Option FieldType} {a : Addr} (as rest : List Value) (hy1 : y.name = "<init>") (w1 : (Jvm.Cond.methodLink own index y).before a0 Z = true) (w2 : (Jvm.Cond.instanceMethod y).before a0 Z = true) (w3 : (Jvm.Cond.initialized y.cls).before a0 Z = true) (w4 : (Jvm.Cond.code y yb yml none).before a0 Z = true) (hy : y.cls ≠ "java/lang/invoke/MethodHandle" ∧ y.cls ≠ "java/lang/invoke/VarHandle") (hM : Met l Z y yb yml none Ry [] n0 (.ref a :: as).toArray h Qy) (hp : parseMethodDescriptor y.desc = some ⟨ps, r⟩) (hl : as.length = ps.length)
    {pc q c2 s2 W : Nat} {Ls : Array Slot} {st : List Value} (hst : st = as.reverse ++ .ref a :: rest) (hLs : Ls.size = ml) (hd : decode bytes pc = .ok (.invokespecial index, 3)) (hq : pc + 3 = q) (hW : (rest.map fun v => v.category).sum = W) (hf : Ry.frames + 1 ≤ R.frames) (hlc : W + (yml + 11) + Ry.locals ≤ R.locals) (hc : cells + Ry.cells = c2) (hs : slots + Ry.slots = s2) (hcR : c2 ≤ R.cells) (hsR : s2 ≤ R.slots)
    (k : ∀ v T' h', Wk Z own nm bytes ml ret R n0 p l e s m args below meth c T' c2 s2 h' → Qy v h' → Goes p e below s R n0 Q (T'.setTop (mkF m q Ls (v.toList ++ rest)))) : Goes p e below s R n0 Q (T.setTop (mkF m pc Ls st)) := by
  obtain ⟨locs, X, N, eh, hn, hx, hZ, hby, hml, hown, hnm, hret, hlk⟩ := X
  subst hby hq hc hs hst
  obtain ⟨v, _, ⟨T', L', k', n'⟩, -, X', ⟨Lc, ⟨hF, hQy⟩, l', y', z'⟩, stp⟩ := X.specialBack hx (y := y) hy1 hown (mvT hZ w1) (mvT hZ w2) (mvT hZ w4) hy (own_back (index := index) (W := W) hZ w3 w4 hM hf hlc) (g := mkF m pc Ls (as.reverse ++ .ref a :: rest)) rfl (hLs.trans hml.symm) (Steps.refl _) (a := a) (argsL := as) (rest := rest) (lenOf hp hl) rfl (by show 2 * 0 + _ ≤ _; omega) hd (fun _ _ => ⟨rfl, eh, hcR, hsR⟩)
  dsimp only [Pt.U, Pt.locs, Pt.cells, Pt.slots] at X' l' y' z' stp hQy
  subst l' y' z'
  exact g_of (fun _ r => stp.trans r) (k v T' _ ⟨_, X', Fr.app N hF, rfl, hn, hx, hZ, rfl, hml, hown, hnm, hret, hlk⟩ hQy)
theorem g_callV (X : Wk Z own nm bytes ml ret R n0 p l e s m args below meth c T cells slots h) {index : Nat} {y : MethodName} {yb : ByteArray} {yml : Nat} {yret : Option FieldType} {Ry : Room} {Qy : Option Value → Heap → Prop} {ps : List FieldType} {r : Option FieldType} {a : Addr} {C : String} (E : Exa Z h a C) (as rest : List Value) (w1 : (Jvm.Cond.methodLink own index y).before a0 Z = true) (w2 : (Jvm.Cond.declares y).before a0 Z = true) (w5 : (Jvm.Cond.selects C y y).before a0 Z = true) (w6 : (Jvm.Cond.instanceMethod y).before a0 Z = true) (w3 : (Jvm.Cond.initialized y.cls).before a0 Z = true) (w4 : (Jvm.Cond.code y yb yml yret).before a0 Z = true) (hy : y.cls ≠ "java/lang/invoke/MethodHandle" ∧ y.cls ≠ "java/lang/invoke/VarHandle") (hM : Met l Z y yb yml yret Ry [] n0 (.ref a :: as).toArray h Qy) (hp : parseMethodDescriptor y.desc = some ⟨ps, r⟩) (hl : as.length = ps.length)
    {pc q c2 s2 W : Nat} {Ls : Array Slot} {st : List Value} (hst : st = as.reverse ++ .ref a :: rest) (hLs : Ls.size = ml) (hd : decode bytes pc = .ok (.invokevirtual index, 3)) (hq : pc + 3 = q) (hW : (rest.map fun v => v.category).sum = W) (hf : Ry.frames + 1 ≤ R.frames) (hlc : W + (yml + 11) + Ry.locals ≤ R.locals) (hc : cells + Ry.cells = c2) (hs : slots + Ry.slots = s2) (hcR : c2 ≤ R.cells) (hsR : s2 ≤ R.slots)
    (k : ∀ v T' h', Wk Z own nm bytes ml ret R n0 p l e s m args below meth c T' c2 s2 h' → Qy v h' → Goes p e below s R n0 Q (T'.setTop (mkF m q Ls (v.toList ++ rest)))) : Goes p e below s R n0 Q (T.setTop (mkF m pc Ls st)) := by
  obtain ⟨locs, X, N, eh, hn, hx, hZ, hby, hml, hown, hnm, hret, hlk⟩ := X
  subst hby hq hc hs hst
  obtain ⟨cq, kq, qa, qb, qc⟩ := isOf hZ eh E
  obtain ⟨v, _, ⟨T', L', k', n'⟩, -, X', ⟨Lc, ⟨hF, hQy⟩, l', y', z'⟩, stp⟩ := X.virtualBack hx (y := y) (z := y) hown (mvT hZ w1) (mvT hZ w2) (notFace_of_selects (args := #[]) (mvT hZ w5)) (mvT hZ w5) (mvT hZ w6) hy (own_back (index := index) (W := W) hZ w3 w4 hM hf hlc) qa qc (g := mkF m pc Ls (as.reverse ++ .ref a :: rest)) rfl (hLs.trans hml.symm) (Steps.refl _) (argsL := as) (rest := rest) (lenOf hp hl) rfl (by show 2 * 0 + _ ≤ _; omega) hd (fun _ _ => ⟨rfl, eh, hcR, hsR⟩)
  dsimp only [Pt.U, Pt.locs, Pt.cells, Pt.slots] at X' l' y' z' stp hQy
  subst l' y' z'
  exact g_of (fun _ r => stp.trans r) (k v T' _ ⟨_, X', Fr.app N hF, rfl, hn, hx, hZ, rfl, hml, hown, hnm, hret, hlk⟩ hQy)
theorem g_callP (X : Wk Z own nm bytes ml ret R n0 p l e s m args below meth c T cells slots h) {index : Nat} {y : MethodName} {yb : ByteArray} {yml : Nat} {yret : Option FieldType} {Ry : Room} {Qy : Option Value → Heap → Prop} {ps : List FieldType} {r : Option FieldType} {a : Addr} {C : String} (E : Exa Z h a C) (as rest : List Value) (w1 : (Jvm.Cond.methodLink own index y).before a0 Z = true) (w5 : (Jvm.Cond.selects y.cls y y).before a0 Z = true) (w6 : (Jvm.Cond.instanceMethod y).before a0 Z = true) (w7 : (Jvm.Cond.privateMethod y).before a0 Z = true) (w3 : (Jvm.Cond.initialized y.cls).before a0 Z = true) (w4 : (Jvm.Cond.code y yb yml yret).before a0 Z = true) (hy : y.cls ≠ "java/lang/invoke/MethodHandle" ∧ y.cls ≠ "java/lang/invoke/VarHandle") (hM : Met l Z y yb yml yret Ry [] n0 (.ref a :: as).toArray h Qy) (hp : parseMethodDescriptor y.desc = some ⟨ps, r⟩) (hl : as.length = ps.length)
    {pc q c2 s2 W : Nat} {Ls : Array Slot} {st : List Value} (hst : st = as.reverse ++ .ref a :: rest) (hLs : Ls.size = ml) (hd : decode bytes pc = .ok (.invokevirtual index, 3)) (hq : pc + 3 = q) (hW : (rest.map fun v => v.category).sum = W) (hf : Ry.frames + 1 ≤ R.frames) (hlc : W + (yml + 11) + Ry.locals ≤ R.locals) (hc : cells + Ry.cells = c2) (hs : slots + Ry.slots = s2) (hcR : c2 ≤ R.cells) (hsR : s2 ≤ R.slots)
    (k : ∀ v T' h', Wk Z own nm bytes ml ret R n0 p l e s m args below meth c T' c2 s2 h' → Qy v h' → Goes p e below s R n0 Q (T'.setTop (mkF m q Ls (v.toList ++ rest)))) : Goes p e below s R n0 Q (T.setTop (mkF m pc Ls st)) := by
  obtain ⟨locs, X, N, eh, hn, hx, hZ, hby, hml, hown, hnm, hret, hlk⟩ := X
  subst hby hq hc hs hst
  obtain ⟨cq, q1, q2⟩ := E.cell
  obtain ⟨v, _, ⟨T', L', k', n'⟩, -, X', ⟨Lc, ⟨hF, hQy⟩, l', y', z'⟩, stp⟩ := X.privateBack hx (y := y) hown (mvT hZ w1) (mvT hZ w6) (mvT hZ w5) (Cond.privateMethod_at (mvP hZ w7 (args := #[]))) (mvT hZ w4) hy (own_back (index := index) (W := W) hZ w3 w4 hM hf hlc) (g := mkF m pc Ls (as.reverse ++ .ref a :: rest)) rfl (hLs.trans hml.symm) (Steps.refl _) (a := a) (by rw [eh]; exact q1) q2 (argsL := as) (rest := rest) (lenOf hp hl) rfl (by show 2 * 0 + _ ≤ _; omega) hd (fun _ _ => ⟨rfl, eh, hcR, hsR⟩)
  dsimp only [Pt.U, Pt.locs, Pt.cells, Pt.slots] at X' l' y' z' stp hQy
  subst l' y' z'
  exact g_of (fun _ r => stp.trans r) (k v T' _ ⟨_, X', Fr.app N hF, rfl, hn, hx, hZ, rfl, hml, hown, hnm, hret, hlk⟩ hQy)

theorem g_alenI (X : Wk Z own nm bytes ml ret R n0 p l e s m args below meth c T cells slots h) {a : Addr} {ty : FieldType} {n : Nat} {f : Nat → Int32} (A : AI Z h a ty n f) {pc q : Nat} {Ls : Array Slot} {rest : List Value} (hd : decode bytes pc = .ok (.arraylength, 1)) (hq : pc + 1 = q) (k : Goes p e below s R n0 Q (T.setTop (mkF m q Ls (.int n.toInt32 :: rest)))) : Goes p e below s R n0 Q (T.setTop (mkF m pc Ls (.ref a :: rest))) := by
  obtain ⟨locs, X, N, eh, hn, hx, hZ, hby, hml, hown, hnm, hret, hlk⟩ := X
  obtain ⟨z, cl, A, r1, r2⟩ := A
  subst hby hq r1
  exact g_of (fun t r => X.arraylength hx (by rw [eh]; exact A.1) (State.isArrayOf_alike hZ.alike A.2.1) (g := mkF m pc Ls (.ref a :: rest)) rfl rfl hd t r) k
theorem g_alenJ (X : Wk Z own nm bytes ml ret R n0 p l e s m args below meth c T cells slots h) {a : Addr} {n : Nat} {f : Nat → Int64} (A : AJ Z h a n f) {pc q : Nat} {Ls : Array Slot} {rest : List Value} (hd : decode bytes pc = .ok (.arraylength, 1)) (hq : pc + 1 = q) (k : Goes p e below s R n0 Q (T.setTop (mkF m q Ls (.int n.toInt32 :: rest)))) : Goes p e below s R n0 Q (T.setTop (mkF m pc Ls (.ref a :: rest))) := by
  obtain ⟨locs, X, N, eh, hn, hx, hZ, hby, hml, hown, hnm, hret, hlk⟩ := X
  obtain ⟨z, cl, A, r1, r2⟩ := A
  subst hby hq r1
  exact g_of (fun t r => X.arraylength hx (by rw [eh]; exact A.1) (State.isArrayOf_alike hZ.alike A.2.1) (g := mkF m pc Ls (.ref a :: rest)) rfl rfl hd t r) k
theorem g_iaload (X : Wk Z own nm bytes ml ret R n0 p l e s m args below meth c T cells slots h) {a : Addr} {n : Nat} {f : Nat → Int32} (A : AI Z h a .int n f) {j : Int32} (hj : 0 ≤ j.toInt ∧ j.toInt < n) {pc q : Nat} {Ls : Array Slot} {rest : List Value} (hd : decode bytes pc = .ok (.iaload, 1)) (hq : pc + 1 = q) (k : Goes p e below s R n0 Q (T.setTop (mkF m q Ls (.int (f j.toNatClampNeg) :: rest)))) : Goes p e below s R n0 Q (T.setTop (mkF m pc Ls (.int j :: .ref a :: rest))) := by
  obtain ⟨locs, X, N, eh, hn, hx, hZ, hby, hml, hown, hnm, hret, hlk⟩ := X
  obtain ⟨z, cl, A, r1, r2⟩ := A
  subst hby hq
  exact g_of (fun t r => X.iaload hx (j := j) (by rw [eh]; exact A.1) (State.isArrayOf_alike hZ.alike A.2.1) A.2.2 (own_ix r1 hj) (r2 _ (own_ixn hj)) (g := mkF m pc Ls (.int j :: .ref a :: rest)) rfl rfl hd t r) k
theorem g_laload (X : Wk Z own nm bytes ml ret R n0 p l e s m args below meth c T cells slots h) {a : Addr} {n : Nat} {f : Nat → Int64} (A : AJ Z h a n f) {j : Int32} (hj : 0 ≤ j.toInt ∧ j.toInt < n) {pc q : Nat} {Ls : Array Slot} {rest : List Value} (hd : decode bytes pc = .ok (.laload, 1)) (hq : pc + 1 = q) (k : Goes p e below s R n0 Q (T.setTop (mkF m q Ls (.long (f j.toNatClampNeg) :: rest)))) : Goes p e below s R n0 Q (T.setTop (mkF m pc Ls (.int j :: .ref a :: rest))) := by
  obtain ⟨locs, X, N, eh, hn, hx, hZ, hby, hml, hown, hnm, hret, hlk⟩ := X
  obtain ⟨z, cl, A, r1, r2⟩ := A
  subst hby hq
  exact g_of (fun t r => X.laload hx (j := j) (by rw [eh]; exact A.1) (State.isArrayOf_alike hZ.alike A.2.1) A.2.2 (own_ix r1 hj) (r2 _ (own_ixn hj)) (g := mkF m pc Ls (.int j :: .ref a :: rest)) rfl rfl hd t r) k
theorem g_baload (X : Wk Z own nm bytes ml ret R n0 p l e s m args below meth c T cells slots h) {a : Addr} {n : Nat} {f : Nat → Int32} (A : AI Z h a .byte n f) {j : Int32} (hj : 0 ≤ j.toInt ∧ j.toInt < n) {pc q : Nat} {Ls : Array Slot} {rest : List Value} (hd : decode bytes pc = .ok (.baload, 1)) (hq : pc + 1 = q) (k : Goes p e below s R n0 Q (T.setTop (mkF m q Ls (.int (f j.toNatClampNeg) :: rest)))) : Goes p e below s R n0 Q (T.setTop (mkF m pc Ls (.int j :: .ref a :: rest))) := by
  obtain ⟨locs, X, N, eh, hn, hx, hZ, hby, hml, hown, hnm, hret, hlk⟩ := X
  obtain ⟨z, cl, A, r1, r2⟩ := A
  subst hby hq
  exact g_of (fun t r => X.baloadBytes hx (j := j) (by rw [eh]; exact A.1) (State.isArrayOf_alike hZ.alike A.2.1) A.2.2 (own_ix r1 hj) (r2 _ (own_ixn hj)) (g := mkF m pc Ls (.int j :: .ref a :: rest)) rfl rfl hd t r) k
theorem g_zaload (X : Wk Z own nm bytes ml ret R n0 p l e s m args below meth c T cells slots h) {a : Addr} {n : Nat} {f : Nat → Int32} (A : AI Z h a .boolean n f) {j : Int32} (hj : 0 ≤ j.toInt ∧ j.toInt < n) {pc q : Nat} {Ls : Array Slot} {rest : List Value} (hd : decode bytes pc = .ok (.baload, 1)) (hq : pc + 1 = q) (k : Goes p e below s R n0 Q (T.setTop (mkF m q Ls (.int (f j.toNatClampNeg) :: rest)))) : Goes p e below s R n0 Q (T.setTop (mkF m pc Ls (.int j :: .ref a :: rest))) := by
  obtain ⟨locs, X, N, eh, hn, hx, hZ, hby, hml, hown, hnm, hret, hlk⟩ := X
  obtain ⟨z, cl, A, r1, r2⟩ := A
  subst hby hq
  exact g_of (fun t r => X.baloadBooleans hx (j := j) (by rw [eh]; exact A.1) (State.isArrayOf_alike hZ.alike A.2.1) A.2.2 (own_ix r1 hj) (r2 _ (own_ixn hj)) (g := mkF m pc Ls (.int j :: .ref a :: rest)) rfl rfl hd t r) k
theorem g_iastore (X : Wk Z own nm bytes ml ret R n0 p l e s m args below meth c T cells slots h) {a : Addr} {n : Nat} {f : Nat → Int32} (A : AI Z h a .int n f) {j : Int32} {x : Int32} (hj : 0 ≤ j.toInt ∧ j.toInt < n) (ga : n0 ≤ a) {pc q : Nat} {Ls : Array Slot} {rest : List Value} (hd : decode bytes pc = .ok (.iastore, 1)) (hq : pc + 1 = q) (k : ∀ T' h', Wk Z own nm bytes ml ret R n0 p l e s m args below meth c T' cells slots h' → Wr h h' a j.toNatClampNeg (.int x) → Goes p e below s R n0 Q (T'.setTop (mkF m q Ls rest))) : Goes p e below s R n0 Q (T.setTop (mkF m pc Ls (.int x :: .int j :: .ref a :: rest))) := by
  obtain ⟨locs, X, N, eh, hn, hx, hZ, hby, hml, hown, hnm, hret, hlk⟩ := X
  obtain ⟨z, cl, A, r1, r2⟩ := A
  subst hby hq
  obtain ⟨T', h', X', e', W', st⟩ := stI X hx hZ eh A (j := j) (own_ix r1 hj) (g := mkF m pc Ls (.int x :: .int j :: .ref a :: rest)) rfl rfl hd
  exact g_of st (k T' h' ⟨_, X', Fr.snoc X' N ga, e', hn, hx, hZ, rfl, hml, hown, hnm, hret, hlk⟩ W')
theorem g_lastore (X : Wk Z own nm bytes ml ret R n0 p l e s m args below meth c T cells slots h) {a : Addr} {n : Nat} {f : Nat → Int64} (A : AJ Z h a n f) {j : Int32} {x : Int64} (hj : 0 ≤ j.toInt ∧ j.toInt < n) (ga : n0 ≤ a) {pc q : Nat} {Ls : Array Slot} {rest : List Value} (hd : decode bytes pc = .ok (.lastore, 1)) (hq : pc + 1 = q) (k : ∀ T' h', Wk Z own nm bytes ml ret R n0 p l e s m args below meth c T' cells slots h' → Wr h h' a j.toNatClampNeg (.long x) → Goes p e below s R n0 Q (T'.setTop (mkF m q Ls rest))) : Goes p e below s R n0 Q (T.setTop (mkF m pc Ls (.long x :: .int j :: .ref a :: rest))) := by
  obtain ⟨locs, X, N, eh, hn, hx, hZ, hby, hml, hown, hnm, hret, hlk⟩ := X
  obtain ⟨z, cl, A, r1, r2⟩ := A
  subst hby hq
  obtain ⟨T', h', X', e', W', st⟩ := stJ X hx hZ eh A (j := j) (own_ix r1 hj) (g := mkF m pc Ls (.long x :: .int j :: .ref a :: rest)) rfl rfl hd
  exact g_of st (k T' h' ⟨_, X', Fr.snoc X' N ga, e', hn, hx, hZ, rfl, hml, hown, hnm, hret, hlk⟩ W')
theorem g_bastore (X : Wk Z own nm bytes ml ret R n0 p l e s m args below meth c T cells slots h) {a : Addr} {n : Nat} {f : Nat → Int32} (A : AI Z h a .byte n f) {j : Int32} {x : Int32} (hj : 0 ≤ j.toInt ∧ j.toInt < n) (ga : n0 ≤ a) {pc q : Nat} {Ls : Array Slot} {rest : List Value} (hd : decode bytes pc = .ok (.bastore, 1)) (hq : pc + 1 = q) (k : ∀ T' h', Wk Z own nm bytes ml ret R n0 p l e s m args below meth c T' cells slots h' → Wr h h' a j.toNatClampNeg (.int (nar .byte x)) → Goes p e below s R n0 Q (T'.setTop (mkF m q Ls rest))) : Goes p e below s R n0 Q (T.setTop (mkF m pc Ls (.int x :: .int j :: .ref a :: rest))) := by
  obtain ⟨locs, X, N, eh, hn, hx, hZ, hby, hml, hown, hnm, hret, hlk⟩ := X
  obtain ⟨z, cl, A, r1, r2⟩ := A
  subst hby hq
  obtain ⟨T', h', X', e', W', st⟩ := stB X hx hZ eh A (j := j) (own_ix r1 hj) (g := mkF m pc Ls (.int x :: .int j :: .ref a :: rest)) rfl rfl hd
  exact g_of st (k T' h' ⟨_, X', Fr.snoc X' N ga, e', hn, hx, hZ, rfl, hml, hown, hnm, hret, hlk⟩ W')
theorem g_zastore (X : Wk Z own nm bytes ml ret R n0 p l e s m args below meth c T cells slots h) {a : Addr} {n : Nat} {f : Nat → Int32} (A : AI Z h a .boolean n f) {j : Int32} {x : Int32} (hj : 0 ≤ j.toInt ∧ j.toInt < n) (ga : n0 ≤ a) {pc q : Nat} {Ls : Array Slot} {rest : List Value} (hd : decode bytes pc = .ok (.bastore, 1)) (hq : pc + 1 = q) (hz : x = 0 ∨ x = 1) (k : ∀ T' h', Wk Z own nm bytes ml ret R n0 p l e s m args below meth c T' cells slots h' → Wr h h' a j.toNatClampNeg (.int x) → Goes p e below s R n0 Q (T'.setTop (mkF m q Ls rest))) : Goes p e below s R n0 Q (T.setTop (mkF m pc Ls (.int x :: .int j :: .ref a :: rest))) := by
  obtain ⟨locs, X, N, eh, hn, hx, hZ, hby, hml, hown, hnm, hret, hlk⟩ := X
  obtain ⟨z, cl, A, r1, r2⟩ := A
  subst hby hq
  obtain ⟨T', h', X', e', W', st⟩ := stZ X hx hZ eh A (j := j) (own_ix r1 hj) (g := mkF m pc Ls (.int x :: .int j :: .ref a :: rest)) rfl rfl hd
  rw [own_narZ' hz] at W'
  exact g_of st (k T' h' ⟨_, X', Fr.snoc X' N ga, e', hn, hx, hZ, rfl, hml, hown, hnm, hret, hlk⟩ W')
theorem g_newarrI (X : Wk Z own nm bytes ml ret R n0 p l e s m args below meth c T cells slots h) {aty : ArrayType} (ht : defaultValue (newarray.typeOf aty) = .int 0) (w : (Jvm.Cond.arrayClass (newarray.typeOf aty)).before a0 Z = true) {n : Int32} {pc q c2 s2 cap : Nat} {Ls : Array Slot} {rest : List Value} (hd : decode bytes pc = .ok (.newarray aty, 2)) (hq : pc + 2 = q) (h0n : ¬ n < 0) (hcap : n.toNatClampNeg ≤ cap) (hbig : cap * 8 ≤ 536870912) (hc : cells + 1 = c2) (hs : slots + cap = s2) (hcR : c2 ≤ R.cells) (hsR : s2 ≤ R.slots)
    (k : ∀ T' h' b, Wk Z own nm bytes ml ret R n0 p l e s m args below meth c T' c2 s2 h' → b = h.size → n0 ≤ b → Ext h h' → AI Z h' b (newarray.typeOf aty) n.toNatClampNeg (fun _ => 0) → Goes p e below s R n0 Q (T'.setTop (mkF m q Ls (.ref b :: rest)))) : Goes p e below s R n0 Q (T.setTop (mkF m pc Ls (.int n :: rest))) := by
  obtain ⟨locs, X, N, eh, hn, hx, hZ, hby, hml, hown, hnm, hret, hlk⟩ := X
  subst hby hq hc hs
  obtain ⟨T', h', cA, X', e', E', A', stp⟩ := newP X hx hZ (aty := aty) w eh (g := mkF m pc Ls (.int n :: rest)) rfl hd rfl h0n hcap hbig hcR hsR
  refine g_of stp (k T' h' _ ⟨locs, X', N, e', hn, hx, hZ, rfl, hml, hown, hnm, hret, hlk⟩ rfl (Wk.size ⟨locs, X, N, eh, hn, hx, hZ, rfl, hml, hown, hnm, hret, hlk⟩) E' ⟨(back32 h0n).2, _, A', sz_new _ _ _, fun j hj => ?_⟩)
  simp only [newA, Array.getElem?_replicate, hj, if_true]
  rw [ht]
theorem g_newarrJ (X : Wk Z own nm bytes ml ret R n0 p l e s m args below meth c T cells slots h)  (w : (Jvm.Cond.arrayClass .long).before a0 Z = true) {n : Int32} {pc q c2 s2 cap : Nat} {Ls : Array Slot} {rest : List Value} (hd : decode bytes pc = .ok (.newarray .long, 2)) (hq : pc + 2 = q) (h0n : ¬ n < 0) (hcap : n.toNatClampNeg ≤ cap) (hbig : cap * 8 ≤ 536870912) (hc : cells + 1 = c2) (hs : slots + cap = s2) (hcR : c2 ≤ R.cells) (hsR : s2 ≤ R.slots)
    (k : ∀ T' h' b, Wk Z own nm bytes ml ret R n0 p l e s m args below meth c T' c2 s2 h' → b = h.size → n0 ≤ b → Ext h h' → AJ Z h' b n.toNatClampNeg (fun _ => 0) → Goes p e below s R n0 Q (T'.setTop (mkF m q Ls (.ref b :: rest)))) : Goes p e below s R n0 Q (T.setTop (mkF m pc Ls (.int n :: rest))) := by
  obtain ⟨locs, X, N, eh, hn, hx, hZ, hby, hml, hown, hnm, hret, hlk⟩ := X
  subst hby hq hc hs
  obtain ⟨T', h', cA, X', e', E', A', stp⟩ := newP X hx hZ (aty := .long) w eh (g := mkF m pc Ls (.int n :: rest)) rfl hd rfl h0n hcap hbig hcR hsR
  refine g_of stp (k T' h' _ ⟨locs, X', N, e', hn, hx, hZ, rfl, hml, hown, hnm, hret, hlk⟩ rfl (Wk.size ⟨locs, X, N, eh, hn, hx, hZ, rfl, hml, hown, hnm, hret, hlk⟩) E' ⟨(back32 h0n).2, _, A', sz_new _ _ _, fun j hj => ?_⟩)
  simp only [newA, Array.getElem?_replicate, hj, if_true]
  rfl
theorem g_acopyJ (X : Wk Z own nm bytes ml ret R n0 p l e s m args below meth c T cells slots h) {index : Nat} (w1 : (Jvm.Cond.methodLink own index Jvm.Stand.acN).before a0 Z = true) (w2 : (Jvm.Cond.native Jvm.Stand.acN).before a0 Z = true) (w3 : (Jvm.Cond.static Jvm.Stand.acN).before a0 Z = true) (w4 : (Jvm.Cond.initialized "java/lang/System").before a0 Z = true) {a b : Addr} {n n' : Nat} {f f' : Nat → Int64} (A : AJ Z h a n f) (B : AJ Z h b n' f') {nn : Int32} (h3 : ¬ nn < 0) (h4 : nn.toNatClampNeg ≤ n) (h5 : nn.toNatClampNeg ≤ n') (ga : n0 ≤ b) {pc q W : Nat} {Ls : Array Slot} {rest : List Value} (hLs : Ls.size = ml) (hd : decode bytes pc = .ok (.invokestatic index, 3)) (hq : pc + 3 = q) (hW : (rest.map fun v => v.category).sum = W) (hf : 1 ≤ R.frames) (hlo : W + 18 ≤ R.locals)
    (k : ∀ T' h', Wk Z own nm bytes ml ret R n0 p l e s m args below meth c T' cells slots h' → Keep h h' [b] → AJ Z h' b n' (fun j => if j < nn.toNatClampNeg then f j else f' j) → Goes p e below s R n0 Q (T'.setTop (mkF m q Ls rest))) : Goes p e below s R n0 Q (T.setTop (mkF m pc Ls (.int nn :: .int 0 :: .ref b :: .int 0 :: .ref a :: rest))) := by
  obtain ⟨locs, X, N, eh, hn, hx, hZ, hby, hml, hown, hnm, hret, hlk⟩ := X
  subst hby hq
  have zA := A.1
  have zB := B.1
  obtain ⟨kA, A'⟩ := own_arv A
  obtain ⟨kB, B'⟩ := own_arv B
  have qA := (own_clN zA).1
  have qB := (own_clN zB).1
  obtain ⟨T', h', L, X', e', N', K', C', st⟩ := cpA X hx hZ hown w1 w2 w3 w4 eh (sp := 0) (dp := 0) (nn := nn) A' B' (Or.inl ⟨rfl, rfl⟩) (by decide) (by decide) h3 (by rw [qA]; show 0 + _ ≤ _; omega) (by rw [qB]; show 0 + _ ≤ _; omega) rfl (by rw [List.length_map, List.length_range]; show 0 + _ ≤ _; omega) N ga (g := mkF m pc Ls (.int nn :: .int 0 :: .ref b :: .int 0 :: .ref a :: rest)) rfl (hLs.trans hml.symm) (rest := rest) rfl hd hf (W := W) (by show 2 * 0 + _ ≤ _; omega) (by show W + (7 + 11) ≤ _; omega)
  exact g_of st (k T' h' ⟨L, X', N', e', hn, hx, hZ, rfl, hml, hown, hnm, hret, hlk⟩ K' (own_arvB zB C' (fun j hj => own_cpl n n' nn.toNatClampNeg f f' h4 h5 j hj)))
theorem g_jT0 (X : Wk Z own nm bytes ml ret R n0 p l e s m args below meth c T cells slots h) {J : Nat} {g : JFrame} (L : Array Slot) (S : List Value) (rest : ∀ T', Wk Z own nm bytes ml ret R n0 p l e s m args below meth c T' cells slots h → Goes p e below s R n0 Q (T'.setTop (mkF m J (L) (S)))) (here : (∀ T', Wk Z own nm bytes ml ret R n0 p l e s m args below meth c T' cells slots h → Goes p e below s R n0 Q (T'.setTop (mkF m J (L) (S)))) → Goes p e below s R n0 Q (T.setTop g)) : Goes p e below s R n0 Q (T.setTop g) := here rest
theorem g_jT1 {α : Type} (X : Wk Z own nm bytes ml ret R n0 p l e s m args below meth c T cells slots h) {J : Nat} {g : JFrame} (P : α → Prop) (L : α → Array Slot) (S : α → List Value) (rest : ∀ T', Wk Z own nm bytes ml ret R n0 p l e s m args below meth c T' cells slots h → ∀ a, P a → Goes p e below s R n0 Q (T'.setTop (mkF m J (L a) (S a)))) (here : (∀ T', Wk Z own nm bytes ml ret R n0 p l e s m args below meth c T' cells slots h → ∀ a, P a → Goes p e below s R n0 Q (T'.setTop (mkF m J (L a) (S a)))) → Goes p e below s R n0 Q (T.setTop g)) : Goes p e below s R n0 Q (T.setTop g) := here rest
theorem g_jT2 {α β : Type} (X : Wk Z own nm bytes ml ret R n0 p l e s m args below meth c T cells slots h) {J : Nat} {g : JFrame} (P : α → β → Prop) (L : α → β → Array Slot) (S : α → β → List Value) (rest : ∀ T', Wk Z own nm bytes ml ret R n0 p l e s m args below meth c T' cells slots h → ∀ a b, P a b → Goes p e below s R n0 Q (T'.setTop (mkF m J (L a b) (S a b)))) (here : (∀ T', Wk Z own nm bytes ml ret R n0 p l e s m args below meth c T' cells slots h → ∀ a b, P a b → Goes p e below s R n0 Q (T'.setTop (mkF m J (L a b) (S a b)))) → Goes p e below s R n0 Q (T.setTop g)) : Goes p e below s R n0 Q (T.setTop g) := here rest
theorem g_jT3 {α β γ : Type} (X : Wk Z own nm bytes ml ret R n0 p l e s m args below meth c T cells slots h) {J : Nat} {g : JFrame} (P : α → β → γ → Prop) (L : α → β → γ → Array Slot) (S : α → β → γ → List Value) (rest : ∀ T', Wk Z own nm bytes ml ret R n0 p l e s m args below meth c T' cells slots h → ∀ a b c', P a b c' → Goes p e below s R n0 Q (T'.setTop (mkF m J (L a b c') (S a b c')))) (here : (∀ T', Wk Z own nm bytes ml ret R n0 p l e s m args below meth c T' cells slots h → ∀ a b c', P a b c' → Goes p e below s R n0 Q (T'.setTop (mkF m J (L a b c') (S a b c')))) → Goes p e below s R n0 Q (T.setTop g)) : Goes p e below s R n0 Q (T.setTop g) := here rest
theorem g_jT4 {α β γ δ : Type} (X : Wk Z own nm bytes ml ret R n0 p l e s m args below meth c T cells slots h) {J : Nat} {g : JFrame} (P : α → β → γ → δ → Prop) (L : α → β → γ → δ → Array Slot) (S : α → β → γ → δ → List Value) (rest : ∀ T', Wk Z own nm bytes ml ret R n0 p l e s m args below meth c T' cells slots h → ∀ a b c' d, P a b c' d → Goes p e below s R n0 Q (T'.setTop (mkF m J (L a b c' d) (S a b c' d)))) (here : (∀ T', Wk Z own nm bytes ml ret R n0 p l e s m args below meth c T' cells slots h → ∀ a b c' d, P a b c' d → Goes p e below s R n0 Q (T'.setTop (mkF m J (L a b c' d) (S a b c' d)))) → Goes p e below s R n0 Q (T.setTop g)) : Goes p e below s R n0 Q (T.setTop g) := here rest
theorem g_loop1 {α : Type} (X : Wk Z own nm bytes ml ret R n0 p l e s m args below meth c T cells slots h) {H : Nat} (ms : α → Nat) (I : α → Heap → Prop) (L : α → Array Slot) (S : α → List Value) (a : α) (i0 : I a h) (turn : ∀ a T' h', Wk Z own nm bytes ml ret R n0 p l e s m args below meth c T' cells slots h' → I a h' → (∀ a' T'' h'', Wk Z own nm bytes ml ret R n0 p l e s m args below meth c T'' cells slots h'' → I a' h'' → ms a' < ms a → Goes p e below s R n0 Q (T''.setTop (mkF m H (L a') (S a')))) → Goes p e below s R n0 Q (T'.setTop (mkF m H (L a) (S a)))) : Goes p e below s R n0 Q (T.setTop (mkF m H (L a) (S a))) := by
  induction hk : ms a using Nat.strongRecOn generalizing a T h with
  | _ k ih => exact turn a T h X i0 (fun a' T2 h2 X2 i2 lt => ih _ (hk ▸ lt) X2 a' i2 rfl)
theorem g_loop2 {α β : Type} (X : Wk Z own nm bytes ml ret R n0 p l e s m args below meth c T cells slots h) {H : Nat} (ms : α → β → Nat) (I : α → β → Heap → Prop) (L : α → β → Array Slot) (S : α → β → List Value) (a : α) (b : β) (i0 : I a b h) (turn : ∀ a b T' h', Wk Z own nm bytes ml ret R n0 p l e s m args below meth c T' cells slots h' → I a b h' → (∀ a' b' T'' h'', Wk Z own nm bytes ml ret R n0 p l e s m args below meth c T'' cells slots h'' → I a' b' h'' → ms a' b' < ms a b → Goes p e below s R n0 Q (T''.setTop (mkF m H (L a' b') (S a' b')))) → Goes p e below s R n0 Q (T'.setTop (mkF m H (L a b) (S a b)))) : Goes p e below s R n0 Q (T.setTop (mkF m H (L a b) (S a b))) := by
  induction hk : ms a b using Nat.strongRecOn generalizing a b T h with
  | _ k ih => exact turn a b T h X i0 (fun a' b' T2 h2 X2 i2 lt => ih _ (hk ▸ lt) X2 a' b' i2 rfl)
theorem g_loop3 {α β γ : Type} (X : Wk Z own nm bytes ml ret R n0 p l e s m args below meth c T cells slots h) {H : Nat} (ms : α → β → γ → Nat) (I : α → β → γ → Heap → Prop) (L : α → β → γ → Array Slot) (S : α → β → γ → List Value) (a : α) (b : β) (u : γ) (i0 : I a b u h) (turn : ∀ a b u T' h', Wk Z own nm bytes ml ret R n0 p l e s m args below meth c T' cells slots h' → I a b u h' → (∀ a' b' u' T'' h'', Wk Z own nm bytes ml ret R n0 p l e s m args below meth c T'' cells slots h'' → I a' b' u' h'' → ms a' b' u' < ms a b u → Goes p e below s R n0 Q (T''.setTop (mkF m H (L a' b' u') (S a' b' u')))) → Goes p e below s R n0 Q (T'.setTop (mkF m H (L a b u) (S a b u)))) : Goes p e below s R n0 Q (T.setTop (mkF m H (L a b u) (S a b u))) := by
  induction hk : ms a b u using Nat.strongRecOn generalizing a b u T h with
  | _ k ih => exact turn a b u T h X i0 (fun a' b' u' T2 h2 X2 i2 lt => ih _ (hk ▸ lt) X2 a' b' u' i2 rfl)
theorem g_loop4 {α β γ δ : Type} (X : Wk Z own nm bytes ml ret R n0 p l e s m args below meth c T cells slots h) {H : Nat} (ms : α → β → γ → δ → Nat) (I : α → β → γ → δ → Heap → Prop) (L : α → β → γ → δ → Array Slot) (S : α → β → γ → δ → List Value) (a : α) (b : β) (u : γ) (w : δ) (i0 : I a b u w h) (turn : ∀ a b u w T' h', Wk Z own nm bytes ml ret R n0 p l e s m args below meth c T' cells slots h' → I a b u w h' → (∀ a' b' u' w' T'' h'', Wk Z own nm bytes ml ret R n0 p l e s m args below meth c T'' cells slots h'' → I a' b' u' w' h'' → ms a' b' u' w' < ms a b u w → Goes p e below s R n0 Q (T''.setTop (mkF m H (L a' b' u' w') (S a' b' u' w')))) → Goes p e below s R n0 Q (T'.setTop (mkF m H (L a b u w) (S a b u w)))) : Goes p e below s R n0 Q (T.setTop (mkF m H (L a b u w) (S a b u w))) := by
  induction hk : ms a b u w using Nat.strongRecOn generalizing a b u w T h with
  | _ k ih => exact turn a b u w T h X i0 (fun a' b' u' w' T2 h2 X2 i2 lt => ih _ (hk ▸ lt) X2 a' b' u' w' i2 rfl)
theorem g_loop5 {α β γ δ ε : Type} (X : Wk Z own nm bytes ml ret R n0 p l e s m args below meth c T cells slots h) {H : Nat} (ms : α → β → γ → δ → ε → Nat) (I : α → β → γ → δ → ε → Heap → Prop) (L : α → β → γ → δ → ε → Array Slot) (S : α → β → γ → δ → ε → List Value) (a : α) (b : β) (u : γ) (w : δ) (z : ε) (i0 : I a b u w z h) (turn : ∀ a b u w z T' h', Wk Z own nm bytes ml ret R n0 p l e s m args below meth c T' cells slots h' → I a b u w z h' → (∀ a' b' u' w' z' T'' h'', Wk Z own nm bytes ml ret R n0 p l e s m args below meth c T'' cells slots h'' → I a' b' u' w' z' h'' → ms a' b' u' w' z' < ms a b u w z → Goes p e below s R n0 Q (T''.setTop (mkF m H (L a' b' u' w' z') (S a' b' u' w' z')))) → Goes p e below s R n0 Q (T'.setTop (mkF m H (L a b u w z) (S a b u w z)))) : Goes p e below s R n0 Q (T.setTop (mkF m H (L a b u w z) (S a b u w z))) := by
  induction hk : ms a b u w z using Nat.strongRecOn generalizing a b u w z T h with
  | _ k ih => exact turn a b u w z T h X i0 (fun a' b' u' w' z' T2 h2 X2 i2 lt => ih _ (hk ▸ lt) X2 a' b' u' w' z' i2 rfl)
end Walk
end Jvm.Own
namespace Jvm.Pilot.@@N@@
open Jvm Jvm.ClassFile Sem Op Lib Jvm.Free Jvm.Stand Jvm.LawKit Jvm.RoadKit Bundle Jvm.Own Jvm.Pilot.@@N@@.Jvm.D

theorem tw0 {Z : State} {a0 : Array Value} (hw : ∀ d ∈ tables_1, d.before a0 Z = true) : ((Jvm.Cond.constant "com/example/masked_merge/maskedmerge/core/PairNumbersClearPinLaw" (7 : Nat) (2147483647 : Int32))).before a0 Z = true := hw _ (List.mem_of_getElem? (i := 0) rfl)
theorem tw1 {Z : State} {a0 : Array Value} (hw : ∀ d ∈ tables_1, d.before a0 Z = true) : ((Jvm.Cond.classLink "com/example/masked_merge/maskedmerge/core/PairNumbersClearPinLaw" (8 : Nat) "com/example/masked_merge/maskedmerge/core/PairNumbers")).before a0 Z = true := hw _ (List.mem_of_getElem? (i := 1) rfl)
theorem tw2 {Z : State} {a0 : Array Value} (hw : ∀ d ∈ tables_1, d.before a0 Z = true) : ((Jvm.Cond.instantiable "com/example/masked_merge/maskedmerge/core/PairNumbers" (6 : Nat))).before a0 Z = true := hw _ (List.mem_of_getElem? (i := 2) rfl)
theorem tw3 {Z : State} {a0 : Array Value} (hw : ∀ d ∈ tables_1, d.before a0 Z = true) : ((Jvm.Cond.initialized "com/example/masked_merge/maskedmerge/core/PairNumbers")).before a0 Z = true := hw _ (List.mem_of_getElem? (i := 3) rfl)
theorem tw4 {Z : State} {a0 : Array Value} (hw : ∀ d ∈ tables_1, d.before a0 Z = true) : ((Jvm.Cond.methodLink "com/example/masked_merge/maskedmerge/core/PairNumbersClearPinLaw" (10 : Nat) ({ cls := "com/example/masked_merge/maskedmerge/core/PairNumbers", name := "<init>", desc := "(I)V" } : Jvm.MethodName))).before a0 Z = true := hw _ (List.mem_of_getElem? (i := 4) rfl)
theorem tw5 {Z : State} {a0 : Array Value} (hw : ∀ d ∈ tables_1, d.before a0 Z = true) : ((Jvm.Cond.instanceMethod ({ cls := "com/example/masked_merge/maskedmerge/core/PairNumbers", name := "<init>", desc := "(I)V" } : Jvm.MethodName))).before a0 Z = true := hw _ (List.mem_of_getElem? (i := 5) rfl)
theorem tw6 {Z : State} {a0 : Array Value} (hw : ∀ d ∈ tables_1, d.before a0 Z = true) : ((Jvm.Cond.code ({ cls := "com/example/masked_merge/maskedmerge/core/PairNumbers", name := "<init>", desc := "(I)V" } : Jvm.MethodName) prog_15_method_1_code (3 : Nat) (Option.none : Option Jvm.ClassFile.FieldType))).before a0 Z = true := hw _ (List.mem_of_getElem? (i := 6) rfl)
theorem tw7 {Z : State} {a0 : Array Value} (hw : ∀ d ∈ tables_1, d.before a0 Z = true) : ((Jvm.Cond.methodLink "com/example/masked_merge/maskedmerge/core/PairNumbers" (1 : Nat) ({ cls := "java/lang/Object", name := "<init>", desc := "()V" } : Jvm.MethodName))).before a0 Z = true := hw _ (List.mem_of_getElem? (i := 7) rfl)
theorem tw8 {Z : State} {a0 : Array Value} (hw : ∀ d ∈ tables_1, d.before a0 Z = true) : ((Jvm.Cond.instanceMethod ({ cls := "java/lang/Object", name := "<init>", desc := "()V" } : Jvm.MethodName))).before a0 Z = true := hw _ (List.mem_of_getElem? (i := 8) rfl)
theorem tw9 {Z : State} {a0 : Array Value} (hw : ∀ d ∈ tables_1, d.before a0 Z = true) : ((Jvm.Cond.code ({ cls := "java/lang/Object", name := "<init>", desc := "()V" } : Jvm.MethodName) object_method_1_code (1 : Nat) (Option.none : Option Jvm.ClassFile.FieldType))).before a0 Z = true := hw _ (List.mem_of_getElem? (i := 9) rfl)
theorem tw10 {Z : State} {a0 : Array Value} (hw : ∀ d ∈ tables_1, d.before a0 Z = true) : ((Jvm.Cond.constant "com/example/masked_merge/maskedmerge/core/PairNumbers" (9 : Nat) (536870912 : Int32))).before a0 Z = true := hw _ (List.mem_of_getElem? (i := 10) rfl)
theorem tw11 {Z : State} {a0 : Array Value} (hw : ∀ d ∈ tables_1, d.before a0 Z = true) : ((Jvm.Cond.methodLink "com/example/masked_merge/maskedmerge/core/PairNumbers" (19 : Nat) ({ cls := "java/lang/Math", name := "max", desc := "(II)I" } : Jvm.MethodName))).before a0 Z = true := hw _ (List.mem_of_getElem? (i := 11) rfl)
theorem tw12 {Z : State} {a0 : Array Value} (hw : ∀ d ∈ tables_1, d.before a0 Z = true) : ((Jvm.Cond.static ({ cls := "java/lang/Math", name := "max", desc := "(II)I" } : Jvm.MethodName))).before a0 Z = true := hw _ (List.mem_of_getElem? (i := 12) rfl)
theorem tw13 {Z : State} {a0 : Array Value} (hw : ∀ d ∈ tables_1, d.before a0 Z = true) : ((Jvm.Cond.initialized "java/lang/Math")).before a0 Z = true := hw _ (List.mem_of_getElem? (i := 13) rfl)
theorem tw14 {Z : State} {a0 : Array Value} (hw : ∀ d ∈ tables_1, d.before a0 Z = true) : ((Jvm.Cond.code ({ cls := "java/lang/Math", name := "max", desc := "(II)I" } : Jvm.MethodName) jdk_29_method_65_code (2 : Nat) (Option.some Jvm.ClassFile.FieldType.int))).before a0 Z = true := hw _ (List.mem_of_getElem? (i := 14) rfl)
theorem tw15 {Z : State} {a0 : Array Value} (hw : ∀ d ∈ tables_1, d.before a0 Z = true) : ((Jvm.Cond.methodLink "com/example/masked_merge/maskedmerge/core/PairNumbers" (25 : Nat) ({ cls := "java/lang/Integer", name := "highestOneBit", desc := "(I)I" } : Jvm.MethodName))).before a0 Z = true := hw _ (List.mem_of_getElem? (i := 15) rfl)
theorem tw16 {Z : State} {a0 : Array Value} (hw : ∀ d ∈ tables_1, d.before a0 Z = true) : ((Jvm.Cond.static ({ cls := "java/lang/Integer", name := "highestOneBit", desc := "(I)I" } : Jvm.MethodName))).before a0 Z = true := hw _ (List.mem_of_getElem? (i := 16) rfl)
theorem tw17 {Z : State} {a0 : Array Value} (hw : ∀ d ∈ tables_1, d.before a0 Z = true) : ((Jvm.Cond.initialized "java/lang/Integer")).before a0 Z = true := hw _ (List.mem_of_getElem? (i := 17) rfl)
theorem tw18 {Z : State} {a0 : Array Value} (hw : ∀ d ∈ tables_1, d.before a0 Z = true) : ((Jvm.Cond.code ({ cls := "java/lang/Integer", name := "highestOneBit", desc := "(I)I" } : Jvm.MethodName) jdk_33_method_45_code (1 : Nat) (Option.some Jvm.ClassFile.FieldType.int))).before a0 Z = true := hw _ (List.mem_of_getElem? (i := 18) rfl)
theorem tw19 {Z : State} {a0 : Array Value} (hw : ∀ d ∈ tables_1, d.before a0 Z = true) : ((Jvm.Cond.constant "java/lang/Integer" (127 : Nat) (-2147483648 : Int32))).before a0 Z = true := hw _ (List.mem_of_getElem? (i := 19) rfl)
theorem tw20 {Z : State} {a0 : Array Value} (hw : ∀ d ∈ tables_1, d.before a0 Z = true) : ((Jvm.Cond.methodLink "java/lang/Integer" (51 : Nat) ({ cls := "java/lang/Integer", name := "numberOfLeadingZeros", desc := "(I)I" } : Jvm.MethodName))).before a0 Z = true := hw _ (List.mem_of_getElem? (i := 20) rfl)
theorem tw21 {Z : State} {a0 : Array Value} (hw : ∀ d ∈ tables_1, d.before a0 Z = true) : ((Jvm.Cond.static ({ cls := "java/lang/Integer", name := "numberOfLeadingZeros", desc := "(I)I" } : Jvm.MethodName))).before a0 Z = true := hw _ (List.mem_of_getElem? (i := 21) rfl)
theorem tw22 {Z : State} {a0 : Array Value} (hw : ∀ d ∈ tables_1, d.before a0 Z = true) : ((Jvm.Cond.code ({ cls := "java/lang/Integer", name := "numberOfLeadingZeros", desc := "(I)I" } : Jvm.MethodName) jdk_33_method_47_code (2 : Nat) (Option.some Jvm.ClassFile.FieldType.int))).before a0 Z = true := hw _ (List.mem_of_getElem? (i := 22) rfl)
theorem tw23 {Z : State} {a0 : Array Value} (hw : ∀ d ∈ tables_1, d.before a0 Z = true) : ((Jvm.Cond.constant "java/lang/Integer" (264 : Nat) (65536 : Int32))).before a0 Z = true := hw _ (List.mem_of_getElem? (i := 23) rfl)
theorem tw24 {Z : State} {a0 : Array Value} (hw : ∀ d ∈ tables_1, d.before a0 Z = true) : ((Jvm.Cond.arrayClass Jvm.ClassFile.FieldType.long)).before a0 Z = true := hw _ (List.mem_of_getElem? (i := 24) rfl)
theorem tw25 {Z : State} {a0 : Array Value} (hw : ∀ d ∈ tables_1, d.before a0 Z = true) : ((Jvm.Cond.fieldLink "com/example/masked_merge/maskedmerge/core/PairNumbers" (31 : Nat) "com/example/masked_merge/maskedmerge/core/PairNumbers" "keys" "[J")).before a0 Z = true := hw _ (List.mem_of_getElem? (i := 25) rfl)
theorem tw26 {Z : State} {a0 : Array Value} (hw : ∀ d ∈ tables_1, d.before a0 Z = true) : ((Jvm.Cond.laysFinal "com/example/masked_merge/maskedmerge/core/PairNumbers" "com/example/masked_merge/maskedmerge/core/PairNumbers" "keys" "[J")).before a0 Z = true := hw _ (List.mem_of_getElem? (i := 26) rfl)
theorem tw27 {Z : State} {a0 : Array Value} (hw : ∀ d ∈ tables_1, d.before a0 Z = true) : ((Jvm.Cond.arrayClass Jvm.ClassFile.FieldType.int)).before a0 Z = true := hw _ (List.mem_of_getElem? (i := 27) rfl)
theorem tw28 {Z : State} {a0 : Array Value} (hw : ∀ d ∈ tables_1, d.before a0 Z = true) : ((Jvm.Cond.fieldLink "com/example/masked_merge/maskedmerge/core/PairNumbers" (35 : Nat) "com/example/masked_merge/maskedmerge/core/PairNumbers" "numbers" "[I")).before a0 Z = true := hw _ (List.mem_of_getElem? (i := 28) rfl)
theorem tw29 {Z : State} {a0 : Array Value} (hw : ∀ d ∈ tables_1, d.before a0 Z = true) : ((Jvm.Cond.laysFinal "com/example/masked_merge/maskedmerge/core/PairNumbers" "com/example/masked_merge/maskedmerge/core/PairNumbers" "numbers" "[I")).before a0 Z = true := hw _ (List.mem_of_getElem? (i := 29) rfl)
theorem tw30 {Z : State} {a0 : Array Value} (hw : ∀ d ∈ tables_1, d.before a0 Z = true) : ((Jvm.Cond.fieldLink "com/example/masked_merge/maskedmerge/core/PairNumbers" (39 : Nat) "com/example/masked_merge/maskedmerge/core/PairNumbers" "used" "[I")).before a0 Z = true := hw _ (List.mem_of_getElem? (i := 30) rfl)
theorem tw31 {Z : State} {a0 : Array Value} (hw : ∀ d ∈ tables_1, d.before a0 Z = true) : ((Jvm.Cond.laysFinal "com/example/masked_merge/maskedmerge/core/PairNumbers" "com/example/masked_merge/maskedmerge/core/PairNumbers" "used" "[I")).before a0 Z = true := hw _ (List.mem_of_getElem? (i := 31) rfl)
theorem tw32 {Z : State} {a0 : Array Value} (hw : ∀ d ∈ tables_1, d.before a0 Z = true) : ((Jvm.Cond.methodLink "com/example/masked_merge/maskedmerge/core/PairNumbers" (44 : Nat) ({ cls := "java/lang/Integer", name := "numberOfTrailingZeros", desc := "(I)I" } : Jvm.MethodName))).before a0 Z = true := hw _ (List.mem_of_getElem? (i := 32) rfl)
theorem tw33 {Z : State} {a0 : Array Value} (hw : ∀ d ∈ tables_1, d.before a0 Z = true) : ((Jvm.Cond.static ({ cls := "java/lang/Integer", name := "numberOfTrailingZeros", desc := "(I)I" } : Jvm.MethodName))).before a0 Z = true := hw _ (List.mem_of_getElem? (i := 33) rfl)
theorem tw34 {Z : State} {a0 : Array Value} (hw : ∀ d ∈ tables_1, d.before a0 Z = true) : ((Jvm.Cond.code ({ cls := "java/lang/Integer", name := "numberOfTrailingZeros", desc := "(I)I" } : Jvm.MethodName) jdk_33_method_48_code (2 : Nat) (Option.some Jvm.ClassFile.FieldType.int))).before a0 Z = true := hw _ (List.mem_of_getElem? (i := 34) rfl)
theorem tw35 {Z : State} {a0 : Array Value} (hw : ∀ d ∈ tables_1, d.before a0 Z = true) : ((Jvm.Cond.fieldLink "com/example/masked_merge/maskedmerge/core/PairNumbers" (47 : Nat) "com/example/masked_merge/maskedmerge/core/PairNumbers" "shift" "I")).before a0 Z = true := hw _ (List.mem_of_getElem? (i := 35) rfl)
theorem tw36 {Z : State} {a0 : Array Value} (hw : ∀ d ∈ tables_1, d.before a0 Z = true) : ((Jvm.Cond.laysFinal "com/example/masked_merge/maskedmerge/core/PairNumbers" "com/example/masked_merge/maskedmerge/core/PairNumbers" "shift" "I")).before a0 Z = true := hw _ (List.mem_of_getElem? (i := 36) rfl)
theorem tw37 {Z : State} {a0 : Array Value} (hw : ∀ d ∈ tables_1, d.before a0 Z = true) : ((Jvm.Cond.fieldLink "com/example/masked_merge/maskedmerge/core/PairNumbers" (51 : Nat) "com/example/masked_merge/maskedmerge/core/PairNumbers" "mask" "I")).before a0 Z = true := hw _ (List.mem_of_getElem? (i := 37) rfl)
theorem tw38 {Z : State} {a0 : Array Value} (hw : ∀ d ∈ tables_1, d.before a0 Z = true) : ((Jvm.Cond.laysFinal "com/example/masked_merge/maskedmerge/core/PairNumbers" "com/example/masked_merge/maskedmerge/core/PairNumbers" "mask" "I")).before a0 Z = true := hw _ (List.mem_of_getElem? (i := 38) rfl)
theorem tw39 {Z : State} {a0 : Array Value} (hw : ∀ d ∈ tables_1, d.before a0 Z = true) : ((Jvm.Cond.constantLong "com/example/masked_merge/maskedmerge/core/PairNumbers" (54 : Nat) (-1 : Int64))).before a0 Z = true := hw _ (List.mem_of_getElem? (i := 39) rfl)
theorem tw40 {Z : State} {a0 : Array Value} (hw : ∀ d ∈ tables_1, d.before a0 Z = true) : ((Jvm.Cond.methodLink "com/example/masked_merge/maskedmerge/core/PairNumbers" (56 : Nat) ({ cls := "java/util/Arrays", name := "fill", desc := "([JJ)V" } : Jvm.MethodName))).before a0 Z = true := hw _ (List.mem_of_getElem? (i := 40) rfl)
theorem tw41 {Z : State} {a0 : Array Value} (hw : ∀ d ∈ tables_1, d.before a0 Z = true) : ((Jvm.Cond.static ({ cls := "java/util/Arrays", name := "fill", desc := "([JJ)V" } : Jvm.MethodName))).before a0 Z = true := hw _ (List.mem_of_getElem? (i := 41) rfl)
theorem tw42 {Z : State} {a0 : Array Value} (hw : ∀ d ∈ tables_1, d.before a0 Z = true) : ((Jvm.Cond.initialized "java/util/Arrays")).before a0 Z = true := hw _ (List.mem_of_getElem? (i := 42) rfl)
theorem tw43 {Z : State} {a0 : Array Value} (hw : ∀ d ∈ tables_1, d.before a0 Z = true) : ((Jvm.Cond.code ({ cls := "java/util/Arrays", name := "fill", desc := "([JJ)V" } : Jvm.MethodName) jdk_65_method_101_code (5 : Nat) (Option.none : Option Jvm.ClassFile.FieldType))).before a0 Z = true := hw _ (List.mem_of_getElem? (i := 43) rfl)
theorem tw44 {Z : State} {a0 : Array Value} (hw : ∀ d ∈ tables_1, d.before a0 Z = true) : ((Jvm.Cond.methodLink "com/example/masked_merge/maskedmerge/core/PairNumbersClearPinLaw" (13 : Nat) ({ cls := "com/example/masked_merge/maskedmerge/core/PairNumbers", name := "number", desc := "(II)I" } : Jvm.MethodName))).before a0 Z = true := hw _ (List.mem_of_getElem? (i := 44) rfl)
theorem tw45 {Z : State} {a0 : Array Value} (hw : ∀ d ∈ tables_1, d.before a0 Z = true) : ((Jvm.Cond.declares ({ cls := "com/example/masked_merge/maskedmerge/core/PairNumbers", name := "number", desc := "(II)I" } : Jvm.MethodName))).before a0 Z = true := hw _ (List.mem_of_getElem? (i := 45) rfl)
theorem tw46 {Z : State} {a0 : Array Value} (hw : ∀ d ∈ tables_1, d.before a0 Z = true) : ((Jvm.Cond.instanceMethod ({ cls := "com/example/masked_merge/maskedmerge/core/PairNumbers", name := "number", desc := "(II)I" } : Jvm.MethodName))).before a0 Z = true := hw _ (List.mem_of_getElem? (i := 46) rfl)
theorem tw47 {Z : State} {a0 : Array Value} (hw : ∀ d ∈ tables_1, d.before a0 Z = true) : ((Jvm.Cond.selects "com/example/masked_merge/maskedmerge/core/PairNumbers" ({ cls := "com/example/masked_merge/maskedmerge/core/PairNumbers", name := "number", desc := "(II)I" } : Jvm.MethodName) ({ cls := "com/example/masked_merge/maskedmerge/core/PairNumbers", name := "number", desc := "(II)I" } : Jvm.MethodName))).before a0 Z = true := hw _ (List.mem_of_getElem? (i := 47) rfl)
theorem tw48 {Z : State} {a0 : Array Value} (hw : ∀ d ∈ tables_1, d.before a0 Z = true) : ((Jvm.Cond.code ({ cls := "com/example/masked_merge/maskedmerge/core/PairNumbers", name := "number", desc := "(II)I" } : Jvm.MethodName) prog_15_method_2_code (6 : Nat) (Option.some Jvm.ClassFile.FieldType.int))).before a0 Z = true := hw _ (List.mem_of_getElem? (i := 48) rfl)
theorem tw49 {Z : State} {a0 : Array Value} (hw : ∀ d ∈ tables_1, d.before a0 Z = true) : ((Jvm.Cond.constantLong "com/example/masked_merge/maskedmerge/core/PairNumbers" (62 : Nat) (4294967295 : Int64))).before a0 Z = true := hw _ (List.mem_of_getElem? (i := 49) rfl)
theorem tw50 {Z : State} {a0 : Array Value} (hw : ∀ d ∈ tables_1, d.before a0 Z = true) : ((Jvm.Cond.constantLong "com/example/masked_merge/maskedmerge/core/PairNumbers" (64 : Nat) (-7046029254386353131 : Int64))).before a0 Z = true := hw _ (List.mem_of_getElem? (i := 50) rfl)
theorem tw51 {Z : State} {a0 : Array Value} (hw : ∀ d ∈ tables_1, d.before a0 Z = true) : ((Jvm.Cond.fieldLink "com/example/masked_merge/maskedmerge/core/PairNumbers" (66 : Nat) "com/example/masked_merge/maskedmerge/core/PairNumbers" "size" "I")).before a0 Z = true := hw _ (List.mem_of_getElem? (i := 51) rfl)
theorem tw52 {Z : State} {a0 : Array Value} (hw : ∀ d ∈ tables_1, d.before a0 Z = true) : ((Jvm.Cond.lays "com/example/masked_merge/maskedmerge/core/PairNumbers" "com/example/masked_merge/maskedmerge/core/PairNumbers" "size" "I")).before a0 Z = true := hw _ (List.mem_of_getElem? (i := 52) rfl)
theorem tw53 {Z : State} {a0 : Array Value} (hw : ∀ d ∈ tables_1, d.before a0 Z = true) : ((Jvm.Cond.methodLink "com/example/masked_merge/maskedmerge/core/PairNumbersClearPinLaw" (17 : Nat) ({ cls := "com/example/masked_merge/maskedmerge/core/PairNumbers", name := "clear", desc := "()V" } : Jvm.MethodName))).before a0 Z = true := hw _ (List.mem_of_getElem? (i := 53) rfl)
theorem tw54 {Z : State} {a0 : Array Value} (hw : ∀ d ∈ tables_1, d.before a0 Z = true) : ((Jvm.Cond.declares ({ cls := "com/example/masked_merge/maskedmerge/core/PairNumbers", name := "clear", desc := "()V" } : Jvm.MethodName))).before a0 Z = true := hw _ (List.mem_of_getElem? (i := 54) rfl)
theorem tw55 {Z : State} {a0 : Array Value} (hw : ∀ d ∈ tables_1, d.before a0 Z = true) : ((Jvm.Cond.instanceMethod ({ cls := "com/example/masked_merge/maskedmerge/core/PairNumbers", name := "clear", desc := "()V" } : Jvm.MethodName))).before a0 Z = true := hw _ (List.mem_of_getElem? (i := 55) rfl)
theorem tw56 {Z : State} {a0 : Array Value} (hw : ∀ d ∈ tables_1, d.before a0 Z = true) : ((Jvm.Cond.selects "com/example/masked_merge/maskedmerge/core/PairNumbers" ({ cls := "com/example/masked_merge/maskedmerge/core/PairNumbers", name := "clear", desc := "()V" } : Jvm.MethodName) ({ cls := "com/example/masked_merge/maskedmerge/core/PairNumbers", name := "clear", desc := "()V" } : Jvm.MethodName))).before a0 Z = true := hw _ (List.mem_of_getElem? (i := 56) rfl)
theorem tw57 {Z : State} {a0 : Array Value} (hw : ∀ d ∈ tables_1, d.before a0 Z = true) : ((Jvm.Cond.code ({ cls := "com/example/masked_merge/maskedmerge/core/PairNumbers", name := "clear", desc := "()V" } : Jvm.MethodName) prog_15_method_4_code (2 : Nat) (Option.none : Option Jvm.ClassFile.FieldType))).before a0 Z = true := hw _ (List.mem_of_getElem? (i := 57) rfl)
theorem tw58 {Z : State} {a0 : Array Value} (hw : ∀ d ∈ tables_1, d.before a0 Z = true) : ((Jvm.Cond.methodLink "com/example/masked_merge/maskedmerge/core/PairNumbersClearPinLaw" (20 : Nat) ({ cls := "com/example/masked_merge/maskedmerge/core/PairNumbers", name := "size", desc := "()I" } : Jvm.MethodName))).before a0 Z = true := hw _ (List.mem_of_getElem? (i := 58) rfl)
theorem tw59 {Z : State} {a0 : Array Value} (hw : ∀ d ∈ tables_1, d.before a0 Z = true) : ((Jvm.Cond.declares ({ cls := "com/example/masked_merge/maskedmerge/core/PairNumbers", name := "size", desc := "()I" } : Jvm.MethodName))).before a0 Z = true := hw _ (List.mem_of_getElem? (i := 59) rfl)
theorem tw60 {Z : State} {a0 : Array Value} (hw : ∀ d ∈ tables_1, d.before a0 Z = true) : ((Jvm.Cond.instanceMethod ({ cls := "com/example/masked_merge/maskedmerge/core/PairNumbers", name := "size", desc := "()I" } : Jvm.MethodName))).before a0 Z = true := hw _ (List.mem_of_getElem? (i := 60) rfl)
theorem tw61 {Z : State} {a0 : Array Value} (hw : ∀ d ∈ tables_1, d.before a0 Z = true) : ((Jvm.Cond.selects "com/example/masked_merge/maskedmerge/core/PairNumbers" ({ cls := "com/example/masked_merge/maskedmerge/core/PairNumbers", name := "size", desc := "()I" } : Jvm.MethodName) ({ cls := "com/example/masked_merge/maskedmerge/core/PairNumbers", name := "size", desc := "()I" } : Jvm.MethodName))).before a0 Z = true := hw _ (List.mem_of_getElem? (i := 61) rfl)
theorem tw62 {Z : State} {a0 : Array Value} (hw : ∀ d ∈ tables_1, d.before a0 Z = true) : ((Jvm.Cond.code ({ cls := "com/example/masked_merge/maskedmerge/core/PairNumbers", name := "size", desc := "()I" } : Jvm.MethodName) prog_15_method_3_code (1 : Nat) (Option.some Jvm.ClassFile.FieldType.int))).before a0 Z = true := hw _ (List.mem_of_getElem? (i := 62) rfl)
theorem pd0 : parseMethodDescriptor "(II)I" = some ⟨[.int, .int], some .int⟩ := by decide +kernel
theorem pd1 : parseMethodDescriptor "(I)I" = some ⟨[.int], some .int⟩ := by decide +kernel
theorem pd2 : parseMethodDescriptor "([JJ)V" = some ⟨[(.array .long), .long], none⟩ := by decide +kernel
theorem pd3 : parseMethodDescriptor "(I)V" = some ⟨[.int], none⟩ := by decide +kernel
theorem pd4 : parseMethodDescriptor "()V" = some ⟨[], none⟩ := by decide +kernel
theorem pd5 : parseMethodDescriptor "()I" = some ⟨[], some .int⟩ := by decide +kernel
theorem d1_0 : decode prog_15_method_1_code 0 = .ok (.aload_n 0, 1) := by decide +kernel
theorem d1_1 : decode prog_15_method_1_code 1 = .ok (.invokespecial 1, 3) := by decide +kernel
theorem d1_4 : decode prog_15_method_1_code 4 = .ok (.iload_n 1, 1) := by decide +kernel
theorem d1_5 : decode prog_15_method_1_code 5 = .ok (.ldc 9, 2) := by decide +kernel
theorem d1_7 : decode prog_15_method_1_code 7 = .ok (.if_icmp .le 17, 3) := by decide +kernel
theorem d1_24 : decode prog_15_method_1_code 24 = .ok (.iconst 1, 1) := by decide +kernel
theorem d1_25 : decode prog_15_method_1_code 25 = .ok (.iconst 2, 1) := by decide +kernel
theorem d1_26 : decode prog_15_method_1_code 26 = .ok (.iload_n 1, 1) := by decide +kernel
theorem d1_27 : decode prog_15_method_1_code 27 = .ok (.imul, 1) := by decide +kernel
theorem d1_28 : decode prog_15_method_1_code 28 = .ok (.iconst 1, 1) := by decide +kernel
theorem d1_29 : decode prog_15_method_1_code 29 = .ok (.isub, 1) := by decide +kernel
theorem d1_30 : decode prog_15_method_1_code 30 = .ok (.invokestatic 19, 3) := by decide +kernel
theorem d1_33 : decode prog_15_method_1_code 33 = .ok (.invokestatic 25, 3) := by decide +kernel
theorem d1_36 : decode prog_15_method_1_code 36 = .ok (.iconst 1, 1) := by decide +kernel
theorem d1_37 : decode prog_15_method_1_code 37 = .ok (.ishl, 1) := by decide +kernel
theorem d1_38 : decode prog_15_method_1_code 38 = .ok (.istore_n 2, 1) := by decide +kernel
theorem d1_39 : decode prog_15_method_1_code 39 = .ok (.aload_n 0, 1) := by decide +kernel
theorem d1_40 : decode prog_15_method_1_code 40 = .ok (.iload_n 2, 1) := by decide +kernel
theorem d1_41 : decode prog_15_method_1_code 41 = .ok (.newarray .long, 2) := by decide +kernel
theorem d1_43 : decode prog_15_method_1_code 43 = .ok (.putfield 31, 3) := by decide +kernel
theorem d1_46 : decode prog_15_method_1_code 46 = .ok (.aload_n 0, 1) := by decide +kernel
theorem d1_47 : decode prog_15_method_1_code 47 = .ok (.iload_n 2, 1) := by decide +kernel
theorem d1_48 : decode prog_15_method_1_code 48 = .ok (.newarray .int, 2) := by decide +kernel
theorem d1_50 : decode prog_15_method_1_code 50 = .ok (.putfield 35, 3) := by decide +kernel
theorem d1_53 : decode prog_15_method_1_code 53 = .ok (.aload_n 0, 1) := by decide +kernel
theorem d1_54 : decode prog_15_method_1_code 54 = .ok (.iload_n 1, 1) := by decide +kernel
theorem d1_55 : decode prog_15_method_1_code 55 = .ok (.newarray .int, 2) := by decide +kernel
theorem d1_57 : decode prog_15_method_1_code 57 = .ok (.putfield 39, 3) := by decide +kernel
theorem d1_60 : decode prog_15_method_1_code 60 = .ok (.aload_n 0, 1) := by decide +kernel
theorem d1_61 : decode prog_15_method_1_code 61 = .ok (.bipush 64, 2) := by decide +kernel
theorem d1_63 : decode prog_15_method_1_code 63 = .ok (.iload_n 2, 1) := by decide +kernel
theorem d1_64 : decode prog_15_method_1_code 64 = .ok (.invokestatic 44, 3) := by decide +kernel
theorem d1_67 : decode prog_15_method_1_code 67 = .ok (.isub, 1) := by decide +kernel
theorem d1_68 : decode prog_15_method_1_code 68 = .ok (.putfield 47, 3) := by decide +kernel
theorem d1_71 : decode prog_15_method_1_code 71 = .ok (.aload_n 0, 1) := by decide +kernel
theorem d1_72 : decode prog_15_method_1_code 72 = .ok (.iload_n 2, 1) := by decide +kernel
theorem d1_73 : decode prog_15_method_1_code 73 = .ok (.iconst 1, 1) := by decide +kernel
theorem d1_74 : decode prog_15_method_1_code 74 = .ok (.isub, 1) := by decide +kernel
theorem d1_75 : decode prog_15_method_1_code 75 = .ok (.putfield 51, 3) := by decide +kernel
theorem d1_78 : decode prog_15_method_1_code 78 = .ok (.aload_n 0, 1) := by decide +kernel
theorem d1_79 : decode prog_15_method_1_code 79 = .ok (.getfield 31, 3) := by decide +kernel
theorem d1_82 : decode prog_15_method_1_code 82 = .ok (.ldc2_w 54, 3) := by decide +kernel
theorem d1_85 : decode prog_15_method_1_code 85 = .ok (.invokestatic 56, 3) := by decide +kernel
theorem d1_88 : decode prog_15_method_1_code 88 = .ok (.return_, 1) := by decide +kernel
theorem d3_0 : decode jdk_29_method_65_code 0 = .ok (.iload_n 0, 1) := by decide +kernel
theorem d3_1 : decode jdk_29_method_65_code 1 = .ok (.iload_n 1, 1) := by decide +kernel
theorem d3_2 : decode jdk_29_method_65_code 2 = .ok (.if_icmp .lt 7, 3) := by decide +kernel
theorem d3_9 : decode jdk_29_method_65_code 9 = .ok (.iload_n 1, 1) := by decide +kernel
theorem d3_10 : decode jdk_29_method_65_code 10 = .ok (.ireturn, 1) := by decide +kernel
theorem d4_0 : decode jdk_33_method_45_code 0 = .ok (.iload_n 0, 1) := by decide +kernel
theorem d4_1 : decode jdk_33_method_45_code 1 = .ok (.ldc 127, 2) := by decide +kernel
theorem d4_3 : decode jdk_33_method_45_code 3 = .ok (.iload_n 0, 1) := by decide +kernel
theorem d4_4 : decode jdk_33_method_45_code 4 = .ok (.invokestatic 51, 3) := by decide +kernel
theorem d4_7 : decode jdk_33_method_45_code 7 = .ok (.iushr, 1) := by decide +kernel
theorem d4_8 : decode jdk_33_method_45_code 8 = .ok (.iand, 1) := by decide +kernel
theorem d4_9 : decode jdk_33_method_45_code 9 = .ok (.ireturn, 1) := by decide +kernel
theorem d5_0 : decode jdk_33_method_47_code 0 = .ok (.iload_n 0, 1) := by decide +kernel
theorem d5_1 : decode jdk_33_method_47_code 1 = .ok (.ifCond .gt 14, 3) := by decide +kernel
theorem d5_15 : decode jdk_33_method_47_code 15 = .ok (.bipush 31, 2) := by decide +kernel
theorem d5_17 : decode jdk_33_method_47_code 17 = .ok (.istore_n 1, 1) := by decide +kernel
theorem d5_18 : decode jdk_33_method_47_code 18 = .ok (.iload_n 0, 1) := by decide +kernel
theorem d5_19 : decode jdk_33_method_47_code 19 = .ok (.ldc_w 264, 3) := by decide +kernel
theorem d5_22 : decode jdk_33_method_47_code 22 = .ok (.if_icmp .lt 11, 3) := by decide +kernel
theorem d5_33 : decode jdk_33_method_47_code 33 = .ok (.iload_n 0, 1) := by decide +kernel
theorem d5_34 : decode jdk_33_method_47_code 34 = .ok (.sipush 256, 3) := by decide +kernel
theorem d5_37 : decode jdk_33_method_47_code 37 = .ok (.if_icmp .lt 11, 3) := by decide +kernel
theorem d5_48 : decode jdk_33_method_47_code 48 = .ok (.iload_n 0, 1) := by decide +kernel
theorem d5_49 : decode jdk_33_method_47_code 49 = .ok (.bipush 16, 2) := by decide +kernel
theorem d5_51 : decode jdk_33_method_47_code 51 = .ok (.if_icmp .lt 10, 3) := by decide +kernel
theorem d5_61 : decode jdk_33_method_47_code 61 = .ok (.iload_n 0, 1) := by decide +kernel
theorem d5_62 : decode jdk_33_method_47_code 62 = .ok (.iconst 4, 1) := by decide +kernel
theorem d5_63 : decode jdk_33_method_47_code 63 = .ok (.if_icmp .lt 10, 3) := by decide +kernel
theorem d5_66 : decode jdk_33_method_47_code 66 = .ok (.iinc 1 (-2), 3) := by decide +kernel
theorem d5_69 : decode jdk_33_method_47_code 69 = .ok (.iload_n 0, 1) := by decide +kernel
theorem d5_70 : decode jdk_33_method_47_code 70 = .ok (.iconst 2, 1) := by decide +kernel
theorem d5_71 : decode jdk_33_method_47_code 71 = .ok (.iushr, 1) := by decide +kernel
theorem d5_72 : decode jdk_33_method_47_code 72 = .ok (.istore_n 0, 1) := by decide +kernel
theorem d5_73 : decode jdk_33_method_47_code 73 = .ok (.iload_n 1, 1) := by decide +kernel
theorem d5_74 : decode jdk_33_method_47_code 74 = .ok (.iload_n 0, 1) := by decide +kernel
theorem d5_75 : decode jdk_33_method_47_code 75 = .ok (.iconst 1, 1) := by decide +kernel
theorem d5_76 : decode jdk_33_method_47_code 76 = .ok (.iushr, 1) := by decide +kernel
theorem d5_77 : decode jdk_33_method_47_code 77 = .ok (.isub, 1) := by decide +kernel
theorem d5_78 : decode jdk_33_method_47_code 78 = .ok (.ireturn, 1) := by decide +kernel
theorem d6_0 : decode jdk_33_method_48_code 0 = .ok (.iload_n 0, 1) := by decide +kernel
theorem d6_1 : decode jdk_33_method_48_code 1 = .ok (.iconst (-1), 1) := by decide +kernel
theorem d6_2 : decode jdk_33_method_48_code 2 = .ok (.ixor, 1) := by decide +kernel
theorem d6_3 : decode jdk_33_method_48_code 3 = .ok (.iload_n 0, 1) := by decide +kernel
theorem d6_4 : decode jdk_33_method_48_code 4 = .ok (.iconst 1, 1) := by decide +kernel
theorem d6_5 : decode jdk_33_method_48_code 5 = .ok (.isub, 1) := by decide +kernel
theorem d6_6 : decode jdk_33_method_48_code 6 = .ok (.iand, 1) := by decide +kernel
theorem d6_7 : decode jdk_33_method_48_code 7 = .ok (.istore_n 0, 1) := by decide +kernel
theorem d6_8 : decode jdk_33_method_48_code 8 = .ok (.iload_n 0, 1) := by decide +kernel
theorem d6_9 : decode jdk_33_method_48_code 9 = .ok (.ifCond .gt 8, 3) := by decide +kernel
theorem d6_17 : decode jdk_33_method_48_code 17 = .ok (.iconst 1, 1) := by decide +kernel
theorem d6_18 : decode jdk_33_method_48_code 18 = .ok (.istore_n 1, 1) := by decide +kernel
theorem d6_19 : decode jdk_33_method_48_code 19 = .ok (.iload_n 0, 1) := by decide +kernel
theorem d6_20 : decode jdk_33_method_48_code 20 = .ok (.ldc_w 264, 3) := by decide +kernel
theorem d6_23 : decode jdk_33_method_48_code 23 = .ok (.if_icmp .le 11, 3) := by decide +kernel
theorem d6_34 : decode jdk_33_method_48_code 34 = .ok (.iload_n 0, 1) := by decide +kernel
theorem d6_35 : decode jdk_33_method_48_code 35 = .ok (.sipush 256, 3) := by decide +kernel
theorem d6_38 : decode jdk_33_method_48_code 38 = .ok (.if_icmp .le 11, 3) := by decide +kernel
theorem d6_49 : decode jdk_33_method_48_code 49 = .ok (.iload_n 0, 1) := by decide +kernel
theorem d6_50 : decode jdk_33_method_48_code 50 = .ok (.bipush 16, 2) := by decide +kernel
theorem d6_52 : decode jdk_33_method_48_code 52 = .ok (.if_icmp .le 10, 3) := by decide +kernel
theorem d6_62 : decode jdk_33_method_48_code 62 = .ok (.iload_n 0, 1) := by decide +kernel
theorem d6_63 : decode jdk_33_method_48_code 63 = .ok (.iconst 4, 1) := by decide +kernel
theorem d6_64 : decode jdk_33_method_48_code 64 = .ok (.if_icmp .le 10, 3) := by decide +kernel
theorem d6_67 : decode jdk_33_method_48_code 67 = .ok (.iinc 1 2, 3) := by decide +kernel
theorem d6_70 : decode jdk_33_method_48_code 70 = .ok (.iload_n 0, 1) := by decide +kernel
theorem d6_71 : decode jdk_33_method_48_code 71 = .ok (.iconst 2, 1) := by decide +kernel
theorem d6_72 : decode jdk_33_method_48_code 72 = .ok (.iushr, 1) := by decide +kernel
theorem d6_73 : decode jdk_33_method_48_code 73 = .ok (.istore_n 0, 1) := by decide +kernel
theorem d6_74 : decode jdk_33_method_48_code 74 = .ok (.iload_n 1, 1) := by decide +kernel
theorem d6_75 : decode jdk_33_method_48_code 75 = .ok (.iload_n 0, 1) := by decide +kernel
theorem d6_76 : decode jdk_33_method_48_code 76 = .ok (.iconst 1, 1) := by decide +kernel
theorem d6_77 : decode jdk_33_method_48_code 77 = .ok (.iushr, 1) := by decide +kernel
theorem d6_78 : decode jdk_33_method_48_code 78 = .ok (.iadd, 1) := by decide +kernel
theorem d6_79 : decode jdk_33_method_48_code 79 = .ok (.ireturn, 1) := by decide +kernel
theorem d7_0 : decode jdk_65_method_101_code 0 = .ok (.iconst 0, 1) := by decide +kernel
theorem d7_1 : decode jdk_65_method_101_code 1 = .ok (.istore_n 3, 1) := by decide +kernel
theorem d7_2 : decode jdk_65_method_101_code 2 = .ok (.aload_n 0, 1) := by decide +kernel
theorem d7_3 : decode jdk_65_method_101_code 3 = .ok (.arraylength, 1) := by decide +kernel
theorem d7_4 : decode jdk_65_method_101_code 4 = .ok (.istore 4, 2) := by decide +kernel
theorem d7_6 : decode jdk_65_method_101_code 6 = .ok (.iload_n 3, 1) := by decide +kernel
theorem d7_7 : decode jdk_65_method_101_code 7 = .ok (.iload 4, 2) := by decide +kernel
theorem d7_9 : decode jdk_65_method_101_code 9 = .ok (.if_icmp .ge 13, 3) := by decide +kernel
theorem d7_12 : decode jdk_65_method_101_code 12 = .ok (.aload_n 0, 1) := by decide +kernel
theorem d7_13 : decode jdk_65_method_101_code 13 = .ok (.iload_n 3, 1) := by decide +kernel
theorem d7_14 : decode jdk_65_method_101_code 14 = .ok (.lload_n 1, 1) := by decide +kernel
theorem d7_15 : decode jdk_65_method_101_code 15 = .ok (.lastore, 1) := by decide +kernel
theorem d7_16 : decode jdk_65_method_101_code 16 = .ok (.iinc 3 1, 3) := by decide +kernel
theorem d7_19 : decode jdk_65_method_101_code 19 = .ok (.goto (-13), 3) := by decide +kernel
theorem d7_22 : decode jdk_65_method_101_code 22 = .ok (.return_, 1) := by decide +kernel
theorem d8_0 : decode prog_15_method_2_code 0 = .ok (.iload_n 1, 1) := by decide +kernel
theorem d8_1 : decode prog_15_method_2_code 1 = .ok (.i2l, 1) := by decide +kernel
theorem d8_2 : decode prog_15_method_2_code 2 = .ok (.bipush 32, 2) := by decide +kernel
theorem d8_4 : decode prog_15_method_2_code 4 = .ok (.lshl, 1) := by decide +kernel
theorem d8_5 : decode prog_15_method_2_code 5 = .ok (.iload_n 2, 1) := by decide +kernel
theorem d8_6 : decode prog_15_method_2_code 6 = .ok (.i2l, 1) := by decide +kernel
theorem d8_7 : decode prog_15_method_2_code 7 = .ok (.ldc2_w 62, 3) := by decide +kernel
theorem d8_10 : decode prog_15_method_2_code 10 = .ok (.land, 1) := by decide +kernel
theorem d8_11 : decode prog_15_method_2_code 11 = .ok (.lor, 1) := by decide +kernel
theorem d8_12 : decode prog_15_method_2_code 12 = .ok (.lstore_n 3, 1) := by decide +kernel
theorem d8_13 : decode prog_15_method_2_code 13 = .ok (.lload_n 3, 1) := by decide +kernel
theorem d8_14 : decode prog_15_method_2_code 14 = .ok (.ldc2_w 64, 3) := by decide +kernel
theorem d8_17 : decode prog_15_method_2_code 17 = .ok (.lmul, 1) := by decide +kernel
theorem d8_18 : decode prog_15_method_2_code 18 = .ok (.aload_n 0, 1) := by decide +kernel
theorem d8_19 : decode prog_15_method_2_code 19 = .ok (.getfield 47, 3) := by decide +kernel
theorem d8_22 : decode prog_15_method_2_code 22 = .ok (.lushr, 1) := by decide +kernel
theorem d8_23 : decode prog_15_method_2_code 23 = .ok (.l2i, 1) := by decide +kernel
theorem d8_24 : decode prog_15_method_2_code 24 = .ok (.istore 5, 2) := by decide +kernel
theorem d8_26 : decode prog_15_method_2_code 26 = .ok (.aload_n 0, 1) := by decide +kernel
theorem d8_27 : decode prog_15_method_2_code 27 = .ok (.getfield 31, 3) := by decide +kernel
theorem d8_30 : decode prog_15_method_2_code 30 = .ok (.iload 5, 2) := by decide +kernel
theorem d8_32 : decode prog_15_method_2_code 32 = .ok (.laload, 1) := by decide +kernel
theorem d8_33 : decode prog_15_method_2_code 33 = .ok (.lload_n 3, 1) := by decide +kernel
theorem d8_34 : decode prog_15_method_2_code 34 = .ok (.lcmp, 1) := by decide +kernel
theorem d8_35 : decode prog_15_method_2_code 35 = .ok (.ifCond .eq 31, 3) := by decide +kernel
theorem d8_38 : decode prog_15_method_2_code 38 = .ok (.aload_n 0, 1) := by decide +kernel
theorem d8_39 : decode prog_15_method_2_code 39 = .ok (.getfield 31, 3) := by decide +kernel
theorem d8_42 : decode prog_15_method_2_code 42 = .ok (.iload 5, 2) := by decide +kernel
theorem d8_44 : decode prog_15_method_2_code 44 = .ok (.laload, 1) := by decide +kernel
theorem d8_45 : decode prog_15_method_2_code 45 = .ok (.ldc2_w 54, 3) := by decide +kernel
theorem d8_48 : decode prog_15_method_2_code 48 = .ok (.lcmp, 1) := by decide +kernel
theorem d8_49 : decode prog_15_method_2_code 49 = .ok (.ifCond .eq 17, 3) := by decide +kernel
theorem d8_52 : decode prog_15_method_2_code 52 = .ok (.iload 5, 2) := by decide +kernel
theorem d8_54 : decode prog_15_method_2_code 54 = .ok (.iconst 1, 1) := by decide +kernel
theorem d8_55 : decode prog_15_method_2_code 55 = .ok (.iadd, 1) := by decide +kernel
theorem d8_56 : decode prog_15_method_2_code 56 = .ok (.aload_n 0, 1) := by decide +kernel
theorem d8_57 : decode prog_15_method_2_code 57 = .ok (.getfield 51, 3) := by decide +kernel
theorem d8_60 : decode prog_15_method_2_code 60 = .ok (.iand, 1) := by decide +kernel
theorem d8_61 : decode prog_15_method_2_code 61 = .ok (.istore 5, 2) := by decide +kernel
theorem d8_63 : decode prog_15_method_2_code 63 = .ok (.goto (-37), 3) := by decide +kernel
theorem d8_66 : decode prog_15_method_2_code 66 = .ok (.aload_n 0, 1) := by decide +kernel
theorem d8_67 : decode prog_15_method_2_code 67 = .ok (.getfield 31, 3) := by decide +kernel
theorem d8_70 : decode prog_15_method_2_code 70 = .ok (.iload 5, 2) := by decide +kernel
theorem d8_72 : decode prog_15_method_2_code 72 = .ok (.laload, 1) := by decide +kernel
theorem d8_73 : decode prog_15_method_2_code 73 = .ok (.ldc2_w 54, 3) := by decide +kernel
theorem d8_76 : decode prog_15_method_2_code 76 = .ok (.lcmp, 1) := by decide +kernel
theorem d8_77 : decode prog_15_method_2_code 77 = .ok (.ifCond .ne 43, 3) := by decide +kernel
theorem d8_80 : decode prog_15_method_2_code 80 = .ok (.aload_n 0, 1) := by decide +kernel
theorem d8_81 : decode prog_15_method_2_code 81 = .ok (.getfield 31, 3) := by decide +kernel
theorem d8_84 : decode prog_15_method_2_code 84 = .ok (.iload 5, 2) := by decide +kernel
theorem d8_86 : decode prog_15_method_2_code 86 = .ok (.lload_n 3, 1) := by decide +kernel
theorem d8_87 : decode prog_15_method_2_code 87 = .ok (.lastore, 1) := by decide +kernel
theorem d8_88 : decode prog_15_method_2_code 88 = .ok (.aload_n 0, 1) := by decide +kernel
theorem d8_89 : decode prog_15_method_2_code 89 = .ok (.getfield 35, 3) := by decide +kernel
theorem d8_92 : decode prog_15_method_2_code 92 = .ok (.iload 5, 2) := by decide +kernel
theorem d8_94 : decode prog_15_method_2_code 94 = .ok (.aload_n 0, 1) := by decide +kernel
theorem d8_95 : decode prog_15_method_2_code 95 = .ok (.getfield 66, 3) := by decide +kernel
theorem d8_98 : decode prog_15_method_2_code 98 = .ok (.iastore, 1) := by decide +kernel
theorem d8_99 : decode prog_15_method_2_code 99 = .ok (.aload_n 0, 1) := by decide +kernel
theorem d8_100 : decode prog_15_method_2_code 100 = .ok (.getfield 39, 3) := by decide +kernel
theorem d8_103 : decode prog_15_method_2_code 103 = .ok (.aload_n 0, 1) := by decide +kernel
theorem d8_104 : decode prog_15_method_2_code 104 = .ok (.getfield 66, 3) := by decide +kernel
theorem d8_107 : decode prog_15_method_2_code 107 = .ok (.iload 5, 2) := by decide +kernel
theorem d8_109 : decode prog_15_method_2_code 109 = .ok (.iastore, 1) := by decide +kernel
theorem d8_110 : decode prog_15_method_2_code 110 = .ok (.aload_n 0, 1) := by decide +kernel
theorem d8_111 : decode prog_15_method_2_code 111 = .ok (.dup, 1) := by decide +kernel
theorem d8_112 : decode prog_15_method_2_code 112 = .ok (.getfield 66, 3) := by decide +kernel
theorem d8_115 : decode prog_15_method_2_code 115 = .ok (.iconst 1, 1) := by decide +kernel
theorem d8_116 : decode prog_15_method_2_code 116 = .ok (.iadd, 1) := by decide +kernel
theorem d8_117 : decode prog_15_method_2_code 117 = .ok (.putfield 66, 3) := by decide +kernel
theorem d8_120 : decode prog_15_method_2_code 120 = .ok (.aload_n 0, 1) := by decide +kernel
theorem d8_121 : decode prog_15_method_2_code 121 = .ok (.getfield 35, 3) := by decide +kernel
theorem d8_124 : decode prog_15_method_2_code 124 = .ok (.iload 5, 2) := by decide +kernel
theorem d8_126 : decode prog_15_method_2_code 126 = .ok (.iaload, 1) := by decide +kernel
theorem d8_127 : decode prog_15_method_2_code 127 = .ok (.ireturn, 1) := by decide +kernel
theorem d9_0 : decode prog_15_method_4_code 0 = .ok (.iconst 0, 1) := by decide +kernel
theorem d9_1 : decode prog_15_method_4_code 1 = .ok (.istore_n 1, 1) := by decide +kernel
theorem d9_2 : decode prog_15_method_4_code 2 = .ok (.iload_n 1, 1) := by decide +kernel
theorem d9_3 : decode prog_15_method_4_code 3 = .ok (.aload_n 0, 1) := by decide +kernel
theorem d9_4 : decode prog_15_method_4_code 4 = .ok (.getfield 66, 3) := by decide +kernel
theorem d9_7 : decode prog_15_method_4_code 7 = .ok (.if_icmp .ge 23, 3) := by decide +kernel
theorem d9_10 : decode prog_15_method_4_code 10 = .ok (.aload_n 0, 1) := by decide +kernel
theorem d9_11 : decode prog_15_method_4_code 11 = .ok (.getfield 31, 3) := by decide +kernel
theorem d9_14 : decode prog_15_method_4_code 14 = .ok (.aload_n 0, 1) := by decide +kernel
theorem d9_15 : decode prog_15_method_4_code 15 = .ok (.getfield 39, 3) := by decide +kernel
theorem d9_18 : decode prog_15_method_4_code 18 = .ok (.iload_n 1, 1) := by decide +kernel
theorem d9_19 : decode prog_15_method_4_code 19 = .ok (.iaload, 1) := by decide +kernel
theorem d9_20 : decode prog_15_method_4_code 20 = .ok (.ldc2_w 54, 3) := by decide +kernel
theorem d9_23 : decode prog_15_method_4_code 23 = .ok (.lastore, 1) := by decide +kernel
theorem d9_24 : decode prog_15_method_4_code 24 = .ok (.iinc 1 1, 3) := by decide +kernel
theorem d9_27 : decode prog_15_method_4_code 27 = .ok (.goto (-25), 3) := by decide +kernel
theorem d9_30 : decode prog_15_method_4_code 30 = .ok (.aload_n 0, 1) := by decide +kernel
theorem d9_31 : decode prog_15_method_4_code 31 = .ok (.iconst 0, 1) := by decide +kernel
theorem d9_32 : decode prog_15_method_4_code 32 = .ok (.putfield 66, 3) := by decide +kernel
theorem d9_35 : decode prog_15_method_4_code 35 = .ok (.return_, 1) := by decide +kernel
theorem d10_0 : decode prog_15_method_3_code 0 = .ok (.aload_n 0, 1) := by decide +kernel
theorem d10_1 : decode prog_15_method_3_code 1 = .ok (.getfield 66, 3) := by decide +kernel
theorem d10_4 : decode prog_15_method_3_code 4 = .ok (.ireturn, 1) := by decide +kernel
def O_PairNumbers (Z : State) (h : Heap) (a : Addr) (v0 v1 v2 v3 v4 v5 : Value) : Prop := Exa Z h a "com/example/masked_merge/maskedmerge/core/PairNumbers" ∧ Fld Z h a "com/example/masked_merge/maskedmerge/core/PairNumbers" "keys" "[J" v0 ∧ Fld Z h a "com/example/masked_merge/maskedmerge/core/PairNumbers" "numbers" "[I" v1 ∧ Fld Z h a "com/example/masked_merge/maskedmerge/core/PairNumbers" "used" "[I" v2 ∧ Fld Z h a "com/example/masked_merge/maskedmerge/core/PairNumbers" "shift" "I" v3 ∧ Fld Z h a "com/example/masked_merge/maskedmerge/core/PairNumbers" "mask" "I" v4 ∧ Fld Z h a "com/example/masked_merge/maskedmerge/core/PairNumbers" "size" "I" v5
theorem O_PairNumbers.ext {Z : State} {h h' : Heap} {a : Addr} {v0 v1 v2 v3 v4 v5 : Value} (O : O_PairNumbers Z h a v0 v1 v2 v3 v4 v5) (E : Ext h h') : O_PairNumbers Z h' a v0 v1 v2 v3 v4 v5 := ⟨O.1.ext E, O.2.1.ext E, O.2.2.1.ext E, O.2.2.2.1.ext E, O.2.2.2.2.1.ext E, O.2.2.2.2.2.1.ext E, O.2.2.2.2.2.2.ext E⟩
theorem O_PairNumbers.keep {Z : State} {h h' : Heap} {a : Addr} {ws : List Addr} {v0 v1 v2 v3 v4 v5 : Value} (O : O_PairNumbers Z h a v0 v1 v2 v3 v4 v5) (K : Keep h h' ws) (q : a ∉ ws) : O_PairNumbers Z h' a v0 v1 v2 v3 v4 v5 := ⟨O.1.keep K, O.2.1.keep K q, O.2.2.1.keep K q, O.2.2.2.1.keep K q, O.2.2.2.2.1.keep K q, O.2.2.2.2.2.1.keep K q, O.2.2.2.2.2.2.keep K q⟩
theorem O_PairNumbers.other {Z : State} {h h' : Heap} {a b : Addr} {sl : Nat} {w : Value} {v0 v1 v2 v3 v4 v5 : Value} (O : O_PairNumbers Z h a v0 v1 v2 v3 v4 v5) (W : Wr h h' b sl w) (q : a ≠ b) : O_PairNumbers Z h' a v0 v1 v2 v3 v4 v5 := ⟨O.1.wr W, O.2.1.other W (Or.inl q), O.2.2.1.other W (Or.inl q), O.2.2.2.1.other W (Or.inl q), O.2.2.2.2.1.other W (Or.inl q), O.2.2.2.2.2.1.other W (Or.inl q), O.2.2.2.2.2.2.other W (Or.inl q)⟩
theorem O_PairNumbers.set0 {Z : State} {a0 : Array Value} {h h' : Heap} {a : Addr} {v0 v1 v2 v3 v4 v5 : Value} {w : Value} (hw : ∀ d ∈ tables_1, d.before a0 Z = true) (W : Wr h h' a (Jvm.RoadKit.slotOf Z "com/example/masked_merge/maskedmerge/core/PairNumbers" "keys" "[J") w) (O : O_PairNumbers Z h a v0 v1 v2 v3 v4 v5) : O_PairNumbers Z h' a w v1 v2 v3 v4 v5 := ⟨O.1.wr W, O.2.1.same W, O.2.2.1.other W (Or.inr (slot_ne (a0 := a0) (C := "com/example/masked_merge/maskedmerge/core/PairNumbers") (Or.inr (tw29 hw)) (Or.inr (tw26 hw)) (by decide) (t := (.array .int)) (t' := (.array .long)) (by decide) (by decide))), O.2.2.2.1.other W (Or.inr (slot_ne (a0 := a0) (C := "com/example/masked_merge/maskedmerge/core/PairNumbers") (Or.inr (tw31 hw)) (Or.inr (tw26 hw)) (by decide) (t := (.array .int)) (t' := (.array .long)) (by decide) (by decide))), O.2.2.2.2.1.other W (Or.inr (slot_ne (a0 := a0) (C := "com/example/masked_merge/maskedmerge/core/PairNumbers") (Or.inr (tw36 hw)) (Or.inr (tw26 hw)) (by decide) (t := .int) (t' := (.array .long)) (by decide) (by decide))), O.2.2.2.2.2.1.other W (Or.inr (slot_ne (a0 := a0) (C := "com/example/masked_merge/maskedmerge/core/PairNumbers") (Or.inr (tw38 hw)) (Or.inr (tw26 hw)) (by decide) (t := .int) (t' := (.array .long)) (by decide) (by decide))), O.2.2.2.2.2.2.other W (Or.inr (slot_ne (a0 := a0) (C := "com/example/masked_merge/maskedmerge/core/PairNumbers") (Or.inl (tw52 hw)) (Or.inr (tw26 hw)) (by decide) (t := .int) (t' := (.array .long)) (by decide) (by decide)))⟩
theorem O_PairNumbers.set1 {Z : State} {a0 : Array Value} {h h' : Heap} {a : Addr} {v0 v1 v2 v3 v4 v5 : Value} {w : Value} (hw : ∀ d ∈ tables_1, d.before a0 Z = true) (W : Wr h h' a (Jvm.RoadKit.slotOf Z "com/example/masked_merge/maskedmerge/core/PairNumbers" "numbers" "[I") w) (O : O_PairNumbers Z h a v0 v1 v2 v3 v4 v5) : O_PairNumbers Z h' a v0 w v2 v3 v4 v5 := ⟨O.1.wr W, O.2.1.other W (Or.inr (slot_ne (a0 := a0) (C := "com/example/masked_merge/maskedmerge/core/PairNumbers") (Or.inr (tw26 hw)) (Or.inr (tw29 hw)) (by decide) (t := (.array .long)) (t' := (.array .int)) (by decide) (by decide))), O.2.2.1.same W, O.2.2.2.1.other W (Or.inr (slot_ne (a0 := a0) (C := "com/example/masked_merge/maskedmerge/core/PairNumbers") (Or.inr (tw31 hw)) (Or.inr (tw29 hw)) (by decide) (t := (.array .int)) (t' := (.array .int)) (by decide) (by decide))), O.2.2.2.2.1.other W (Or.inr (slot_ne (a0 := a0) (C := "com/example/masked_merge/maskedmerge/core/PairNumbers") (Or.inr (tw36 hw)) (Or.inr (tw29 hw)) (by decide) (t := .int) (t' := (.array .int)) (by decide) (by decide))), O.2.2.2.2.2.1.other W (Or.inr (slot_ne (a0 := a0) (C := "com/example/masked_merge/maskedmerge/core/PairNumbers") (Or.inr (tw38 hw)) (Or.inr (tw29 hw)) (by decide) (t := .int) (t' := (.array .int)) (by decide) (by decide))), O.2.2.2.2.2.2.other W (Or.inr (slot_ne (a0 := a0) (C := "com/example/masked_merge/maskedmerge/core/PairNumbers") (Or.inl (tw52 hw)) (Or.inr (tw29 hw)) (by decide) (t := .int) (t' := (.array .int)) (by decide) (by decide)))⟩
theorem O_PairNumbers.set2 {Z : State} {a0 : Array Value} {h h' : Heap} {a : Addr} {v0 v1 v2 v3 v4 v5 : Value} {w : Value} (hw : ∀ d ∈ tables_1, d.before a0 Z = true) (W : Wr h h' a (Jvm.RoadKit.slotOf Z "com/example/masked_merge/maskedmerge/core/PairNumbers" "used" "[I") w) (O : O_PairNumbers Z h a v0 v1 v2 v3 v4 v5) : O_PairNumbers Z h' a v0 v1 w v3 v4 v5 := ⟨O.1.wr W, O.2.1.other W (Or.inr (slot_ne (a0 := a0) (C := "com/example/masked_merge/maskedmerge/core/PairNumbers") (Or.inr (tw26 hw)) (Or.inr (tw31 hw)) (by decide) (t := (.array .long)) (t' := (.array .int)) (by decide) (by decide))), O.2.2.1.other W (Or.inr (slot_ne (a0 := a0) (C := "com/example/masked_merge/maskedmerge/core/PairNumbers") (Or.inr (tw29 hw)) (Or.inr (tw31 hw)) (by decide) (t := (.array .int)) (t' := (.array .int)) (by decide) (by decide))), O.2.2.2.1.same W, O.2.2.2.2.1.other W (Or.inr (slot_ne (a0 := a0) (C := "com/example/masked_merge/maskedmerge/core/PairNumbers") (Or.inr (tw36 hw)) (Or.inr (tw31 hw)) (by decide) (t := .int) (t' := (.array .int)) (by decide) (by decide))), O.2.2.2.2.2.1.other W (Or.inr (slot_ne (a0 := a0) (C := "com/example/masked_merge/maskedmerge/core/PairNumbers") (Or.inr (tw38 hw)) (Or.inr (tw31 hw)) (by decide) (t := .int) (t' := (.array .int)) (by decide) (by decide))), O.2.2.2.2.2.2.other W (Or.inr (slot_ne (a0 := a0) (C := "com/example/masked_merge/maskedmerge/core/PairNumbers") (Or.inl (tw52 hw)) (Or.inr (tw31 hw)) (by decide) (t := .int) (t' := (.array .int)) (by decide) (by decide)))⟩
theorem O_PairNumbers.set3 {Z : State} {a0 : Array Value} {h h' : Heap} {a : Addr} {v0 v1 v2 v3 v4 v5 : Value} {w : Value} (hw : ∀ d ∈ tables_1, d.before a0 Z = true) (W : Wr h h' a (Jvm.RoadKit.slotOf Z "com/example/masked_merge/maskedmerge/core/PairNumbers" "shift" "I") w) (O : O_PairNumbers Z h a v0 v1 v2 v3 v4 v5) : O_PairNumbers Z h' a v0 v1 v2 w v4 v5 := ⟨O.1.wr W, O.2.1.other W (Or.inr (slot_ne (a0 := a0) (C := "com/example/masked_merge/maskedmerge/core/PairNumbers") (Or.inr (tw26 hw)) (Or.inr (tw36 hw)) (by decide) (t := (.array .long)) (t' := .int) (by decide) (by decide))), O.2.2.1.other W (Or.inr (slot_ne (a0 := a0) (C := "com/example/masked_merge/maskedmerge/core/PairNumbers") (Or.inr (tw29 hw)) (Or.inr (tw36 hw)) (by decide) (t := (.array .int)) (t' := .int) (by decide) (by decide))), O.2.2.2.1.other W (Or.inr (slot_ne (a0 := a0) (C := "com/example/masked_merge/maskedmerge/core/PairNumbers") (Or.inr (tw31 hw)) (Or.inr (tw36 hw)) (by decide) (t := (.array .int)) (t' := .int) (by decide) (by decide))), O.2.2.2.2.1.same W, O.2.2.2.2.2.1.other W (Or.inr (slot_ne (a0 := a0) (C := "com/example/masked_merge/maskedmerge/core/PairNumbers") (Or.inr (tw38 hw)) (Or.inr (tw36 hw)) (by decide) (t := .int) (t' := .int) (by decide) (by decide))), O.2.2.2.2.2.2.other W (Or.inr (slot_ne (a0 := a0) (C := "com/example/masked_merge/maskedmerge/core/PairNumbers") (Or.inl (tw52 hw)) (Or.inr (tw36 hw)) (by decide) (t := .int) (t' := .int) (by decide) (by decide)))⟩
theorem O_PairNumbers.set4 {Z : State} {a0 : Array Value} {h h' : Heap} {a : Addr} {v0 v1 v2 v3 v4 v5 : Value} {w : Value} (hw : ∀ d ∈ tables_1, d.before a0 Z = true) (W : Wr h h' a (Jvm.RoadKit.slotOf Z "com/example/masked_merge/maskedmerge/core/PairNumbers" "mask" "I") w) (O : O_PairNumbers Z h a v0 v1 v2 v3 v4 v5) : O_PairNumbers Z h' a v0 v1 v2 v3 w v5 := ⟨O.1.wr W, O.2.1.other W (Or.inr (slot_ne (a0 := a0) (C := "com/example/masked_merge/maskedmerge/core/PairNumbers") (Or.inr (tw26 hw)) (Or.inr (tw38 hw)) (by decide) (t := (.array .long)) (t' := .int) (by decide) (by decide))), O.2.2.1.other W (Or.inr (slot_ne (a0 := a0) (C := "com/example/masked_merge/maskedmerge/core/PairNumbers") (Or.inr (tw29 hw)) (Or.inr (tw38 hw)) (by decide) (t := (.array .int)) (t' := .int) (by decide) (by decide))), O.2.2.2.1.other W (Or.inr (slot_ne (a0 := a0) (C := "com/example/masked_merge/maskedmerge/core/PairNumbers") (Or.inr (tw31 hw)) (Or.inr (tw38 hw)) (by decide) (t := (.array .int)) (t' := .int) (by decide) (by decide))), O.2.2.2.2.1.other W (Or.inr (slot_ne (a0 := a0) (C := "com/example/masked_merge/maskedmerge/core/PairNumbers") (Or.inr (tw36 hw)) (Or.inr (tw38 hw)) (by decide) (t := .int) (t' := .int) (by decide) (by decide))), O.2.2.2.2.2.1.same W, O.2.2.2.2.2.2.other W (Or.inr (slot_ne (a0 := a0) (C := "com/example/masked_merge/maskedmerge/core/PairNumbers") (Or.inl (tw52 hw)) (Or.inr (tw38 hw)) (by decide) (t := .int) (t' := .int) (by decide) (by decide)))⟩
theorem O_PairNumbers.set5 {Z : State} {a0 : Array Value} {h h' : Heap} {a : Addr} {v0 v1 v2 v3 v4 v5 : Value} {w : Value} (hw : ∀ d ∈ tables_1, d.before a0 Z = true) (W : Wr h h' a (Jvm.RoadKit.slotOf Z "com/example/masked_merge/maskedmerge/core/PairNumbers" "size" "I") w) (O : O_PairNumbers Z h a v0 v1 v2 v3 v4 v5) : O_PairNumbers Z h' a v0 v1 v2 v3 v4 w := ⟨O.1.wr W, O.2.1.other W (Or.inr (slot_ne (a0 := a0) (C := "com/example/masked_merge/maskedmerge/core/PairNumbers") (Or.inr (tw26 hw)) (Or.inl (tw52 hw)) (by decide) (t := (.array .long)) (t' := .int) (by decide) (by decide))), O.2.2.1.other W (Or.inr (slot_ne (a0 := a0) (C := "com/example/masked_merge/maskedmerge/core/PairNumbers") (Or.inr (tw29 hw)) (Or.inl (tw52 hw)) (by decide) (t := (.array .int)) (t' := .int) (by decide) (by decide))), O.2.2.2.1.other W (Or.inr (slot_ne (a0 := a0) (C := "com/example/masked_merge/maskedmerge/core/PairNumbers") (Or.inr (tw31 hw)) (Or.inl (tw52 hw)) (by decide) (t := (.array .int)) (t' := .int) (by decide) (by decide))), O.2.2.2.2.1.other W (Or.inr (slot_ne (a0 := a0) (C := "com/example/masked_merge/maskedmerge/core/PairNumbers") (Or.inr (tw36 hw)) (Or.inl (tw52 hw)) (by decide) (t := .int) (t' := .int) (by decide) (by decide))), O.2.2.2.2.2.1.other W (Or.inr (slot_ne (a0 := a0) (C := "com/example/masked_merge/maskedmerge/core/PairNumbers") (Or.inr (tw38 hw)) (Or.inl (tw52 hw)) (by decide) (t := .int) (t' := .int) (by decide) (by decide))), O.2.2.2.2.2.2.same W⟩
theorem own_of {n : Nat} (h : n < 2147483648) : (Int32.ofNat n).toInt = n := Int32.toInt_ofNat_small h
theorem own_cl {n : Nat} (h : n < 2147483648) : (Int32.ofNat n).toNatClampNeg = n := by
  have q := own_of h
  simp only [Int32.toNatClampNeg, q]; omega
theorem own_k1 {i : Int32} {k : Nat} (hi : i = Int32.ofNat k) (hk : k < 2147483647) : i + 1 = Int32.ofNat (k + 1) := by
  subst hi
  apply Int32.toInt_inj.mp
  have a := own_of (n := k) (by omega)
  have b := own_of (n := k + 1) (by omega)
  have d := own_iaddE (Int32.ofNat k) 1 (by rw [a]; simp only [Int32.reduceToInt]; omega)
  rw [d, a, b]; simp only [Int32.reduceToInt]; omega
theorem own_ltN {i : Int32} {k N : Nat} (hi : i = Int32.ofNat k) (hk : k ≤ N) (hN : N < 2147483648) : i < Nat.toInt32 N ↔ k < N := by
  subst hi
  rw [Int32.lt_iff_toInt_lt, show Nat.toInt32 N = Int32.ofNat N from rfl, own_of (by omega), own_of hN]; omega
theorem own_eqN {i : Int32} {k N : Nat} (hi : i = Int32.ofNat k) (hk : k ≤ N) (hN : N < 2147483648) (c : ¬ i < Nat.toInt32 N) : k = N := by
  have z := (not_congr (own_ltN hi hk hN)).mp c; omega
theorem own_ki {i : Int32} {k N : Nat} (hi : i = Int32.ofNat k) (hk : k < N) (hN : N < 2147483648) : 0 ≤ i.toInt ∧ i.toInt < (N : Int) := by
  subst hi; rw [own_of (by omega)]; omega
theorem own_kc {i : Int32} {k : Nat} (hi : i = Int32.ofNat k) (hk : k < 2147483648) : i.toNatClampNeg = k := by subst hi; exact own_cl hk
theorem own_len {Z : State} {h : Heap} {a : Addr} {ty : FieldType} {n n' : Nat} {f : Nat → Int32} (A : AI Z h a ty n f) (q : n = n') : AI Z h a ty n' f := q ▸ A
theorem own_lenJ {Z : State} {h : Heap} {a : Addr} {n n' : Nat} {f : Nat → Int64} (A : AJ Z h a n f) (q : n = n') : AJ Z h a n' f := q ▸ A
theorem own_toFin {x : Int32} (n : Nat) (hn : n ≤ 100) (h : 0 ≤ x.toInt ∧ x.toInt < (n : Int)) : ∃ k : Fin n, x = Int32.ofNat k.val := by
  refine ⟨⟨x.toNatClampNeg, own_ixn h⟩, ?_⟩
  apply Int32.toInt_inj.mp
  rw [Int32.toInt_ofNat_small (by have := own_ixn h; show x.toNatClampNeg < 2 ^ 31; omega)]
  simp only [Int32.toNatClampNeg]; omega
def SZ (s : Nat) (sh mk : Int32) : Prop := (s = 8 ∧ sh = (61 : Int32) ∧ mk = (7 : Int32)) ∨ (s = 16 ∧ sh = (60 : Int32) ∧ mk = (15 : Int32)) ∨ (s = 32 ∧ sh = (59 : Int32) ∧ mk = (31 : Int32))
def hsh (sh : Int32) (k : Int64) : Int32 := (((k * (-7046029254386353131 : Int64)).toUInt64 >>> (sh &&& 0x3f).toInt64.toUInt64).toInt64).toInt32
def HS (sh : Int32) (k : Int64) : Nat := (hsh sh k).toNatClampNeg
def KEY (f s : Int32) : Int64 := (f.toInt64 <<< ((32 : Int32) &&& 0x3f).toInt64) ||| (s.toInt64 &&& (4294967295 : Int64))
def fj (F : Nat → Int64) (x : Int64) (k : Nat) : Nat → Int64 := fun j => if j < k then x else F j
theorem own_fjS {F : Nat → Int64} {x : Int64} {i : Int32} {k n : Nat} (hi : i = Int32.ofNat k) (hk : k < 2147483648) : ∀ j, j < n → own_up (fj F x k) i.toNatClampNeg x j = fj F x (k + 1) j := by
  intro j _
  rw [own_kc hi hk]
  unfold own_up fj
  by_cases q : j = k
  · rw [if_pos q, if_pos (by omega)]
  · rw [if_neg q]
    by_cases r : j < k
    · rw [if_pos r, if_pos (by omega)]
    · rw [if_neg r, if_neg (by omega)]
theorem own_szb {s : Nat} {sh mk : Int32} (hz : SZ s sh mk) : 8 ≤ s ∧ s ≤ 32 := by
  rcases hz with ⟨h, _⟩ | ⟨h, _⟩ | ⟨h, _⟩ <;> omega
theorem own_mlt {a s : Nat} (h : 8 ≤ s ∧ s ≤ 32) : a % s < 2147483648 := by have := Nat.mod_lt a (show 0 < s by omega); omega
theorem own_hsh {s : Nat} {sh mk : Int32} (hz : SZ s sh mk) (k : Int64) : 0 ≤ (hsh sh k).toInt ∧ (hsh sh k).toInt < (s : Int) := by
  unfold hsh
  obtain ⟨x, hx⟩ : ∃ z, z = k * (-7046029254386353131 : Int64) := ⟨_, rfl⟩
  rw [← hx]
  have r := rng64 x
  rcases hz with ⟨h1, h2, _⟩ | ⟨h1, h2, _⟩ | ⟨h1, h2, _⟩ <;> subst h1 h2
  · have a := c_lushr x 61 61 (by decide) (by decide)
    obtain ⟨y, hy⟩ : ∃ z, z = (x.toUInt64 >>> ((61 : Int32) &&& 0x3f).toInt64.toUInt64).toInt64 := ⟨_, rfl⟩
    rw [← hy] at a ⊢
    have b : 0 ≤ y.toInt ∧ y.toInt < 8 := by rw [a]; omega
    rw [own_l2iE y (by omega)]; omega
  · have a := c_lushr x 60 60 (by decide) (by decide)
    obtain ⟨y, hy⟩ : ∃ z, z = (x.toUInt64 >>> ((60 : Int32) &&& 0x3f).toInt64.toUInt64).toInt64 := ⟨_, rfl⟩
    rw [← hy] at a ⊢
    have b : 0 ≤ y.toInt ∧ y.toInt < 16 := by rw [a]; omega
    rw [own_l2iE y (by omega)]; omega
  · have a := c_lushr x 59 59 (by decide) (by decide)
    obtain ⟨y, hy⟩ : ∃ z, z = (x.toUInt64 >>> ((59 : Int32) &&& 0x3f).toInt64.toUInt64).toInt64 := ⟨_, rfl⟩
    rw [← hy] at a ⊢
    have b : 0 ≤ y.toInt ∧ y.toInt < 32 := by rw [a]; omega
    rw [own_l2iE y (by omega)]; omega
theorem own_HS {s : Nat} {sh mk : Int32} (hz : SZ s sh mk) (k : Int64) : HS sh k < s := own_ixn (own_hsh hz k)
theorem own_HS0 {s : Nat} {sh mk : Int32} (hz : SZ s sh mk) (k : Int64) : hsh sh k = Int32.ofNat ((HS sh k + 0) % s) := by
  have a := own_HS hz k
  have b := own_hsh hz k
  have d := own_szb hz
  rw [Nat.add_zero, Nat.mod_eq_of_lt a]
  apply Int32.toInt_inj.mp
  rw [own_of (by omega)]
  unfold HS
  simp only [Int32.toNatClampNeg]; omega
theorem own_nxs {s : Nat} {sh mk sl : Int32} {u t : Nat} (hz : SZ s sh mk) (hs : sl = Int32.ofNat ((u + t) % s)) : ((sl + (1 : Int32)) &&& mk) = Int32.ofNat ((u + (t + 1)) % s) := by
  have d := own_szb hz
  have m := Nat.mod_lt (u + t) (show 0 < s by omega)
  have e := own_k1 hs (by omega)
  rw [e]
  apply Int32.toInt_inj.mp
  rw [own_of (own_mlt d)]
  have e2 := own_of (n := (u + t) % s + 1) (by omega)
  have e3 : (u + (t + 1)) % s = ((u + t) % s + 1) % s := by rw [← Nat.add_assoc, Nat.mod_add_mod]
  rw [e3]
  rcases hz with ⟨h1, _, h3⟩ | ⟨h1, _, h3⟩ | ⟨h1, _, h3⟩ <;> subst h1 h3
  · rw [c_mask _ 7 3 (by decide) (by decide), e2]; omega
  · rw [c_mask _ 15 4 (by decide) (by decide), e2]; omega
  · rw [c_mask _ 31 5 (by decide) (by decide), e2]; omega
def PN (s : Nat) (sh : Int32) (K : Nat → Int64) (M : Nat → Int32) (P : Nat → Nat) (ks : Nat → Int64) (n : Nat) : Prop :=
  (∀ i, i < n → P i < s ∧ K (P i) = ks i ∧ M (P i) = Int32.ofNat i ∧ ks i ≠ (-1 : Int64) ∧ ∃ d, (HS sh (ks i) + d) % s = P i ∧ ∀ t, t < d → K ((HS sh (ks i) + t) % s) ≠ (-1 : Int64)) ∧
  (∀ j, j < s → K j ≠ (-1 : Int64) → ∃ i, i < n ∧ P i = j)
def NR (ks : Nat → Int64) (n : Nat) (k : Int64) (r : Int32) (ks1 : Nat → Int64) (n1 : Nat) : Prop :=
  (∃ i, i < n ∧ ks i = k ∧ r = Int32.ofNat i ∧ ks1 = ks ∧ n1 = n) ∨ ((∀ i, i < n → ks i ≠ k) ∧ r = Int32.ofNat n ∧ ks1 = own_up ks n k ∧ n1 = n + 1)
theorem own_pn0 (s : Nat) (sh : Int32) (K : Nat → Int64) (M : Nat → Int32) (P : Nat → Nat) (ks : Nat → Int64) (h : ∀ j, j < s → K j = (-1 : Int64)) : PN s sh K M P ks 0 :=
  ⟨fun i hi => absurd hi (Nat.not_lt_zero i), fun j hj q => absurd (h j hj) q⟩
theorem own_pig : ∀ a b c d e : Fin 4, a = b ∨ a = c ∨ a = d ∨ a = e ∨ b = c ∨ b = d ∨ b = e ∨ c = d ∨ c = e ∨ d = e := by decide +kernel
theorem own_empty0 {s : Nat} {sh : Int32} {K : Nat → Int64} {M : Nat → Int32} {P : Nat → Nat} {ks : Nat → Int64} {n : Nat} (h : PN s sh K M P ks n) (hn : n ≤ 4) (hs : 8 ≤ s) : ∃ j, j < s ∧ K j = (-1 : Int64) := by
  refine Classical.byContradiction fun q => ?_
  have g : ∀ j, j < s → ∃ i : Fin 4, P i.val = j := fun j hj => by
    obtain ⟨i, hi, e⟩ := h.2 j hj (fun z => q ⟨j, hj, z⟩)
    exact ⟨⟨i, by omega⟩, e⟩
  obtain ⟨a, ha⟩ := g 0 (by omega)
  obtain ⟨b, hb⟩ := g 1 (by omega)
  obtain ⟨c, hc⟩ := g 2 (by omega)
  obtain ⟨d, hd⟩ := g 3 (by omega)
  obtain ⟨e, he⟩ := g 4 (by omega)
  rcases own_pig a b c d e with z | z | z | z | z | z | z | z | z | z <;> subst z <;> omega
theorem own_empty {s : Nat} {sh mk : Int32} {K : Nat → Int64} {M : Nat → Int32} {P : Nat → Nat} {ks : Nat → Int64} {n u : Nat} (h : PN s sh K M P ks n) (hn : n ≤ 4) (hz : SZ s sh mk) (hu : u < s) : ∃ t, K ((u + t) % s) = (-1 : Int64) := by
  have d := own_szb hz
  obtain ⟨j, hj, e⟩ := own_empty0 h hn d.1
  refine ⟨j + s - u, ?_⟩
  rw [show u + (j + s - u) = j + s by omega, Nat.add_mod_right, Nat.mod_eq_of_lt hj]; exact e
theorem own_tt {K : Nat → Int64} {u s t te : Nat} (ht : t ≤ te) (hte : K ((u + te) % s) = (-1 : Int64)) (q : ¬ (K ((u + t) % s) = (-1 : Int64))) : t < te := by
  rcases Nat.lt_or_ge t te with z | z
  · exact z
  · have : t = te := by omega
    subst this; exact absurd hte q
theorem own_hq {K : Nat → Int64} {u s t : Nat} {k : Int64} (h : ∀ v, v < t → K ((u + v) % s) ≠ k ∧ K ((u + v) % s) ≠ (-1 : Int64)) (q1 : ¬ (K ((u + t) % s) = k)) (q2 : ¬ (K ((u + t) % s) = (-1 : Int64))) : ∀ v, v < t + 1 → K ((u + v) % s) ≠ k ∧ K ((u + v) % s) ≠ (-1 : Int64) := by
  intro v hv
  by_cases z : v = t
  · subst z; exact ⟨q1, q2⟩
  · exact h v (by omega)
theorem own_found {s : Nat} {sh : Int32} {K : Nat → Int64} {M : Nat → Int32} {P : Nat → Nat} {ks : Nat → Int64} {n j : Nat} {k : Int64} (h : PN s sh K M P ks n) (hj : j < s) (hk : K j = k) (hm : k ≠ (-1 : Int64)) : ∃ i, i < n ∧ ks i = k ∧ M j = Int32.ofNat i := by
  obtain ⟨i, hi, e⟩ := h.2 j hj (by rw [hk]; exact hm)
  have a := h.1 i hi
  refine ⟨i, hi, ?_, ?_⟩
  · rw [← a.2.1, e, hk]
  · rw [← e]; exact a.2.2.1
theorem own_nf {s : Nat} {sh : Int32} {K : Nat → Int64} {M : Nat → Int32} {P : Nat → Nat} {ks : Nat → Int64} {n u t : Nat} {k : Int64} (h : PN s sh K M P ks n) (hu : u = HS sh k) (hj : (u + t) % s < s) (hq : ∀ v, v < t → K ((u + v) % s) ≠ k ∧ K ((u + v) % s) ≠ (-1 : Int64)) (he : K ((u + t) % s) = (-1 : Int64)) (hm : k ≠ (-1 : Int64)) : ∀ i, i < n → ks i ≠ k := by
  intro i hi z
  obtain ⟨a1, a2, a3, a4, d, a5, a6⟩ := h.1 i hi
  rw [z, ← hu] at a5 a6
  rw [← a5, z] at a2
  rcases Nat.lt_trichotomy d t with q | q | q
  · exact (hq d q).1 a2
  · subst q; exact hm (a2.symm.trans he)
  · exact a6 t q he
theorem own_addPN {s : Nat} {sh : Int32} {K : Nat → Int64} {M : Nat → Int32} {P : Nat → Nat} {ks : Nat → Int64} {n u t : Nat} {k : Int64} (h : PN s sh K M P ks n) (hu : u = HS sh k) (hj : (u + t) % s < s) (hq : ∀ v, v < t → K ((u + v) % s) ≠ k ∧ K ((u + v) % s) ≠ (-1 : Int64)) (he : K ((u + t) % s) = (-1 : Int64)) (hm : k ≠ (-1 : Int64)) :
    PN s sh (own_up K ((u + t) % s) k) (own_up M ((u + t) % s) (Int32.ofNat n)) (own_up P n ((u + t) % s)) (own_up ks n k) (n + 1) := by
  have keep : ∀ j, K j ≠ (-1 : Int64) → own_up K ((u + t) % s) k j ≠ (-1 : Int64) := fun j q => by
    unfold own_up; split
    · exact hm
    · exact q
  refine ⟨fun i hi => ?_, fun j hj2 q => ?_⟩
  · by_cases e : i = n
    · subst e
      have p1 : own_up P i ((u + t) % s) i = (u + t) % s := if_pos rfl
      have p2 : own_up ks i k i = k := if_pos rfl
      rw [p1, p2]
      refine ⟨hj, if_pos rfl, if_pos rfl, hm, t, by rw [← hu], fun v hv => ?_⟩
      rw [← hu]; exact keep _ (hq v hv).2
    · obtain ⟨a1, a2, a3, a4, d, a5, a6⟩ := h.1 i (by omega)
      have p1 : own_up P n ((u + t) % s) i = P i := if_neg e
      have p2 : own_up ks n k i = ks i := if_neg e
      have ne : P i ≠ (u + t) % s := fun z => a4 (by rw [← a2, z]; exact he)
      rw [p1, p2]
      exact ⟨a1, (if_neg ne).trans a2, (if_neg ne).trans a3, a4, d, a5, fun v hv => keep _ (a6 v hv)⟩
  · by_cases e : j = (u + t) % s
    · exact ⟨n, Nat.lt_succ_self n, (if_pos rfl).trans e.symm⟩
    · have q2 : K j ≠ (-1 : Int64) := by
        have : own_up K ((u + t) % s) k j = K j := if_neg e
        rw [this] at q; exact q
      obtain ⟨i, hi, f⟩ := h.2 j hj2 q2
      exact ⟨i, by omega, (if_neg (by omega)).trans f⟩
theorem own_Cb {Z : State} {h : Heap} {a : Addr} {ty : FieldType} {n : Nat} {f : Nat → Int32} (A : AI Z h a ty n f) : n < 2147483648 := A.1
theorem own_stP {P : Nat → Nat} {n C j0 : Nat} {sl : Int32} (hsl : sl = Int32.ofNat j0) (hC : C < 2147483648) (hn : n < C) : ∀ j, j < C → own_up (fun j => Int32.ofNat (P j)) (Int32.ofNat n).toNatClampNeg sl j = (fun j => Int32.ofNat (own_up P n j0 j)) j := by
  intro j _
  rw [own_cl (by omega), hsl]
  simp only [own_up]; split <;> rfl
theorem own_tn64 (x : Int64) (h : 0 ≤ x.toInt) : x.toBitVec.toNat = x.toInt.toNat := by
  have e : x.toInt = x.toBitVec.toInt := rfl
  rw [BitVec.toInt_eq_toNat_cond] at e
  have l := x.toBitVec.isLt
  split at e <;> omega
theorem own_keyI {f s : Int32} (hf : 0 ≤ f.toInt) : (KEY f s).toBitVec.toNat = f.toInt.toNat * 4294967296 + (s.toInt % 4294967296).toNat := by
  have r := rng32 f
  have a := c_lshl f.toInt64 32 32 (by decide)
  have b := c_maskL s.toInt64 4294967295 32 (by decide) (by decide)
  rw [Int32.toInt_toInt64] at a b
  unfold KEY
  obtain ⟨x, hx⟩ : ∃ z, z = f.toInt64 <<< ((32 : Int32) &&& 0x3f).toInt64 := ⟨_, rfl⟩
  obtain ⟨y, hy⟩ : ∃ z, z = s.toInt64 &&& (4294967295 : Int64) := ⟨_, rfl⟩
  rw [← hx] at a ⊢
  rw [← hy] at b ⊢
  have rx := rng64 x
  have ex : x.toInt = f.toInt * 4294967296 := by omega
  have m := Int.emod_lt_of_pos s.toInt (show (0 : Int) < 4294967296 by decide)
  have n := Int.emod_nonneg s.toInt (show (4294967296 : Int) ≠ 0 by decide)
  have ey : y.toInt = s.toInt % 4294967296 := by rw [b]; rfl
  rw [Int64.toBitVec_or, BitVec.toNat_or, own_tn64 x (by omega), own_tn64 y (by omega), ex, ey, show (f.toInt * 4294967296).toNat = f.toInt.toNat <<< 32 by rw [Nat.shiftLeft_eq]; omega, ← Nat.shiftLeft_add_eq_or_of_lt (by omega), Nat.shiftLeft_eq]
theorem own_keyN {f s : Int32} (hf : 0 ≤ f.toInt) : KEY f s ≠ (-1 : Int64) := by
  intro q
  have a := own_keyI (s := s) hf
  rw [q] at a
  have r := rng32 f
  have e : (-1 : Int64).toBitVec.toNat = 18446744073709551615 := by decide
  rw [e] at a
  have m := Int.emod_lt_of_pos s.toInt (show (0 : Int) < 4294967296 by decide)
  omega
theorem own_keyE {f s f' s' : Int32} (hf : 0 ≤ f.toInt) (hf' : 0 ≤ f'.toInt) : KEY f s = KEY f' s' ↔ (f = f' ∧ s = s') := by
  constructor
  · intro q
    have a := own_keyI (s := s) hf
    have b := own_keyI (s := s') hf'
    rw [q, b] at a
    have r := rng32 f
    have r' := rng32 f'
    have r1 := rng32 s
    have r2 := rng32 s'
    have m := Int.emod_lt_of_pos s.toInt (show (0 : Int) < 4294967296 by decide)
    have m' := Int.emod_lt_of_pos s'.toInt (show (0 : Int) < 4294967296 by decide)
    have n := Int.emod_nonneg s.toInt (show (4294967296 : Int) ≠ 0 by decide)
    have n' := Int.emod_nonneg s'.toInt (show (4294967296 : Int) ≠ 0 by decide)
    exact ⟨Int32.toInt_inj.mp (by omega), Int32.toInt_inj.mp (by omega)⟩
  · rintro ⟨rfl, rfl⟩; rfl
def DS (ks : Nat → Int64) (n : Nat) : Prop := ∀ i j, i < n → j < n → ks i = ks j → i = j
theorem own_nr {ks ks1 : Nat → Int64} {n n1 : Nat} {k : Int64} {r : Int32} (h : NR ks n k r ks1 n1) (D : DS ks n) : (∀ i, i < n → ks i = k → r = Int32.ofNat i ∧ ks1 = ks ∧ n1 = n) ∧ ((∀ i, i < n → ks i ≠ k) → r = Int32.ofNat n ∧ ks1 = own_up ks n k ∧ n1 = n + 1) ∧ DS ks1 n1 := by
  rcases h with ⟨i, hi, e1, e2, e3, e4⟩ | ⟨e1, e2, e3, e4⟩
  · refine ⟨fun j hj q => ⟨?_, e3, e4⟩, fun q => absurd e1 (q i hi), ?_⟩
    · rw [D j i hj hi (q.trans e1.symm)]; exact e2
    · rw [e3, e4]; exact D
  · refine ⟨fun j hj q => absurd q (e1 j hj), fun _ => ⟨e2, e3, e4⟩, ?_⟩
    rw [e3, e4]
    intro i j hi hj q
    unfold own_up at q
    by_cases a : i = n <;> by_cases b : j = n
    · omega
    · rw [if_pos a, if_neg b] at q; exact absurd q.symm (e1 j (by omega))
    · rw [if_neg a, if_pos b] at q; exact absurd q (e1 i (by omega))
    · rw [if_neg a, if_neg b] at q; exact D i j (by omega) (by omega) q
theorem own_ds0 (ks : Nat → Int64) : DS ks 0 := fun i _ hi => absurd hi (Nat.not_lt_zero i)
def clr (K : Nat → Int64) (P : Nat → Nat) : Nat → Nat → Int64
  | 0 => K
  | k + 1 => own_up (clr K P k) (P k) (-1 : Int64)
theorem own_clr0 (K : Nat → Int64) (P : Nat → Nat) (j : Nat) : ∀ m, clr K P m j = K j ∨ clr K P m j = (-1 : Int64)
  | 0 => Or.inl rfl
  | m + 1 => by
    show own_up (clr K P m) (P m) (-1 : Int64) j = K j ∨ own_up (clr K P m) (P m) (-1 : Int64) j = (-1 : Int64)
    unfold own_up; split
    · exact Or.inr rfl
    · exact own_clr0 K P j m
theorem own_clr1 (K : Nat → Int64) (P : Nat → Nat) (i : Nat) : ∀ m, i < m → clr K P m (P i) = (-1 : Int64)
  | 0, h => absurd h (Nat.not_lt_zero i)
  | m + 1, h => by
    show own_up (clr K P m) (P m) (-1 : Int64) (P i) = (-1 : Int64)
    unfold own_up; split
    · rfl
    · rename_i q
      exact own_clr1 K P i m (by rcases Nat.lt_or_ge i m with z | z; exact z; exact absurd (show P i = P m by rw [show i = m by omega]) q)
theorem own_clrE {s : Nat} {sh : Int32} {K : Nat → Int64} {M : Nat → Int32} {P : Nat → Nat} {ks : Nat → Int64} {n k : Nat} (h : PN s sh K M P ks n) (hk : k = n) : ∀ j, j < s → clr K P k j = (-1 : Int64) := by
  intro j hj
  subst hk
  by_cases q : K j = (-1 : Int64)
  · rcases own_clr0 K P j k with z | z
    · rw [z]; exact q
    · exact z
  · obtain ⟨i, hi, e⟩ := h.2 j hj q
    rw [← e]; exact own_clr1 K P i k hi
theorem own_ii {α : Type} {a b : Prop} [Decidable a] [Decidable b] (A B : α) : (if a then (if b then A else B) else B) = (if a ∧ b then A else B) := by
  by_cases p : a <;> by_cases q : b <;> simp [p, q]
theorem own_bii {a b : Prop} [Decidable a] [Decidable b] : bI (¬ a ∨ (¬ b)) = (if a ∧ b then (0 : Int32) else (1 : Int32)) := by
  unfold bI; by_cases p : a <;> by_cases q : b <;> simp [p, q]
theorem own_bia {a b : Prop} [Decidable a] [Decidable b] : bI (a ∧ b) = (if a ∧ b then (1 : Int32) else (0 : Int32)) := rfl

theorem own_cap {x y : Int32} (h : y = ((3 : Int32) + (x &&& (3 : Int32)))) : y = (3 : Int32) ∨ y = (4 : Int32) ∨ y = (5 : Int32) ∨ y = (6 : Int32) := by
  have a := own_mB x 3 2 (by decide) (by decide) 3 (by decide)
  have b := own_iaddE 3 (x &&& 3) (by simp only [Int32.reduceToInt]; omega)
  simp only [Int32.reduceToInt] at b
  rw [← h] at b
  simp only [← Int32.toInt_inj, Int32.reduceToInt]; omega
theorem own_fin2 {k0 k1 : Int64} {r0 r1 : Int32} {ks0 ks1 ks2 : Nat → Int64} {n1 n2 : Nat} (R0 : NR ks0 0 k0 r0 ks1 n1) (R1 : NR ks1 n1 k1 r1 ks2 n2) : r0 = (0 : Int32) ∧ (k1 = k0 → r1 = (0 : Int32) ∧ Int32.ofNat n2 = (1 : Int32)) ∧ (k1 ≠ k0 → r1 = (1 : Int32) ∧ Int32.ofNat n2 = (2 : Int32)) := by
  have D0 := own_ds0 ks0
  obtain ⟨rfl, rfl, rfl⟩ := (own_nr R0 D0).2.1 (fun i hi => absurd hi (Nat.not_lt_zero i))
  have D1 := (own_nr R0 D0).2.2
  refine ⟨rfl, fun q => ?_, fun q => ?_⟩
  · subst q
    obtain ⟨rfl, rfl, rfl⟩ := (own_nr R1 D1).1 0 (by omega) rfl
    exact ⟨rfl, rfl⟩
  · obtain ⟨rfl, rfl, rfl⟩ := (own_nr R1 D1).2.1 (by intro i hi; rcases (show i = 0 by omega) with rfl; exact fun z => q z.symm)
    exact ⟨rfl, rfl⟩
theorem pn7 : plainName "java/util/Arrays" = true := by first | (simp [plainName, overriddenIn]; done) | decide +kernel
theorem ef7 (m : MethodId) (x0 : Addr) (x1 : Int64) : entryFrame m #[(.ref x0), (.long x1)] 5 = mkF m 0 #[.val (.ref x0), .val (.long x1), .second, .unset, .unset] [] := by first | (simp [entryFrame, mkF, argsToLocals, Value.category]; done) | rfl
set_option maxRecDepth 65536 in
set_option maxHeartbeats 40000000 in
theorem rm7 (l : Launch) (Z : State) (a0 : Array Value) (hw : ∀ d ∈ tables_1, d.before a0 Z = true) (ws : List Jvm.Cond) (a1 : Addr) (q2 : Int64) (N : Nat) (F : Nat → Int64) (h0 : Heap) (n0 : Nat) (Z0 : n0 ≤ h0.size) (A_a1 : AJ Z h0 a1 N F) (g_a1 : n0 ≤ a1) (hN : N ≤ 100) :
    Met l Z (⟨"java/util/Arrays", "fill", "([JJ)V"⟩ : MethodName) jdk_65_method_101_code 5 none ({ frames := 0, cells := 0, slots := 0, locals := 0 } : Room) ws n0 #[(.ref a1), (.long q2)] h0 (fun v h' => v = none ∧ Keep h0 h' [a1] ∧ AJ Z h' a1 N (fun _ => q2)) := by
  refine Met.intro (plainFor_of_name pn7) Z0 ?_
  intro p e s m below meth c T X
  refine g_cast (ef7 m a1 q2) ?_
  have K : Keep h0 h0 [a1] := Keep.refl h0 _
  refine g_iconst X d7_0 rfl (q := 1) (v := 0) rfl ?_
  refine g_istoreN X d7_1 rfl (q := 2) (L' := #[.val (.ref a1), .val (.long q2), .second, .val (.int (0 : Int32)), .unset]) rfl ?_
  refine g_aloadN X d7_2 rfl (q := 3) rfl rfl ?_
  refine g_alenJ X A_a1 d7_3 (q := 4) rfl ?_
  refine g_istore X d7_4 rfl (q := 6) (L' := #[.val (.ref a1), .val (.long q2), .second, .val (.int (0 : Int32)), .val (.int (Nat.toInt32 N))]) rfl ?_
  have A_a1 : AJ Z _ a1 N (fj F q2 0) := A_a1.to (fun j _ => (if_neg (Nat.not_lt_zero j)).symm)
  refine g_loop2 X (H := 6) (fun (i : Int32) (k : Nat) => N - k) (fun i k h => AJ Z h a1 N (fj F q2 k) ∧ Keep h0 h [a1] ∧ i = Int32.ofNat k ∧ k ≤ N) (fun i k => #[.val (.ref a1), .val (.long q2), .second, .val (.int i), .val (.int (Nat.toInt32 N))]) (fun i k => []) 0 0 ⟨A_a1, K, rfl, (Nat.zero_le _)⟩ (fun i k T h X hI ih => ?_)
  have hI2 : AJ Z h a1 N (fj F q2 k) ∧ Keep h0 h [a1] ∧ i = Int32.ofNat k ∧ k ≤ N := hI
  obtain ⟨A_a1, K, hi, hk⟩ := hI2
  show Goes p e below s _ n0 _ (T.setTop (mkF m 6 #[.val (.ref a1), .val (.long q2), .second, .val (.int i), .val (.int (Nat.toInt32 N))] []))
  refine g_iloadN X d7_6 rfl (q := 7) rfl ?_
  refine g_iload X d7_7 rfl (q := 9) rfl ?_
  refine g_icmpB X d7_9 (Or.inl rfl) (q := 12) rfl (by decide) (t := 22) rfl (fun (c1 : i < (Nat.toInt32 N)) => ?_) (fun (c1 : ¬ (i < (Nat.toInt32 N))) => ?_)
  · skip
    have hkN : k < N := (own_ltN hi hk (by omega)).mp c1
    refine g_aloadN X d7_12 rfl (q := 13) rfl rfl ?_
    refine g_iloadN X d7_13 rfl (q := 14) rfl ?_
    refine g_lloadN X d7_14 rfl (q := 15) rfl ?_
    refine g_lastore X A_a1 (own_ki hi hkN (by omega)) g_a1 d7_15 (q := 16) rfl (fun T h X W => ?_)
    have A_a1 : AJ Z h a1 N (own_up (fj F q2 k) i.toNatClampNeg q2) := A_a1.set W
    have K := K.wr W (Or.inl (List.mem_of_getElem? (i := 0) rfl))
    have A_a1 : AJ Z h a1 N (fj F q2 (k + 1)) := A_a1.to (own_fjS hi (by omega))
    refine g_iinc X d7_16 (q := 19) rfl rfl (d := 1) rfl (L' := #[.val (.ref a1), .val (.long q2), .second, .val (.int (i + (1 : Int32))), .val (.int (Nat.toInt32 N))]) rfl ?_
    refine g_goto X d7_19 (by decide) (q := 6) rfl ?_
    exact ih (i + 1) (k + 1) T _ X ⟨A_a1, K, (own_k1 hi (by omega)), (by omega)⟩ (by show N - (k + 1) < N - k; omega)
  · skip
    exact g_ret0 X d7_22 (by decide) (by decide) ⟨rfl, K, A_a1.to (fun j hj => if_pos (by have := own_eqN hi hk (by omega) c1; omega))⟩
theorem ef3_1_5 (m : MethodId) (x0 : Int32) (x1 : Int32) : entryFrame m #[(.int x0), (.int x1)] 2 = mkF m 0 #[.val (.int x0), .val (.int x1)] [] := by first | (simp [entryFrame, mkF, argsToLocals, Value.category]; done) | rfl
set_option maxRecDepth 65536 in
set_option maxHeartbeats 40000000 in
theorem rm3_1_5 (l : Launch) (Z : State) (a0 : Array Value) (hw : ∀ d ∈ tables_1, d.before a0 Z = true) (ws : List Jvm.Cond)  (h0 : Heap) (n0 : Nat) (Z0 : n0 ≤ h0.size) :
    Met l Z (⟨"java/lang/Math", "max", "(II)I"⟩ : MethodName) jdk_29_method_65_code 2 (some .int) ({ frames := 0, cells := 0, slots := 0, locals := 0 } : Room) ws n0 #[(.int (1 : Int32)), (.int (5 : Int32))] h0 (fun v h' => v = some (.int (5 : Int32)) ∧ h0 = h') := by
  refine Met.intro (Jvm.Free.JP.mathPlain rfl (by decide +kernel)) Z0 ?_
  intro p e s m below meth c T X
  refine g_cast (ef3_1_5 m (1 : Int32) (5 : Int32)) ?_
  refine g_iloadN X d3_0 rfl (q := 1) rfl ?_
  refine g_iloadN X d3_1 rfl (q := 2) rfl ?_
  refine g_icmpA X d3_2 (Or.inl rfl) (q := 5) rfl (by decide) (t := 9) rfl (fun (c1 : (1 : Int32) < (5 : Int32)) => ?_) (fun (c1 : ¬ ((1 : Int32) < (5 : Int32))) => ?_)
  · skip
    refine g_iloadN X d3_9 rfl (q := 10) rfl ?_
    exact g_retI X d3_10 (by decide) (by decide) ⟨rfl, rfl⟩
  · skip
    exact absurd c1 (by decide)
theorem pn5_5 : plainName "java/lang/Integer" = true := by first | (simp [plainName, overriddenIn]; done) | decide +kernel
theorem ef5_5 (m : MethodId) (x0 : Int32) : entryFrame m #[(.int x0)] 2 = mkF m 0 #[.val (.int x0), .unset] [] := by first | (simp [entryFrame, mkF, argsToLocals, Value.category]; done) | rfl
set_option maxRecDepth 65536 in
set_option maxHeartbeats 40000000 in
theorem rm5_5 (l : Launch) (Z : State) (a0 : Array Value) (hw : ∀ d ∈ tables_1, d.before a0 Z = true) (ws : List Jvm.Cond)  (h0 : Heap) (n0 : Nat) (Z0 : n0 ≤ h0.size) :
    Met l Z (⟨"java/lang/Integer", "numberOfLeadingZeros", "(I)I"⟩ : MethodName) jdk_33_method_47_code 2 (some .int) ({ frames := 0, cells := 0, slots := 0, locals := 0 } : Room) ws n0 #[(.int (5 : Int32))] h0 (fun v h' => v = some (.int (29 : Int32)) ∧ h0 = h') := by
  refine Met.intro (plainFor_of_name pn5_5) Z0 ?_
  intro p e s m below meth c T X
  refine g_cast (ef5_5 m (5 : Int32)) ?_
  refine g_iloadN X d5_0 rfl (q := 1) rfl ?_
  refine g_ifA X d5_1 (Or.inr (Or.inl rfl)) (q := 4) rfl (by decide) (t := 15) rfl (fun (c1 : (0 : Int32) < (5 : Int32)) => ?_) (fun (c1 : ¬ ((0 : Int32) < (5 : Int32))) => ?_)
  · skip
    refine g_bipush X d5_15 rfl (q := 17) (v := 31) rfl ?_
    refine g_istoreN X d5_17 rfl (q := 18) (L' := #[.val (.int (5 : Int32)), .val (.int (31 : Int32))]) rfl ?_
    refine g_iloadN X d5_18 rfl (q := 19) rfl ?_
    refine g_ldcw X (tw23 hw) d5_19 (q := 22) rfl ?_
    refine g_icmpA X d5_22 (Or.inl rfl) (q := 25) rfl (by decide) (t := 33) rfl (fun (c2 : (5 : Int32) < (65536 : Int32)) => ?_) (fun (c2 : ¬ ((5 : Int32) < (65536 : Int32))) => ?_)
    · skip
      refine g_iloadN X d5_33 rfl (q := 34) rfl ?_
      refine g_sipush X d5_34 rfl (q := 37) (v := 256) rfl ?_
      refine g_icmpA X d5_37 (Or.inl rfl) (q := 40) rfl (by decide) (t := 48) rfl (fun (c3 : (5 : Int32) < (256 : Int32)) => ?_) (fun (c3 : ¬ ((5 : Int32) < (256 : Int32))) => ?_)
      · skip
        refine g_iloadN X d5_48 rfl (q := 49) rfl ?_
        refine g_bipush X d5_49 rfl (q := 51) (v := 16) rfl ?_
        refine g_icmpA X d5_51 (Or.inl rfl) (q := 54) rfl (by decide) (t := 61) rfl (fun (c4 : (5 : Int32) < (16 : Int32)) => ?_) (fun (c4 : ¬ ((5 : Int32) < (16 : Int32))) => ?_)
        · skip
          refine g_iloadN X d5_61 rfl (q := 62) rfl ?_
          refine g_iconst X d5_62 rfl (q := 63) (v := 4) rfl ?_
          refine g_icmpA X d5_63 (Or.inl rfl) (q := 66) rfl (by decide) (t := 73) rfl (fun (c5 : (5 : Int32) < (4 : Int32)) => ?_) (fun (c5 : ¬ ((5 : Int32) < (4 : Int32))) => ?_)
          · skip
            exact absurd c5 (by decide)
          · skip
            refine g_iinc X d5_66 (q := 69) rfl rfl (d := -2) rfl (L' := #[.val (.int (5 : Int32)), .val (.int (29 : Int32))]) rfl ?_
            refine g_iloadN X d5_69 rfl (q := 70) rfl ?_
            refine g_iconst X d5_70 rfl (q := 71) (v := 2) rfl ?_
            refine g_iushr X d5_71 rfl (q := 72) ?_
            refine g_eqI (y := (1 : Int32)) (by decide) ?_
            refine g_istoreN X d5_72 rfl (q := 73) (L' := #[.val (.int (1 : Int32)), .val (.int (29 : Int32))]) rfl ?_
            refine g_iloadN X d5_73 rfl (q := 74) rfl ?_
            refine g_iloadN X d5_74 rfl (q := 75) rfl ?_
            refine g_iconst X d5_75 rfl (q := 76) (v := 1) rfl ?_
            refine g_iushr X d5_76 rfl (q := 77) ?_
            refine g_eqI (y := (0 : Int32)) (by decide) ?_
            refine g_isub X d5_77 rfl (q := 78) ?_
            refine g_eqI (y := (29 : Int32)) (by decide) ?_
            exact g_retI X d5_78 (by decide) (by decide) ⟨rfl, rfl⟩
        · skip
          exact absurd c4 (by decide)
      · skip
        exact absurd c3 (by decide)
    · skip
      exact absurd c2 (by decide)
  · skip
    exact absurd c1 (by decide)
theorem pn4_5 : plainName "java/lang/Integer" = true := by first | (simp [plainName, overriddenIn]; done) | decide +kernel
theorem ef4_5 (m : MethodId) (x0 : Int32) : entryFrame m #[(.int x0)] 1 = mkF m 0 #[.val (.int x0)] [] := by first | (simp [entryFrame, mkF, argsToLocals, Value.category]; done) | rfl
set_option maxRecDepth 65536 in
set_option maxHeartbeats 40000000 in
theorem rm4_5 (l : Launch) (Z : State) (a0 : Array Value) (hw : ∀ d ∈ tables_1, d.before a0 Z = true) (ws : List Jvm.Cond)  (h0 : Heap) (n0 : Nat) (Z0 : n0 ≤ h0.size) :
    Met l Z (⟨"java/lang/Integer", "highestOneBit", "(I)I"⟩ : MethodName) jdk_33_method_45_code 1 (some .int) ({ frames := 1, cells := 0, slots := 0, locals := 15 } : Room) ws n0 #[(.int (5 : Int32))] h0 (fun v h' => v = some (.int (4 : Int32)) ∧ h0 = h') := by
  refine Met.intro (plainFor_of_name pn4_5) Z0 ?_
  intro p e s m below meth c T X
  refine g_cast (ef4_5 m (5 : Int32)) ?_
  refine g_iloadN X d4_0 rfl (q := 1) rfl ?_
  refine g_ldc X (tw19 hw) d4_1 (q := 3) rfl ?_
  refine g_iloadN X d4_3 rfl (q := 4) rfl ?_
  refine g_callS X [(.int (5 : Int32))] [(.int (-2147483648 : Int32)), (.int (5 : Int32))] (tw20 hw) (tw21 hw) (tw17 hw) (tw22 hw) (by decide) (rm5_5 l Z a0 hw []  _ n0 X.size) pd1 rfl rfl rfl d4_4 (q := 7) rfl (W := 2) rfl (by decide) (by decide) (c2 := 0) (s2 := 0) rfl rfl (by decide) (by decide) (fun v T h' X hQ => ?_)
  obtain ⟨rfl, rfl⟩ := hQ
  show Goes p e below s _ n0 _ (T.setTop (mkF m 7 #[.val (.int (5 : Int32))] [(.int (29 : Int32)), (.int (-2147483648 : Int32)), (.int (5 : Int32))]))
  refine g_iushr X d4_7 rfl (q := 8) ?_
  refine g_eqI (y := (4 : Int32)) (by decide) ?_
  refine g_iand X d4_8 rfl (q := 9) ?_
  refine g_eqI (y := (4 : Int32)) (by decide) ?_
  exact g_retI X d4_9 (by decide) (by decide) ⟨rfl, rfl⟩
theorem pn6_8 : plainName "java/lang/Integer" = true := by first | (simp [plainName, overriddenIn]; done) | decide +kernel
theorem ef6_8 (m : MethodId) (x0 : Int32) : entryFrame m #[(.int x0)] 2 = mkF m 0 #[.val (.int x0), .unset] [] := by first | (simp [entryFrame, mkF, argsToLocals, Value.category]; done) | rfl
set_option maxRecDepth 65536 in
set_option maxHeartbeats 40000000 in
theorem rm6_8 (l : Launch) (Z : State) (a0 : Array Value) (hw : ∀ d ∈ tables_1, d.before a0 Z = true) (ws : List Jvm.Cond)  (h0 : Heap) (n0 : Nat) (Z0 : n0 ≤ h0.size) :
    Met l Z (⟨"java/lang/Integer", "numberOfTrailingZeros", "(I)I"⟩ : MethodName) jdk_33_method_48_code 2 (some .int) ({ frames := 0, cells := 0, slots := 0, locals := 0 } : Room) ws n0 #[(.int (8 : Int32))] h0 (fun v h' => v = some (.int (3 : Int32)) ∧ h0 = h') := by
  refine Met.intro (plainFor_of_name pn6_8) Z0 ?_
  intro p e s m below meth c T X
  refine g_cast (ef6_8 m (8 : Int32)) ?_
  refine g_iloadN X d6_0 rfl (q := 1) rfl ?_
  refine g_iconst X d6_1 rfl (q := 2) (v := -1) rfl ?_
  refine g_ixor X d6_2 rfl (q := 3) ?_
  refine g_eqI (y := (-9 : Int32)) (by decide) ?_
  refine g_iloadN X d6_3 rfl (q := 4) rfl ?_
  refine g_iconst X d6_4 rfl (q := 5) (v := 1) rfl ?_
  refine g_isub X d6_5 rfl (q := 6) ?_
  refine g_eqI (y := (7 : Int32)) (by decide) ?_
  refine g_iand X d6_6 rfl (q := 7) ?_
  refine g_eqI (y := (7 : Int32)) (by decide) ?_
  refine g_istoreN X d6_7 rfl (q := 8) (L' := #[.val (.int (7 : Int32)), .unset]) rfl ?_
  refine g_iloadN X d6_8 rfl (q := 9) rfl ?_
  refine g_ifA X d6_9 (Or.inr (Or.inl rfl)) (q := 12) rfl (by decide) (t := 17) rfl (fun (c1 : (0 : Int32) < (7 : Int32)) => ?_) (fun (c1 : ¬ ((0 : Int32) < (7 : Int32))) => ?_)
  · skip
    refine g_iconst X d6_17 rfl (q := 18) (v := 1) rfl ?_
    refine g_istoreN X d6_18 rfl (q := 19) (L' := #[.val (.int (7 : Int32)), .val (.int (1 : Int32))]) rfl ?_
    refine g_iloadN X d6_19 rfl (q := 20) rfl ?_
    refine g_ldcw X (tw23 hw) d6_20 (q := 23) rfl ?_
    refine g_icmpB X d6_23 (Or.inr (Or.inl rfl)) (q := 26) rfl (by decide) (t := 34) rfl (fun (c2 : (65536 : Int32) < (7 : Int32)) => ?_) (fun (c2 : ¬ ((65536 : Int32) < (7 : Int32))) => ?_)
    · skip
      exact absurd c2 (by decide)
    · skip
      refine g_iloadN X d6_34 rfl (q := 35) rfl ?_
      refine g_sipush X d6_35 rfl (q := 38) (v := 256) rfl ?_
      refine g_icmpB X d6_38 (Or.inr (Or.inl rfl)) (q := 41) rfl (by decide) (t := 49) rfl (fun (c3 : (256 : Int32) < (7 : Int32)) => ?_) (fun (c3 : ¬ ((256 : Int32) < (7 : Int32))) => ?_)
      · skip
        exact absurd c3 (by decide)
      · skip
        refine g_iloadN X d6_49 rfl (q := 50) rfl ?_
        refine g_bipush X d6_50 rfl (q := 52) (v := 16) rfl ?_
        refine g_icmpB X d6_52 (Or.inr (Or.inl rfl)) (q := 55) rfl (by decide) (t := 62) rfl (fun (c4 : (16 : Int32) < (7 : Int32)) => ?_) (fun (c4 : ¬ ((16 : Int32) < (7 : Int32))) => ?_)
        · skip
          exact absurd c4 (by decide)
        · skip
          refine g_iloadN X d6_62 rfl (q := 63) rfl ?_
          refine g_iconst X d6_63 rfl (q := 64) (v := 4) rfl ?_
          refine g_icmpB X d6_64 (Or.inr (Or.inl rfl)) (q := 67) rfl (by decide) (t := 74) rfl (fun (c5 : (4 : Int32) < (7 : Int32)) => ?_) (fun (c5 : ¬ ((4 : Int32) < (7 : Int32))) => ?_)
          · skip
            refine g_iinc X d6_67 (q := 70) rfl rfl (d := 2) rfl (L' := #[.val (.int (7 : Int32)), .val (.int (3 : Int32))]) rfl ?_
            refine g_iloadN X d6_70 rfl (q := 71) rfl ?_
            refine g_iconst X d6_71 rfl (q := 72) (v := 2) rfl ?_
            refine g_iushr X d6_72 rfl (q := 73) ?_
            refine g_eqI (y := (1 : Int32)) (by decide) ?_
            refine g_istoreN X d6_73 rfl (q := 74) (L' := #[.val (.int (1 : Int32)), .val (.int (3 : Int32))]) rfl ?_
            refine g_iloadN X d6_74 rfl (q := 75) rfl ?_
            refine g_iloadN X d6_75 rfl (q := 76) rfl ?_
            refine g_iconst X d6_76 rfl (q := 77) (v := 1) rfl ?_
            refine g_iushr X d6_77 rfl (q := 78) ?_
            refine g_eqI (y := (0 : Int32)) (by decide) ?_
            refine g_iadd X d6_78 rfl (q := 79) ?_
            refine g_eqI (y := (3 : Int32)) (by decide) ?_
            exact g_retI X d6_79 (by decide) (by decide) ⟨rfl, rfl⟩
          · skip
            exact absurd c5 (by decide)
  · skip
    exact absurd c1 (by decide)
theorem ef3_1_7 (m : MethodId) (x0 : Int32) (x1 : Int32) : entryFrame m #[(.int x0), (.int x1)] 2 = mkF m 0 #[.val (.int x0), .val (.int x1)] [] := by first | (simp [entryFrame, mkF, argsToLocals, Value.category]; done) | rfl
set_option maxRecDepth 65536 in
set_option maxHeartbeats 40000000 in
theorem rm3_1_7 (l : Launch) (Z : State) (a0 : Array Value) (hw : ∀ d ∈ tables_1, d.before a0 Z = true) (ws : List Jvm.Cond)  (h0 : Heap) (n0 : Nat) (Z0 : n0 ≤ h0.size) :
    Met l Z (⟨"java/lang/Math", "max", "(II)I"⟩ : MethodName) jdk_29_method_65_code 2 (some .int) ({ frames := 0, cells := 0, slots := 0, locals := 0 } : Room) ws n0 #[(.int (1 : Int32)), (.int (7 : Int32))] h0 (fun v h' => v = some (.int (7 : Int32)) ∧ h0 = h') := by
  refine Met.intro (Jvm.Free.JP.mathPlain rfl (by decide +kernel)) Z0 ?_
  intro p e s m below meth c T X
  refine g_cast (ef3_1_7 m (1 : Int32) (7 : Int32)) ?_
  refine g_iloadN X d3_0 rfl (q := 1) rfl ?_
  refine g_iloadN X d3_1 rfl (q := 2) rfl ?_
  refine g_icmpA X d3_2 (Or.inl rfl) (q := 5) rfl (by decide) (t := 9) rfl (fun (c1 : (1 : Int32) < (7 : Int32)) => ?_) (fun (c1 : ¬ ((1 : Int32) < (7 : Int32))) => ?_)
  · skip
    refine g_iloadN X d3_9 rfl (q := 10) rfl ?_
    exact g_retI X d3_10 (by decide) (by decide) ⟨rfl, rfl⟩
  · skip
    exact absurd c1 (by decide)
theorem pn5_7 : plainName "java/lang/Integer" = true := by first | (simp [plainName, overriddenIn]; done) | decide +kernel
theorem ef5_7 (m : MethodId) (x0 : Int32) : entryFrame m #[(.int x0)] 2 = mkF m 0 #[.val (.int x0), .unset] [] := by first | (simp [entryFrame, mkF, argsToLocals, Value.category]; done) | rfl
set_option maxRecDepth 65536 in
set_option maxHeartbeats 40000000 in
theorem rm5_7 (l : Launch) (Z : State) (a0 : Array Value) (hw : ∀ d ∈ tables_1, d.before a0 Z = true) (ws : List Jvm.Cond)  (h0 : Heap) (n0 : Nat) (Z0 : n0 ≤ h0.size) :
    Met l Z (⟨"java/lang/Integer", "numberOfLeadingZeros", "(I)I"⟩ : MethodName) jdk_33_method_47_code 2 (some .int) ({ frames := 0, cells := 0, slots := 0, locals := 0 } : Room) ws n0 #[(.int (7 : Int32))] h0 (fun v h' => v = some (.int (29 : Int32)) ∧ h0 = h') := by
  refine Met.intro (plainFor_of_name pn5_7) Z0 ?_
  intro p e s m below meth c T X
  refine g_cast (ef5_7 m (7 : Int32)) ?_
  refine g_iloadN X d5_0 rfl (q := 1) rfl ?_
  refine g_ifA X d5_1 (Or.inr (Or.inl rfl)) (q := 4) rfl (by decide) (t := 15) rfl (fun (c1 : (0 : Int32) < (7 : Int32)) => ?_) (fun (c1 : ¬ ((0 : Int32) < (7 : Int32))) => ?_)
  · skip
    refine g_bipush X d5_15 rfl (q := 17) (v := 31) rfl ?_
    refine g_istoreN X d5_17 rfl (q := 18) (L' := #[.val (.int (7 : Int32)), .val (.int (31 : Int32))]) rfl ?_
    refine g_iloadN X d5_18 rfl (q := 19) rfl ?_
    refine g_ldcw X (tw23 hw) d5_19 (q := 22) rfl ?_
    refine g_icmpA X d5_22 (Or.inl rfl) (q := 25) rfl (by decide) (t := 33) rfl (fun (c2 : (7 : Int32) < (65536 : Int32)) => ?_) (fun (c2 : ¬ ((7 : Int32) < (65536 : Int32))) => ?_)
    · skip
      refine g_iloadN X d5_33 rfl (q := 34) rfl ?_
      refine g_sipush X d5_34 rfl (q := 37) (v := 256) rfl ?_
      refine g_icmpA X d5_37 (Or.inl rfl) (q := 40) rfl (by decide) (t := 48) rfl (fun (c3 : (7 : Int32) < (256 : Int32)) => ?_) (fun (c3 : ¬ ((7 : Int32) < (256 : Int32))) => ?_)
      · skip
        refine g_iloadN X d5_48 rfl (q := 49) rfl ?_
        refine g_bipush X d5_49 rfl (q := 51) (v := 16) rfl ?_
        refine g_icmpA X d5_51 (Or.inl rfl) (q := 54) rfl (by decide) (t := 61) rfl (fun (c4 : (7 : Int32) < (16 : Int32)) => ?_) (fun (c4 : ¬ ((7 : Int32) < (16 : Int32))) => ?_)
        · skip
          refine g_iloadN X d5_61 rfl (q := 62) rfl ?_
          refine g_iconst X d5_62 rfl (q := 63) (v := 4) rfl ?_
          refine g_icmpA X d5_63 (Or.inl rfl) (q := 66) rfl (by decide) (t := 73) rfl (fun (c5 : (7 : Int32) < (4 : Int32)) => ?_) (fun (c5 : ¬ ((7 : Int32) < (4 : Int32))) => ?_)
          · skip
            exact absurd c5 (by decide)
          · skip
            refine g_iinc X d5_66 (q := 69) rfl rfl (d := -2) rfl (L' := #[.val (.int (7 : Int32)), .val (.int (29 : Int32))]) rfl ?_
            refine g_iloadN X d5_69 rfl (q := 70) rfl ?_
            refine g_iconst X d5_70 rfl (q := 71) (v := 2) rfl ?_
            refine g_iushr X d5_71 rfl (q := 72) ?_
            refine g_eqI (y := (1 : Int32)) (by decide) ?_
            refine g_istoreN X d5_72 rfl (q := 73) (L' := #[.val (.int (1 : Int32)), .val (.int (29 : Int32))]) rfl ?_
            refine g_iloadN X d5_73 rfl (q := 74) rfl ?_
            refine g_iloadN X d5_74 rfl (q := 75) rfl ?_
            refine g_iconst X d5_75 rfl (q := 76) (v := 1) rfl ?_
            refine g_iushr X d5_76 rfl (q := 77) ?_
            refine g_eqI (y := (0 : Int32)) (by decide) ?_
            refine g_isub X d5_77 rfl (q := 78) ?_
            refine g_eqI (y := (29 : Int32)) (by decide) ?_
            exact g_retI X d5_78 (by decide) (by decide) ⟨rfl, rfl⟩
        · skip
          exact absurd c4 (by decide)
      · skip
        exact absurd c3 (by decide)
    · skip
      exact absurd c2 (by decide)
  · skip
    exact absurd c1 (by decide)
theorem pn4_7 : plainName "java/lang/Integer" = true := by first | (simp [plainName, overriddenIn]; done) | decide +kernel
theorem ef4_7 (m : MethodId) (x0 : Int32) : entryFrame m #[(.int x0)] 1 = mkF m 0 #[.val (.int x0)] [] := by first | (simp [entryFrame, mkF, argsToLocals, Value.category]; done) | rfl
set_option maxRecDepth 65536 in
set_option maxHeartbeats 40000000 in
theorem rm4_7 (l : Launch) (Z : State) (a0 : Array Value) (hw : ∀ d ∈ tables_1, d.before a0 Z = true) (ws : List Jvm.Cond)  (h0 : Heap) (n0 : Nat) (Z0 : n0 ≤ h0.size) :
    Met l Z (⟨"java/lang/Integer", "highestOneBit", "(I)I"⟩ : MethodName) jdk_33_method_45_code 1 (some .int) ({ frames := 1, cells := 0, slots := 0, locals := 15 } : Room) ws n0 #[(.int (7 : Int32))] h0 (fun v h' => v = some (.int (4 : Int32)) ∧ h0 = h') := by
  refine Met.intro (plainFor_of_name pn4_7) Z0 ?_
  intro p e s m below meth c T X
  refine g_cast (ef4_7 m (7 : Int32)) ?_
  refine g_iloadN X d4_0 rfl (q := 1) rfl ?_
  refine g_ldc X (tw19 hw) d4_1 (q := 3) rfl ?_
  refine g_iloadN X d4_3 rfl (q := 4) rfl ?_
  refine g_callS X [(.int (7 : Int32))] [(.int (-2147483648 : Int32)), (.int (7 : Int32))] (tw20 hw) (tw21 hw) (tw17 hw) (tw22 hw) (by decide) (rm5_7 l Z a0 hw []  _ n0 X.size) pd1 rfl rfl rfl d4_4 (q := 7) rfl (W := 2) rfl (by decide) (by decide) (c2 := 0) (s2 := 0) rfl rfl (by decide) (by decide) (fun v T h' X hQ => ?_)
  obtain ⟨rfl, rfl⟩ := hQ
  show Goes p e below s _ n0 _ (T.setTop (mkF m 7 #[.val (.int (7 : Int32))] [(.int (29 : Int32)), (.int (-2147483648 : Int32)), (.int (7 : Int32))]))
  refine g_iushr X d4_7 rfl (q := 8) ?_
  refine g_eqI (y := (4 : Int32)) (by decide) ?_
  refine g_iand X d4_8 rfl (q := 9) ?_
  refine g_eqI (y := (4 : Int32)) (by decide) ?_
  exact g_retI X d4_9 (by decide) (by decide) ⟨rfl, rfl⟩
theorem ef3_1_9 (m : MethodId) (x0 : Int32) (x1 : Int32) : entryFrame m #[(.int x0), (.int x1)] 2 = mkF m 0 #[.val (.int x0), .val (.int x1)] [] := by first | (simp [entryFrame, mkF, argsToLocals, Value.category]; done) | rfl
set_option maxRecDepth 65536 in
set_option maxHeartbeats 40000000 in
theorem rm3_1_9 (l : Launch) (Z : State) (a0 : Array Value) (hw : ∀ d ∈ tables_1, d.before a0 Z = true) (ws : List Jvm.Cond)  (h0 : Heap) (n0 : Nat) (Z0 : n0 ≤ h0.size) :
    Met l Z (⟨"java/lang/Math", "max", "(II)I"⟩ : MethodName) jdk_29_method_65_code 2 (some .int) ({ frames := 0, cells := 0, slots := 0, locals := 0 } : Room) ws n0 #[(.int (1 : Int32)), (.int (9 : Int32))] h0 (fun v h' => v = some (.int (9 : Int32)) ∧ h0 = h') := by
  refine Met.intro (Jvm.Free.JP.mathPlain rfl (by decide +kernel)) Z0 ?_
  intro p e s m below meth c T X
  refine g_cast (ef3_1_9 m (1 : Int32) (9 : Int32)) ?_
  refine g_iloadN X d3_0 rfl (q := 1) rfl ?_
  refine g_iloadN X d3_1 rfl (q := 2) rfl ?_
  refine g_icmpA X d3_2 (Or.inl rfl) (q := 5) rfl (by decide) (t := 9) rfl (fun (c1 : (1 : Int32) < (9 : Int32)) => ?_) (fun (c1 : ¬ ((1 : Int32) < (9 : Int32))) => ?_)
  · skip
    refine g_iloadN X d3_9 rfl (q := 10) rfl ?_
    exact g_retI X d3_10 (by decide) (by decide) ⟨rfl, rfl⟩
  · skip
    exact absurd c1 (by decide)
theorem pn5_9 : plainName "java/lang/Integer" = true := by first | (simp [plainName, overriddenIn]; done) | decide +kernel
theorem ef5_9 (m : MethodId) (x0 : Int32) : entryFrame m #[(.int x0)] 2 = mkF m 0 #[.val (.int x0), .unset] [] := by first | (simp [entryFrame, mkF, argsToLocals, Value.category]; done) | rfl
set_option maxRecDepth 65536 in
set_option maxHeartbeats 40000000 in
theorem rm5_9 (l : Launch) (Z : State) (a0 : Array Value) (hw : ∀ d ∈ tables_1, d.before a0 Z = true) (ws : List Jvm.Cond)  (h0 : Heap) (n0 : Nat) (Z0 : n0 ≤ h0.size) :
    Met l Z (⟨"java/lang/Integer", "numberOfLeadingZeros", "(I)I"⟩ : MethodName) jdk_33_method_47_code 2 (some .int) ({ frames := 0, cells := 0, slots := 0, locals := 0 } : Room) ws n0 #[(.int (9 : Int32))] h0 (fun v h' => v = some (.int (28 : Int32)) ∧ h0 = h') := by
  refine Met.intro (plainFor_of_name pn5_9) Z0 ?_
  intro p e s m below meth c T X
  refine g_cast (ef5_9 m (9 : Int32)) ?_
  refine g_iloadN X d5_0 rfl (q := 1) rfl ?_
  refine g_ifA X d5_1 (Or.inr (Or.inl rfl)) (q := 4) rfl (by decide) (t := 15) rfl (fun (c1 : (0 : Int32) < (9 : Int32)) => ?_) (fun (c1 : ¬ ((0 : Int32) < (9 : Int32))) => ?_)
  · skip
    refine g_bipush X d5_15 rfl (q := 17) (v := 31) rfl ?_
    refine g_istoreN X d5_17 rfl (q := 18) (L' := #[.val (.int (9 : Int32)), .val (.int (31 : Int32))]) rfl ?_
    refine g_iloadN X d5_18 rfl (q := 19) rfl ?_
    refine g_ldcw X (tw23 hw) d5_19 (q := 22) rfl ?_
    refine g_icmpA X d5_22 (Or.inl rfl) (q := 25) rfl (by decide) (t := 33) rfl (fun (c2 : (9 : Int32) < (65536 : Int32)) => ?_) (fun (c2 : ¬ ((9 : Int32) < (65536 : Int32))) => ?_)
    · skip
      refine g_iloadN X d5_33 rfl (q := 34) rfl ?_
      refine g_sipush X d5_34 rfl (q := 37) (v := 256) rfl ?_
      refine g_icmpA X d5_37 (Or.inl rfl) (q := 40) rfl (by decide) (t := 48) rfl (fun (c3 : (9 : Int32) < (256 : Int32)) => ?_) (fun (c3 : ¬ ((9 : Int32) < (256 : Int32))) => ?_)
      · skip
        refine g_iloadN X d5_48 rfl (q := 49) rfl ?_
        refine g_bipush X d5_49 rfl (q := 51) (v := 16) rfl ?_
        refine g_icmpA X d5_51 (Or.inl rfl) (q := 54) rfl (by decide) (t := 61) rfl (fun (c4 : (9 : Int32) < (16 : Int32)) => ?_) (fun (c4 : ¬ ((9 : Int32) < (16 : Int32))) => ?_)
        · skip
          refine g_iloadN X d5_61 rfl (q := 62) rfl ?_
          refine g_iconst X d5_62 rfl (q := 63) (v := 4) rfl ?_
          refine g_icmpA X d5_63 (Or.inl rfl) (q := 66) rfl (by decide) (t := 73) rfl (fun (c5 : (9 : Int32) < (4 : Int32)) => ?_) (fun (c5 : ¬ ((9 : Int32) < (4 : Int32))) => ?_)
          · skip
            exact absurd c5 (by decide)
          · skip
            refine g_iinc X d5_66 (q := 69) rfl rfl (d := -2) rfl (L' := #[.val (.int (9 : Int32)), .val (.int (29 : Int32))]) rfl ?_
            refine g_iloadN X d5_69 rfl (q := 70) rfl ?_
            refine g_iconst X d5_70 rfl (q := 71) (v := 2) rfl ?_
            refine g_iushr X d5_71 rfl (q := 72) ?_
            refine g_eqI (y := (2 : Int32)) (by decide) ?_
            refine g_istoreN X d5_72 rfl (q := 73) (L' := #[.val (.int (2 : Int32)), .val (.int (29 : Int32))]) rfl ?_
            refine g_iloadN X d5_73 rfl (q := 74) rfl ?_
            refine g_iloadN X d5_74 rfl (q := 75) rfl ?_
            refine g_iconst X d5_75 rfl (q := 76) (v := 1) rfl ?_
            refine g_iushr X d5_76 rfl (q := 77) ?_
            refine g_eqI (y := (1 : Int32)) (by decide) ?_
            refine g_isub X d5_77 rfl (q := 78) ?_
            refine g_eqI (y := (28 : Int32)) (by decide) ?_
            exact g_retI X d5_78 (by decide) (by decide) ⟨rfl, rfl⟩
        · skip
          exact absurd c4 (by decide)
      · skip
        exact absurd c3 (by decide)
    · skip
      exact absurd c2 (by decide)
  · skip
    exact absurd c1 (by decide)
theorem pn4_9 : plainName "java/lang/Integer" = true := by first | (simp [plainName, overriddenIn]; done) | decide +kernel
theorem ef4_9 (m : MethodId) (x0 : Int32) : entryFrame m #[(.int x0)] 1 = mkF m 0 #[.val (.int x0)] [] := by first | (simp [entryFrame, mkF, argsToLocals, Value.category]; done) | rfl
set_option maxRecDepth 65536 in
set_option maxHeartbeats 40000000 in
theorem rm4_9 (l : Launch) (Z : State) (a0 : Array Value) (hw : ∀ d ∈ tables_1, d.before a0 Z = true) (ws : List Jvm.Cond)  (h0 : Heap) (n0 : Nat) (Z0 : n0 ≤ h0.size) :
    Met l Z (⟨"java/lang/Integer", "highestOneBit", "(I)I"⟩ : MethodName) jdk_33_method_45_code 1 (some .int) ({ frames := 1, cells := 0, slots := 0, locals := 15 } : Room) ws n0 #[(.int (9 : Int32))] h0 (fun v h' => v = some (.int (8 : Int32)) ∧ h0 = h') := by
  refine Met.intro (plainFor_of_name pn4_9) Z0 ?_
  intro p e s m below meth c T X
  refine g_cast (ef4_9 m (9 : Int32)) ?_
  refine g_iloadN X d4_0 rfl (q := 1) rfl ?_
  refine g_ldc X (tw19 hw) d4_1 (q := 3) rfl ?_
  refine g_iloadN X d4_3 rfl (q := 4) rfl ?_
  refine g_callS X [(.int (9 : Int32))] [(.int (-2147483648 : Int32)), (.int (9 : Int32))] (tw20 hw) (tw21 hw) (tw17 hw) (tw22 hw) (by decide) (rm5_9 l Z a0 hw []  _ n0 X.size) pd1 rfl rfl rfl d4_4 (q := 7) rfl (W := 2) rfl (by decide) (by decide) (c2 := 0) (s2 := 0) rfl rfl (by decide) (by decide) (fun v T h' X hQ => ?_)
  obtain ⟨rfl, rfl⟩ := hQ
  show Goes p e below s _ n0 _ (T.setTop (mkF m 7 #[.val (.int (9 : Int32))] [(.int (28 : Int32)), (.int (-2147483648 : Int32)), (.int (9 : Int32))]))
  refine g_iushr X d4_7 rfl (q := 8) ?_
  refine g_eqI (y := (8 : Int32)) (by decide) ?_
  refine g_iand X d4_8 rfl (q := 9) ?_
  refine g_eqI (y := (8 : Int32)) (by decide) ?_
  exact g_retI X d4_9 (by decide) (by decide) ⟨rfl, rfl⟩
theorem pn6_16 : plainName "java/lang/Integer" = true := by first | (simp [plainName, overriddenIn]; done) | decide +kernel
theorem ef6_16 (m : MethodId) (x0 : Int32) : entryFrame m #[(.int x0)] 2 = mkF m 0 #[.val (.int x0), .unset] [] := by first | (simp [entryFrame, mkF, argsToLocals, Value.category]; done) | rfl
set_option maxRecDepth 65536 in
set_option maxHeartbeats 40000000 in
theorem rm6_16 (l : Launch) (Z : State) (a0 : Array Value) (hw : ∀ d ∈ tables_1, d.before a0 Z = true) (ws : List Jvm.Cond)  (h0 : Heap) (n0 : Nat) (Z0 : n0 ≤ h0.size) :
    Met l Z (⟨"java/lang/Integer", "numberOfTrailingZeros", "(I)I"⟩ : MethodName) jdk_33_method_48_code 2 (some .int) ({ frames := 0, cells := 0, slots := 0, locals := 0 } : Room) ws n0 #[(.int (16 : Int32))] h0 (fun v h' => v = some (.int (4 : Int32)) ∧ h0 = h') := by
  refine Met.intro (plainFor_of_name pn6_16) Z0 ?_
  intro p e s m below meth c T X
  refine g_cast (ef6_16 m (16 : Int32)) ?_
  refine g_iloadN X d6_0 rfl (q := 1) rfl ?_
  refine g_iconst X d6_1 rfl (q := 2) (v := -1) rfl ?_
  refine g_ixor X d6_2 rfl (q := 3) ?_
  refine g_eqI (y := (-17 : Int32)) (by decide) ?_
  refine g_iloadN X d6_3 rfl (q := 4) rfl ?_
  refine g_iconst X d6_4 rfl (q := 5) (v := 1) rfl ?_
  refine g_isub X d6_5 rfl (q := 6) ?_
  refine g_eqI (y := (15 : Int32)) (by decide) ?_
  refine g_iand X d6_6 rfl (q := 7) ?_
  refine g_eqI (y := (15 : Int32)) (by decide) ?_
  refine g_istoreN X d6_7 rfl (q := 8) (L' := #[.val (.int (15 : Int32)), .unset]) rfl ?_
  refine g_iloadN X d6_8 rfl (q := 9) rfl ?_
  refine g_ifA X d6_9 (Or.inr (Or.inl rfl)) (q := 12) rfl (by decide) (t := 17) rfl (fun (c1 : (0 : Int32) < (15 : Int32)) => ?_) (fun (c1 : ¬ ((0 : Int32) < (15 : Int32))) => ?_)
  · skip
    refine g_iconst X d6_17 rfl (q := 18) (v := 1) rfl ?_
    refine g_istoreN X d6_18 rfl (q := 19) (L' := #[.val (.int (15 : Int32)), .val (.int (1 : Int32))]) rfl ?_
    refine g_iloadN X d6_19 rfl (q := 20) rfl ?_
    refine g_ldcw X (tw23 hw) d6_20 (q := 23) rfl ?_
    refine g_icmpB X d6_23 (Or.inr (Or.inl rfl)) (q := 26) rfl (by decide) (t := 34) rfl (fun (c2 : (65536 : Int32) < (15 : Int32)) => ?_) (fun (c2 : ¬ ((65536 : Int32) < (15 : Int32))) => ?_)
    · skip
      exact absurd c2 (by decide)
    · skip
      refine g_iloadN X d6_34 rfl (q := 35) rfl ?_
      refine g_sipush X d6_35 rfl (q := 38) (v := 256) rfl ?_
      refine g_icmpB X d6_38 (Or.inr (Or.inl rfl)) (q := 41) rfl (by decide) (t := 49) rfl (fun (c3 : (256 : Int32) < (15 : Int32)) => ?_) (fun (c3 : ¬ ((256 : Int32) < (15 : Int32))) => ?_)
      · skip
        exact absurd c3 (by decide)
      · skip
        refine g_iloadN X d6_49 rfl (q := 50) rfl ?_
        refine g_bipush X d6_50 rfl (q := 52) (v := 16) rfl ?_
        refine g_icmpB X d6_52 (Or.inr (Or.inl rfl)) (q := 55) rfl (by decide) (t := 62) rfl (fun (c4 : (16 : Int32) < (15 : Int32)) => ?_) (fun (c4 : ¬ ((16 : Int32) < (15 : Int32))) => ?_)
        · skip
          exact absurd c4 (by decide)
        · skip
          refine g_iloadN X d6_62 rfl (q := 63) rfl ?_
          refine g_iconst X d6_63 rfl (q := 64) (v := 4) rfl ?_
          refine g_icmpB X d6_64 (Or.inr (Or.inl rfl)) (q := 67) rfl (by decide) (t := 74) rfl (fun (c5 : (4 : Int32) < (15 : Int32)) => ?_) (fun (c5 : ¬ ((4 : Int32) < (15 : Int32))) => ?_)
          · skip
            refine g_iinc X d6_67 (q := 70) rfl rfl (d := 2) rfl (L' := #[.val (.int (15 : Int32)), .val (.int (3 : Int32))]) rfl ?_
            refine g_iloadN X d6_70 rfl (q := 71) rfl ?_
            refine g_iconst X d6_71 rfl (q := 72) (v := 2) rfl ?_
            refine g_iushr X d6_72 rfl (q := 73) ?_
            refine g_eqI (y := (3 : Int32)) (by decide) ?_
            refine g_istoreN X d6_73 rfl (q := 74) (L' := #[.val (.int (3 : Int32)), .val (.int (3 : Int32))]) rfl ?_
            refine g_iloadN X d6_74 rfl (q := 75) rfl ?_
            refine g_iloadN X d6_75 rfl (q := 76) rfl ?_
            refine g_iconst X d6_76 rfl (q := 77) (v := 1) rfl ?_
            refine g_iushr X d6_77 rfl (q := 78) ?_
            refine g_eqI (y := (1 : Int32)) (by decide) ?_
            refine g_iadd X d6_78 rfl (q := 79) ?_
            refine g_eqI (y := (4 : Int32)) (by decide) ?_
            exact g_retI X d6_79 (by decide) (by decide) ⟨rfl, rfl⟩
          · skip
            exact absurd c5 (by decide)
  · skip
    exact absurd c1 (by decide)
theorem ef3_1_11 (m : MethodId) (x0 : Int32) (x1 : Int32) : entryFrame m #[(.int x0), (.int x1)] 2 = mkF m 0 #[.val (.int x0), .val (.int x1)] [] := by first | (simp [entryFrame, mkF, argsToLocals, Value.category]; done) | rfl
set_option maxRecDepth 65536 in
set_option maxHeartbeats 40000000 in
theorem rm3_1_11 (l : Launch) (Z : State) (a0 : Array Value) (hw : ∀ d ∈ tables_1, d.before a0 Z = true) (ws : List Jvm.Cond)  (h0 : Heap) (n0 : Nat) (Z0 : n0 ≤ h0.size) :
    Met l Z (⟨"java/lang/Math", "max", "(II)I"⟩ : MethodName) jdk_29_method_65_code 2 (some .int) ({ frames := 0, cells := 0, slots := 0, locals := 0 } : Room) ws n0 #[(.int (1 : Int32)), (.int (11 : Int32))] h0 (fun v h' => v = some (.int (11 : Int32)) ∧ h0 = h') := by
  refine Met.intro (Jvm.Free.JP.mathPlain rfl (by decide +kernel)) Z0 ?_
  intro p e s m below meth c T X
  refine g_cast (ef3_1_11 m (1 : Int32) (11 : Int32)) ?_
  refine g_iloadN X d3_0 rfl (q := 1) rfl ?_
  refine g_iloadN X d3_1 rfl (q := 2) rfl ?_
  refine g_icmpA X d3_2 (Or.inl rfl) (q := 5) rfl (by decide) (t := 9) rfl (fun (c1 : (1 : Int32) < (11 : Int32)) => ?_) (fun (c1 : ¬ ((1 : Int32) < (11 : Int32))) => ?_)
  · skip
    refine g_iloadN X d3_9 rfl (q := 10) rfl ?_
    exact g_retI X d3_10 (by decide) (by decide) ⟨rfl, rfl⟩
  · skip
    exact absurd c1 (by decide)
theorem pn5_11 : plainName "java/lang/Integer" = true := by first | (simp [plainName, overriddenIn]; done) | decide +kernel
theorem ef5_11 (m : MethodId) (x0 : Int32) : entryFrame m #[(.int x0)] 2 = mkF m 0 #[.val (.int x0), .unset] [] := by first | (simp [entryFrame, mkF, argsToLocals, Value.category]; done) | rfl
set_option maxRecDepth 65536 in
set_option maxHeartbeats 40000000 in
theorem rm5_11 (l : Launch) (Z : State) (a0 : Array Value) (hw : ∀ d ∈ tables_1, d.before a0 Z = true) (ws : List Jvm.Cond)  (h0 : Heap) (n0 : Nat) (Z0 : n0 ≤ h0.size) :
    Met l Z (⟨"java/lang/Integer", "numberOfLeadingZeros", "(I)I"⟩ : MethodName) jdk_33_method_47_code 2 (some .int) ({ frames := 0, cells := 0, slots := 0, locals := 0 } : Room) ws n0 #[(.int (11 : Int32))] h0 (fun v h' => v = some (.int (28 : Int32)) ∧ h0 = h') := by
  refine Met.intro (plainFor_of_name pn5_11) Z0 ?_
  intro p e s m below meth c T X
  refine g_cast (ef5_11 m (11 : Int32)) ?_
  refine g_iloadN X d5_0 rfl (q := 1) rfl ?_
  refine g_ifA X d5_1 (Or.inr (Or.inl rfl)) (q := 4) rfl (by decide) (t := 15) rfl (fun (c1 : (0 : Int32) < (11 : Int32)) => ?_) (fun (c1 : ¬ ((0 : Int32) < (11 : Int32))) => ?_)
  · skip
    refine g_bipush X d5_15 rfl (q := 17) (v := 31) rfl ?_
    refine g_istoreN X d5_17 rfl (q := 18) (L' := #[.val (.int (11 : Int32)), .val (.int (31 : Int32))]) rfl ?_
    refine g_iloadN X d5_18 rfl (q := 19) rfl ?_
    refine g_ldcw X (tw23 hw) d5_19 (q := 22) rfl ?_
    refine g_icmpA X d5_22 (Or.inl rfl) (q := 25) rfl (by decide) (t := 33) rfl (fun (c2 : (11 : Int32) < (65536 : Int32)) => ?_) (fun (c2 : ¬ ((11 : Int32) < (65536 : Int32))) => ?_)
    · skip
      refine g_iloadN X d5_33 rfl (q := 34) rfl ?_
      refine g_sipush X d5_34 rfl (q := 37) (v := 256) rfl ?_
      refine g_icmpA X d5_37 (Or.inl rfl) (q := 40) rfl (by decide) (t := 48) rfl (fun (c3 : (11 : Int32) < (256 : Int32)) => ?_) (fun (c3 : ¬ ((11 : Int32) < (256 : Int32))) => ?_)
      · skip
        refine g_iloadN X d5_48 rfl (q := 49) rfl ?_
        refine g_bipush X d5_49 rfl (q := 51) (v := 16) rfl ?_
        refine g_icmpA X d5_51 (Or.inl rfl) (q := 54) rfl (by decide) (t := 61) rfl (fun (c4 : (11 : Int32) < (16 : Int32)) => ?_) (fun (c4 : ¬ ((11 : Int32) < (16 : Int32))) => ?_)
        · skip
          refine g_iloadN X d5_61 rfl (q := 62) rfl ?_
          refine g_iconst X d5_62 rfl (q := 63) (v := 4) rfl ?_
          refine g_icmpA X d5_63 (Or.inl rfl) (q := 66) rfl (by decide) (t := 73) rfl (fun (c5 : (11 : Int32) < (4 : Int32)) => ?_) (fun (c5 : ¬ ((11 : Int32) < (4 : Int32))) => ?_)
          · skip
            exact absurd c5 (by decide)
          · skip
            refine g_iinc X d5_66 (q := 69) rfl rfl (d := -2) rfl (L' := #[.val (.int (11 : Int32)), .val (.int (29 : Int32))]) rfl ?_
            refine g_iloadN X d5_69 rfl (q := 70) rfl ?_
            refine g_iconst X d5_70 rfl (q := 71) (v := 2) rfl ?_
            refine g_iushr X d5_71 rfl (q := 72) ?_
            refine g_eqI (y := (2 : Int32)) (by decide) ?_
            refine g_istoreN X d5_72 rfl (q := 73) (L' := #[.val (.int (2 : Int32)), .val (.int (29 : Int32))]) rfl ?_
            refine g_iloadN X d5_73 rfl (q := 74) rfl ?_
            refine g_iloadN X d5_74 rfl (q := 75) rfl ?_
            refine g_iconst X d5_75 rfl (q := 76) (v := 1) rfl ?_
            refine g_iushr X d5_76 rfl (q := 77) ?_
            refine g_eqI (y := (1 : Int32)) (by decide) ?_
            refine g_isub X d5_77 rfl (q := 78) ?_
            refine g_eqI (y := (28 : Int32)) (by decide) ?_
            exact g_retI X d5_78 (by decide) (by decide) ⟨rfl, rfl⟩
        · skip
          exact absurd c4 (by decide)
      · skip
        exact absurd c3 (by decide)
    · skip
      exact absurd c2 (by decide)
  · skip
    exact absurd c1 (by decide)
theorem pn4_11 : plainName "java/lang/Integer" = true := by first | (simp [plainName, overriddenIn]; done) | decide +kernel
theorem ef4_11 (m : MethodId) (x0 : Int32) : entryFrame m #[(.int x0)] 1 = mkF m 0 #[.val (.int x0)] [] := by first | (simp [entryFrame, mkF, argsToLocals, Value.category]; done) | rfl
set_option maxRecDepth 65536 in
set_option maxHeartbeats 40000000 in
theorem rm4_11 (l : Launch) (Z : State) (a0 : Array Value) (hw : ∀ d ∈ tables_1, d.before a0 Z = true) (ws : List Jvm.Cond)  (h0 : Heap) (n0 : Nat) (Z0 : n0 ≤ h0.size) :
    Met l Z (⟨"java/lang/Integer", "highestOneBit", "(I)I"⟩ : MethodName) jdk_33_method_45_code 1 (some .int) ({ frames := 1, cells := 0, slots := 0, locals := 15 } : Room) ws n0 #[(.int (11 : Int32))] h0 (fun v h' => v = some (.int (8 : Int32)) ∧ h0 = h') := by
  refine Met.intro (plainFor_of_name pn4_11) Z0 ?_
  intro p e s m below meth c T X
  refine g_cast (ef4_11 m (11 : Int32)) ?_
  refine g_iloadN X d4_0 rfl (q := 1) rfl ?_
  refine g_ldc X (tw19 hw) d4_1 (q := 3) rfl ?_
  refine g_iloadN X d4_3 rfl (q := 4) rfl ?_
  refine g_callS X [(.int (11 : Int32))] [(.int (-2147483648 : Int32)), (.int (11 : Int32))] (tw20 hw) (tw21 hw) (tw17 hw) (tw22 hw) (by decide) (rm5_11 l Z a0 hw []  _ n0 X.size) pd1 rfl rfl rfl d4_4 (q := 7) rfl (W := 2) rfl (by decide) (by decide) (c2 := 0) (s2 := 0) rfl rfl (by decide) (by decide) (fun v T h' X hQ => ?_)
  obtain ⟨rfl, rfl⟩ := hQ
  show Goes p e below s _ n0 _ (T.setTop (mkF m 7 #[.val (.int (11 : Int32))] [(.int (28 : Int32)), (.int (-2147483648 : Int32)), (.int (11 : Int32))]))
  refine g_iushr X d4_7 rfl (q := 8) ?_
  refine g_eqI (y := (8 : Int32)) (by decide) ?_
  refine g_iand X d4_8 rfl (q := 9) ?_
  refine g_eqI (y := (8 : Int32)) (by decide) ?_
  exact g_retI X d4_9 (by decide) (by decide) ⟨rfl, rfl⟩
theorem pn1 : plainName "com/example/masked_merge/maskedmerge/core/PairNumbers" = true := by first | (simp [plainName, overriddenIn]; done) | decide +kernel
theorem ef1 (m : MethodId) (x0 : Addr) (x1 : Int32) : entryFrame m #[(.ref x0), (.int x1)] 3 = mkF m 0 #[.val (.ref x0), .val (.int x1), .unset] [] := by first | (simp [entryFrame, mkF, argsToLocals, Value.category]; done) | rfl
set_option maxRecDepth 65536 in
set_option maxHeartbeats 40000000 in
theorem rm1 (l : Launch) (Z : State) (a0 : Array Value) (hw : ∀ d ∈ tables_1, d.before a0 Z = true) (ws : List Jvm.Cond) (a1 : Addr) (p2 : Int32) (h0 : Heap) (n0 : Nat) (Z0 : n0 ≤ h0.size) (O_a1 : O_PairNumbers Z h0 a1 .null .null .null (.int (0 : Int32)) (.int (0 : Int32)) (.int (0 : Int32))) (g_a1 : n0 ≤ a1) (hc : p2 = (3 : Int32) ∨ p2 = (4 : Int32) ∨ p2 = (5 : Int32) ∨ p2 = (6 : Int32)) :
    Met l Z (⟨"com/example/masked_merge/maskedmerge/core/PairNumbers", "<init>", "(I)V"⟩ : MethodName) prog_15_method_1_code 3 none ({ frames := 2, cells := 3, slots := 38, locals := 27 } : Room) ws n0 #[(.ref a1), (.int p2)] h0 (fun v h' => ∃ k1 : Addr, ∃ m1 : Addr, ∃ u1 : Addr, ∃ sz : Nat, ∃ sh : Int32, ∃ mk : Int32, ∃ C : Nat, v = none ∧ Keep h0 h' [a1] ∧ O_PairNumbers Z h' a1 (.ref k1) (.ref m1) (.ref u1) (.int sh) (.int mk) (.int (Int32.ofNat 0)) ∧ AJ Z h' k1 sz (fun _ => (-1 : Int64)) ∧ AI Z h' m1 .int sz (fun _ => 0) ∧ AI Z h' u1 .int C (fun j => Int32.ofNat ((fun _ => 0) j)) ∧ SZ sz sh mk ∧ 3 ≤ C ∧ h0.size ≤ k1 ∧ n0 ≤ k1 ∧ h0.size ≤ m1 ∧ n0 ≤ m1 ∧ h0.size ≤ u1 ∧ n0 ≤ u1 ∧ Apart k1 m1 ∧ Apart k1 u1 ∧ Apart m1 k1 ∧ Apart m1 u1 ∧ Apart u1 k1 ∧ Apart u1 m1) := by
  refine Met.intro (plainFor_of_name pn1) Z0 ?_
  intro p e s m below meth c T X
  refine g_cast (ef1 m a1 p2) ?_
  have K : Keep h0 h0 [a1] := Keep.refl h0 _
  refine g_aloadN X d1_0 rfl (q := 1) rfl rfl ?_
  refine g_initO X (tw7 hw) (tw8 hw) (tw9 hw) d1_1 (q := 4) rfl rfl (by decide) (W := 0) rfl (by decide) (fun T X => ?_)
  rcases hc with q4 | q4 | q4 | q4
  · subst q4
    show Goes p e below s _ n0 _ (T.setTop (mkF m 4 #[.val (.ref a1), .val (.int (3 : Int32)), .unset] []))
    refine g_iloadN X d1_4 rfl (q := 5) rfl ?_
    refine g_ldc X (tw10 hw) d1_5 (q := 7) rfl ?_
    refine g_icmpB X d1_7 (Or.inr (Or.inl rfl)) (q := 10) rfl (by decide) (t := 24) rfl (fun (c1 : (536870912 : Int32) < (3 : Int32)) => ?_) (fun (c1 : ¬ ((536870912 : Int32) < (3 : Int32))) => ?_)
    · skip
      exact absurd c1 (by decide)
    · skip
      refine g_iconst X d1_24 rfl (q := 25) (v := 1) rfl ?_
      refine g_iconst X d1_25 rfl (q := 26) (v := 2) rfl ?_
      refine g_iloadN X d1_26 rfl (q := 27) rfl ?_
      refine g_imul X d1_27 rfl (q := 28) ?_
      refine g_eqI (y := (6 : Int32)) (by decide) ?_
      refine g_iconst X d1_28 rfl (q := 29) (v := 1) rfl ?_
      refine g_isub X d1_29 rfl (q := 30) ?_
      refine g_eqI (y := (5 : Int32)) (by decide) ?_
      refine g_callS X [(.int (1 : Int32)), (.int (5 : Int32))] [] (tw11 hw) (tw12 hw) (tw13 hw) (tw14 hw) (by decide) (rm3_1_5 l Z a0 hw []  _ n0 X.size) pd0 rfl rfl rfl d1_30 (q := 33) rfl (W := 0) rfl (by decide) (by decide) (c2 := 0) (s2 := 0) rfl rfl (by decide) (by decide) (fun v T h' X hQ => ?_)
      obtain ⟨rfl, rfl⟩ := hQ
      show Goes p e below s _ n0 _ (T.setTop (mkF m 33 #[.val (.ref a1), .val (.int (3 : Int32)), .unset] [(.int (5 : Int32))]))
      refine g_callS X [(.int (5 : Int32))] [] (tw15 hw) (tw16 hw) (tw17 hw) (tw18 hw) (by decide) (rm4_5 l Z a0 hw []  _ n0 X.size) pd1 rfl rfl rfl d1_33 (q := 36) rfl (W := 0) rfl (by decide) (by decide) (c2 := 0) (s2 := 0) rfl rfl (by decide) (by decide) (fun v T h' X hQ => ?_)
      obtain ⟨rfl, rfl⟩ := hQ
      show Goes p e below s _ n0 _ (T.setTop (mkF m 36 #[.val (.ref a1), .val (.int (3 : Int32)), .unset] [(.int (4 : Int32))]))
      refine g_iconst X d1_36 rfl (q := 37) (v := 1) rfl ?_
      refine g_ishl X d1_37 rfl (q := 38) ?_
      refine g_eqI (y := (8 : Int32)) (by decide) ?_
      refine g_istoreN X d1_38 rfl (q := 39) (L' := #[.val (.ref a1), .val (.int (3 : Int32)), .val (.int (8 : Int32))]) rfl ?_
      refine g_aloadN X d1_39 rfl (q := 40) rfl rfl ?_
      refine g_iloadN X d1_40 rfl (q := 41) rfl ?_
      refine g_newarrJ X (tw24 hw) d1_41 (q := 43) rfl (by decide) (cap := 8) (by decide) (by decide) (c2 := 1) (s2 := 8) rfl rfl (by decide) (by decide) (fun T h' b1 X gz_b1 g_b1 E A_new => ?_)
      have ne_a1_b1 := own_new gz_b1 O_a1.1.lt
      have ne_b1_a1 := own_apS ne_a1_b1
      have sz_b1 := own_sz gz_b1 K
      have K := K.ext E
      have O_a1 := O_a1.ext E
      have A_b1 : AJ Z h' b1 8 (fun _ => 0) := A_new
      refine g_putF X (tw25 hw) Via.refl O_a1.2.1 O_a1.1 (Or.inr ⟨(tw26 hw), rfl, rfl⟩) (tw2 hw) (ty := (.array .long)) (by decide) rfl rfl g_a1 d1_43 (q := 46) rfl (fun T h X W => ?_)
      have A_b1 := A_b1.other W ne_b1_a1
      have O_a1 := O_PairNumbers.set0 hw W O_a1
      have K := K.wr W (Or.inl (List.mem_of_getElem? (i := 0) rfl))
      refine g_aloadN X d1_46 rfl (q := 47) rfl rfl ?_
      refine g_iloadN X d1_47 rfl (q := 48) rfl ?_
      refine g_newarrI X (aty := .int) rfl (tw27 hw) d1_48 (q := 50) rfl (by decide) (cap := 8) (by decide) (by decide) (c2 := 2) (s2 := 16) rfl rfl (by decide) (by decide) (fun T h' b2 X gz_b2 g_b2 E A_new => ?_)
      have ne_a1_b2 := own_new gz_b2 O_a1.1.lt
      have ne_b2_a1 := own_apS ne_a1_b2
      have ne_b1_b2 := own_new gz_b2 A_b1.lt
      have ne_b2_b1 := own_apS ne_b1_b2
      have sz_b2 := own_sz gz_b2 K
      have K := K.ext E
      have O_a1 := O_a1.ext E
      have A_b1 := A_b1.ext E
      have A_b2 : AI Z h' b2 .int 8 (fun _ => 0) := A_new
      refine g_putF X (tw28 hw) Via.refl O_a1.2.2.1 O_a1.1 (Or.inr ⟨(tw29 hw), rfl, rfl⟩) (tw2 hw) (ty := (.array .int)) (by decide) rfl rfl g_a1 d1_50 (q := 53) rfl (fun T h X W => ?_)
      have A_b1 := A_b1.other W ne_b1_a1
      have A_b2 := A_b2.other W ne_b2_a1
      have O_a1 := O_PairNumbers.set1 hw W O_a1
      have K := K.wr W (Or.inl (List.mem_of_getElem? (i := 0) rfl))
      refine g_aloadN X d1_53 rfl (q := 54) rfl rfl ?_
      refine g_iloadN X d1_54 rfl (q := 55) rfl ?_
      refine g_newarrI X (aty := .int) rfl (tw27 hw) d1_55 (q := 57) rfl (by decide) (cap := 3) (by decide) (by decide) (c2 := 3) (s2 := 19) rfl rfl (by decide) (by decide) (fun T h' b3 X gz_b3 g_b3 E A_new => ?_)
      have ne_a1_b3 := own_new gz_b3 O_a1.1.lt
      have ne_b3_a1 := own_apS ne_a1_b3
      have ne_b1_b3 := own_new gz_b3 A_b1.lt
      have ne_b3_b1 := own_apS ne_b1_b3
      have ne_b2_b3 := own_new gz_b3 A_b2.lt
      have ne_b3_b2 := own_apS ne_b2_b3
      have sz_b3 := own_sz gz_b3 K
      have K := K.ext E
      have O_a1 := O_a1.ext E
      have A_b1 := A_b1.ext E
      have A_b2 := A_b2.ext E
      have A_b3 : AI Z h' b3 .int 3 (fun _ => 0) := A_new
      refine g_putF X (tw30 hw) Via.refl O_a1.2.2.2.1 O_a1.1 (Or.inr ⟨(tw31 hw), rfl, rfl⟩) (tw2 hw) (ty := (.array .int)) (by decide) rfl rfl g_a1 d1_57 (q := 60) rfl (fun T h X W => ?_)
      have A_b1 := A_b1.other W ne_b1_a1
      have A_b2 := A_b2.other W ne_b2_a1
      have A_b3 := A_b3.other W ne_b3_a1
      have O_a1 := O_PairNumbers.set2 hw W O_a1
      have K := K.wr W (Or.inl (List.mem_of_getElem? (i := 0) rfl))
      refine g_aloadN X d1_60 rfl (q := 61) rfl rfl ?_
      refine g_bipush X d1_61 rfl (q := 63) (v := 64) rfl ?_
      refine g_iloadN X d1_63 rfl (q := 64) rfl ?_
      refine g_callS X [(.int (8 : Int32))] [(.int (64 : Int32)), (.ref a1)] (tw32 hw) (tw33 hw) (tw17 hw) (tw34 hw) (by decide) (rm6_8 l Z a0 hw []  _ n0 X.size) pd1 rfl rfl rfl d1_64 (q := 67) rfl (W := 2) rfl (by decide) (by decide) (c2 := 3) (s2 := 19) rfl rfl (by decide) (by decide) (fun v T h' X hQ => ?_)
      obtain ⟨rfl, rfl⟩ := hQ
      show Goes p e below s _ n0 _ (T.setTop (mkF m 67 #[.val (.ref a1), .val (.int (3 : Int32)), .val (.int (8 : Int32))] [(.int (3 : Int32)), (.int (64 : Int32)), (.ref a1)]))
      refine g_isub X d1_67 rfl (q := 68) ?_
      refine g_eqI (y := (61 : Int32)) (by decide) ?_
      refine g_putF X (tw35 hw) Via.refl O_a1.2.2.2.2.1 O_a1.1 (Or.inr ⟨(tw36 hw), rfl, rfl⟩) (tw2 hw) (ty := .int) (by decide) rfl rfl g_a1 d1_68 (q := 71) rfl (fun T h X W => ?_)
      have A_b1 := A_b1.other W ne_b1_a1
      have A_b2 := A_b2.other W ne_b2_a1
      have A_b3 := A_b3.other W ne_b3_a1
      have O_a1 := O_PairNumbers.set3 hw W O_a1
      have K := K.wr W (Or.inl (List.mem_of_getElem? (i := 0) rfl))
      refine g_aloadN X d1_71 rfl (q := 72) rfl rfl ?_
      refine g_iloadN X d1_72 rfl (q := 73) rfl ?_
      refine g_iconst X d1_73 rfl (q := 74) (v := 1) rfl ?_
      refine g_isub X d1_74 rfl (q := 75) ?_
      refine g_eqI (y := (7 : Int32)) (by decide) ?_
      refine g_putF X (tw37 hw) Via.refl O_a1.2.2.2.2.2.1 O_a1.1 (Or.inr ⟨(tw38 hw), rfl, rfl⟩) (tw2 hw) (ty := .int) (by decide) rfl rfl g_a1 d1_75 (q := 78) rfl (fun T h X W => ?_)
      have A_b1 := A_b1.other W ne_b1_a1
      have A_b2 := A_b2.other W ne_b2_a1
      have A_b3 := A_b3.other W ne_b3_a1
      have O_a1 := O_PairNumbers.set4 hw W O_a1
      have K := K.wr W (Or.inl (List.mem_of_getElem? (i := 0) rfl))
      refine g_aloadN X d1_78 rfl (q := 79) rfl rfl ?_
      refine g_getF X (tw25 hw) Via.refl O_a1.2.1 d1_79 (q := 82) rfl (fun T X => ?_)
      refine g_ldc2 X (tw39 hw) d1_82 (q := 85) rfl ?_
      refine g_callS X [(.ref b1), (.long (-1 : Int64))] [] (tw40 hw) (tw41 hw) (tw42 hw) (tw43 hw) (by decide) (rm7 l Z a0 hw [] b1 (-1 : Int64) 8 (fun _ => 0) _ n0 X.size A_b1 g_b1 (by decide)) pd2 rfl rfl rfl d1_85 (q := 88) rfl (W := 0) rfl (by decide) (by decide) (c2 := 3) (s2 := 19) rfl rfl (by decide) (by decide) (fun v T h' X hQ => ?_)
      obtain ⟨rfl, Kc, A_b1'⟩ := hQ
      have O_a1 := O_a1.keep Kc (ninS ne_a1_b1 nin0)
      have A_b2 := A_b2.keep Kc (ninS ne_b2_b1 nin0)
      have A_b3 := A_b3.keep Kc (ninS ne_b3_b1 nin0)
      have A_b1 := A_b1'
      have K := K.trans Kc (allS (Or.inr sz_b1) all0)
      show Goes p e below s _ n0 _ (T.setTop (mkF m 88 #[.val (.ref a1), .val (.int (3 : Int32)), .val (.int (8 : Int32))] []))
      exact g_ret0 X d1_88 (by decide) (by decide) ⟨b1, b2, b3, 8, (61 : Int32), (7 : Int32), 3, rfl, K, O_a1, A_b1, A_b2, A_b3, Or.inl ⟨rfl, rfl, rfl⟩, by decide, sz_b1, g_b1, sz_b2, g_b2, sz_b3, g_b3, ne_b1_b2, ne_b1_b3, ne_b2_b1, ne_b2_b3, ne_b3_b1, ne_b3_b2⟩
  · subst q4
    show Goes p e below s _ n0 _ (T.setTop (mkF m 4 #[.val (.ref a1), .val (.int (4 : Int32)), .unset] []))
    refine g_iloadN X d1_4 rfl (q := 5) rfl ?_
    refine g_ldc X (tw10 hw) d1_5 (q := 7) rfl ?_
    refine g_icmpB X d1_7 (Or.inr (Or.inl rfl)) (q := 10) rfl (by decide) (t := 24) rfl (fun (c2 : (536870912 : Int32) < (4 : Int32)) => ?_) (fun (c2 : ¬ ((536870912 : Int32) < (4 : Int32))) => ?_)
    · skip
      exact absurd c2 (by decide)
    · skip
      refine g_iconst X d1_24 rfl (q := 25) (v := 1) rfl ?_
      refine g_iconst X d1_25 rfl (q := 26) (v := 2) rfl ?_
      refine g_iloadN X d1_26 rfl (q := 27) rfl ?_
      refine g_imul X d1_27 rfl (q := 28) ?_
      refine g_eqI (y := (8 : Int32)) (by decide) ?_
      refine g_iconst X d1_28 rfl (q := 29) (v := 1) rfl ?_
      refine g_isub X d1_29 rfl (q := 30) ?_
      refine g_eqI (y := (7 : Int32)) (by decide) ?_
      refine g_callS X [(.int (1 : Int32)), (.int (7 : Int32))] [] (tw11 hw) (tw12 hw) (tw13 hw) (tw14 hw) (by decide) (rm3_1_7 l Z a0 hw []  _ n0 X.size) pd0 rfl rfl rfl d1_30 (q := 33) rfl (W := 0) rfl (by decide) (by decide) (c2 := 0) (s2 := 0) rfl rfl (by decide) (by decide) (fun v T h' X hQ => ?_)
      obtain ⟨rfl, rfl⟩ := hQ
      show Goes p e below s _ n0 _ (T.setTop (mkF m 33 #[.val (.ref a1), .val (.int (4 : Int32)), .unset] [(.int (7 : Int32))]))
      refine g_callS X [(.int (7 : Int32))] [] (tw15 hw) (tw16 hw) (tw17 hw) (tw18 hw) (by decide) (rm4_7 l Z a0 hw []  _ n0 X.size) pd1 rfl rfl rfl d1_33 (q := 36) rfl (W := 0) rfl (by decide) (by decide) (c2 := 0) (s2 := 0) rfl rfl (by decide) (by decide) (fun v T h' X hQ => ?_)
      obtain ⟨rfl, rfl⟩ := hQ
      show Goes p e below s _ n0 _ (T.setTop (mkF m 36 #[.val (.ref a1), .val (.int (4 : Int32)), .unset] [(.int (4 : Int32))]))
      refine g_iconst X d1_36 rfl (q := 37) (v := 1) rfl ?_
      refine g_ishl X d1_37 rfl (q := 38) ?_
      refine g_eqI (y := (8 : Int32)) (by decide) ?_
      refine g_istoreN X d1_38 rfl (q := 39) (L' := #[.val (.ref a1), .val (.int (4 : Int32)), .val (.int (8 : Int32))]) rfl ?_
      refine g_aloadN X d1_39 rfl (q := 40) rfl rfl ?_
      refine g_iloadN X d1_40 rfl (q := 41) rfl ?_
      refine g_newarrJ X (tw24 hw) d1_41 (q := 43) rfl (by decide) (cap := 8) (by decide) (by decide) (c2 := 1) (s2 := 8) rfl rfl (by decide) (by decide) (fun T h' b4 X gz_b4 g_b4 E A_new => ?_)
      have ne_a1_b4 := own_new gz_b4 O_a1.1.lt
      have ne_b4_a1 := own_apS ne_a1_b4
      have sz_b4 := own_sz gz_b4 K
      have K := K.ext E
      have O_a1 := O_a1.ext E
      have A_b4 : AJ Z h' b4 8 (fun _ => 0) := A_new
      refine g_putF X (tw25 hw) Via.refl O_a1.2.1 O_a1.1 (Or.inr ⟨(tw26 hw), rfl, rfl⟩) (tw2 hw) (ty := (.array .long)) (by decide) rfl rfl g_a1 d1_43 (q := 46) rfl (fun T h X W => ?_)
      have A_b4 := A_b4.other W ne_b4_a1
      have O_a1 := O_PairNumbers.set0 hw W O_a1
      have K := K.wr W (Or.inl (List.mem_of_getElem? (i := 0) rfl))
      refine g_aloadN X d1_46 rfl (q := 47) rfl rfl ?_
      refine g_iloadN X d1_47 rfl (q := 48) rfl ?_
      refine g_newarrI X (aty := .int) rfl (tw27 hw) d1_48 (q := 50) rfl (by decide) (cap := 8) (by decide) (by decide) (c2 := 2) (s2 := 16) rfl rfl (by decide) (by decide) (fun T h' b5 X gz_b5 g_b5 E A_new => ?_)
      have ne_a1_b5 := own_new gz_b5 O_a1.1.lt
      have ne_b5_a1 := own_apS ne_a1_b5
      have ne_b4_b5 := own_new gz_b5 A_b4.lt
      have ne_b5_b4 := own_apS ne_b4_b5
      have sz_b5 := own_sz gz_b5 K
      have K := K.ext E
      have O_a1 := O_a1.ext E
      have A_b4 := A_b4.ext E
      have A_b5 : AI Z h' b5 .int 8 (fun _ => 0) := A_new
      refine g_putF X (tw28 hw) Via.refl O_a1.2.2.1 O_a1.1 (Or.inr ⟨(tw29 hw), rfl, rfl⟩) (tw2 hw) (ty := (.array .int)) (by decide) rfl rfl g_a1 d1_50 (q := 53) rfl (fun T h X W => ?_)
      have A_b4 := A_b4.other W ne_b4_a1
      have A_b5 := A_b5.other W ne_b5_a1
      have O_a1 := O_PairNumbers.set1 hw W O_a1
      have K := K.wr W (Or.inl (List.mem_of_getElem? (i := 0) rfl))
      refine g_aloadN X d1_53 rfl (q := 54) rfl rfl ?_
      refine g_iloadN X d1_54 rfl (q := 55) rfl ?_
      refine g_newarrI X (aty := .int) rfl (tw27 hw) d1_55 (q := 57) rfl (by decide) (cap := 4) (by decide) (by decide) (c2 := 3) (s2 := 20) rfl rfl (by decide) (by decide) (fun T h' b6 X gz_b6 g_b6 E A_new => ?_)
      have ne_a1_b6 := own_new gz_b6 O_a1.1.lt
      have ne_b6_a1 := own_apS ne_a1_b6
      have ne_b4_b6 := own_new gz_b6 A_b4.lt
      have ne_b6_b4 := own_apS ne_b4_b6
      have ne_b5_b6 := own_new gz_b6 A_b5.lt
      have ne_b6_b5 := own_apS ne_b5_b6
      have sz_b6 := own_sz gz_b6 K
      have K := K.ext E
      have O_a1 := O_a1.ext E
      have A_b4 := A_b4.ext E
      have A_b5 := A_b5.ext E
      have A_b6 : AI Z h' b6 .int 4 (fun _ => 0) := A_new
      refine g_putF X (tw30 hw) Via.refl O_a1.2.2.2.1 O_a1.1 (Or.inr ⟨(tw31 hw), rfl, rfl⟩) (tw2 hw) (ty := (.array .int)) (by decide) rfl rfl g_a1 d1_57 (q := 60) rfl (fun T h X W => ?_)
      have A_b4 := A_b4.other W ne_b4_a1
      have A_b5 := A_b5.other W ne_b5_a1
      have A_b6 := A_b6.other W ne_b6_a1
      have O_a1 := O_PairNumbers.set2 hw W O_a1
      have K := K.wr W (Or.inl (List.mem_of_getElem? (i := 0) rfl))
      refine g_aloadN X d1_60 rfl (q := 61) rfl rfl ?_
      refine g_bipush X d1_61 rfl (q := 63) (v := 64) rfl ?_
      refine g_iloadN X d1_63 rfl (q := 64) rfl ?_
      refine g_callS X [(.int (8 : Int32))] [(.int (64 : Int32)), (.ref a1)] (tw32 hw) (tw33 hw) (tw17 hw) (tw34 hw) (by decide) (rm6_8 l Z a0 hw []  _ n0 X.size) pd1 rfl rfl rfl d1_64 (q := 67) rfl (W := 2) rfl (by decide) (by decide) (c2 := 3) (s2 := 20) rfl rfl (by decide) (by decide) (fun v T h' X hQ => ?_)
      obtain ⟨rfl, rfl⟩ := hQ
      show Goes p e below s _ n0 _ (T.setTop (mkF m 67 #[.val (.ref a1), .val (.int (4 : Int32)), .val (.int (8 : Int32))] [(.int (3 : Int32)), (.int (64 : Int32)), (.ref a1)]))
      refine g_isub X d1_67 rfl (q := 68) ?_
      refine g_eqI (y := (61 : Int32)) (by decide) ?_
      refine g_putF X (tw35 hw) Via.refl O_a1.2.2.2.2.1 O_a1.1 (Or.inr ⟨(tw36 hw), rfl, rfl⟩) (tw2 hw) (ty := .int) (by decide) rfl rfl g_a1 d1_68 (q := 71) rfl (fun T h X W => ?_)
      have A_b4 := A_b4.other W ne_b4_a1
      have A_b5 := A_b5.other W ne_b5_a1
      have A_b6 := A_b6.other W ne_b6_a1
      have O_a1 := O_PairNumbers.set3 hw W O_a1
      have K := K.wr W (Or.inl (List.mem_of_getElem? (i := 0) rfl))
      refine g_aloadN X d1_71 rfl (q := 72) rfl rfl ?_
      refine g_iloadN X d1_72 rfl (q := 73) rfl ?_
      refine g_iconst X d1_73 rfl (q := 74) (v := 1) rfl ?_
      refine g_isub X d1_74 rfl (q := 75) ?_
      refine g_eqI (y := (7 : Int32)) (by decide) ?_
      refine g_putF X (tw37 hw) Via.refl O_a1.2.2.2.2.2.1 O_a1.1 (Or.inr ⟨(tw38 hw), rfl, rfl⟩) (tw2 hw) (ty := .int) (by decide) rfl rfl g_a1 d1_75 (q := 78) rfl (fun T h X W => ?_)
      have A_b4 := A_b4.other W ne_b4_a1
      have A_b5 := A_b5.other W ne_b5_a1
      have A_b6 := A_b6.other W ne_b6_a1
      have O_a1 := O_PairNumbers.set4 hw W O_a1
      have K := K.wr W (Or.inl (List.mem_of_getElem? (i := 0) rfl))
      refine g_aloadN X d1_78 rfl (q := 79) rfl rfl ?_
      refine g_getF X (tw25 hw) Via.refl O_a1.2.1 d1_79 (q := 82) rfl (fun T X => ?_)
      refine g_ldc2 X (tw39 hw) d1_82 (q := 85) rfl ?_
      refine g_callS X [(.ref b4), (.long (-1 : Int64))] [] (tw40 hw) (tw41 hw) (tw42 hw) (tw43 hw) (by decide) (rm7 l Z a0 hw [] b4 (-1 : Int64) 8 (fun _ => 0) _ n0 X.size A_b4 g_b4 (by decide)) pd2 rfl rfl rfl d1_85 (q := 88) rfl (W := 0) rfl (by decide) (by decide) (c2 := 3) (s2 := 20) rfl rfl (by decide) (by decide) (fun v T h' X hQ => ?_)
      obtain ⟨rfl, Kc, A_b4'⟩ := hQ
      have O_a1 := O_a1.keep Kc (ninS ne_a1_b4 nin0)
      have A_b5 := A_b5.keep Kc (ninS ne_b5_b4 nin0)
      have A_b6 := A_b6.keep Kc (ninS ne_b6_b4 nin0)
      have A_b4 := A_b4'
      have K := K.trans Kc (allS (Or.inr sz_b4) all0)
      show Goes p e below s _ n0 _ (T.setTop (mkF m 88 #[.val (.ref a1), .val (.int (4 : Int32)), .val (.int (8 : Int32))] []))
      exact g_ret0 X d1_88 (by decide) (by decide) ⟨b4, b5, b6, 8, (61 : Int32), (7 : Int32), 4, rfl, K, O_a1, A_b4, A_b5, A_b6, Or.inl ⟨rfl, rfl, rfl⟩, by decide, sz_b4, g_b4, sz_b5, g_b5, sz_b6, g_b6, ne_b4_b5, ne_b4_b6, ne_b5_b4, ne_b5_b6, ne_b6_b4, ne_b6_b5⟩
  · subst q4
    show Goes p e below s _ n0 _ (T.setTop (mkF m 4 #[.val (.ref a1), .val (.int (5 : Int32)), .unset] []))
    refine g_iloadN X d1_4 rfl (q := 5) rfl ?_
    refine g_ldc X (tw10 hw) d1_5 (q := 7) rfl ?_
    refine g_icmpB X d1_7 (Or.inr (Or.inl rfl)) (q := 10) rfl (by decide) (t := 24) rfl (fun (c3 : (536870912 : Int32) < (5 : Int32)) => ?_) (fun (c3 : ¬ ((536870912 : Int32) < (5 : Int32))) => ?_)
    · skip
      exact absurd c3 (by decide)
    · skip
      refine g_iconst X d1_24 rfl (q := 25) (v := 1) rfl ?_
      refine g_iconst X d1_25 rfl (q := 26) (v := 2) rfl ?_
      refine g_iloadN X d1_26 rfl (q := 27) rfl ?_
      refine g_imul X d1_27 rfl (q := 28) ?_
      refine g_eqI (y := (10 : Int32)) (by decide) ?_
      refine g_iconst X d1_28 rfl (q := 29) (v := 1) rfl ?_
      refine g_isub X d1_29 rfl (q := 30) ?_
      refine g_eqI (y := (9 : Int32)) (by decide) ?_
      refine g_callS X [(.int (1 : Int32)), (.int (9 : Int32))] [] (tw11 hw) (tw12 hw) (tw13 hw) (tw14 hw) (by decide) (rm3_1_9 l Z a0 hw []  _ n0 X.size) pd0 rfl rfl rfl d1_30 (q := 33) rfl (W := 0) rfl (by decide) (by decide) (c2 := 0) (s2 := 0) rfl rfl (by decide) (by decide) (fun v T h' X hQ => ?_)
      obtain ⟨rfl, rfl⟩ := hQ
      show Goes p e below s _ n0 _ (T.setTop (mkF m 33 #[.val (.ref a1), .val (.int (5 : Int32)), .unset] [(.int (9 : Int32))]))
      refine g_callS X [(.int (9 : Int32))] [] (tw15 hw) (tw16 hw) (tw17 hw) (tw18 hw) (by decide) (rm4_9 l Z a0 hw []  _ n0 X.size) pd1 rfl rfl rfl d1_33 (q := 36) rfl (W := 0) rfl (by decide) (by decide) (c2 := 0) (s2 := 0) rfl rfl (by decide) (by decide) (fun v T h' X hQ => ?_)
      obtain ⟨rfl, rfl⟩ := hQ
      show Goes p e below s _ n0 _ (T.setTop (mkF m 36 #[.val (.ref a1), .val (.int (5 : Int32)), .unset] [(.int (8 : Int32))]))
      refine g_iconst X d1_36 rfl (q := 37) (v := 1) rfl ?_
      refine g_ishl X d1_37 rfl (q := 38) ?_
      refine g_eqI (y := (16 : Int32)) (by decide) ?_
      refine g_istoreN X d1_38 rfl (q := 39) (L' := #[.val (.ref a1), .val (.int (5 : Int32)), .val (.int (16 : Int32))]) rfl ?_
      refine g_aloadN X d1_39 rfl (q := 40) rfl rfl ?_
      refine g_iloadN X d1_40 rfl (q := 41) rfl ?_
      refine g_newarrJ X (tw24 hw) d1_41 (q := 43) rfl (by decide) (cap := 16) (by decide) (by decide) (c2 := 1) (s2 := 16) rfl rfl (by decide) (by decide) (fun T h' b7 X gz_b7 g_b7 E A_new => ?_)
      have ne_a1_b7 := own_new gz_b7 O_a1.1.lt
      have ne_b7_a1 := own_apS ne_a1_b7
      have sz_b7 := own_sz gz_b7 K
      have K := K.ext E
      have O_a1 := O_a1.ext E
      have A_b7 : AJ Z h' b7 16 (fun _ => 0) := A_new
      refine g_putF X (tw25 hw) Via.refl O_a1.2.1 O_a1.1 (Or.inr ⟨(tw26 hw), rfl, rfl⟩) (tw2 hw) (ty := (.array .long)) (by decide) rfl rfl g_a1 d1_43 (q := 46) rfl (fun T h X W => ?_)
      have A_b7 := A_b7.other W ne_b7_a1
      have O_a1 := O_PairNumbers.set0 hw W O_a1
      have K := K.wr W (Or.inl (List.mem_of_getElem? (i := 0) rfl))
      refine g_aloadN X d1_46 rfl (q := 47) rfl rfl ?_
      refine g_iloadN X d1_47 rfl (q := 48) rfl ?_
      refine g_newarrI X (aty := .int) rfl (tw27 hw) d1_48 (q := 50) rfl (by decide) (cap := 16) (by decide) (by decide) (c2 := 2) (s2 := 32) rfl rfl (by decide) (by decide) (fun T h' b8 X gz_b8 g_b8 E A_new => ?_)
      have ne_a1_b8 := own_new gz_b8 O_a1.1.lt
      have ne_b8_a1 := own_apS ne_a1_b8
      have ne_b7_b8 := own_new gz_b8 A_b7.lt
      have ne_b8_b7 := own_apS ne_b7_b8
      have sz_b8 := own_sz gz_b8 K
      have K := K.ext E
      have O_a1 := O_a1.ext E
      have A_b7 := A_b7.ext E
      have A_b8 : AI Z h' b8 .int 16 (fun _ => 0) := A_new
      refine g_putF X (tw28 hw) Via.refl O_a1.2.2.1 O_a1.1 (Or.inr ⟨(tw29 hw), rfl, rfl⟩) (tw2 hw) (ty := (.array .int)) (by decide) rfl rfl g_a1 d1_50 (q := 53) rfl (fun T h X W => ?_)
      have A_b7 := A_b7.other W ne_b7_a1
      have A_b8 := A_b8.other W ne_b8_a1
      have O_a1 := O_PairNumbers.set1 hw W O_a1
      have K := K.wr W (Or.inl (List.mem_of_getElem? (i := 0) rfl))
      refine g_aloadN X d1_53 rfl (q := 54) rfl rfl ?_
      refine g_iloadN X d1_54 rfl (q := 55) rfl ?_
      refine g_newarrI X (aty := .int) rfl (tw27 hw) d1_55 (q := 57) rfl (by decide) (cap := 5) (by decide) (by decide) (c2 := 3) (s2 := 37) rfl rfl (by decide) (by decide) (fun T h' b9 X gz_b9 g_b9 E A_new => ?_)
      have ne_a1_b9 := own_new gz_b9 O_a1.1.lt
      have ne_b9_a1 := own_apS ne_a1_b9
      have ne_b7_b9 := own_new gz_b9 A_b7.lt
      have ne_b9_b7 := own_apS ne_b7_b9
      have ne_b8_b9 := own_new gz_b9 A_b8.lt
      have ne_b9_b8 := own_apS ne_b8_b9
      have sz_b9 := own_sz gz_b9 K
      have K := K.ext E
      have O_a1 := O_a1.ext E
      have A_b7 := A_b7.ext E
      have A_b8 := A_b8.ext E
      have A_b9 : AI Z h' b9 .int 5 (fun _ => 0) := A_new
      refine g_putF X (tw30 hw) Via.refl O_a1.2.2.2.1 O_a1.1 (Or.inr ⟨(tw31 hw), rfl, rfl⟩) (tw2 hw) (ty := (.array .int)) (by decide) rfl rfl g_a1 d1_57 (q := 60) rfl (fun T h X W => ?_)
      have A_b7 := A_b7.other W ne_b7_a1
      have A_b8 := A_b8.other W ne_b8_a1
      have A_b9 := A_b9.other W ne_b9_a1
      have O_a1 := O_PairNumbers.set2 hw W O_a1
      have K := K.wr W (Or.inl (List.mem_of_getElem? (i := 0) rfl))
      refine g_aloadN X d1_60 rfl (q := 61) rfl rfl ?_
      refine g_bipush X d1_61 rfl (q := 63) (v := 64) rfl ?_
      refine g_iloadN X d1_63 rfl (q := 64) rfl ?_
      refine g_callS X [(.int (16 : Int32))] [(.int (64 : Int32)), (.ref a1)] (tw32 hw) (tw33 hw) (tw17 hw) (tw34 hw) (by decide) (rm6_16 l Z a0 hw []  _ n0 X.size) pd1 rfl rfl rfl d1_64 (q := 67) rfl (W := 2) rfl (by decide) (by decide) (c2 := 3) (s2 := 37) rfl rfl (by decide) (by decide) (fun v T h' X hQ => ?_)
      obtain ⟨rfl, rfl⟩ := hQ
      show Goes p e below s _ n0 _ (T.setTop (mkF m 67 #[.val (.ref a1), .val (.int (5 : Int32)), .val (.int (16 : Int32))] [(.int (4 : Int32)), (.int (64 : Int32)), (.ref a1)]))
      refine g_isub X d1_67 rfl (q := 68) ?_
      refine g_eqI (y := (60 : Int32)) (by decide) ?_
      refine g_putF X (tw35 hw) Via.refl O_a1.2.2.2.2.1 O_a1.1 (Or.inr ⟨(tw36 hw), rfl, rfl⟩) (tw2 hw) (ty := .int) (by decide) rfl rfl g_a1 d1_68 (q := 71) rfl (fun T h X W => ?_)
      have A_b7 := A_b7.other W ne_b7_a1
      have A_b8 := A_b8.other W ne_b8_a1
      have A_b9 := A_b9.other W ne_b9_a1
      have O_a1 := O_PairNumbers.set3 hw W O_a1
      have K := K.wr W (Or.inl (List.mem_of_getElem? (i := 0) rfl))
      refine g_aloadN X d1_71 rfl (q := 72) rfl rfl ?_
      refine g_iloadN X d1_72 rfl (q := 73) rfl ?_
      refine g_iconst X d1_73 rfl (q := 74) (v := 1) rfl ?_
      refine g_isub X d1_74 rfl (q := 75) ?_
      refine g_eqI (y := (15 : Int32)) (by decide) ?_
      refine g_putF X (tw37 hw) Via.refl O_a1.2.2.2.2.2.1 O_a1.1 (Or.inr ⟨(tw38 hw), rfl, rfl⟩) (tw2 hw) (ty := .int) (by decide) rfl rfl g_a1 d1_75 (q := 78) rfl (fun T h X W => ?_)
      have A_b7 := A_b7.other W ne_b7_a1
      have A_b8 := A_b8.other W ne_b8_a1
      have A_b9 := A_b9.other W ne_b9_a1
      have O_a1 := O_PairNumbers.set4 hw W O_a1
      have K := K.wr W (Or.inl (List.mem_of_getElem? (i := 0) rfl))
      refine g_aloadN X d1_78 rfl (q := 79) rfl rfl ?_
      refine g_getF X (tw25 hw) Via.refl O_a1.2.1 d1_79 (q := 82) rfl (fun T X => ?_)
      refine g_ldc2 X (tw39 hw) d1_82 (q := 85) rfl ?_
      refine g_callS X [(.ref b7), (.long (-1 : Int64))] [] (tw40 hw) (tw41 hw) (tw42 hw) (tw43 hw) (by decide) (rm7 l Z a0 hw [] b7 (-1 : Int64) 16 (fun _ => 0) _ n0 X.size A_b7 g_b7 (by decide)) pd2 rfl rfl rfl d1_85 (q := 88) rfl (W := 0) rfl (by decide) (by decide) (c2 := 3) (s2 := 37) rfl rfl (by decide) (by decide) (fun v T h' X hQ => ?_)
      obtain ⟨rfl, Kc, A_b7'⟩ := hQ
      have O_a1 := O_a1.keep Kc (ninS ne_a1_b7 nin0)
      have A_b8 := A_b8.keep Kc (ninS ne_b8_b7 nin0)
      have A_b9 := A_b9.keep Kc (ninS ne_b9_b7 nin0)
      have A_b7 := A_b7'
      have K := K.trans Kc (allS (Or.inr sz_b7) all0)
      show Goes p e below s _ n0 _ (T.setTop (mkF m 88 #[.val (.ref a1), .val (.int (5 : Int32)), .val (.int (16 : Int32))] []))
      exact g_ret0 X d1_88 (by decide) (by decide) ⟨b7, b8, b9, 16, (60 : Int32), (15 : Int32), 5, rfl, K, O_a1, A_b7, A_b8, A_b9, Or.inr (Or.inl ⟨rfl, rfl, rfl⟩), by decide, sz_b7, g_b7, sz_b8, g_b8, sz_b9, g_b9, ne_b7_b8, ne_b7_b9, ne_b8_b7, ne_b8_b9, ne_b9_b7, ne_b9_b8⟩
  · subst q4
    show Goes p e below s _ n0 _ (T.setTop (mkF m 4 #[.val (.ref a1), .val (.int (6 : Int32)), .unset] []))
    refine g_iloadN X d1_4 rfl (q := 5) rfl ?_
    refine g_ldc X (tw10 hw) d1_5 (q := 7) rfl ?_
    refine g_icmpB X d1_7 (Or.inr (Or.inl rfl)) (q := 10) rfl (by decide) (t := 24) rfl (fun (c4 : (536870912 : Int32) < (6 : Int32)) => ?_) (fun (c4 : ¬ ((536870912 : Int32) < (6 : Int32))) => ?_)
    · skip
      exact absurd c4 (by decide)
    · skip
      refine g_iconst X d1_24 rfl (q := 25) (v := 1) rfl ?_
      refine g_iconst X d1_25 rfl (q := 26) (v := 2) rfl ?_
      refine g_iloadN X d1_26 rfl (q := 27) rfl ?_
      refine g_imul X d1_27 rfl (q := 28) ?_
      refine g_eqI (y := (12 : Int32)) (by decide) ?_
      refine g_iconst X d1_28 rfl (q := 29) (v := 1) rfl ?_
      refine g_isub X d1_29 rfl (q := 30) ?_
      refine g_eqI (y := (11 : Int32)) (by decide) ?_
      refine g_callS X [(.int (1 : Int32)), (.int (11 : Int32))] [] (tw11 hw) (tw12 hw) (tw13 hw) (tw14 hw) (by decide) (rm3_1_11 l Z a0 hw []  _ n0 X.size) pd0 rfl rfl rfl d1_30 (q := 33) rfl (W := 0) rfl (by decide) (by decide) (c2 := 0) (s2 := 0) rfl rfl (by decide) (by decide) (fun v T h' X hQ => ?_)
      obtain ⟨rfl, rfl⟩ := hQ
      show Goes p e below s _ n0 _ (T.setTop (mkF m 33 #[.val (.ref a1), .val (.int (6 : Int32)), .unset] [(.int (11 : Int32))]))
      refine g_callS X [(.int (11 : Int32))] [] (tw15 hw) (tw16 hw) (tw17 hw) (tw18 hw) (by decide) (rm4_11 l Z a0 hw []  _ n0 X.size) pd1 rfl rfl rfl d1_33 (q := 36) rfl (W := 0) rfl (by decide) (by decide) (c2 := 0) (s2 := 0) rfl rfl (by decide) (by decide) (fun v T h' X hQ => ?_)
      obtain ⟨rfl, rfl⟩ := hQ
      show Goes p e below s _ n0 _ (T.setTop (mkF m 36 #[.val (.ref a1), .val (.int (6 : Int32)), .unset] [(.int (8 : Int32))]))
      refine g_iconst X d1_36 rfl (q := 37) (v := 1) rfl ?_
      refine g_ishl X d1_37 rfl (q := 38) ?_
      refine g_eqI (y := (16 : Int32)) (by decide) ?_
      refine g_istoreN X d1_38 rfl (q := 39) (L' := #[.val (.ref a1), .val (.int (6 : Int32)), .val (.int (16 : Int32))]) rfl ?_
      refine g_aloadN X d1_39 rfl (q := 40) rfl rfl ?_
      refine g_iloadN X d1_40 rfl (q := 41) rfl ?_
      refine g_newarrJ X (tw24 hw) d1_41 (q := 43) rfl (by decide) (cap := 16) (by decide) (by decide) (c2 := 1) (s2 := 16) rfl rfl (by decide) (by decide) (fun T h' b10 X gz_b10 g_b10 E A_new => ?_)
      have ne_a1_b10 := own_new gz_b10 O_a1.1.lt
      have ne_b10_a1 := own_apS ne_a1_b10
      have sz_b10 := own_sz gz_b10 K
      have K := K.ext E
      have O_a1 := O_a1.ext E
      have A_b10 : AJ Z h' b10 16 (fun _ => 0) := A_new
      refine g_putF X (tw25 hw) Via.refl O_a1.2.1 O_a1.1 (Or.inr ⟨(tw26 hw), rfl, rfl⟩) (tw2 hw) (ty := (.array .long)) (by decide) rfl rfl g_a1 d1_43 (q := 46) rfl (fun T h X W => ?_)
      have A_b10 := A_b10.other W ne_b10_a1
      have O_a1 := O_PairNumbers.set0 hw W O_a1
      have K := K.wr W (Or.inl (List.mem_of_getElem? (i := 0) rfl))
      refine g_aloadN X d1_46 rfl (q := 47) rfl rfl ?_
      refine g_iloadN X d1_47 rfl (q := 48) rfl ?_
      refine g_newarrI X (aty := .int) rfl (tw27 hw) d1_48 (q := 50) rfl (by decide) (cap := 16) (by decide) (by decide) (c2 := 2) (s2 := 32) rfl rfl (by decide) (by decide) (fun T h' b11 X gz_b11 g_b11 E A_new => ?_)
      have ne_a1_b11 := own_new gz_b11 O_a1.1.lt
      have ne_b11_a1 := own_apS ne_a1_b11
      have ne_b10_b11 := own_new gz_b11 A_b10.lt
      have ne_b11_b10 := own_apS ne_b10_b11
      have sz_b11 := own_sz gz_b11 K
      have K := K.ext E
      have O_a1 := O_a1.ext E
      have A_b10 := A_b10.ext E
      have A_b11 : AI Z h' b11 .int 16 (fun _ => 0) := A_new
      refine g_putF X (tw28 hw) Via.refl O_a1.2.2.1 O_a1.1 (Or.inr ⟨(tw29 hw), rfl, rfl⟩) (tw2 hw) (ty := (.array .int)) (by decide) rfl rfl g_a1 d1_50 (q := 53) rfl (fun T h X W => ?_)
      have A_b10 := A_b10.other W ne_b10_a1
      have A_b11 := A_b11.other W ne_b11_a1
      have O_a1 := O_PairNumbers.set1 hw W O_a1
      have K := K.wr W (Or.inl (List.mem_of_getElem? (i := 0) rfl))
      refine g_aloadN X d1_53 rfl (q := 54) rfl rfl ?_
      refine g_iloadN X d1_54 rfl (q := 55) rfl ?_
      refine g_newarrI X (aty := .int) rfl (tw27 hw) d1_55 (q := 57) rfl (by decide) (cap := 6) (by decide) (by decide) (c2 := 3) (s2 := 38) rfl rfl (by decide) (by decide) (fun T h' b12 X gz_b12 g_b12 E A_new => ?_)
      have ne_a1_b12 := own_new gz_b12 O_a1.1.lt
      have ne_b12_a1 := own_apS ne_a1_b12
      have ne_b10_b12 := own_new gz_b12 A_b10.lt
      have ne_b12_b10 := own_apS ne_b10_b12
      have ne_b11_b12 := own_new gz_b12 A_b11.lt
      have ne_b12_b11 := own_apS ne_b11_b12
      have sz_b12 := own_sz gz_b12 K
      have K := K.ext E
      have O_a1 := O_a1.ext E
      have A_b10 := A_b10.ext E
      have A_b11 := A_b11.ext E
      have A_b12 : AI Z h' b12 .int 6 (fun _ => 0) := A_new
      refine g_putF X (tw30 hw) Via.refl O_a1.2.2.2.1 O_a1.1 (Or.inr ⟨(tw31 hw), rfl, rfl⟩) (tw2 hw) (ty := (.array .int)) (by decide) rfl rfl g_a1 d1_57 (q := 60) rfl (fun T h X W => ?_)
      have A_b10 := A_b10.other W ne_b10_a1
      have A_b11 := A_b11.other W ne_b11_a1
      have A_b12 := A_b12.other W ne_b12_a1
      have O_a1 := O_PairNumbers.set2 hw W O_a1
      have K := K.wr W (Or.inl (List.mem_of_getElem? (i := 0) rfl))
      refine g_aloadN X d1_60 rfl (q := 61) rfl rfl ?_
      refine g_bipush X d1_61 rfl (q := 63) (v := 64) rfl ?_
      refine g_iloadN X d1_63 rfl (q := 64) rfl ?_
      refine g_callS X [(.int (16 : Int32))] [(.int (64 : Int32)), (.ref a1)] (tw32 hw) (tw33 hw) (tw17 hw) (tw34 hw) (by decide) (rm6_16 l Z a0 hw []  _ n0 X.size) pd1 rfl rfl rfl d1_64 (q := 67) rfl (W := 2) rfl (by decide) (by decide) (c2 := 3) (s2 := 38) rfl rfl (by decide) (by decide) (fun v T h' X hQ => ?_)
      obtain ⟨rfl, rfl⟩ := hQ
      show Goes p e below s _ n0 _ (T.setTop (mkF m 67 #[.val (.ref a1), .val (.int (6 : Int32)), .val (.int (16 : Int32))] [(.int (4 : Int32)), (.int (64 : Int32)), (.ref a1)]))
      refine g_isub X d1_67 rfl (q := 68) ?_
      refine g_eqI (y := (60 : Int32)) (by decide) ?_
      refine g_putF X (tw35 hw) Via.refl O_a1.2.2.2.2.1 O_a1.1 (Or.inr ⟨(tw36 hw), rfl, rfl⟩) (tw2 hw) (ty := .int) (by decide) rfl rfl g_a1 d1_68 (q := 71) rfl (fun T h X W => ?_)
      have A_b10 := A_b10.other W ne_b10_a1
      have A_b11 := A_b11.other W ne_b11_a1
      have A_b12 := A_b12.other W ne_b12_a1
      have O_a1 := O_PairNumbers.set3 hw W O_a1
      have K := K.wr W (Or.inl (List.mem_of_getElem? (i := 0) rfl))
      refine g_aloadN X d1_71 rfl (q := 72) rfl rfl ?_
      refine g_iloadN X d1_72 rfl (q := 73) rfl ?_
      refine g_iconst X d1_73 rfl (q := 74) (v := 1) rfl ?_
      refine g_isub X d1_74 rfl (q := 75) ?_
      refine g_eqI (y := (15 : Int32)) (by decide) ?_
      refine g_putF X (tw37 hw) Via.refl O_a1.2.2.2.2.2.1 O_a1.1 (Or.inr ⟨(tw38 hw), rfl, rfl⟩) (tw2 hw) (ty := .int) (by decide) rfl rfl g_a1 d1_75 (q := 78) rfl (fun T h X W => ?_)
      have A_b10 := A_b10.other W ne_b10_a1
      have A_b11 := A_b11.other W ne_b11_a1
      have A_b12 := A_b12.other W ne_b12_a1
      have O_a1 := O_PairNumbers.set4 hw W O_a1
      have K := K.wr W (Or.inl (List.mem_of_getElem? (i := 0) rfl))
      refine g_aloadN X d1_78 rfl (q := 79) rfl rfl ?_
      refine g_getF X (tw25 hw) Via.refl O_a1.2.1 d1_79 (q := 82) rfl (fun T X => ?_)
      refine g_ldc2 X (tw39 hw) d1_82 (q := 85) rfl ?_
      refine g_callS X [(.ref b10), (.long (-1 : Int64))] [] (tw40 hw) (tw41 hw) (tw42 hw) (tw43 hw) (by decide) (rm7 l Z a0 hw [] b10 (-1 : Int64) 16 (fun _ => 0) _ n0 X.size A_b10 g_b10 (by decide)) pd2 rfl rfl rfl d1_85 (q := 88) rfl (W := 0) rfl (by decide) (by decide) (c2 := 3) (s2 := 38) rfl rfl (by decide) (by decide) (fun v T h' X hQ => ?_)
      obtain ⟨rfl, Kc, A_b10'⟩ := hQ
      have O_a1 := O_a1.keep Kc (ninS ne_a1_b10 nin0)
      have A_b11 := A_b11.keep Kc (ninS ne_b11_b10 nin0)
      have A_b12 := A_b12.keep Kc (ninS ne_b12_b10 nin0)
      have A_b10 := A_b10'
      have K := K.trans Kc (allS (Or.inr sz_b10) all0)
      show Goes p e below s _ n0 _ (T.setTop (mkF m 88 #[.val (.ref a1), .val (.int (6 : Int32)), .val (.int (16 : Int32))] []))
      exact g_ret0 X d1_88 (by decide) (by decide) ⟨b10, b11, b12, 16, (60 : Int32), (15 : Int32), 6, rfl, K, O_a1, A_b10, A_b11, A_b12, Or.inr (Or.inl ⟨rfl, rfl, rfl⟩), by decide, sz_b10, g_b10, sz_b11, g_b11, sz_b12, g_b12, ne_b10_b11, ne_b10_b12, ne_b11_b10, ne_b11_b12, ne_b12_b10, ne_b12_b11⟩
theorem pn8 : plainName "com/example/masked_merge/maskedmerge/core/PairNumbers" = true := by first | (simp [plainName, overriddenIn]; done) | decide +kernel
theorem ef8 (m : MethodId) (x0 : Addr) (x1 : Int32) (x2 : Int32) : entryFrame m #[(.ref x0), (.int x1), (.int x2)] 6 = mkF m 0 #[.val (.ref x0), .val (.int x1), .val (.int x2), .unset, .unset, .unset] [] := by first | (simp [entryFrame, mkF, argsToLocals, Value.category]; done) | rfl
set_option maxRecDepth 65536 in
set_option maxHeartbeats 40000000 in
theorem rm8 (l : Launch) (Z : State) (a0 : Array Value) (hw : ∀ d ∈ tables_1, d.before a0 Z = true) (ws : List Jvm.Cond) (a1 : Addr) (p2 : Int32) (p3 : Int32) (uk : Addr) (um : Addr) (uu : Addr) (ush : Int32) (umk : Int32) (sz : Nat) (C : Nat) (K0 : Nat → Int64) (M0 : Nat → Int32) (P0 : Nat → Nat) (ks : Nat → Int64) (n : Nat) (h0 : Heap) (n0 : Nat) (Z0 : n0 ≤ h0.size) (O_a1 : O_PairNumbers Z h0 a1 (.ref uk) (.ref um) (.ref uu) (.int ush) (.int umk) (.int (Int32.ofNat n))) (A_uk : AJ Z h0 uk sz K0) (A_um : AI Z h0 um .int sz M0) (A_uu : AI Z h0 uu .int C (fun j => Int32.ofNat (P0 j))) (g_a1 : n0 ≤ a1) (g_uk : n0 ≤ uk) (g_um : n0 ≤ um) (g_uu : n0 ≤ uu) (ne_a1_uk : Apart a1 uk) (ne_a1_um : Apart a1 um) (ne_a1_uu : Apart a1 uu) (ne_uk_a1 : Apart uk a1) (ne_uk_um : Apart uk um) (ne_uk_uu : Apart uk uu) (ne_um_a1 : Apart um a1) (ne_um_uk : Apart um uk) (ne_um_uu : Apart um uu) (ne_uu_a1 : Apart uu a1) (ne_uu_uk : Apart uu uk) (ne_uu_um : Apart uu um) (hp : 0 ≤ p2.toInt) (hz : SZ sz ush umk) (hPN : PN sz ush K0 M0 P0 ks n) (hn4 : n ≤ 4) (hnC : n < C) :
    Met l Z (⟨"com/example/masked_merge/maskedmerge/core/PairNumbers", "number", "(II)I"⟩ : MethodName) prog_15_method_2_code 6 (some .int) ({ frames := 0, cells := 0, slots := 0, locals := 0 } : Room) ws n0 #[(.ref a1), (.int p2), (.int p3)] h0 (fun v h' => ∃ r1 : Int32, ∃ K1 : Nat → Int64, ∃ M1 : Nat → Int32, ∃ P1 : Nat → Nat, ∃ ks1 : Nat → Int64, ∃ n1 : Nat, v = some (.int r1) ∧ Keep h0 h' [a1, uk, um, uu] ∧ O_PairNumbers Z h' a1 (.ref uk) (.ref um) (.ref uu) (.int ush) (.int umk) (.int (Int32.ofNat n1)) ∧ AJ Z h' uk sz K1 ∧ AI Z h' um .int sz M1 ∧ AI Z h' uu .int C (fun j => Int32.ofNat (P1 j)) ∧ PN sz ush K1 M1 P1 ks1 n1 ∧ NR ks n (KEY p2 p3) r1 ks1 n1 ∧ n1 ≤ n + 1) := by
  refine Met.intro (plainFor_of_name pn8) Z0 ?_
  intro p e s m below meth c T X
  refine g_cast (ef8 m a1 p2 p3) ?_
  have K : Keep h0 h0 [a1, uk, um, uu] := Keep.refl h0 _
  refine g_iloadN X d8_0 rfl (q := 1) rfl ?_
  refine g_i2l X d8_1 rfl (q := 2) ?_
  refine g_bipush X d8_2 rfl (q := 4) (v := 32) rfl ?_
  refine g_lshl X d8_4 rfl (q := 5) ?_
  refine g_iloadN X d8_5 rfl (q := 6) rfl ?_
  refine g_i2l X d8_6 rfl (q := 7) ?_
  refine g_ldc2 X (tw49 hw) d8_7 (q := 10) rfl ?_
  refine g_land X d8_10 rfl (q := 11) ?_
  refine g_lor X d8_11 rfl (q := 12) ?_
  refine g_letJ (fun ky hky => ?_)
  replace hky : ky = KEY p2 p3 := hky
  have hkm : ky ≠ (-1 : Int64) := by rw [hky]; exact own_keyN hp
  refine g_lstoreN X d8_12 rfl (q := 13) (L' := #[.val (.ref a1), .val (.int p2), .val (.int p3), .val (.long ky), .second, .unset]) rfl ?_
  refine g_lloadN X d8_13 rfl (q := 14) rfl ?_
  refine g_ldc2 X (tw50 hw) d8_14 (q := 17) rfl ?_
  refine g_lmul X d8_17 rfl (q := 18) ?_
  refine g_aloadN X d8_18 rfl (q := 19) rfl rfl ?_
  refine g_getF X (tw35 hw) Via.refl O_a1.2.2.2.2.1 d8_19 (q := 22) rfl (fun T X => ?_)
  refine g_lushr X d8_22 rfl (q := 23) ?_
  refine g_l2i X d8_23 rfl (q := 24) ?_
  refine g_letI (fun s0 hs0 => ?_)
  replace hs0 : s0 = hsh ush ky := hs0
  obtain ⟨hh, hhh⟩ : ∃ z, z = HS ush ky := ⟨_, rfl⟩
  have hlt : hh < sz := by rw [hhh]; exact own_HS hz ky
  have hs1 : s0 = Int32.ofNat ((hh + 0) % sz) := by rw [hs0, hhh]; exact own_HS0 hz ky
  have hsz := own_szb hz
  obtain ⟨te, hte⟩ := own_empty hPN hn4 hz hlt
  refine g_istore X d8_24 rfl (q := 26) (L' := #[.val (.ref a1), .val (.int p2), .val (.int p3), .val (.long ky), .second, .val (.int s0)]) rfl ?_
  refine g_loop2 X (H := 26) (fun (sl : Int32) (t : Nat) => te - t) (fun sl t h => O_PairNumbers Z h a1 (.ref uk) (.ref um) (.ref uu) (.int ush) (.int umk) (.int (Int32.ofNat n)) ∧ AJ Z h uk sz K0 ∧ AI Z h um .int sz M0 ∧ AI Z h uu .int C (fun j => Int32.ofNat (P0 j)) ∧ Keep h0 h [a1, uk, um, uu] ∧ sl = Int32.ofNat ((hh + t) % sz) ∧ t ≤ te ∧ ∀ u, u < t → K0 ((hh + u) % sz) ≠ ky ∧ K0 ((hh + u) % sz) ≠ (-1 : Int64)) (fun sl t => #[.val (.ref a1), .val (.int p2), .val (.int p3), .val (.long ky), .second, .val (.int sl)]) (fun sl t => []) s0 0 ⟨O_a1, A_uk, A_um, A_uu, K, hs1, (Nat.zero_le _), (fun u hu => absurd hu (Nat.not_lt_zero u))⟩ (fun sl t T h X hI ih => ?_)
  have hI2 : O_PairNumbers Z h a1 (.ref uk) (.ref um) (.ref uu) (.int ush) (.int umk) (.int (Int32.ofNat n)) ∧ AJ Z h uk sz K0 ∧ AI Z h um .int sz M0 ∧ AI Z h uu .int C (fun j => Int32.ofNat (P0 j)) ∧ Keep h0 h [a1, uk, um, uu] ∧ sl = Int32.ofNat ((hh + t) % sz) ∧ t ≤ te ∧ ∀ u, u < t → K0 ((hh + u) % sz) ≠ ky ∧ K0 ((hh + u) % sz) ≠ (-1 : Int64) := hI
  obtain ⟨O_a1, A_uk, A_um, A_uu, K, hsl, ht, hq⟩ := hI2
  show Goes p e below s _ n0 _ (T.setTop (mkF m 26 #[.val (.ref a1), .val (.int p2), .val (.int p3), .val (.long ky), .second, .val (.int sl)] []))
  refine g_aloadN X d8_26 rfl (q := 27) rfl rfl ?_
  refine g_getF X (tw25 hw) Via.refl O_a1.2.1 d8_27 (q := 30) rfl (fun T X => ?_)
  refine g_iload X d8_30 rfl (q := 32) rfl ?_
  refine g_laload X A_uk (own_ki hsl (Nat.mod_lt _ (by omega)) (by omega)) d8_32 (q := 33) rfl ?_
  refine g_eqJ (y := (K0 ((hh + t) % sz))) (congrArg K0 (own_kc hsl (own_mlt hsz))) ?_
  refine g_lloadN X d8_33 rfl (q := 34) rfl ?_
  refine g_lcmpA X d8_34 (q1 := 35) rfl d8_35 (Or.inr (Or.inr rfl)) (q := 38) rfl (by decide) (t := 66) rfl (fun (c1 : (K0 ((hh + t) % sz)) = ky) => ?_) (fun (c1 : ¬ ((K0 ((hh + t) % sz)) = ky)) => ?_)
  · skip
    have hne : ¬ ((K0 ((hh + t) % sz)) = (-1 : Int64)) := fun z => hkm (c1.symm.trans z)
    refine g_aloadN X d8_66 rfl (q := 67) rfl rfl ?_
    refine g_getF X (tw25 hw) Via.refl O_a1.2.1 d8_67 (q := 70) rfl (fun T X => ?_)
    refine g_iload X d8_70 rfl (q := 72) rfl ?_
    refine g_laload X A_uk (own_ki hsl (Nat.mod_lt _ (by omega)) (by omega)) d8_72 (q := 73) rfl ?_
    refine g_eqJ (y := (K0 ((hh + t) % sz))) (congrArg K0 (own_kc hsl (own_mlt hsz))) ?_
    refine g_ldc2 X (tw39 hw) d8_73 (q := 76) rfl ?_
    refine g_lcmpB X d8_76 (q1 := 77) rfl d8_77 (Or.inr (Or.inr rfl)) (q := 80) rfl (by decide) (t := 120) rfl (fun (c2 : (K0 ((hh + t) % sz)) = (-1 : Int64)) => ?_) (fun (c2 : ¬ ((K0 ((hh + t) % sz)) = (-1 : Int64))) => ?_)
    · skip
      exact absurd c2 hne
    · skip
      refine g_aloadN X d8_120 rfl (q := 121) rfl rfl ?_
      refine g_getF X (tw28 hw) Via.refl O_a1.2.2.1 d8_121 (q := 124) rfl (fun T X => ?_)
      refine g_iload X d8_124 rfl (q := 126) rfl ?_
      refine g_iaload X A_um (own_ki hsl (Nat.mod_lt _ (by omega)) (by omega)) d8_126 (q := 127) rfl ?_
      refine g_eqI (y := (M0 ((hh + t) % sz))) (congrArg M0 (own_kc hsl (own_mlt hsz))) ?_
      obtain ⟨ii, hii, hki, hmi⟩ := own_found hPN (Nat.mod_lt _ (by omega)) c1 hkm
      exact g_retI X d8_127 (by decide) (by decide) ⟨M0 ((hh + t) % sz), K0, M0, P0, ks, n, rfl, K, O_a1, A_uk, A_um, A_uu, hPN, Or.inl ⟨ii, hii, hki.trans hky, hmi, rfl, rfl⟩, by omega⟩
  · skip
    refine g_aloadN X d8_38 rfl (q := 39) rfl rfl ?_
    refine g_getF X (tw25 hw) Via.refl O_a1.2.1 d8_39 (q := 42) rfl (fun T X => ?_)
    refine g_iload X d8_42 rfl (q := 44) rfl ?_
    refine g_laload X A_uk (own_ki hsl (Nat.mod_lt _ (by omega)) (by omega)) d8_44 (q := 45) rfl ?_
    refine g_eqJ (y := (K0 ((hh + t) % sz))) (congrArg K0 (own_kc hsl (own_mlt hsz))) ?_
    refine g_ldc2 X (tw39 hw) d8_45 (q := 48) rfl ?_
    refine g_lcmpA X d8_48 (q1 := 49) rfl d8_49 (Or.inr (Or.inr rfl)) (q := 52) rfl (by decide) (t := 66) rfl (fun (c3 : (K0 ((hh + t) % sz)) = (-1 : Int64)) => ?_) (fun (c3 : ¬ ((K0 ((hh + t) % sz)) = (-1 : Int64))) => ?_)
    · skip
      refine g_aloadN X d8_66 rfl (q := 67) rfl rfl ?_
      refine g_getF X (tw25 hw) Via.refl O_a1.2.1 d8_67 (q := 70) rfl (fun T X => ?_)
      refine g_iload X d8_70 rfl (q := 72) rfl ?_
      refine g_laload X A_uk (own_ki hsl (Nat.mod_lt _ (by omega)) (by omega)) d8_72 (q := 73) rfl ?_
      refine g_eqJ (y := (K0 ((hh + t) % sz))) (congrArg K0 (own_kc hsl (own_mlt hsz))) ?_
      refine g_ldc2 X (tw39 hw) d8_73 (q := 76) rfl ?_
      refine g_lcmpB X d8_76 (q1 := 77) rfl d8_77 (Or.inr (Or.inr rfl)) (q := 80) rfl (by decide) (t := 120) rfl (fun (c4 : (K0 ((hh + t) % sz)) = (-1 : Int64)) => ?_) (fun (c4 : ¬ ((K0 ((hh + t) % sz)) = (-1 : Int64))) => ?_)
      · skip
        refine g_aloadN X d8_80 rfl (q := 81) rfl rfl ?_
        refine g_getF X (tw25 hw) Via.refl O_a1.2.1 d8_81 (q := 84) rfl (fun T X => ?_)
        refine g_iload X d8_84 rfl (q := 86) rfl ?_
        refine g_lloadN X d8_86 rfl (q := 87) rfl ?_
        refine g_lastore X A_uk (own_ki hsl (Nat.mod_lt _ (by omega)) (by omega)) g_uk d8_87 (q := 88) rfl (fun T h X W => ?_)
        have O_a1 := O_a1.other W ne_a1_uk
        have A_um := A_um.other W ne_um_uk
        have A_uu := A_uu.other W ne_uu_uk
        have A_uk : AJ Z h uk sz (own_up K0 sl.toNatClampNeg ky) := A_uk.set W
        have K := K.wr W (Or.inl (List.mem_of_getElem? (i := 1) rfl))
        have A_uk : AJ Z h uk sz (own_up K0 ((hh + t) % sz) ky) := A_uk.to (fun j _ => by rw [(own_kc hsl (own_mlt hsz))])
        refine g_aloadN X d8_88 rfl (q := 89) rfl rfl ?_
        refine g_getF X (tw28 hw) Via.refl O_a1.2.2.1 d8_89 (q := 92) rfl (fun T X => ?_)
        refine g_iload X d8_92 rfl (q := 94) rfl ?_
        refine g_aloadN X d8_94 rfl (q := 95) rfl rfl ?_
        refine g_getF X (tw51 hw) Via.refl O_a1.2.2.2.2.2.2 d8_95 (q := 98) rfl (fun T X => ?_)
        refine g_iastore X A_um (own_ki hsl (Nat.mod_lt _ (by omega)) (by omega)) g_um d8_98 (q := 99) rfl (fun T h X W => ?_)
        have O_a1 := O_a1.other W ne_a1_um
        have A_uk := A_uk.other W ne_uk_um
        have A_uu := A_uu.other W ne_uu_um
        have A_um : AI Z h um .int sz (own_up M0 sl.toNatClampNeg (Int32.ofNat n)) := A_um.set W
        have K := K.wr W (Or.inl (List.mem_of_getElem? (i := 2) rfl))
        have A_um : AI Z h um .int sz (own_up M0 ((hh + t) % sz) (Int32.ofNat n)) := A_um.to (fun j _ => by rw [(own_kc hsl (own_mlt hsz))])
        refine g_aloadN X d8_99 rfl (q := 100) rfl rfl ?_
        refine g_getF X (tw30 hw) Via.refl O_a1.2.2.2.1 d8_100 (q := 103) rfl (fun T X => ?_)
        refine g_aloadN X d8_103 rfl (q := 104) rfl rfl ?_
        refine g_getF X (tw51 hw) Via.refl O_a1.2.2.2.2.2.2 d8_104 (q := 107) rfl (fun T X => ?_)
        refine g_iload X d8_107 rfl (q := 109) rfl ?_
        refine g_iastore X A_uu (own_ki rfl hnC (own_Cb A_uu)) g_uu d8_109 (q := 110) rfl (fun T h X W => ?_)
        have O_a1 := O_a1.other W ne_a1_uu
        have A_uk := A_uk.other W ne_uk_uu
        have A_um := A_um.other W ne_um_uu
        have A_uu : AI Z h uu .int C (own_up (fun j => Int32.ofNat (P0 j)) (Int32.ofNat n).toNatClampNeg sl) := A_uu.set W
        have K := K.wr W (Or.inl (List.mem_of_getElem? (i := 3) rfl))
        have A_uu : AI Z h uu .int C (fun j => Int32.ofNat (own_up P0 n ((hh + t) % sz) j)) := A_uu.to (own_stP hsl (own_Cb A_uu) hnC)
        refine g_aloadN X d8_110 rfl (q := 111) rfl rfl ?_
        refine g_dup X d8_111 rfl (q := 112) rfl ?_
        refine g_getF X (tw51 hw) Via.refl O_a1.2.2.2.2.2.2 d8_112 (q := 115) rfl (fun T X => ?_)
        refine g_iconst X d8_115 rfl (q := 116) (v := 1) rfl ?_
        refine g_iadd X d8_116 rfl (q := 117) ?_
        refine g_putF X (tw51 hw) Via.refl O_a1.2.2.2.2.2.2 O_a1.1 (Or.inl (tw52 hw)) (tw2 hw) (ty := .int) (by decide) rfl rfl g_a1 d8_117 (q := 120) rfl (fun T h X W => ?_)
        have A_uk := A_uk.other W ne_uk_a1
        have A_um := A_um.other W ne_um_a1
        have A_uu := A_uu.other W ne_uu_a1
        have O_a1 := O_PairNumbers.set5 hw W O_a1
        have K := K.wr W (Or.inl (List.mem_of_getElem? (i := 0) rfl))
        refine g_aloadN X d8_120 rfl (q := 121) rfl rfl ?_
        refine g_getF X (tw28 hw) Via.refl O_a1.2.2.1 d8_121 (q := 124) rfl (fun T X => ?_)
        refine g_iload X d8_124 rfl (q := 126) rfl ?_
        refine g_iaload X A_um (own_ki hsl (Nat.mod_lt _ (by omega)) (by omega)) d8_126 (q := 127) rfl ?_
        refine g_eqI (y := (Int32.ofNat n)) (by rw [(own_kc hsl (own_mlt hsz))]; exact if_pos rfl) ?_
        have hnf := own_nf hPN hhh (Nat.mod_lt _ (by omega)) hq c3 hkm
        have O_a1 := O_a1
        have e1 : Int32.ofNat n + 1 = Int32.ofNat (n + 1) := own_k1 rfl (by omega)
        rw [show (Int32.ofNat n + (1 : Int32)) = Int32.ofNat (n + 1) from e1] at O_a1
        exact g_retI X d8_127 (by decide) (by decide) ⟨Int32.ofNat n, own_up K0 ((hh + t) % sz) ky, own_up M0 ((hh + t) % sz) (Int32.ofNat n), own_up P0 n ((hh + t) % sz), own_up ks n ky, n + 1, rfl, K, O_a1, A_uk, A_um, A_uu, own_addPN hPN hhh (Nat.mod_lt _ (by omega)) hq c3 hkm, Or.inr ⟨fun i hi => fun z => hnf i hi (z.trans hky.symm), rfl, by rw [hky], rfl⟩, by omega⟩
      · skip
        exact absurd c3 c4
    · skip
      refine g_iload X d8_52 rfl (q := 54) rfl ?_
      refine g_iconst X d8_54 rfl (q := 55) (v := 1) rfl ?_
      refine g_iadd X d8_55 rfl (q := 56) ?_
      refine g_aloadN X d8_56 rfl (q := 57) rfl rfl ?_
      refine g_getF X (tw37 hw) Via.refl O_a1.2.2.2.2.2.1 d8_57 (q := 60) rfl (fun T X => ?_)
      refine g_iand X d8_60 rfl (q := 61) ?_
      refine g_istore X d8_61 rfl (q := 63) (L' := #[.val (.ref a1), .val (.int p2), .val (.int p3), .val (.long ky), .second, .val (.int ((sl + (1 : Int32)) &&& umk))]) rfl ?_
      refine g_goto X d8_63 (by decide) (q := 26) rfl ?_
      have htt : t < te := own_tt ht hte c3
      exact ih ((sl + (1 : Int32)) &&& umk) (t + 1) T _ X ⟨O_a1, A_uk, A_um, A_uu, K, (own_nxs hz hsl), (by omega), (own_hq hq c1 c3)⟩ (by show te - (t + 1) < te - t; omega)
theorem pn10 : plainName "com/example/masked_merge/maskedmerge/core/PairNumbers" = true := by first | (simp [plainName, overriddenIn]; done) | decide +kernel
theorem ef10 (m : MethodId) (x0 : Addr) : entryFrame m #[(.ref x0)] 1 = mkF m 0 #[.val (.ref x0)] [] := by first | (simp [entryFrame, mkF, argsToLocals, Value.category]; done) | rfl
set_option maxRecDepth 65536 in
set_option maxHeartbeats 40000000 in
theorem rm10 (l : Launch) (Z : State) (a0 : Array Value) (hw : ∀ d ∈ tables_1, d.before a0 Z = true) (ws : List Jvm.Cond) (a1 : Addr) (uk : Addr) (um : Addr) (uu : Addr) (ush : Int32) (umk : Int32) (us : Int32) (h0 : Heap) (n0 : Nat) (Z0 : n0 ≤ h0.size) (O_a1 : O_PairNumbers Z h0 a1 (.ref uk) (.ref um) (.ref uu) (.int ush) (.int umk) (.int us)) :
    Met l Z (⟨"com/example/masked_merge/maskedmerge/core/PairNumbers", "size", "()I"⟩ : MethodName) prog_15_method_3_code 1 (some .int) ({ frames := 0, cells := 0, slots := 0, locals := 0 } : Room) ws n0 #[(.ref a1)] h0 (fun v h' => v = some (.int us) ∧ h0 = h') := by
  refine Met.intro (plainFor_of_name pn10) Z0 ?_
  intro p e s m below meth c T X
  refine g_cast (ef10 m a1) ?_
  refine g_aloadN X d10_0 rfl (q := 1) rfl rfl ?_
  refine g_getF X (tw51 hw) Via.refl O_a1.2.2.2.2.2.2 d10_1 (q := 4) rfl (fun T X => ?_)
  exact g_retI X d10_4 (by decide) (by decide) ⟨rfl, rfl⟩
theorem pn9 : plainName "com/example/masked_merge/maskedmerge/core/PairNumbers" = true := by first | (simp [plainName, overriddenIn]; done) | decide +kernel
theorem ef9 (m : MethodId) (x0 : Addr) : entryFrame m #[(.ref x0)] 2 = mkF m 0 #[.val (.ref x0), .unset] [] := by first | (simp [entryFrame, mkF, argsToLocals, Value.category]; done) | rfl
set_option maxRecDepth 65536 in
set_option maxHeartbeats 40000000 in
theorem rm9 (l : Launch) (Z : State) (a0 : Array Value) (hw : ∀ d ∈ tables_1, d.before a0 Z = true) (ws : List Jvm.Cond) (a1 : Addr) (uk : Addr) (um : Addr) (uu : Addr) (ush : Int32) (umk : Int32) (sz : Nat) (C : Nat) (K0 : Nat → Int64) (P0 : Nat → Nat) (n : Nat) (M0 : Nat → Int32) (ks : Nat → Int64) (h0 : Heap) (n0 : Nat) (Z0 : n0 ≤ h0.size) (O_a1 : O_PairNumbers Z h0 a1 (.ref uk) (.ref um) (.ref uu) (.int ush) (.int umk) (.int (Int32.ofNat n))) (A_uk : AJ Z h0 uk sz K0) (A_uu : AI Z h0 uu .int C (fun j => Int32.ofNat (P0 j))) (g_a1 : n0 ≤ a1) (g_uk : n0 ≤ uk) (ne_a1_uk : Apart a1 uk) (ne_a1_uu : Apart a1 uu) (ne_uk_a1 : Apart uk a1) (ne_uk_uu : Apart uk uu) (ne_uu_a1 : Apart uu a1) (ne_uu_uk : Apart uu uk) (hz : SZ sz ush umk) (hPN : PN sz ush K0 M0 P0 ks n) (hn4 : n ≤ 4) (hnC : n ≤ C) :
    Met l Z (⟨"com/example/masked_merge/maskedmerge/core/PairNumbers", "clear", "()V"⟩ : MethodName) prog_15_method_4_code 2 none ({ frames := 0, cells := 0, slots := 0, locals := 0 } : Room) ws n0 #[(.ref a1)] h0 (fun v h' => ∃ K1 : Nat → Int64, v = none ∧ Keep h0 h' [a1, uk] ∧ O_PairNumbers Z h' a1 (.ref uk) (.ref um) (.ref uu) (.int ush) (.int umk) (.int (Int32.ofNat 0)) ∧ AJ Z h' uk sz K1 ∧ ∀ j, j < sz → K1 j = (-1 : Int64)) := by
  refine Met.intro (plainFor_of_name pn9) Z0 ?_
  intro p e s m below meth c T X
  refine g_cast (ef9 m a1) ?_
  have K : Keep h0 h0 [a1, uk] := Keep.refl h0 _
  refine g_iconst X d9_0 rfl (q := 1) (v := 0) rfl ?_
  refine g_istoreN X d9_1 rfl (q := 2) (L' := #[.val (.ref a1), .val (.int (0 : Int32))]) rfl ?_
  refine g_loop2 X (H := 2) (fun (i : Int32) (k : Nat) => n - k) (fun i k h => O_PairNumbers Z h a1 (.ref uk) (.ref um) (.ref uu) (.int ush) (.int umk) (.int (Int32.ofNat n)) ∧ AJ Z h uk sz (clr K0 P0 k) ∧ AI Z h uu .int C (fun j => Int32.ofNat (P0 j)) ∧ Keep h0 h [a1, uk] ∧ i = Int32.ofNat k ∧ k ≤ n) (fun i k => #[.val (.ref a1), .val (.int i)]) (fun i k => []) 0 0 ⟨O_a1, A_uk, A_uu, K, rfl, (Nat.zero_le _)⟩ (fun i k T h X hI ih => ?_)
  have hI2 : O_PairNumbers Z h a1 (.ref uk) (.ref um) (.ref uu) (.int ush) (.int umk) (.int (Int32.ofNat n)) ∧ AJ Z h uk sz (clr K0 P0 k) ∧ AI Z h uu .int C (fun j => Int32.ofNat (P0 j)) ∧ Keep h0 h [a1, uk] ∧ i = Int32.ofNat k ∧ k ≤ n := hI
  obtain ⟨O_a1, A_uk, A_uu, K, hi, hk⟩ := hI2
  show Goes p e below s _ n0 _ (T.setTop (mkF m 2 #[.val (.ref a1), .val (.int i)] []))
  refine g_iloadN X d9_2 rfl (q := 3) rfl ?_
  refine g_aloadN X d9_3 rfl (q := 4) rfl rfl ?_
  refine g_getF X (tw51 hw) Via.refl O_a1.2.2.2.2.2.2 d9_4 (q := 7) rfl (fun T X => ?_)
  refine g_icmpB X d9_7 (Or.inl rfl) (q := 10) rfl (by decide) (t := 30) rfl (fun (c1 : i < (Int32.ofNat n)) => ?_) (fun (c1 : ¬ (i < (Int32.ofNat n))) => ?_)
  · skip
    have hkn : k < n := (own_ltN hi hk (by omega)).mp c1
    have hsz := own_szb hz
    have hPk := (hPN.1 k hkn).1
    refine g_aloadN X d9_10 rfl (q := 11) rfl rfl ?_
    refine g_getF X (tw25 hw) Via.refl O_a1.2.1 d9_11 (q := 14) rfl (fun T X => ?_)
    refine g_aloadN X d9_14 rfl (q := 15) rfl rfl ?_
    refine g_getF X (tw30 hw) Via.refl O_a1.2.2.2.1 d9_15 (q := 18) rfl (fun T X => ?_)
    refine g_iloadN X d9_18 rfl (q := 19) rfl ?_
    refine g_iaload X A_uu (own_ki hi (show k < C by omega) (own_Cb A_uu)) d9_19 (q := 20) rfl ?_
    refine g_eqI (y := (Int32.ofNat (P0 k))) (congrArg (fun z => Int32.ofNat (P0 z)) (own_kc hi (by omega))) ?_
    refine g_ldc2 X (tw39 hw) d9_20 (q := 23) rfl ?_
    refine g_lastore X A_uk (own_ki rfl hPk (by omega)) g_uk d9_23 (q := 24) rfl (fun T h X W => ?_)
    have O_a1 := O_a1.other W ne_a1_uk
    have A_uu := A_uu.other W ne_uu_uk
    have A_uk : AJ Z h uk sz (own_up (clr K0 P0 k) (Int32.ofNat (P0 k)).toNatClampNeg (-1 : Int64)) := A_uk.set W
    have K := K.wr W (Or.inl (List.mem_of_getElem? (i := 1) rfl))
    have A_uk : AJ Z h uk sz (clr K0 P0 (k + 1)) := A_uk.to (fun j _ => by rw [own_cl (by omega)]; rfl)
    refine g_iinc X d9_24 (q := 27) rfl rfl (d := 1) rfl (L' := #[.val (.ref a1), .val (.int (i + (1 : Int32)))]) rfl ?_
    refine g_goto X d9_27 (by decide) (q := 2) rfl ?_
    exact ih (i + 1) (k + 1) T _ X ⟨O_a1, A_uk, A_uu, K, (own_k1 hi (by omega)), (by omega)⟩ (by show n - (k + 1) < n - k; omega)
  · skip
    refine g_aloadN X d9_30 rfl (q := 31) rfl rfl ?_
    refine g_iconst X d9_31 rfl (q := 32) (v := 0) rfl ?_
    refine g_putF X (tw51 hw) Via.refl O_a1.2.2.2.2.2.2 O_a1.1 (Or.inl (tw52 hw)) (tw2 hw) (ty := .int) (by decide) rfl rfl g_a1 d9_32 (q := 35) rfl (fun T h X W => ?_)
    have A_uk := A_uk.other W ne_uk_a1
    have A_uu := A_uu.other W ne_uu_a1
    have O_a1 := O_PairNumbers.set5 hw W O_a1
    have K := K.wr W (Or.inl (List.mem_of_getElem? (i := 0) rfl))
    exact g_ret0 X d9_35 (by decide) (by decide) ⟨clr K0 P0 k, rfl, K, O_a1, A_uk, own_clrE hPN (own_eqN hi hk (by omega) c1)⟩
theorem pn0 : plainName "com/example/masked_merge/maskedmerge/core/PairNumbersClearPinLaw" = true := by first | (simp [plainName, overriddenIn]; done) | decide +kernel
theorem ef0 (m : MethodId) (x0 : Int32) (x1 : Int32) (x2 : Int32) (x3 : Int32) (x4 : Int32) (x5 : Int32) : entryFrame m #[(.int x0), (.int x1), (.int x2), (.int x3), (.int x4), (.int x5)] maxLocals = mkF m 0 #[.val (.int x0), .val (.int x1), .val (.int x2), .val (.int x3), .val (.int x4), .val (.int x5), .unset, .unset, .unset, .unset, .unset, .unset, .unset, .unset, .unset, .unset, .unset, .unset] [] := by first | (simp [entryFrame, mkF, argsToLocals, Value.category, maxLocals]; done) | rfl
set_option maxRecDepth 65536 in
set_option maxHeartbeats 40000000 in
theorem rm0 (l : Launch) (Z : State) (a0 : Array Value) (hw : ∀ d ∈ tables_1, d.before a0 Z = true) (ws : List Jvm.Cond) (p1 : Int32) (p2 : Int32) (p3 : Int32) (p4 : Int32) (p5 : Int32) (p6 : Int32) (h0 : Heap) (n0 : Nat) (Z0 : n0 ≤ h0.size) :
    Met l Z x code maxLocals ret room_1 ws n0 #[(.int p1), (.int p2), (.int p3), (.int p4), (.int p5), (.int p6)] h0 (fun v h' => v = some (.int 1)) := by
  refine Met.intro (plainFor_of_name pn0) Z0 ?_
  intro p e s m below meth c T X
  refine g_cast (ef0 m p1 p2 p3 p4 p5 p6) ?_
  refine g_iloadN X at_0 rfl (q := 1) rfl ?_
  refine g_ldc X (tw0 hw) at_1 (q := 3) rfl ?_
  refine g_iand X at_3 rfl (q := 4) ?_
  refine g_letI (fun x4 hx4 => ?_)
  have b_x4 : (0 : Int) ≤ x4.toInt ∧ x4.toInt ≤ 2147483647 := by
    have z0 := hx4
    have f1 := rng32 p1
    obtain ⟨n1_, hn1_⟩ : ∃ z, z = (p1 &&& (2147483647 : Int32)) := ⟨_, rfl⟩
    (try simp only [← hn1_] at z0)
    have f2 := own_mB p1 (2147483647 : Int32) 31 (by decide) (by decide) 2147483647 (by decide)
    (try rw [← hn1_] at f2)
    have e0 := congrArg Int32.toInt z0
    (try simp only [Int64.lt_iff_toInt_lt, Int32.lt_iff_toInt_lt, Int64.le_iff_toInt_le, Int32.le_iff_toInt_le, ← Int64.toInt_inj, ← Int32.toInt_inj, apply_ite Int64.toInt, apply_ite Int32.toInt, Int64.reduceToInt, Int32.reduceToInt, ne_eq, true_and, and_true, false_or, or_false, iff_self, and_self, not_true_eq_false, not_false_eq_true] at e0)
    omega
  refine g_istore X at_4 rfl (q := 6) (L' := #[.val (.int p1), .val (.int p2), .val (.int p3), .val (.int p4), .val (.int p5), .val (.int p6), .val (.int x4), .unset, .unset, .unset, .unset, .unset, .unset, .unset, .unset, .unset, .unset, .unset]) rfl ?_
  refine g_iloadN X at_6 rfl (q := 7) rfl ?_
  refine g_ldc X (tw0 hw) at_7 (q := 9) rfl ?_
  refine g_iand X at_9 rfl (q := 10) ?_
  refine g_letI (fun x10 hx10 => ?_)
  have b_x10 : (0 : Int) ≤ x10.toInt ∧ x10.toInt ≤ 2147483647 := by
    have z0 := hx10
    have f1 := rng32 p3
    obtain ⟨n1_, hn1_⟩ : ∃ z, z = (p3 &&& (2147483647 : Int32)) := ⟨_, rfl⟩
    (try simp only [← hn1_] at z0)
    have f2 := own_mB p3 (2147483647 : Int32) 31 (by decide) (by decide) 2147483647 (by decide)
    (try rw [← hn1_] at f2)
    have e0 := congrArg Int32.toInt z0
    (try simp only [Int64.lt_iff_toInt_lt, Int32.lt_iff_toInt_lt, Int64.le_iff_toInt_le, Int32.le_iff_toInt_le, ← Int64.toInt_inj, ← Int32.toInt_inj, apply_ite Int64.toInt, apply_ite Int32.toInt, Int64.reduceToInt, Int32.reduceToInt, ne_eq, true_and, and_true, false_or, or_false, iff_self, and_self, not_true_eq_false, not_false_eq_true] at e0)
    omega
  refine g_istore X at_10 rfl (q := 12) (L' := #[.val (.int p1), .val (.int p2), .val (.int p3), .val (.int p4), .val (.int p5), .val (.int p6), .val (.int x4), .val (.int x10), .unset, .unset, .unset, .unset, .unset, .unset, .unset, .unset, .unset, .unset]) rfl ?_
  refine g_iloadN X at_12 rfl (q := 13) rfl ?_
  refine g_iloadN X at_13 rfl (q := 14) rfl ?_
  refine g_ixor X at_14 rfl (q := 15) ?_
  refine g_ldc X (tw0 hw) at_15 (q := 17) rfl ?_
  refine g_iand X at_17 rfl (q := 18) ?_
  refine g_letI (fun x18 hx18 => ?_)
  have b_x18 : (0 : Int) ≤ x18.toInt ∧ x18.toInt ≤ 2147483647 := by
    have z0 := hx18
    have f1 := rng32 p1
    have f2 := rng32 p3
    obtain ⟨n1_, hn1_⟩ : ∃ z, z = (p1 ^^^ p3) := ⟨_, rfl⟩
    (try simp only [← hn1_] at z0)
    have f3 := rng32 n1_
    obtain ⟨n2_, hn2_⟩ : ∃ z, z = (n1_ &&& (2147483647 : Int32)) := ⟨_, rfl⟩
    (try simp only [← hn2_] at z0)
    have f4 := own_mB n1_ (2147483647 : Int32) 31 (by decide) (by decide) 2147483647 (by decide)
    (try rw [← hn2_] at f4)
    have e0 := congrArg Int32.toInt z0
    (try simp only [Int64.lt_iff_toInt_lt, Int32.lt_iff_toInt_lt, Int64.le_iff_toInt_le, Int32.le_iff_toInt_le, ← Int64.toInt_inj, ← Int32.toInt_inj, apply_ite Int64.toInt, apply_ite Int32.toInt, Int64.reduceToInt, Int32.reduceToInt, ne_eq, true_and, and_true, false_or, or_false, iff_self, and_self, not_true_eq_false, not_false_eq_true] at e0)
    omega
  refine g_istore X at_18 rfl (q := 20) (L' := #[.val (.int p1), .val (.int p2), .val (.int p3), .val (.int p4), .val (.int p5), .val (.int p6), .val (.int x4), .val (.int x10), .val (.int x18), .unset, .unset, .unset, .unset, .unset, .unset, .unset, .unset, .unset]) rfl ?_
  refine g_iload X at_20 rfl (q := 22) rfl ?_
  refine g_iconst X at_22 rfl (q := 23) (v := 3) rfl ?_
  refine g_iand X at_23 rfl (q := 24) ?_
  refine g_letI (fun x24 hx24 => ?_)
  have b_x24 : (0 : Int) ≤ x24.toInt ∧ x24.toInt ≤ 3 := by
    have z0 := hx24
    have f1 := rng32 p6
    obtain ⟨n1_, hn1_⟩ : ∃ z, z = (p6 &&& (3 : Int32)) := ⟨_, rfl⟩
    (try simp only [← hn1_] at z0)
    have f2 := own_mB p6 (3 : Int32) 2 (by decide) (by decide) 3 (by decide)
    (try rw [← hn1_] at f2)
    have e0 := congrArg Int32.toInt z0
    (try simp only [Int64.lt_iff_toInt_lt, Int32.lt_iff_toInt_lt, Int64.le_iff_toInt_le, Int32.le_iff_toInt_le, ← Int64.toInt_inj, ← Int32.toInt_inj, apply_ite Int64.toInt, apply_ite Int32.toInt, Int64.reduceToInt, Int32.reduceToInt, ne_eq, true_and, and_true, false_or, or_false, iff_self, and_self, not_true_eq_false, not_false_eq_true] at e0)
    omega
  refine g_istore X at_24 rfl (q := 26) (L' := #[.val (.int p1), .val (.int p2), .val (.int p3), .val (.int p4), .val (.int p5), .val (.int p6), .val (.int x4), .val (.int x10), .val (.int x18), .val (.int x24), .unset, .unset, .unset, .unset, .unset, .unset, .unset, .unset]) rfl ?_
  refine g_iconst X at_26 rfl (q := 27) (v := 3) rfl ?_
  refine g_iload X at_27 rfl (q := 29) rfl ?_
  refine g_iconst X at_29 rfl (q := 30) (v := 2) rfl ?_
  refine g_iushr X at_30 rfl (q := 31) ?_
  refine g_iconst X at_31 rfl (q := 32) (v := 3) rfl ?_
  refine g_iand X at_32 rfl (q := 33) ?_
  refine g_iadd X at_33 rfl (q := 34) ?_
  refine g_letI (fun x34 hx34 => ?_)
  have b_x34 : (3 : Int) ≤ x34.toInt ∧ x34.toInt ≤ 6 := by
    have z0 := hx34
    have f1 := rng32 p6
    obtain ⟨n1_, hn1_⟩ : ∃ z, z = ((p6.toUInt32 >>> ((2 : Int32) &&& 31).toUInt32).toInt32) := ⟨_, rfl⟩
    (try simp only [← hn1_] at z0)
    have f2 := own_ushB p6 (2 : Int32) 2 (by decide) (by decide) 1073741824 (by decide)
    (try rw [← hn1_] at f2)
    obtain ⟨n2_, hn2_⟩ : ∃ z, z = (n1_ &&& (3 : Int32)) := ⟨_, rfl⟩
    (try simp only [← hn2_] at z0)
    have f3 := own_mB n1_ (3 : Int32) 2 (by decide) (by decide) 3 (by decide)
    (try rw [← hn2_] at f3)
    obtain ⟨n3_, hn3_⟩ : ∃ z, z = ((3 : Int32) + n2_) := ⟨_, rfl⟩
    (try simp only [← hn3_] at z0)
    have f4 := own_iaddE (3 : Int32) n2_ (by (try simp only [Int64.reduceToInt, Int32.reduceToInt]); omega)
    (try rw [← hn3_] at f4)
    (try simp only [Int64.reduceToInt, Int32.reduceToInt] at f4)
    have e0 := congrArg Int32.toInt z0
    (try simp only [Int64.lt_iff_toInt_lt, Int32.lt_iff_toInt_lt, Int64.le_iff_toInt_le, Int32.le_iff_toInt_le, ← Int64.toInt_inj, ← Int32.toInt_inj, apply_ite Int64.toInt, apply_ite Int32.toInt, Int64.reduceToInt, Int32.reduceToInt, ne_eq, true_and, and_true, false_or, or_false, iff_self, and_self, not_true_eq_false, not_false_eq_true] at e0)
    omega
  refine g_istore X at_34 rfl (q := 36) (L' := #[.val (.int p1), .val (.int p2), .val (.int p3), .val (.int p4), .val (.int p5), .val (.int p6), .val (.int x4), .val (.int x10), .val (.int x18), .val (.int x24), .val (.int x34), .unset, .unset, .unset, .unset, .unset, .unset, .unset]) rfl ?_
  refine g_new X (tw1 hw) (tw2 hw) (tw3 hw) at_36 (q := 39) rfl (c2 := 1) (s2 := 6) rfl rfl (by decide) (by decide) (fun T h' b13 X gz_b13 g_b13 E Ex D => ?_)
  have O_b13 : O_PairNumbers Z h' b13 .null .null .null (.int (0 : Int32)) (.int (0 : Int32)) (.int (0 : Int32)) := ⟨Ex, D (Or.inr (tw26 hw)) (ty := (.array .long)) (by decide), D (Or.inr (tw29 hw)) (ty := (.array .int)) (by decide), D (Or.inr (tw31 hw)) (ty := (.array .int)) (by decide), D (Or.inr (tw36 hw)) (ty := .int) (by decide), D (Or.inr (tw38 hw)) (ty := .int) (by decide), D (Or.inl (tw52 hw)) (ty := .int) (by decide)⟩
  refine g_dup X at_39 rfl (q := 40) rfl ?_
  refine g_iload X at_40 rfl (q := 42) rfl ?_
  refine g_callI X [(.int x34)] [(.ref b13)] rfl (tw4 hw) (tw5 hw) (tw3 hw) (tw6 hw) (by decide) (rm1 l Z a0 hw [] b13 x34 _ n0 X.size O_b13 g_b13 (own_cap hx34)) pd3 rfl rfl rfl at_42 (q := 45) rfl (W := 1) rfl (by decide) (by decide) (c2 := 4) (s2 := 44) rfl rfl (by decide) (by decide) (fun v T h' X hQ => ?_)
  obtain ⟨k1_42, m1_42, u1_42, sz_42, sh_42, mk_42, C_42, rfl, Kc, O_b13', A_k1_42', A_m1_42', A_u1_42', hz_42, hC_42, sq_k1_42, g_k1_42, sq_m1_42, g_m1_42, sq_u1_42, g_u1_42, ne_k1_42_m1_42, ne_k1_42_u1_42, ne_m1_42_k1_42, ne_m1_42_u1_42, ne_u1_42_k1_42, ne_u1_42_m1_42⟩ := hQ
  have ne_b13_k1_42 := own_far O_b13.1.lt sq_k1_42
  have ne_k1_42_b13 := own_apS ne_b13_k1_42
  have ne_b13_m1_42 := own_far O_b13.1.lt sq_m1_42
  have ne_m1_42_b13 := own_apS ne_b13_m1_42
  have ne_b13_u1_42 := own_far O_b13.1.lt sq_u1_42
  have ne_u1_42_b13 := own_apS ne_b13_u1_42
  have O_b13 := O_b13'
  have A_k1_42 := A_k1_42'
  have A_m1_42 := A_m1_42'
  have A_u1_42 := A_u1_42'
  show Goes p e below s _ n0 _ (T.setTop (mkF m 45 #[.val (.int p1), .val (.int p2), .val (.int p3), .val (.int p4), .val (.int p5), .val (.int p6), .val (.int x4), .val (.int x10), .val (.int x18), .val (.int x24), .val (.int x34), .unset, .unset, .unset, .unset, .unset, .unset, .unset] [(.ref b13)]))
  refine g_astore X at_45 rfl (q := 47) (L' := #[.val (.int p1), .val (.int p2), .val (.int p3), .val (.int p4), .val (.int p5), .val (.int p6), .val (.int x4), .val (.int x10), .val (.int x18), .val (.int x24), .val (.int x34), .val (.ref b13), .unset, .unset, .unset, .unset, .unset, .unset]) rfl rfl ?_
  refine g_iload X at_47 rfl (q := 49) rfl ?_
  refine g_iconst X at_49 rfl (q := 50) (v := 1) rfl ?_
  refine g_icmpA X at_50 (Or.inl rfl) (q := 53) rfl (by decide) (t := 62) rfl (fun (c1 : x24 < (1 : Int32)) => ?_) (fun (c1 : ¬ (x24 < (1 : Int32))) => ?_)
  · skip
    have b_x24 : (0 : Int) ≤ x24.toInt ∧ x24.toInt ≤ 0 := by have z0 := c1; (try simp only [Int64.lt_iff_toInt_lt, Int32.lt_iff_toInt_lt, Int64.le_iff_toInt_le, Int32.le_iff_toInt_le, ← Int64.toInt_inj, ← Int32.toInt_inj, apply_ite Int64.toInt, apply_ite Int32.toInt, Int64.reduceToInt, Int32.reduceToInt, ne_eq] at z0); have z1 := rng32 x24; omega
    refine g_iload X at_62 rfl (q := 64) rfl ?_
    refine g_iconst X at_64 rfl (q := 65) (v := 2) rfl ?_
    refine g_icmpA X at_65 (Or.inl rfl) (q := 68) rfl (by decide) (t := 77) rfl (fun (c2 : x24 < (2 : Int32)) => ?_) (fun (c2 : ¬ (x24 < (2 : Int32))) => ?_)
    · skip
      refine g_iload X at_77 rfl (q := 79) rfl ?_
      refine g_iconst X at_79 rfl (q := 80) (v := 3) rfl ?_
      refine g_icmpA X at_80 (Or.inl rfl) (q := 83) rfl (by decide) (t := 93) rfl (fun (c3 : x24 < (3 : Int32)) => ?_) (fun (c3 : ¬ (x24 < (3 : Int32))) => ?_)
      · skip
        refine g_aload X at_93 rfl (q := 95) rfl rfl ?_
        refine g_callV X O_b13.1 [] [] (tw53 hw) (tw54 hw) (tw56 hw) (tw55 hw) (tw3 hw) (tw57 hw) (by decide) (rm9 l Z a0 hw [] b13 k1_42 m1_42 u1_42 sh_42 mk_42 sz_42 C_42 (fun _ => (-1 : Int64)) (fun _ => 0) 0 (fun _ => 0) (fun _ => 0) _ n0 X.size O_b13 A_k1_42 A_u1_42 g_b13 g_k1_42 ne_b13_k1_42 ne_b13_u1_42 ne_k1_42_b13 ne_k1_42_u1_42 ne_u1_42_b13 ne_u1_42_k1_42 hz_42 (own_pn0 _ _ _ _ _ _ (fun _ _ => rfl)) (by omega) (by omega)) pd4 rfl rfl rfl at_95 (q := 98) rfl (W := 0) rfl (by decide) (by decide) (c2 := 4) (s2 := 44) rfl rfl (by decide) (by decide) (fun v T h' X hQ => ?_)
        obtain ⟨K1_95, rfl, Kc, O_b13', A_k1_42', hE_95⟩ := hQ
        have A_m1_42 := A_m1_42.keep Kc (ninS ne_m1_42_b13 (ninS ne_m1_42_k1_42 nin0))
        have A_u1_42 := A_u1_42.keep Kc (ninS ne_u1_42_b13 (ninS ne_u1_42_k1_42 nin0))
        have O_b13 := O_b13'
        have A_k1_42 := A_k1_42'
        show Goes p e below s _ n0 _ (T.setTop (mkF m 98 #[.val (.int p1), .val (.int p2), .val (.int p3), .val (.int p4), .val (.int p5), .val (.int p6), .val (.int x4), .val (.int x10), .val (.int x18), .val (.int x24), .val (.int x34), .val (.ref b13), .unset, .unset, .unset, .unset, .unset, .unset] []))
        refine g_aload X at_98 rfl (q := 100) rfl rfl ?_
        refine g_callV X O_b13.1 [] [] (tw58 hw) (tw59 hw) (tw61 hw) (tw60 hw) (tw3 hw) (tw62 hw) (by decide) (rm10 l Z a0 hw [] b13 k1_42 m1_42 u1_42 sh_42 mk_42 (Int32.ofNat 0) _ n0 X.size O_b13) pd5 rfl rfl rfl at_100 (q := 103) rfl (W := 0) rfl (by decide) (by decide) (c2 := 4) (s2 := 44) rfl rfl (by decide) (by decide) (fun v T h' X hQ => ?_)
        obtain ⟨rfl, rfl⟩ := hQ
        show Goes p e below s _ n0 _ (T.setTop (mkF m 103 #[.val (.int p1), .val (.int p2), .val (.int p3), .val (.int p4), .val (.int p5), .val (.int p6), .val (.int x4), .val (.int x10), .val (.int x18), .val (.int x24), .val (.int x34), .val (.ref b13), .unset, .unset, .unset, .unset, .unset, .unset] [(.int (Int32.ofNat 0))]))
        refine g_jT1 X (J := 111) (P := fun (s0_111 : Int32) => s0_111 = (bI ((Int32.ofNat 0) = (0 : Int32)))) (L := fun s0_111 => #[.val (.int p1), .val (.int p2), .val (.int p3), .val (.int p4), .val (.int p5), .val (.int p6), .val (.int x4), .val (.int x10), .val (.int x18), .val (.int x24), .val (.int x34), .val (.ref b13), .unset, .unset, .unset, .unset, .unset, .unset]) (S := fun s0_111 => [(.int s0_111)]) ?_ ?_
        · intro T X s0_111 hs0_111
          replace hs0_111 : s0_111 = (bI ((Int32.ofNat 0) = (0 : Int32))) := hs0_111
          subst hs0_111
          show Goes p e below s _ n0 _ (T.setTop (mkF m 111 #[.val (.int p1), .val (.int p2), .val (.int p3), .val (.int p4), .val (.int p5), .val (.int p6), .val (.int x4), .val (.int x10), .val (.int x18), .val (.int x24), .val (.int x34), .val (.ref b13), .unset, .unset, .unset, .unset, .unset, .unset] [(.int (bI ((Int32.ofNat 0) = (0 : Int32))))]))
          refine g_istore X at_111 rfl (q := 113) (L' := #[.val (.int p1), .val (.int p2), .val (.int p3), .val (.int p4), .val (.int p5), .val (.int p6), .val (.int x4), .val (.int x10), .val (.int x18), .val (.int x24), .val (.int x34), .val (.ref b13), .val (.int (bI ((Int32.ofNat 0) = (0 : Int32)))), .unset, .unset, .unset, .unset, .unset]) rfl ?_
          refine g_aload X at_113 rfl (q := 115) rfl rfl ?_
          refine g_iload X at_115 rfl (q := 117) rfl ?_
          refine g_iload X at_117 rfl (q := 119) rfl ?_
          refine g_callV X O_b13.1 [(.int x18), (.int p5)] [] (tw44 hw) (tw45 hw) (tw47 hw) (tw46 hw) (tw3 hw) (tw48 hw) (by decide) (rm8 l Z a0 hw [] b13 x18 p5 k1_42 m1_42 u1_42 sh_42 mk_42 sz_42 C_42 K1_95 (fun _ => 0) (fun _ => 0) (fun _ => 0) 0 _ n0 X.size O_b13 A_k1_42 A_m1_42 A_u1_42 g_b13 g_k1_42 g_m1_42 g_u1_42 ne_b13_k1_42 ne_b13_m1_42 ne_b13_u1_42 ne_k1_42_b13 ne_k1_42_m1_42 ne_k1_42_u1_42 ne_m1_42_b13 ne_m1_42_k1_42 ne_m1_42_u1_42 ne_u1_42_b13 ne_u1_42_k1_42 ne_u1_42_m1_42 (by omega) hz_42 (own_pn0 _ _ _ _ _ _ hE_95) (by omega) (by omega)) pd0 rfl rfl rfl at_119 (q := 122) rfl (W := 0) rfl (by decide) (by decide) (c2 := 4) (s2 := 44) rfl rfl (by decide) (by decide) (fun v T h' X hQ => ?_)
          obtain ⟨r1_119, K1_119, M1_119, P1_119, ks1_119, n1_119, rfl, Kc, O_b13', A_k1_42', A_m1_42', A_u1_42', hPN1_119, hR_119, hn1_119⟩ := hQ
          have O_b13 := O_b13'
          have A_k1_42 := A_k1_42'
          have A_m1_42 := A_m1_42'
          have A_u1_42 := A_u1_42'
          show Goes p e below s _ n0 _ (T.setTop (mkF m 122 #[.val (.int p1), .val (.int p2), .val (.int p3), .val (.int p4), .val (.int p5), .val (.int p6), .val (.int x4), .val (.int x10), .val (.int x18), .val (.int x24), .val (.int x34), .val (.ref b13), .val (.int (bI ((Int32.ofNat 0) = (0 : Int32)))), .unset, .unset, .unset, .unset, .unset] [(.int r1_119)]))
          refine g_istore X at_122 rfl (q := 124) (L' := #[.val (.int p1), .val (.int p2), .val (.int p3), .val (.int p4), .val (.int p5), .val (.int p6), .val (.int x4), .val (.int x10), .val (.int x18), .val (.int x24), .val (.int x34), .val (.ref b13), .val (.int (bI ((Int32.ofNat 0) = (0 : Int32)))), .val (.int r1_119), .unset, .unset, .unset, .unset]) rfl ?_
          refine g_aload X at_124 rfl (q := 126) rfl rfl ?_
          refine g_iload X at_126 rfl (q := 128) rfl ?_
          refine g_iloadN X at_128 rfl (q := 129) rfl ?_
          refine g_callV X O_b13.1 [(.int x4), (.int p2)] [] (tw44 hw) (tw45 hw) (tw47 hw) (tw46 hw) (tw3 hw) (tw48 hw) (by decide) (rm8 l Z a0 hw [] b13 x4 p2 k1_42 m1_42 u1_42 sh_42 mk_42 sz_42 C_42 K1_119 M1_119 P1_119 ks1_119 n1_119 _ n0 X.size O_b13 A_k1_42 A_m1_42 A_u1_42 g_b13 g_k1_42 g_m1_42 g_u1_42 ne_b13_k1_42 ne_b13_m1_42 ne_b13_u1_42 ne_k1_42_b13 ne_k1_42_m1_42 ne_k1_42_u1_42 ne_m1_42_b13 ne_m1_42_k1_42 ne_m1_42_u1_42 ne_u1_42_b13 ne_u1_42_k1_42 ne_u1_42_m1_42 (by omega) hz_42 hPN1_119 (by omega) (by omega)) pd0 rfl rfl rfl at_129 (q := 132) rfl (W := 0) rfl (by decide) (by decide) (c2 := 4) (s2 := 44) rfl rfl (by decide) (by decide) (fun v T h' X hQ => ?_)
          obtain ⟨r1_129, K1_129, M1_129, P1_129, ks1_129, n1_129, rfl, Kc, O_b13', A_k1_42', A_m1_42', A_u1_42', hPN1_129, hR_129, hn1_129⟩ := hQ
          have O_b13 := O_b13'
          have A_k1_42 := A_k1_42'
          have A_m1_42 := A_m1_42'
          have A_u1_42 := A_u1_42'
          show Goes p e below s _ n0 _ (T.setTop (mkF m 132 #[.val (.int p1), .val (.int p2), .val (.int p3), .val (.int p4), .val (.int p5), .val (.int p6), .val (.int x4), .val (.int x10), .val (.int x18), .val (.int x24), .val (.int x34), .val (.ref b13), .val (.int (bI ((Int32.ofNat 0) = (0 : Int32)))), .val (.int r1_119), .unset, .unset, .unset, .unset] [(.int r1_129)]))
          refine g_istore X at_132 rfl (q := 134) (L' := #[.val (.int p1), .val (.int p2), .val (.int p3), .val (.int p4), .val (.int p5), .val (.int p6), .val (.int x4), .val (.int x10), .val (.int x18), .val (.int x24), .val (.int x34), .val (.ref b13), .val (.int (bI ((Int32.ofNat 0) = (0 : Int32)))), .val (.int r1_119), .val (.int r1_129), .unset, .unset, .unset]) rfl ?_
          refine g_iload X at_134 rfl (q := 136) rfl ?_
          refine g_iload X at_136 rfl (q := 138) rfl ?_
          refine g_jT1 X (J := 152) (P := fun (s0_152 : Int32) => s0_152 = (bI ((x4 = x18) ∧ (p2 = p5)))) (L := fun s0_152 => #[.val (.int p1), .val (.int p2), .val (.int p3), .val (.int p4), .val (.int p5), .val (.int p6), .val (.int x4), .val (.int x10), .val (.int x18), .val (.int x24), .val (.int x34), .val (.ref b13), .val (.int (bI ((Int32.ofNat 0) = (0 : Int32)))), .val (.int r1_119), .val (.int r1_129), .unset, .unset, .unset]) (S := fun s0_152 => [(.int s0_152)]) ?_ ?_
          · intro T X s0_152 hs0_152
            replace hs0_152 : s0_152 = (bI ((x4 = x18) ∧ (p2 = p5))) := hs0_152
            subst hs0_152
            show Goes p e below s _ n0 _ (T.setTop (mkF m 152 #[.val (.int p1), .val (.int p2), .val (.int p3), .val (.int p4), .val (.int p5), .val (.int p6), .val (.int x4), .val (.int x10), .val (.int x18), .val (.int x24), .val (.int x34), .val (.ref b13), .val (.int (bI ((Int32.ofNat 0) = (0 : Int32)))), .val (.int r1_119), .val (.int r1_129), .unset, .unset, .unset] [(.int (bI ((x4 = x18) ∧ (p2 = p5))))]))
            refine g_istore X at_152 rfl (q := 154) (L' := #[.val (.int p1), .val (.int p2), .val (.int p3), .val (.int p4), .val (.int p5), .val (.int p6), .val (.int x4), .val (.int x10), .val (.int x18), .val (.int x24), .val (.int x34), .val (.ref b13), .val (.int (bI ((Int32.ofNat 0) = (0 : Int32)))), .val (.int r1_119), .val (.int r1_129), .val (.int (bI ((x4 = x18) ∧ (p2 = p5)))), .unset, .unset]) rfl ?_
            refine g_iload X at_154 rfl (q := 156) rfl ?_
            refine g_jT1 X (J := 164) (P := fun (s0_164 : Int32) => s0_164 = (bI (¬ ((x4 = x18) ∧ (p2 = p5))))) (L := fun s0_164 => #[.val (.int p1), .val (.int p2), .val (.int p3), .val (.int p4), .val (.int p5), .val (.int p6), .val (.int x4), .val (.int x10), .val (.int x18), .val (.int x24), .val (.int x34), .val (.ref b13), .val (.int (bI ((Int32.ofNat 0) = (0 : Int32)))), .val (.int r1_119), .val (.int r1_129), .val (.int (bI ((x4 = x18) ∧ (p2 = p5)))), .unset, .unset]) (S := fun s0_164 => [(.int s0_164)]) ?_ ?_
            · intro T X s0_164 hs0_164
              replace hs0_164 : s0_164 = (bI (¬ ((x4 = x18) ∧ (p2 = p5)))) := hs0_164
              subst hs0_164
              show Goes p e below s _ n0 _ (T.setTop (mkF m 164 #[.val (.int p1), .val (.int p2), .val (.int p3), .val (.int p4), .val (.int p5), .val (.int p6), .val (.int x4), .val (.int x10), .val (.int x18), .val (.int x24), .val (.int x34), .val (.ref b13), .val (.int (bI ((Int32.ofNat 0) = (0 : Int32)))), .val (.int r1_119), .val (.int r1_129), .val (.int (bI ((x4 = x18) ∧ (p2 = p5)))), .unset, .unset] [(.int (bI (¬ ((x4 = x18) ∧ (p2 = p5)))))]))
              refine g_istore X at_164 rfl (q := 166) (L' := #[.val (.int p1), .val (.int p2), .val (.int p3), .val (.int p4), .val (.int p5), .val (.int p6), .val (.int x4), .val (.int x10), .val (.int x18), .val (.int x24), .val (.int x34), .val (.ref b13), .val (.int (bI ((Int32.ofNat 0) = (0 : Int32)))), .val (.int r1_119), .val (.int r1_129), .val (.int (bI ((x4 = x18) ∧ (p2 = p5)))), .val (.int (bI (¬ ((x4 = x18) ∧ (p2 = p5))))), .unset]) rfl ?_
              refine g_iload X at_166 rfl (q := 168) rfl ?_
              refine g_jT1 X (J := 176) (P := fun (s0_176 : Int32) => s0_176 = (if (x4 = x18) ∧ (p2 = p5) then (1 : Int32) else (2 : Int32))) (L := fun s0_176 => #[.val (.int p1), .val (.int p2), .val (.int p3), .val (.int p4), .val (.int p5), .val (.int p6), .val (.int x4), .val (.int x10), .val (.int x18), .val (.int x24), .val (.int x34), .val (.ref b13), .val (.int (bI ((Int32.ofNat 0) = (0 : Int32)))), .val (.int r1_119), .val (.int r1_129), .val (.int (bI ((x4 = x18) ∧ (p2 = p5)))), .val (.int (bI (¬ ((x4 = x18) ∧ (p2 = p5))))), .unset]) (S := fun s0_176 => [(.int s0_176)]) ?_ ?_
              · intro T X s0_176 hs0_176
                replace hs0_176 : s0_176 = (if (x4 = x18) ∧ (p2 = p5) then (1 : Int32) else (2 : Int32)) := hs0_176
                show Goes p e below s _ n0 _ (T.setTop (mkF m 176 #[.val (.int p1), .val (.int p2), .val (.int p3), .val (.int p4), .val (.int p5), .val (.int p6), .val (.int x4), .val (.int x10), .val (.int x18), .val (.int x24), .val (.int x34), .val (.ref b13), .val (.int (bI ((Int32.ofNat 0) = (0 : Int32)))), .val (.int r1_119), .val (.int r1_129), .val (.int (bI ((x4 = x18) ∧ (p2 = p5)))), .val (.int (bI (¬ ((x4 = x18) ∧ (p2 = p5))))), .unset] [(.int s0_176)]))
                have b_s0_176 : (1 : Int) ≤ s0_176.toInt ∧ s0_176.toInt ≤ 2 := by
                  have z0 := hs0_176
                  have f1 := rng32 p2
                  have f2 := rng32 p5
                  have e0 := congrArg Int32.toInt z0
                  (try simp only [Int64.lt_iff_toInt_lt, Int32.lt_iff_toInt_lt, Int64.le_iff_toInt_le, Int32.le_iff_toInt_le, ← Int64.toInt_inj, ← Int32.toInt_inj, apply_ite Int64.toInt, apply_ite Int32.toInt, Int64.reduceToInt, Int32.reduceToInt, ne_eq, true_and, and_true, false_or, or_false, iff_self, and_self, not_true_eq_false, not_false_eq_true] at e0)
                  omega
                refine g_istore X at_176 rfl (q := 178) (L' := #[.val (.int p1), .val (.int p2), .val (.int p3), .val (.int p4), .val (.int p5), .val (.int p6), .val (.int x4), .val (.int x10), .val (.int x18), .val (.int x24), .val (.int x34), .val (.ref b13), .val (.int (bI ((Int32.ofNat 0) = (0 : Int32)))), .val (.int r1_119), .val (.int r1_129), .val (.int (bI ((x4 = x18) ∧ (p2 = p5)))), .val (.int (bI (¬ ((x4 = x18) ∧ (p2 = p5))))), .val (.int s0_176)]) rfl ?_
                refine g_iload X at_178 rfl (q := 180) rfl ?_
                refine g_jT1 X (J := 210) (P := fun (s0_210 : Int32) => s0_210 = (bI (((Int32.ofNat 0) = (0 : Int32)) ∧ ((r1_119 = (0 : Int32)) ∧ ((r1_129 = (bI (¬ ((x4 = x18) ∧ (p2 = p5))))) ∧ ((Int32.ofNat n1_129) = s0_176)))))) (L := fun s0_210 => #[.val (.int p1), .val (.int p2), .val (.int p3), .val (.int p4), .val (.int p5), .val (.int p6), .val (.int x4), .val (.int x10), .val (.int x18), .val (.int x24), .val (.int x34), .val (.ref b13), .val (.int (bI ((Int32.ofNat 0) = (0 : Int32)))), .val (.int r1_119), .val (.int r1_129), .val (.int (bI ((x4 = x18) ∧ (p2 = p5)))), .val (.int (bI (¬ ((x4 = x18) ∧ (p2 = p5))))), .val (.int s0_176)]) (S := fun s0_210 => [(.int s0_210)]) ?_ ?_
                · intro T X s0_210 hs0_210
                  replace hs0_210 : s0_210 = (bI (((Int32.ofNat 0) = (0 : Int32)) ∧ ((r1_119 = (0 : Int32)) ∧ ((r1_129 = (bI (¬ ((x4 = x18) ∧ (p2 = p5))))) ∧ ((Int32.ofNat n1_129) = s0_176))))) := hs0_210
                  subst hs0_210
                  show Goes p e below s _ n0 _ (T.setTop (mkF m 210 #[.val (.int p1), .val (.int p2), .val (.int p3), .val (.int p4), .val (.int p5), .val (.int p6), .val (.int x4), .val (.int x10), .val (.int x18), .val (.int x24), .val (.int x34), .val (.ref b13), .val (.int (bI ((Int32.ofNat 0) = (0 : Int32)))), .val (.int r1_119), .val (.int r1_129), .val (.int (bI ((x4 = x18) ∧ (p2 = p5)))), .val (.int (bI (¬ ((x4 = x18) ∧ (p2 = p5))))), .val (.int s0_176)] [(.int (bI (((Int32.ofNat 0) = (0 : Int32)) ∧ ((r1_119 = (0 : Int32)) ∧ ((r1_129 = (bI (¬ ((x4 = x18) ∧ (p2 = p5))))) ∧ ((Int32.ofNat n1_129) = s0_176))))))]))
                  refine g_retZ X at_210 (by decide) (by decide) (bI_01 _) (own_fin ?_)
                  show ((Int32.ofNat 0) = (0 : Int32)) ∧ ((r1_119 = (0 : Int32)) ∧ ((r1_129 = (bI (¬ ((x4 = x18) ∧ (p2 = p5))))) ∧ ((Int32.ofNat n1_129) = s0_176)))
                  have E := own_keyE (f := x4) (s := p2) (f' := x18) (s' := p5) (by omega) (by omega)
                  have F := own_fin2 hR_119 hR_129
                  refine ⟨rfl, F.1, ?_, ?_⟩
                  · by_cases q : (x4 = x18) ∧ (p2 = p5)
                    · rw [(F.2.1 (E.mpr q)).1]; exact bI_f (fun z => z q)
                    · rw [(F.2.2 (fun z => q (E.mp z))).1]; exact bI_t q
                  · rw [hs0_176]; by_cases q : (x4 = x18) ∧ (p2 = p5)
                    · rw [(F.2.1 (E.mpr q)).2, if_pos q]
                    · rw [(F.2.2 (fun z => q (E.mp z))).2, if_neg q]
                · intro J210_3
                  refine g_beq X at_180 (q := 183) rfl (by decide) (t := 209) rfl (fun (c4 : (Int32.ofNat 0) = (0 : Int32)) => ?_) (fun (c4 : ¬ ((Int32.ofNat 0) = (0 : Int32))) => ?_)
                  · skip
                    refine g_iload X at_183 rfl (q := 185) rfl ?_
                    refine g_ifB X at_185 (Or.inr (Or.inr rfl)) (q := 188) rfl (by decide) (t := 209) rfl (fun (c5 : r1_119 = (0 : Int32)) => ?_) (fun (c5 : ¬ (r1_119 = (0 : Int32))) => ?_)
                    · skip
                      refine g_iload X at_188 rfl (q := 190) rfl ?_
                      refine g_iload X at_190 rfl (q := 192) rfl ?_
                      refine g_icmpB X at_192 (Or.inr (Or.inr rfl)) (q := 195) rfl (by decide) (t := 209) rfl (fun (c6 : r1_129 = (bI (¬ ((x4 = x18) ∧ (p2 = p5))))) => ?_) (fun (c6 : ¬ (r1_129 = (bI (¬ ((x4 = x18) ∧ (p2 = p5)))))) => ?_)
                      · skip
                        refine g_aload X at_195 rfl (q := 197) rfl rfl ?_
                        refine g_callV X O_b13.1 [] [] (tw58 hw) (tw59 hw) (tw61 hw) (tw60 hw) (tw3 hw) (tw62 hw) (by decide) (rm10 l Z a0 hw [] b13 k1_42 m1_42 u1_42 sh_42 mk_42 (Int32.ofNat n1_129) _ n0 X.size O_b13) pd5 rfl rfl rfl at_197 (q := 200) rfl (W := 0) rfl (by decide) (by decide) (c2 := 4) (s2 := 44) rfl rfl (by decide) (by decide) (fun v T h' X hQ => ?_)
                        obtain ⟨rfl, rfl⟩ := hQ
                        show Goes p e below s _ n0 _ (T.setTop (mkF m 200 #[.val (.int p1), .val (.int p2), .val (.int p3), .val (.int p4), .val (.int p5), .val (.int p6), .val (.int x4), .val (.int x10), .val (.int x18), .val (.int x24), .val (.int x34), .val (.ref b13), .val (.int (bI ((Int32.ofNat 0) = (0 : Int32)))), .val (.int r1_119), .val (.int r1_129), .val (.int (bI ((x4 = x18) ∧ (p2 = p5)))), .val (.int (bI (¬ ((x4 = x18) ∧ (p2 = p5))))), .val (.int s0_176)] [(.int (Int32.ofNat n1_129))]))
                        refine g_iload X at_200 rfl (q := 202) rfl ?_
                        refine g_icmpB X at_202 (Or.inr (Or.inr rfl)) (q := 205) rfl (by decide) (t := 209) rfl (fun (c7 : (Int32.ofNat n1_129) = s0_176) => ?_) (fun (c7 : ¬ ((Int32.ofNat n1_129) = s0_176)) => ?_)
                        · skip
                          refine g_iconst X at_205 rfl (q := 206) (v := 1) rfl ?_
                          refine g_goto X at_206 (by decide) (q := 210) rfl ?_
                          exact J210_3 T X _ (bI_t ⟨c4, ⟨c5, ⟨c6, c7⟩⟩⟩)
                        · skip
                          refine g_iconst X at_209 rfl (q := 210) (v := 0) rfl ?_
                          exact J210_3 T X _ (bI_f (fun z => (fun z => (fun z => c7 z.2) z.2) z.2))
                      · skip
                        refine g_iconst X at_209 rfl (q := 210) (v := 0) rfl ?_
                        exact J210_3 T X _ (bI_f (fun z => (fun z => (fun z => c6 z.1) z.2) z.2))
                    · skip
                      refine g_iconst X at_209 rfl (q := 210) (v := 0) rfl ?_
                      exact J210_3 T X _ (bI_f (fun z => (fun z => c5 z.1) z.2))
                  · skip
                    refine g_iconst X at_209 rfl (q := 210) (v := 0) rfl ?_
                    exact J210_3 T X _ (bI_f (fun z => c4 z.1))
              · intro J176_7
                refine g_beq X at_168 (q := 171) rfl (by decide) (t := 175) rfl (fun (c8 : (x4 = x18) ∧ (p2 = p5)) => ?_) (fun (c8 : ¬ ((x4 = x18) ∧ (p2 = p5))) => ?_)
                · skip
                  refine g_iconst X at_171 rfl (q := 172) (v := 1) rfl ?_
                  refine g_goto X at_172 (by decide) (q := 176) rfl ?_
                  exact J176_7 T X _ ((if_pos c8).symm)
                · skip
                  refine g_iconst X at_175 rfl (q := 176) (v := 2) rfl ?_
                  exact J176_7 T X _ ((if_neg c8).symm)
            · intro J164_8
              refine g_beq X at_156 (q := 159) rfl (by decide) (t := 163) rfl (fun (c9 : (x4 = x18) ∧ (p2 = p5)) => ?_) (fun (c9 : ¬ ((x4 = x18) ∧ (p2 = p5))) => ?_)
              · skip
                refine g_iconst X at_159 rfl (q := 160) (v := 0) rfl ?_
                refine g_goto X at_160 (by decide) (q := 164) rfl ?_
                exact J164_8 T X _ (bI_f (fun z => z c9))
              · skip
                refine g_iconst X at_163 rfl (q := 164) (v := 1) rfl ?_
                exact J164_8 T X _ (bI_t c9)
          · intro J152_9
            refine g_icmpB X at_138 (Or.inr (Or.inr rfl)) (q := 141) rfl (by decide) (t := 151) rfl (fun (c10 : x4 = x18) => ?_) (fun (c10 : ¬ (x4 = x18)) => ?_)
            · skip
              refine g_iloadN X at_141 rfl (q := 142) rfl ?_
              refine g_iload X at_142 rfl (q := 144) rfl ?_
              refine g_icmpB X at_144 (Or.inr (Or.inr rfl)) (q := 147) rfl (by decide) (t := 151) rfl (fun (c11 : p2 = p5) => ?_) (fun (c11 : ¬ (p2 = p5)) => ?_)
              · skip
                refine g_iconst X at_147 rfl (q := 148) (v := 1) rfl ?_
                refine g_goto X at_148 (by decide) (q := 152) rfl ?_
                exact J152_9 T X _ (bI_t ⟨c10, c11⟩)
              · skip
                refine g_iconst X at_151 rfl (q := 152) (v := 0) rfl ?_
                exact J152_9 T X _ (bI_f (fun z => c11 z.2))
            · skip
              refine g_iconst X at_151 rfl (q := 152) (v := 0) rfl ?_
              exact J152_9 T X _ (bI_f (fun z => c10 z.1))
        · intro J111_11
          refine g_ifB X at_103 (Or.inr (Or.inr rfl)) (q := 106) rfl (by decide) (t := 110) rfl (fun (c12 : (Int32.ofNat 0) = (0 : Int32)) => ?_) (fun (c12 : ¬ ((Int32.ofNat 0) = (0 : Int32))) => ?_)
          · skip
            refine g_iconst X at_106 rfl (q := 107) (v := 1) rfl ?_
            refine g_goto X at_107 (by decide) (q := 111) rfl ?_
            exact J111_11 T X _ (bI_t c12)
          · skip
            refine g_iconst X at_110 rfl (q := 111) (v := 0) rfl ?_
            exact J111_11 T X _ (bI_f c12)
      · skip
        have b_x24 : (3 : Int) ≤ x24.toInt ∧ x24.toInt ≤ 0 := by have z0 := c3; (try simp only [Int64.lt_iff_toInt_lt, Int32.lt_iff_toInt_lt, Int64.le_iff_toInt_le, Int32.le_iff_toInt_le, ← Int64.toInt_inj, ← Int32.toInt_inj, apply_ite Int64.toInt, apply_ite Int32.toInt, Int64.reduceToInt, Int32.reduceToInt, ne_eq] at z0); have z1 := rng32 x24; omega
        refine g_aload X at_83 rfl (q := 85) rfl rfl ?_
        refine g_iload X at_85 rfl (q := 87) rfl ?_
        refine g_iload X at_87 rfl (q := 89) rfl ?_
        refine g_callV X O_b13.1 [(.int x18), (.int p5)] [] (tw44 hw) (tw45 hw) (tw47 hw) (tw46 hw) (tw3 hw) (tw48 hw) (by decide) (rm8 l Z a0 hw [] b13 x18 p5 k1_42 m1_42 u1_42 sh_42 mk_42 sz_42 C_42 (fun _ => (-1 : Int64)) (fun _ => 0) (fun _ => 0) (fun _ => 0) 0 _ n0 X.size O_b13 A_k1_42 A_m1_42 A_u1_42 g_b13 g_k1_42 g_m1_42 g_u1_42 ne_b13_k1_42 ne_b13_m1_42 ne_b13_u1_42 ne_k1_42_b13 ne_k1_42_m1_42 ne_k1_42_u1_42 ne_m1_42_b13 ne_m1_42_k1_42 ne_m1_42_u1_42 ne_u1_42_b13 ne_u1_42_k1_42 ne_u1_42_m1_42 (by omega) hz_42 (own_pn0 _ _ _ _ _ _ (fun _ _ => rfl)) (by omega) (by omega)) pd0 rfl rfl rfl at_89 (q := 92) rfl (W := 0) rfl (by decide) (by decide) (c2 := 4) (s2 := 44) rfl rfl (by decide) (by decide) (fun v T h' X hQ => ?_)
        obtain ⟨r1_89, K1_89, M1_89, P1_89, ks1_89, n1_89, rfl, Kc, O_b13', A_k1_42', A_m1_42', A_u1_42', hPN1_89, hR_89, hn1_89⟩ := hQ
        have O_b13 := O_b13'
        have A_k1_42 := A_k1_42'
        have A_m1_42 := A_m1_42'
        have A_u1_42 := A_u1_42'
        show Goes p e below s _ n0 _ (T.setTop (mkF m 92 #[.val (.int p1), .val (.int p2), .val (.int p3), .val (.int p4), .val (.int p5), .val (.int p6), .val (.int x4), .val (.int x10), .val (.int x18), .val (.int x24), .val (.int x34), .val (.ref b13), .unset, .unset, .unset, .unset, .unset, .unset] [(.int r1_89)]))
        refine g_pop X at_92 rfl (q := 93) rfl ?_
        refine g_aload X at_93 rfl (q := 95) rfl rfl ?_
        refine g_callV X O_b13.1 [] [] (tw53 hw) (tw54 hw) (tw56 hw) (tw55 hw) (tw3 hw) (tw57 hw) (by decide) (rm9 l Z a0 hw [] b13 k1_42 m1_42 u1_42 sh_42 mk_42 sz_42 C_42 K1_89 P1_89 n1_89 M1_89 ks1_89 _ n0 X.size O_b13 A_k1_42 A_u1_42 g_b13 g_k1_42 ne_b13_k1_42 ne_b13_u1_42 ne_k1_42_b13 ne_k1_42_u1_42 ne_u1_42_b13 ne_u1_42_k1_42 hz_42 hPN1_89 (by omega) (by omega)) pd4 rfl rfl rfl at_95 (q := 98) rfl (W := 0) rfl (by decide) (by decide) (c2 := 4) (s2 := 44) rfl rfl (by decide) (by decide) (fun v T h' X hQ => ?_)
        obtain ⟨K1_95, rfl, Kc, O_b13', A_k1_42', hE_95⟩ := hQ
        have A_m1_42 := A_m1_42.keep Kc (ninS ne_m1_42_b13 (ninS ne_m1_42_k1_42 nin0))
        have A_u1_42 := A_u1_42.keep Kc (ninS ne_u1_42_b13 (ninS ne_u1_42_k1_42 nin0))
        have O_b13 := O_b13'
        have A_k1_42 := A_k1_42'
        show Goes p e below s _ n0 _ (T.setTop (mkF m 98 #[.val (.int p1), .val (.int p2), .val (.int p3), .val (.int p4), .val (.int p5), .val (.int p6), .val (.int x4), .val (.int x10), .val (.int x18), .val (.int x24), .val (.int x34), .val (.ref b13), .unset, .unset, .unset, .unset, .unset, .unset] []))
        refine g_aload X at_98 rfl (q := 100) rfl rfl ?_
        refine g_callV X O_b13.1 [] [] (tw58 hw) (tw59 hw) (tw61 hw) (tw60 hw) (tw3 hw) (tw62 hw) (by decide) (rm10 l Z a0 hw [] b13 k1_42 m1_42 u1_42 sh_42 mk_42 (Int32.ofNat 0) _ n0 X.size O_b13) pd5 rfl rfl rfl at_100 (q := 103) rfl (W := 0) rfl (by decide) (by decide) (c2 := 4) (s2 := 44) rfl rfl (by decide) (by decide) (fun v T h' X hQ => ?_)
        obtain ⟨rfl, rfl⟩ := hQ
        show Goes p e below s _ n0 _ (T.setTop (mkF m 103 #[.val (.int p1), .val (.int p2), .val (.int p3), .val (.int p4), .val (.int p5), .val (.int p6), .val (.int x4), .val (.int x10), .val (.int x18), .val (.int x24), .val (.int x34), .val (.ref b13), .unset, .unset, .unset, .unset, .unset, .unset] [(.int (Int32.ofNat 0))]))
        refine g_jT1 X (J := 111) (P := fun (s0_111 : Int32) => s0_111 = (bI ((Int32.ofNat 0) = (0 : Int32)))) (L := fun s0_111 => #[.val (.int p1), .val (.int p2), .val (.int p3), .val (.int p4), .val (.int p5), .val (.int p6), .val (.int x4), .val (.int x10), .val (.int x18), .val (.int x24), .val (.int x34), .val (.ref b13), .unset, .unset, .unset, .unset, .unset, .unset]) (S := fun s0_111 => [(.int s0_111)]) ?_ ?_
        · intro T X s0_111 hs0_111
          replace hs0_111 : s0_111 = (bI ((Int32.ofNat 0) = (0 : Int32))) := hs0_111
          subst hs0_111
          show Goes p e below s _ n0 _ (T.setTop (mkF m 111 #[.val (.int p1), .val (.int p2), .val (.int p3), .val (.int p4), .val (.int p5), .val (.int p6), .val (.int x4), .val (.int x10), .val (.int x18), .val (.int x24), .val (.int x34), .val (.ref b13), .unset, .unset, .unset, .unset, .unset, .unset] [(.int (bI ((Int32.ofNat 0) = (0 : Int32))))]))
          refine g_istore X at_111 rfl (q := 113) (L' := #[.val (.int p1), .val (.int p2), .val (.int p3), .val (.int p4), .val (.int p5), .val (.int p6), .val (.int x4), .val (.int x10), .val (.int x18), .val (.int x24), .val (.int x34), .val (.ref b13), .val (.int (bI ((Int32.ofNat 0) = (0 : Int32)))), .unset, .unset, .unset, .unset, .unset]) rfl ?_
          refine g_aload X at_113 rfl (q := 115) rfl rfl ?_
          refine g_iload X at_115 rfl (q := 117) rfl ?_
          refine g_iload X at_117 rfl (q := 119) rfl ?_
          refine g_callV X O_b13.1 [(.int x18), (.int p5)] [] (tw44 hw) (tw45 hw) (tw47 hw) (tw46 hw) (tw3 hw) (tw48 hw) (by decide) (rm8 l Z a0 hw [] b13 x18 p5 k1_42 m1_42 u1_42 sh_42 mk_42 sz_42 C_42 K1_95 M1_89 P1_89 (fun _ => 0) 0 _ n0 X.size O_b13 A_k1_42 A_m1_42 A_u1_42 g_b13 g_k1_42 g_m1_42 g_u1_42 ne_b13_k1_42 ne_b13_m1_42 ne_b13_u1_42 ne_k1_42_b13 ne_k1_42_m1_42 ne_k1_42_u1_42 ne_m1_42_b13 ne_m1_42_k1_42 ne_m1_42_u1_42 ne_u1_42_b13 ne_u1_42_k1_42 ne_u1_42_m1_42 (by omega) hz_42 (own_pn0 _ _ _ _ _ _ hE_95) (by omega) (by omega)) pd0 rfl rfl rfl at_119 (q := 122) rfl (W := 0) rfl (by decide) (by decide) (c2 := 4) (s2 := 44) rfl rfl (by decide) (by decide) (fun v T h' X hQ => ?_)
          obtain ⟨r1_119, K1_119, M1_119, P1_119, ks1_119, n1_119, rfl, Kc, O_b13', A_k1_42', A_m1_42', A_u1_42', hPN1_119, hR_119, hn1_119⟩ := hQ
          have O_b13 := O_b13'
          have A_k1_42 := A_k1_42'
          have A_m1_42 := A_m1_42'
          have A_u1_42 := A_u1_42'
          show Goes p e below s _ n0 _ (T.setTop (mkF m 122 #[.val (.int p1), .val (.int p2), .val (.int p3), .val (.int p4), .val (.int p5), .val (.int p6), .val (.int x4), .val (.int x10), .val (.int x18), .val (.int x24), .val (.int x34), .val (.ref b13), .val (.int (bI ((Int32.ofNat 0) = (0 : Int32)))), .unset, .unset, .unset, .unset, .unset] [(.int r1_119)]))
          refine g_istore X at_122 rfl (q := 124) (L' := #[.val (.int p1), .val (.int p2), .val (.int p3), .val (.int p4), .val (.int p5), .val (.int p6), .val (.int x4), .val (.int x10), .val (.int x18), .val (.int x24), .val (.int x34), .val (.ref b13), .val (.int (bI ((Int32.ofNat 0) = (0 : Int32)))), .val (.int r1_119), .unset, .unset, .unset, .unset]) rfl ?_
          refine g_aload X at_124 rfl (q := 126) rfl rfl ?_
          refine g_iload X at_126 rfl (q := 128) rfl ?_
          refine g_iloadN X at_128 rfl (q := 129) rfl ?_
          refine g_callV X O_b13.1 [(.int x4), (.int p2)] [] (tw44 hw) (tw45 hw) (tw47 hw) (tw46 hw) (tw3 hw) (tw48 hw) (by decide) (rm8 l Z a0 hw [] b13 x4 p2 k1_42 m1_42 u1_42 sh_42 mk_42 sz_42 C_42 K1_119 M1_119 P1_119 ks1_119 n1_119 _ n0 X.size O_b13 A_k1_42 A_m1_42 A_u1_42 g_b13 g_k1_42 g_m1_42 g_u1_42 ne_b13_k1_42 ne_b13_m1_42 ne_b13_u1_42 ne_k1_42_b13 ne_k1_42_m1_42 ne_k1_42_u1_42 ne_m1_42_b13 ne_m1_42_k1_42 ne_m1_42_u1_42 ne_u1_42_b13 ne_u1_42_k1_42 ne_u1_42_m1_42 (by omega) hz_42 hPN1_119 (by omega) (by omega)) pd0 rfl rfl rfl at_129 (q := 132) rfl (W := 0) rfl (by decide) (by decide) (c2 := 4) (s2 := 44) rfl rfl (by decide) (by decide) (fun v T h' X hQ => ?_)
          obtain ⟨r1_129, K1_129, M1_129, P1_129, ks1_129, n1_129, rfl, Kc, O_b13', A_k1_42', A_m1_42', A_u1_42', hPN1_129, hR_129, hn1_129⟩ := hQ
          have O_b13 := O_b13'
          have A_k1_42 := A_k1_42'
          have A_m1_42 := A_m1_42'
          have A_u1_42 := A_u1_42'
          show Goes p e below s _ n0 _ (T.setTop (mkF m 132 #[.val (.int p1), .val (.int p2), .val (.int p3), .val (.int p4), .val (.int p5), .val (.int p6), .val (.int x4), .val (.int x10), .val (.int x18), .val (.int x24), .val (.int x34), .val (.ref b13), .val (.int (bI ((Int32.ofNat 0) = (0 : Int32)))), .val (.int r1_119), .unset, .unset, .unset, .unset] [(.int r1_129)]))
          refine g_istore X at_132 rfl (q := 134) (L' := #[.val (.int p1), .val (.int p2), .val (.int p3), .val (.int p4), .val (.int p5), .val (.int p6), .val (.int x4), .val (.int x10), .val (.int x18), .val (.int x24), .val (.int x34), .val (.ref b13), .val (.int (bI ((Int32.ofNat 0) = (0 : Int32)))), .val (.int r1_119), .val (.int r1_129), .unset, .unset, .unset]) rfl ?_
          refine g_iload X at_134 rfl (q := 136) rfl ?_
          refine g_iload X at_136 rfl (q := 138) rfl ?_
          refine g_jT1 X (J := 152) (P := fun (s0_152 : Int32) => s0_152 = (bI ((x4 = x18) ∧ (p2 = p5)))) (L := fun s0_152 => #[.val (.int p1), .val (.int p2), .val (.int p3), .val (.int p4), .val (.int p5), .val (.int p6), .val (.int x4), .val (.int x10), .val (.int x18), .val (.int x24), .val (.int x34), .val (.ref b13), .val (.int (bI ((Int32.ofNat 0) = (0 : Int32)))), .val (.int r1_119), .val (.int r1_129), .unset, .unset, .unset]) (S := fun s0_152 => [(.int s0_152)]) ?_ ?_
          · intro T X s0_152 hs0_152
            replace hs0_152 : s0_152 = (bI ((x4 = x18) ∧ (p2 = p5))) := hs0_152
            subst hs0_152
            show Goes p e below s _ n0 _ (T.setTop (mkF m 152 #[.val (.int p1), .val (.int p2), .val (.int p3), .val (.int p4), .val (.int p5), .val (.int p6), .val (.int x4), .val (.int x10), .val (.int x18), .val (.int x24), .val (.int x34), .val (.ref b13), .val (.int (bI ((Int32.ofNat 0) = (0 : Int32)))), .val (.int r1_119), .val (.int r1_129), .unset, .unset, .unset] [(.int (bI ((x4 = x18) ∧ (p2 = p5))))]))
            refine g_istore X at_152 rfl (q := 154) (L' := #[.val (.int p1), .val (.int p2), .val (.int p3), .val (.int p4), .val (.int p5), .val (.int p6), .val (.int x4), .val (.int x10), .val (.int x18), .val (.int x24), .val (.int x34), .val (.ref b13), .val (.int (bI ((Int32.ofNat 0) = (0 : Int32)))), .val (.int r1_119), .val (.int r1_129), .val (.int (bI ((x4 = x18) ∧ (p2 = p5)))), .unset, .unset]) rfl ?_
            refine g_iload X at_154 rfl (q := 156) rfl ?_
            refine g_jT1 X (J := 164) (P := fun (s0_164 : Int32) => s0_164 = (bI (¬ ((x4 = x18) ∧ (p2 = p5))))) (L := fun s0_164 => #[.val (.int p1), .val (.int p2), .val (.int p3), .val (.int p4), .val (.int p5), .val (.int p6), .val (.int x4), .val (.int x10), .val (.int x18), .val (.int x24), .val (.int x34), .val (.ref b13), .val (.int (bI ((Int32.ofNat 0) = (0 : Int32)))), .val (.int r1_119), .val (.int r1_129), .val (.int (bI ((x4 = x18) ∧ (p2 = p5)))), .unset, .unset]) (S := fun s0_164 => [(.int s0_164)]) ?_ ?_
            · intro T X s0_164 hs0_164
              replace hs0_164 : s0_164 = (bI (¬ ((x4 = x18) ∧ (p2 = p5)))) := hs0_164
              subst hs0_164
              show Goes p e below s _ n0 _ (T.setTop (mkF m 164 #[.val (.int p1), .val (.int p2), .val (.int p3), .val (.int p4), .val (.int p5), .val (.int p6), .val (.int x4), .val (.int x10), .val (.int x18), .val (.int x24), .val (.int x34), .val (.ref b13), .val (.int (bI ((Int32.ofNat 0) = (0 : Int32)))), .val (.int r1_119), .val (.int r1_129), .val (.int (bI ((x4 = x18) ∧ (p2 = p5)))), .unset, .unset] [(.int (bI (¬ ((x4 = x18) ∧ (p2 = p5)))))]))
              refine g_istore X at_164 rfl (q := 166) (L' := #[.val (.int p1), .val (.int p2), .val (.int p3), .val (.int p4), .val (.int p5), .val (.int p6), .val (.int x4), .val (.int x10), .val (.int x18), .val (.int x24), .val (.int x34), .val (.ref b13), .val (.int (bI ((Int32.ofNat 0) = (0 : Int32)))), .val (.int r1_119), .val (.int r1_129), .val (.int (bI ((x4 = x18) ∧ (p2 = p5)))), .val (.int (bI (¬ ((x4 = x18) ∧ (p2 = p5))))), .unset]) rfl ?_
              refine g_iload X at_166 rfl (q := 168) rfl ?_
              refine g_jT1 X (J := 176) (P := fun (s0_176 : Int32) => s0_176 = (if (x4 = x18) ∧ (p2 = p5) then (1 : Int32) else (2 : Int32))) (L := fun s0_176 => #[.val (.int p1), .val (.int p2), .val (.int p3), .val (.int p4), .val (.int p5), .val (.int p6), .val (.int x4), .val (.int x10), .val (.int x18), .val (.int x24), .val (.int x34), .val (.ref b13), .val (.int (bI ((Int32.ofNat 0) = (0 : Int32)))), .val (.int r1_119), .val (.int r1_129), .val (.int (bI ((x4 = x18) ∧ (p2 = p5)))), .val (.int (bI (¬ ((x4 = x18) ∧ (p2 = p5))))), .unset]) (S := fun s0_176 => [(.int s0_176)]) ?_ ?_
              · intro T X s0_176 hs0_176
                replace hs0_176 : s0_176 = (if (x4 = x18) ∧ (p2 = p5) then (1 : Int32) else (2 : Int32)) := hs0_176
                show Goes p e below s _ n0 _ (T.setTop (mkF m 176 #[.val (.int p1), .val (.int p2), .val (.int p3), .val (.int p4), .val (.int p5), .val (.int p6), .val (.int x4), .val (.int x10), .val (.int x18), .val (.int x24), .val (.int x34), .val (.ref b13), .val (.int (bI ((Int32.ofNat 0) = (0 : Int32)))), .val (.int r1_119), .val (.int r1_129), .val (.int (bI ((x4 = x18) ∧ (p2 = p5)))), .val (.int (bI (¬ ((x4 = x18) ∧ (p2 = p5))))), .unset] [(.int s0_176)]))
                have b_s0_176 : (1 : Int) ≤ s0_176.toInt ∧ s0_176.toInt ≤ 2 := by
                  have z0 := hs0_176
                  have f1 := rng32 p2
                  have f2 := rng32 p5
                  have e0 := congrArg Int32.toInt z0
                  (try simp only [Int64.lt_iff_toInt_lt, Int32.lt_iff_toInt_lt, Int64.le_iff_toInt_le, Int32.le_iff_toInt_le, ← Int64.toInt_inj, ← Int32.toInt_inj, apply_ite Int64.toInt, apply_ite Int32.toInt, Int64.reduceToInt, Int32.reduceToInt, ne_eq, true_and, and_true, false_or, or_false, iff_self, and_self, not_true_eq_false, not_false_eq_true] at e0)
                  omega
                refine g_istore X at_176 rfl (q := 178) (L' := #[.val (.int p1), .val (.int p2), .val (.int p3), .val (.int p4), .val (.int p5), .val (.int p6), .val (.int x4), .val (.int x10), .val (.int x18), .val (.int x24), .val (.int x34), .val (.ref b13), .val (.int (bI ((Int32.ofNat 0) = (0 : Int32)))), .val (.int r1_119), .val (.int r1_129), .val (.int (bI ((x4 = x18) ∧ (p2 = p5)))), .val (.int (bI (¬ ((x4 = x18) ∧ (p2 = p5))))), .val (.int s0_176)]) rfl ?_
                refine g_iload X at_178 rfl (q := 180) rfl ?_
                refine g_jT1 X (J := 210) (P := fun (s0_210 : Int32) => s0_210 = (bI (((Int32.ofNat 0) = (0 : Int32)) ∧ ((r1_119 = (0 : Int32)) ∧ ((r1_129 = (bI (¬ ((x4 = x18) ∧ (p2 = p5))))) ∧ ((Int32.ofNat n1_129) = s0_176)))))) (L := fun s0_210 => #[.val (.int p1), .val (.int p2), .val (.int p3), .val (.int p4), .val (.int p5), .val (.int p6), .val (.int x4), .val (.int x10), .val (.int x18), .val (.int x24), .val (.int x34), .val (.ref b13), .val (.int (bI ((Int32.ofNat 0) = (0 : Int32)))), .val (.int r1_119), .val (.int r1_129), .val (.int (bI ((x4 = x18) ∧ (p2 = p5)))), .val (.int (bI (¬ ((x4 = x18) ∧ (p2 = p5))))), .val (.int s0_176)]) (S := fun s0_210 => [(.int s0_210)]) ?_ ?_
                · intro T X s0_210 hs0_210
                  replace hs0_210 : s0_210 = (bI (((Int32.ofNat 0) = (0 : Int32)) ∧ ((r1_119 = (0 : Int32)) ∧ ((r1_129 = (bI (¬ ((x4 = x18) ∧ (p2 = p5))))) ∧ ((Int32.ofNat n1_129) = s0_176))))) := hs0_210
                  subst hs0_210
                  show Goes p e below s _ n0 _ (T.setTop (mkF m 210 #[.val (.int p1), .val (.int p2), .val (.int p3), .val (.int p4), .val (.int p5), .val (.int p6), .val (.int x4), .val (.int x10), .val (.int x18), .val (.int x24), .val (.int x34), .val (.ref b13), .val (.int (bI ((Int32.ofNat 0) = (0 : Int32)))), .val (.int r1_119), .val (.int r1_129), .val (.int (bI ((x4 = x18) ∧ (p2 = p5)))), .val (.int (bI (¬ ((x4 = x18) ∧ (p2 = p5))))), .val (.int s0_176)] [(.int (bI (((Int32.ofNat 0) = (0 : Int32)) ∧ ((r1_119 = (0 : Int32)) ∧ ((r1_129 = (bI (¬ ((x4 = x18) ∧ (p2 = p5))))) ∧ ((Int32.ofNat n1_129) = s0_176))))))]))
                  refine g_retZ X at_210 (by decide) (by decide) (bI_01 _) (own_fin ?_)
                  show ((Int32.ofNat 0) = (0 : Int32)) ∧ ((r1_119 = (0 : Int32)) ∧ ((r1_129 = (bI (¬ ((x4 = x18) ∧ (p2 = p5))))) ∧ ((Int32.ofNat n1_129) = s0_176)))
                  have E := own_keyE (f := x4) (s := p2) (f' := x18) (s' := p5) (by omega) (by omega)
                  have F := own_fin2 hR_119 hR_129
                  refine ⟨rfl, F.1, ?_, ?_⟩
                  · by_cases q : (x4 = x18) ∧ (p2 = p5)
                    · rw [(F.2.1 (E.mpr q)).1]; exact bI_f (fun z => z q)
                    · rw [(F.2.2 (fun z => q (E.mp z))).1]; exact bI_t q
                  · rw [hs0_176]; by_cases q : (x4 = x18) ∧ (p2 = p5)
                    · rw [(F.2.1 (E.mpr q)).2, if_pos q]
                    · rw [(F.2.2 (fun z => q (E.mp z))).2, if_neg q]
                · intro J210_12
                  refine g_beq X at_180 (q := 183) rfl (by decide) (t := 209) rfl (fun (c13 : (Int32.ofNat 0) = (0 : Int32)) => ?_) (fun (c13 : ¬ ((Int32.ofNat 0) = (0 : Int32))) => ?_)
                  · skip
                    refine g_iload X at_183 rfl (q := 185) rfl ?_
                    refine g_ifB X at_185 (Or.inr (Or.inr rfl)) (q := 188) rfl (by decide) (t := 209) rfl (fun (c14 : r1_119 = (0 : Int32)) => ?_) (fun (c14 : ¬ (r1_119 = (0 : Int32))) => ?_)
                    · skip
                      refine g_iload X at_188 rfl (q := 190) rfl ?_
                      refine g_iload X at_190 rfl (q := 192) rfl ?_
                      refine g_icmpB X at_192 (Or.inr (Or.inr rfl)) (q := 195) rfl (by decide) (t := 209) rfl (fun (c15 : r1_129 = (bI (¬ ((x4 = x18) ∧ (p2 = p5))))) => ?_) (fun (c15 : ¬ (r1_129 = (bI (¬ ((x4 = x18) ∧ (p2 = p5)))))) => ?_)
                      · skip
                        refine g_aload X at_195 rfl (q := 197) rfl rfl ?_
                        refine g_callV X O_b13.1 [] [] (tw58 hw) (tw59 hw) (tw61 hw) (tw60 hw) (tw3 hw) (tw62 hw) (by decide) (rm10 l Z a0 hw [] b13 k1_42 m1_42 u1_42 sh_42 mk_42 (Int32.ofNat n1_129) _ n0 X.size O_b13) pd5 rfl rfl rfl at_197 (q := 200) rfl (W := 0) rfl (by decide) (by decide) (c2 := 4) (s2 := 44) rfl rfl (by decide) (by decide) (fun v T h' X hQ => ?_)
                        obtain ⟨rfl, rfl⟩ := hQ
                        show Goes p e below s _ n0 _ (T.setTop (mkF m 200 #[.val (.int p1), .val (.int p2), .val (.int p3), .val (.int p4), .val (.int p5), .val (.int p6), .val (.int x4), .val (.int x10), .val (.int x18), .val (.int x24), .val (.int x34), .val (.ref b13), .val (.int (bI ((Int32.ofNat 0) = (0 : Int32)))), .val (.int r1_119), .val (.int r1_129), .val (.int (bI ((x4 = x18) ∧ (p2 = p5)))), .val (.int (bI (¬ ((x4 = x18) ∧ (p2 = p5))))), .val (.int s0_176)] [(.int (Int32.ofNat n1_129))]))
                        refine g_iload X at_200 rfl (q := 202) rfl ?_
                        refine g_icmpB X at_202 (Or.inr (Or.inr rfl)) (q := 205) rfl (by decide) (t := 209) rfl (fun (c16 : (Int32.ofNat n1_129) = s0_176) => ?_) (fun (c16 : ¬ ((Int32.ofNat n1_129) = s0_176)) => ?_)
                        · skip
                          refine g_iconst X at_205 rfl (q := 206) (v := 1) rfl ?_
                          refine g_goto X at_206 (by decide) (q := 210) rfl ?_
                          exact J210_12 T X _ (bI_t ⟨c13, ⟨c14, ⟨c15, c16⟩⟩⟩)
                        · skip
                          refine g_iconst X at_209 rfl (q := 210) (v := 0) rfl ?_
                          exact J210_12 T X _ (bI_f (fun z => (fun z => (fun z => c16 z.2) z.2) z.2))
                      · skip
                        refine g_iconst X at_209 rfl (q := 210) (v := 0) rfl ?_
                        exact J210_12 T X _ (bI_f (fun z => (fun z => (fun z => c15 z.1) z.2) z.2))
                    · skip
                      refine g_iconst X at_209 rfl (q := 210) (v := 0) rfl ?_
                      exact J210_12 T X _ (bI_f (fun z => (fun z => c14 z.1) z.2))
                  · skip
                    refine g_iconst X at_209 rfl (q := 210) (v := 0) rfl ?_
                    exact J210_12 T X _ (bI_f (fun z => c13 z.1))
              · intro J176_16
                refine g_beq X at_168 (q := 171) rfl (by decide) (t := 175) rfl (fun (c17 : (x4 = x18) ∧ (p2 = p5)) => ?_) (fun (c17 : ¬ ((x4 = x18) ∧ (p2 = p5))) => ?_)
                · skip
                  refine g_iconst X at_171 rfl (q := 172) (v := 1) rfl ?_
                  refine g_goto X at_172 (by decide) (q := 176) rfl ?_
                  exact J176_16 T X _ ((if_pos c17).symm)
                · skip
                  refine g_iconst X at_175 rfl (q := 176) (v := 2) rfl ?_
                  exact J176_16 T X _ ((if_neg c17).symm)
            · intro J164_17
              refine g_beq X at_156 (q := 159) rfl (by decide) (t := 163) rfl (fun (c18 : (x4 = x18) ∧ (p2 = p5)) => ?_) (fun (c18 : ¬ ((x4 = x18) ∧ (p2 = p5))) => ?_)
              · skip
                refine g_iconst X at_159 rfl (q := 160) (v := 0) rfl ?_
                refine g_goto X at_160 (by decide) (q := 164) rfl ?_
                exact J164_17 T X _ (bI_f (fun z => z c18))
              · skip
                refine g_iconst X at_163 rfl (q := 164) (v := 1) rfl ?_
                exact J164_17 T X _ (bI_t c18)
          · intro J152_18
            refine g_icmpB X at_138 (Or.inr (Or.inr rfl)) (q := 141) rfl (by decide) (t := 151) rfl (fun (c19 : x4 = x18) => ?_) (fun (c19 : ¬ (x4 = x18)) => ?_)
            · skip
              refine g_iloadN X at_141 rfl (q := 142) rfl ?_
              refine g_iload X at_142 rfl (q := 144) rfl ?_
              refine g_icmpB X at_144 (Or.inr (Or.inr rfl)) (q := 147) rfl (by decide) (t := 151) rfl (fun (c20 : p2 = p5) => ?_) (fun (c20 : ¬ (p2 = p5)) => ?_)
              · skip
                refine g_iconst X at_147 rfl (q := 148) (v := 1) rfl ?_
                refine g_goto X at_148 (by decide) (q := 152) rfl ?_
                exact J152_18 T X _ (bI_t ⟨c19, c20⟩)
              · skip
                refine g_iconst X at_151 rfl (q := 152) (v := 0) rfl ?_
                exact J152_18 T X _ (bI_f (fun z => c20 z.2))
            · skip
              refine g_iconst X at_151 rfl (q := 152) (v := 0) rfl ?_
              exact J152_18 T X _ (bI_f (fun z => c19 z.1))
        · intro J111_20
          refine g_ifB X at_103 (Or.inr (Or.inr rfl)) (q := 106) rfl (by decide) (t := 110) rfl (fun (c21 : (Int32.ofNat 0) = (0 : Int32)) => ?_) (fun (c21 : ¬ ((Int32.ofNat 0) = (0 : Int32))) => ?_)
          · skip
            refine g_iconst X at_106 rfl (q := 107) (v := 1) rfl ?_
            refine g_goto X at_107 (by decide) (q := 111) rfl ?_
            exact J111_20 T X _ (bI_t c21)
          · skip
            refine g_iconst X at_110 rfl (q := 111) (v := 0) rfl ?_
            exact J111_20 T X _ (bI_f c21)
    · skip
      have b_x24 : (2 : Int) ≤ x24.toInt ∧ x24.toInt ≤ 0 := by have z0 := c2; (try simp only [Int64.lt_iff_toInt_lt, Int32.lt_iff_toInt_lt, Int64.le_iff_toInt_le, Int32.le_iff_toInt_le, ← Int64.toInt_inj, ← Int32.toInt_inj, apply_ite Int64.toInt, apply_ite Int32.toInt, Int64.reduceToInt, Int32.reduceToInt, ne_eq] at z0); have z1 := rng32 x24; omega
      refine g_aload X at_68 rfl (q := 70) rfl rfl ?_
      refine g_iload X at_70 rfl (q := 72) rfl ?_
      refine g_iloadN X at_72 rfl (q := 73) rfl ?_
      refine g_callV X O_b13.1 [(.int x10), (.int p4)] [] (tw44 hw) (tw45 hw) (tw47 hw) (tw46 hw) (tw3 hw) (tw48 hw) (by decide) (rm8 l Z a0 hw [] b13 x10 p4 k1_42 m1_42 u1_42 sh_42 mk_42 sz_42 C_42 (fun _ => (-1 : Int64)) (fun _ => 0) (fun _ => 0) (fun _ => 0) 0 _ n0 X.size O_b13 A_k1_42 A_m1_42 A_u1_42 g_b13 g_k1_42 g_m1_42 g_u1_42 ne_b13_k1_42 ne_b13_m1_42 ne_b13_u1_42 ne_k1_42_b13 ne_k1_42_m1_42 ne_k1_42_u1_42 ne_m1_42_b13 ne_m1_42_k1_42 ne_m1_42_u1_42 ne_u1_42_b13 ne_u1_42_k1_42 ne_u1_42_m1_42 (by omega) hz_42 (own_pn0 _ _ _ _ _ _ (fun _ _ => rfl)) (by omega) (by omega)) pd0 rfl rfl rfl at_73 (q := 76) rfl (W := 0) rfl (by decide) (by decide) (c2 := 4) (s2 := 44) rfl rfl (by decide) (by decide) (fun v T h' X hQ => ?_)
      obtain ⟨r1_73, K1_73, M1_73, P1_73, ks1_73, n1_73, rfl, Kc, O_b13', A_k1_42', A_m1_42', A_u1_42', hPN1_73, hR_73, hn1_73⟩ := hQ
      have O_b13 := O_b13'
      have A_k1_42 := A_k1_42'
      have A_m1_42 := A_m1_42'
      have A_u1_42 := A_u1_42'
      show Goes p e below s _ n0 _ (T.setTop (mkF m 76 #[.val (.int p1), .val (.int p2), .val (.int p3), .val (.int p4), .val (.int p5), .val (.int p6), .val (.int x4), .val (.int x10), .val (.int x18), .val (.int x24), .val (.int x34), .val (.ref b13), .unset, .unset, .unset, .unset, .unset, .unset] [(.int r1_73)]))
      refine g_pop X at_76 rfl (q := 77) rfl ?_
      refine g_iload X at_77 rfl (q := 79) rfl ?_
      refine g_iconst X at_79 rfl (q := 80) (v := 3) rfl ?_
      refine g_icmpA X at_80 (Or.inl rfl) (q := 83) rfl (by decide) (t := 93) rfl (fun (c22 : x24 < (3 : Int32)) => ?_) (fun (c22 : ¬ (x24 < (3 : Int32))) => ?_)
      · skip
        refine g_aload X at_93 rfl (q := 95) rfl rfl ?_
        refine g_callV X O_b13.1 [] [] (tw53 hw) (tw54 hw) (tw56 hw) (tw55 hw) (tw3 hw) (tw57 hw) (by decide) (rm9 l Z a0 hw [] b13 k1_42 m1_42 u1_42 sh_42 mk_42 sz_42 C_42 K1_73 P1_73 n1_73 M1_73 ks1_73 _ n0 X.size O_b13 A_k1_42 A_u1_42 g_b13 g_k1_42 ne_b13_k1_42 ne_b13_u1_42 ne_k1_42_b13 ne_k1_42_u1_42 ne_u1_42_b13 ne_u1_42_k1_42 hz_42 hPN1_73 (by omega) (by omega)) pd4 rfl rfl rfl at_95 (q := 98) rfl (W := 0) rfl (by decide) (by decide) (c2 := 4) (s2 := 44) rfl rfl (by decide) (by decide) (fun v T h' X hQ => ?_)
        obtain ⟨K1_95, rfl, Kc, O_b13', A_k1_42', hE_95⟩ := hQ
        have A_m1_42 := A_m1_42.keep Kc (ninS ne_m1_42_b13 (ninS ne_m1_42_k1_42 nin0))
        have A_u1_42 := A_u1_42.keep Kc (ninS ne_u1_42_b13 (ninS ne_u1_42_k1_42 nin0))
        have O_b13 := O_b13'
        have A_k1_42 := A_k1_42'
        show Goes p e below s _ n0 _ (T.setTop (mkF m 98 #[.val (.int p1), .val (.int p2), .val (.int p3), .val (.int p4), .val (.int p5), .val (.int p6), .val (.int x4), .val (.int x10), .val (.int x18), .val (.int x24), .val (.int x34), .val (.ref b13), .unset, .unset, .unset, .unset, .unset, .unset] []))
        refine g_aload X at_98 rfl (q := 100) rfl rfl ?_
        refine g_callV X O_b13.1 [] [] (tw58 hw) (tw59 hw) (tw61 hw) (tw60 hw) (tw3 hw) (tw62 hw) (by decide) (rm10 l Z a0 hw [] b13 k1_42 m1_42 u1_42 sh_42 mk_42 (Int32.ofNat 0) _ n0 X.size O_b13) pd5 rfl rfl rfl at_100 (q := 103) rfl (W := 0) rfl (by decide) (by decide) (c2 := 4) (s2 := 44) rfl rfl (by decide) (by decide) (fun v T h' X hQ => ?_)
        obtain ⟨rfl, rfl⟩ := hQ
        show Goes p e below s _ n0 _ (T.setTop (mkF m 103 #[.val (.int p1), .val (.int p2), .val (.int p3), .val (.int p4), .val (.int p5), .val (.int p6), .val (.int x4), .val (.int x10), .val (.int x18), .val (.int x24), .val (.int x34), .val (.ref b13), .unset, .unset, .unset, .unset, .unset, .unset] [(.int (Int32.ofNat 0))]))
        refine g_jT1 X (J := 111) (P := fun (s0_111 : Int32) => s0_111 = (bI ((Int32.ofNat 0) = (0 : Int32)))) (L := fun s0_111 => #[.val (.int p1), .val (.int p2), .val (.int p3), .val (.int p4), .val (.int p5), .val (.int p6), .val (.int x4), .val (.int x10), .val (.int x18), .val (.int x24), .val (.int x34), .val (.ref b13), .unset, .unset, .unset, .unset, .unset, .unset]) (S := fun s0_111 => [(.int s0_111)]) ?_ ?_
        · intro T X s0_111 hs0_111
          replace hs0_111 : s0_111 = (bI ((Int32.ofNat 0) = (0 : Int32))) := hs0_111
          subst hs0_111
          show Goes p e below s _ n0 _ (T.setTop (mkF m 111 #[.val (.int p1), .val (.int p2), .val (.int p3), .val (.int p4), .val (.int p5), .val (.int p6), .val (.int x4), .val (.int x10), .val (.int x18), .val (.int x24), .val (.int x34), .val (.ref b13), .unset, .unset, .unset, .unset, .unset, .unset] [(.int (bI ((Int32.ofNat 0) = (0 : Int32))))]))
          refine g_istore X at_111 rfl (q := 113) (L' := #[.val (.int p1), .val (.int p2), .val (.int p3), .val (.int p4), .val (.int p5), .val (.int p6), .val (.int x4), .val (.int x10), .val (.int x18), .val (.int x24), .val (.int x34), .val (.ref b13), .val (.int (bI ((Int32.ofNat 0) = (0 : Int32)))), .unset, .unset, .unset, .unset, .unset]) rfl ?_
          refine g_aload X at_113 rfl (q := 115) rfl rfl ?_
          refine g_iload X at_115 rfl (q := 117) rfl ?_
          refine g_iload X at_117 rfl (q := 119) rfl ?_
          refine g_callV X O_b13.1 [(.int x18), (.int p5)] [] (tw44 hw) (tw45 hw) (tw47 hw) (tw46 hw) (tw3 hw) (tw48 hw) (by decide) (rm8 l Z a0 hw [] b13 x18 p5 k1_42 m1_42 u1_42 sh_42 mk_42 sz_42 C_42 K1_95 M1_73 P1_73 (fun _ => 0) 0 _ n0 X.size O_b13 A_k1_42 A_m1_42 A_u1_42 g_b13 g_k1_42 g_m1_42 g_u1_42 ne_b13_k1_42 ne_b13_m1_42 ne_b13_u1_42 ne_k1_42_b13 ne_k1_42_m1_42 ne_k1_42_u1_42 ne_m1_42_b13 ne_m1_42_k1_42 ne_m1_42_u1_42 ne_u1_42_b13 ne_u1_42_k1_42 ne_u1_42_m1_42 (by omega) hz_42 (own_pn0 _ _ _ _ _ _ hE_95) (by omega) (by omega)) pd0 rfl rfl rfl at_119 (q := 122) rfl (W := 0) rfl (by decide) (by decide) (c2 := 4) (s2 := 44) rfl rfl (by decide) (by decide) (fun v T h' X hQ => ?_)
          obtain ⟨r1_119, K1_119, M1_119, P1_119, ks1_119, n1_119, rfl, Kc, O_b13', A_k1_42', A_m1_42', A_u1_42', hPN1_119, hR_119, hn1_119⟩ := hQ
          have O_b13 := O_b13'
          have A_k1_42 := A_k1_42'
          have A_m1_42 := A_m1_42'
          have A_u1_42 := A_u1_42'
          show Goes p e below s _ n0 _ (T.setTop (mkF m 122 #[.val (.int p1), .val (.int p2), .val (.int p3), .val (.int p4), .val (.int p5), .val (.int p6), .val (.int x4), .val (.int x10), .val (.int x18), .val (.int x24), .val (.int x34), .val (.ref b13), .val (.int (bI ((Int32.ofNat 0) = (0 : Int32)))), .unset, .unset, .unset, .unset, .unset] [(.int r1_119)]))
          refine g_istore X at_122 rfl (q := 124) (L' := #[.val (.int p1), .val (.int p2), .val (.int p3), .val (.int p4), .val (.int p5), .val (.int p6), .val (.int x4), .val (.int x10), .val (.int x18), .val (.int x24), .val (.int x34), .val (.ref b13), .val (.int (bI ((Int32.ofNat 0) = (0 : Int32)))), .val (.int r1_119), .unset, .unset, .unset, .unset]) rfl ?_
          refine g_aload X at_124 rfl (q := 126) rfl rfl ?_
          refine g_iload X at_126 rfl (q := 128) rfl ?_
          refine g_iloadN X at_128 rfl (q := 129) rfl ?_
          refine g_callV X O_b13.1 [(.int x4), (.int p2)] [] (tw44 hw) (tw45 hw) (tw47 hw) (tw46 hw) (tw3 hw) (tw48 hw) (by decide) (rm8 l Z a0 hw [] b13 x4 p2 k1_42 m1_42 u1_42 sh_42 mk_42 sz_42 C_42 K1_119 M1_119 P1_119 ks1_119 n1_119 _ n0 X.size O_b13 A_k1_42 A_m1_42 A_u1_42 g_b13 g_k1_42 g_m1_42 g_u1_42 ne_b13_k1_42 ne_b13_m1_42 ne_b13_u1_42 ne_k1_42_b13 ne_k1_42_m1_42 ne_k1_42_u1_42 ne_m1_42_b13 ne_m1_42_k1_42 ne_m1_42_u1_42 ne_u1_42_b13 ne_u1_42_k1_42 ne_u1_42_m1_42 (by omega) hz_42 hPN1_119 (by omega) (by omega)) pd0 rfl rfl rfl at_129 (q := 132) rfl (W := 0) rfl (by decide) (by decide) (c2 := 4) (s2 := 44) rfl rfl (by decide) (by decide) (fun v T h' X hQ => ?_)
          obtain ⟨r1_129, K1_129, M1_129, P1_129, ks1_129, n1_129, rfl, Kc, O_b13', A_k1_42', A_m1_42', A_u1_42', hPN1_129, hR_129, hn1_129⟩ := hQ
          have O_b13 := O_b13'
          have A_k1_42 := A_k1_42'
          have A_m1_42 := A_m1_42'
          have A_u1_42 := A_u1_42'
          show Goes p e below s _ n0 _ (T.setTop (mkF m 132 #[.val (.int p1), .val (.int p2), .val (.int p3), .val (.int p4), .val (.int p5), .val (.int p6), .val (.int x4), .val (.int x10), .val (.int x18), .val (.int x24), .val (.int x34), .val (.ref b13), .val (.int (bI ((Int32.ofNat 0) = (0 : Int32)))), .val (.int r1_119), .unset, .unset, .unset, .unset] [(.int r1_129)]))
          refine g_istore X at_132 rfl (q := 134) (L' := #[.val (.int p1), .val (.int p2), .val (.int p3), .val (.int p4), .val (.int p5), .val (.int p6), .val (.int x4), .val (.int x10), .val (.int x18), .val (.int x24), .val (.int x34), .val (.ref b13), .val (.int (bI ((Int32.ofNat 0) = (0 : Int32)))), .val (.int r1_119), .val (.int r1_129), .unset, .unset, .unset]) rfl ?_
          refine g_iload X at_134 rfl (q := 136) rfl ?_
          refine g_iload X at_136 rfl (q := 138) rfl ?_
          refine g_jT1 X (J := 152) (P := fun (s0_152 : Int32) => s0_152 = (bI ((x4 = x18) ∧ (p2 = p5)))) (L := fun s0_152 => #[.val (.int p1), .val (.int p2), .val (.int p3), .val (.int p4), .val (.int p5), .val (.int p6), .val (.int x4), .val (.int x10), .val (.int x18), .val (.int x24), .val (.int x34), .val (.ref b13), .val (.int (bI ((Int32.ofNat 0) = (0 : Int32)))), .val (.int r1_119), .val (.int r1_129), .unset, .unset, .unset]) (S := fun s0_152 => [(.int s0_152)]) ?_ ?_
          · intro T X s0_152 hs0_152
            replace hs0_152 : s0_152 = (bI ((x4 = x18) ∧ (p2 = p5))) := hs0_152
            subst hs0_152
            show Goes p e below s _ n0 _ (T.setTop (mkF m 152 #[.val (.int p1), .val (.int p2), .val (.int p3), .val (.int p4), .val (.int p5), .val (.int p6), .val (.int x4), .val (.int x10), .val (.int x18), .val (.int x24), .val (.int x34), .val (.ref b13), .val (.int (bI ((Int32.ofNat 0) = (0 : Int32)))), .val (.int r1_119), .val (.int r1_129), .unset, .unset, .unset] [(.int (bI ((x4 = x18) ∧ (p2 = p5))))]))
            refine g_istore X at_152 rfl (q := 154) (L' := #[.val (.int p1), .val (.int p2), .val (.int p3), .val (.int p4), .val (.int p5), .val (.int p6), .val (.int x4), .val (.int x10), .val (.int x18), .val (.int x24), .val (.int x34), .val (.ref b13), .val (.int (bI ((Int32.ofNat 0) = (0 : Int32)))), .val (.int r1_119), .val (.int r1_129), .val (.int (bI ((x4 = x18) ∧ (p2 = p5)))), .unset, .unset]) rfl ?_
            refine g_iload X at_154 rfl (q := 156) rfl ?_
            refine g_jT1 X (J := 164) (P := fun (s0_164 : Int32) => s0_164 = (bI (¬ ((x4 = x18) ∧ (p2 = p5))))) (L := fun s0_164 => #[.val (.int p1), .val (.int p2), .val (.int p3), .val (.int p4), .val (.int p5), .val (.int p6), .val (.int x4), .val (.int x10), .val (.int x18), .val (.int x24), .val (.int x34), .val (.ref b13), .val (.int (bI ((Int32.ofNat 0) = (0 : Int32)))), .val (.int r1_119), .val (.int r1_129), .val (.int (bI ((x4 = x18) ∧ (p2 = p5)))), .unset, .unset]) (S := fun s0_164 => [(.int s0_164)]) ?_ ?_
            · intro T X s0_164 hs0_164
              replace hs0_164 : s0_164 = (bI (¬ ((x4 = x18) ∧ (p2 = p5)))) := hs0_164
              subst hs0_164
              show Goes p e below s _ n0 _ (T.setTop (mkF m 164 #[.val (.int p1), .val (.int p2), .val (.int p3), .val (.int p4), .val (.int p5), .val (.int p6), .val (.int x4), .val (.int x10), .val (.int x18), .val (.int x24), .val (.int x34), .val (.ref b13), .val (.int (bI ((Int32.ofNat 0) = (0 : Int32)))), .val (.int r1_119), .val (.int r1_129), .val (.int (bI ((x4 = x18) ∧ (p2 = p5)))), .unset, .unset] [(.int (bI (¬ ((x4 = x18) ∧ (p2 = p5)))))]))
              refine g_istore X at_164 rfl (q := 166) (L' := #[.val (.int p1), .val (.int p2), .val (.int p3), .val (.int p4), .val (.int p5), .val (.int p6), .val (.int x4), .val (.int x10), .val (.int x18), .val (.int x24), .val (.int x34), .val (.ref b13), .val (.int (bI ((Int32.ofNat 0) = (0 : Int32)))), .val (.int r1_119), .val (.int r1_129), .val (.int (bI ((x4 = x18) ∧ (p2 = p5)))), .val (.int (bI (¬ ((x4 = x18) ∧ (p2 = p5))))), .unset]) rfl ?_
              refine g_iload X at_166 rfl (q := 168) rfl ?_
              refine g_jT1 X (J := 176) (P := fun (s0_176 : Int32) => s0_176 = (if (x4 = x18) ∧ (p2 = p5) then (1 : Int32) else (2 : Int32))) (L := fun s0_176 => #[.val (.int p1), .val (.int p2), .val (.int p3), .val (.int p4), .val (.int p5), .val (.int p6), .val (.int x4), .val (.int x10), .val (.int x18), .val (.int x24), .val (.int x34), .val (.ref b13), .val (.int (bI ((Int32.ofNat 0) = (0 : Int32)))), .val (.int r1_119), .val (.int r1_129), .val (.int (bI ((x4 = x18) ∧ (p2 = p5)))), .val (.int (bI (¬ ((x4 = x18) ∧ (p2 = p5))))), .unset]) (S := fun s0_176 => [(.int s0_176)]) ?_ ?_
              · intro T X s0_176 hs0_176
                replace hs0_176 : s0_176 = (if (x4 = x18) ∧ (p2 = p5) then (1 : Int32) else (2 : Int32)) := hs0_176
                show Goes p e below s _ n0 _ (T.setTop (mkF m 176 #[.val (.int p1), .val (.int p2), .val (.int p3), .val (.int p4), .val (.int p5), .val (.int p6), .val (.int x4), .val (.int x10), .val (.int x18), .val (.int x24), .val (.int x34), .val (.ref b13), .val (.int (bI ((Int32.ofNat 0) = (0 : Int32)))), .val (.int r1_119), .val (.int r1_129), .val (.int (bI ((x4 = x18) ∧ (p2 = p5)))), .val (.int (bI (¬ ((x4 = x18) ∧ (p2 = p5))))), .unset] [(.int s0_176)]))
                have b_s0_176 : (1 : Int) ≤ s0_176.toInt ∧ s0_176.toInt ≤ 2 := by
                  have z0 := hs0_176
                  have f1 := rng32 p2
                  have f2 := rng32 p5
                  have e0 := congrArg Int32.toInt z0
                  (try simp only [Int64.lt_iff_toInt_lt, Int32.lt_iff_toInt_lt, Int64.le_iff_toInt_le, Int32.le_iff_toInt_le, ← Int64.toInt_inj, ← Int32.toInt_inj, apply_ite Int64.toInt, apply_ite Int32.toInt, Int64.reduceToInt, Int32.reduceToInt, ne_eq, true_and, and_true, false_or, or_false, iff_self, and_self, not_true_eq_false, not_false_eq_true] at e0)
                  omega
                refine g_istore X at_176 rfl (q := 178) (L' := #[.val (.int p1), .val (.int p2), .val (.int p3), .val (.int p4), .val (.int p5), .val (.int p6), .val (.int x4), .val (.int x10), .val (.int x18), .val (.int x24), .val (.int x34), .val (.ref b13), .val (.int (bI ((Int32.ofNat 0) = (0 : Int32)))), .val (.int r1_119), .val (.int r1_129), .val (.int (bI ((x4 = x18) ∧ (p2 = p5)))), .val (.int (bI (¬ ((x4 = x18) ∧ (p2 = p5))))), .val (.int s0_176)]) rfl ?_
                refine g_iload X at_178 rfl (q := 180) rfl ?_
                refine g_jT1 X (J := 210) (P := fun (s0_210 : Int32) => s0_210 = (bI (((Int32.ofNat 0) = (0 : Int32)) ∧ ((r1_119 = (0 : Int32)) ∧ ((r1_129 = (bI (¬ ((x4 = x18) ∧ (p2 = p5))))) ∧ ((Int32.ofNat n1_129) = s0_176)))))) (L := fun s0_210 => #[.val (.int p1), .val (.int p2), .val (.int p3), .val (.int p4), .val (.int p5), .val (.int p6), .val (.int x4), .val (.int x10), .val (.int x18), .val (.int x24), .val (.int x34), .val (.ref b13), .val (.int (bI ((Int32.ofNat 0) = (0 : Int32)))), .val (.int r1_119), .val (.int r1_129), .val (.int (bI ((x4 = x18) ∧ (p2 = p5)))), .val (.int (bI (¬ ((x4 = x18) ∧ (p2 = p5))))), .val (.int s0_176)]) (S := fun s0_210 => [(.int s0_210)]) ?_ ?_
                · intro T X s0_210 hs0_210
                  replace hs0_210 : s0_210 = (bI (((Int32.ofNat 0) = (0 : Int32)) ∧ ((r1_119 = (0 : Int32)) ∧ ((r1_129 = (bI (¬ ((x4 = x18) ∧ (p2 = p5))))) ∧ ((Int32.ofNat n1_129) = s0_176))))) := hs0_210
                  subst hs0_210
                  show Goes p e below s _ n0 _ (T.setTop (mkF m 210 #[.val (.int p1), .val (.int p2), .val (.int p3), .val (.int p4), .val (.int p5), .val (.int p6), .val (.int x4), .val (.int x10), .val (.int x18), .val (.int x24), .val (.int x34), .val (.ref b13), .val (.int (bI ((Int32.ofNat 0) = (0 : Int32)))), .val (.int r1_119), .val (.int r1_129), .val (.int (bI ((x4 = x18) ∧ (p2 = p5)))), .val (.int (bI (¬ ((x4 = x18) ∧ (p2 = p5))))), .val (.int s0_176)] [(.int (bI (((Int32.ofNat 0) = (0 : Int32)) ∧ ((r1_119 = (0 : Int32)) ∧ ((r1_129 = (bI (¬ ((x4 = x18) ∧ (p2 = p5))))) ∧ ((Int32.ofNat n1_129) = s0_176))))))]))
                  refine g_retZ X at_210 (by decide) (by decide) (bI_01 _) (own_fin ?_)
                  show ((Int32.ofNat 0) = (0 : Int32)) ∧ ((r1_119 = (0 : Int32)) ∧ ((r1_129 = (bI (¬ ((x4 = x18) ∧ (p2 = p5))))) ∧ ((Int32.ofNat n1_129) = s0_176)))
                  have E := own_keyE (f := x4) (s := p2) (f' := x18) (s' := p5) (by omega) (by omega)
                  have F := own_fin2 hR_119 hR_129
                  refine ⟨rfl, F.1, ?_, ?_⟩
                  · by_cases q : (x4 = x18) ∧ (p2 = p5)
                    · rw [(F.2.1 (E.mpr q)).1]; exact bI_f (fun z => z q)
                    · rw [(F.2.2 (fun z => q (E.mp z))).1]; exact bI_t q
                  · rw [hs0_176]; by_cases q : (x4 = x18) ∧ (p2 = p5)
                    · rw [(F.2.1 (E.mpr q)).2, if_pos q]
                    · rw [(F.2.2 (fun z => q (E.mp z))).2, if_neg q]
                · intro J210_22
                  refine g_beq X at_180 (q := 183) rfl (by decide) (t := 209) rfl (fun (c23 : (Int32.ofNat 0) = (0 : Int32)) => ?_) (fun (c23 : ¬ ((Int32.ofNat 0) = (0 : Int32))) => ?_)
                  · skip
                    refine g_iload X at_183 rfl (q := 185) rfl ?_
                    refine g_ifB X at_185 (Or.inr (Or.inr rfl)) (q := 188) rfl (by decide) (t := 209) rfl (fun (c24 : r1_119 = (0 : Int32)) => ?_) (fun (c24 : ¬ (r1_119 = (0 : Int32))) => ?_)
                    · skip
                      refine g_iload X at_188 rfl (q := 190) rfl ?_
                      refine g_iload X at_190 rfl (q := 192) rfl ?_
                      refine g_icmpB X at_192 (Or.inr (Or.inr rfl)) (q := 195) rfl (by decide) (t := 209) rfl (fun (c25 : r1_129 = (bI (¬ ((x4 = x18) ∧ (p2 = p5))))) => ?_) (fun (c25 : ¬ (r1_129 = (bI (¬ ((x4 = x18) ∧ (p2 = p5)))))) => ?_)
                      · skip
                        refine g_aload X at_195 rfl (q := 197) rfl rfl ?_
                        refine g_callV X O_b13.1 [] [] (tw58 hw) (tw59 hw) (tw61 hw) (tw60 hw) (tw3 hw) (tw62 hw) (by decide) (rm10 l Z a0 hw [] b13 k1_42 m1_42 u1_42 sh_42 mk_42 (Int32.ofNat n1_129) _ n0 X.size O_b13) pd5 rfl rfl rfl at_197 (q := 200) rfl (W := 0) rfl (by decide) (by decide) (c2 := 4) (s2 := 44) rfl rfl (by decide) (by decide) (fun v T h' X hQ => ?_)
                        obtain ⟨rfl, rfl⟩ := hQ
                        show Goes p e below s _ n0 _ (T.setTop (mkF m 200 #[.val (.int p1), .val (.int p2), .val (.int p3), .val (.int p4), .val (.int p5), .val (.int p6), .val (.int x4), .val (.int x10), .val (.int x18), .val (.int x24), .val (.int x34), .val (.ref b13), .val (.int (bI ((Int32.ofNat 0) = (0 : Int32)))), .val (.int r1_119), .val (.int r1_129), .val (.int (bI ((x4 = x18) ∧ (p2 = p5)))), .val (.int (bI (¬ ((x4 = x18) ∧ (p2 = p5))))), .val (.int s0_176)] [(.int (Int32.ofNat n1_129))]))
                        refine g_iload X at_200 rfl (q := 202) rfl ?_
                        refine g_icmpB X at_202 (Or.inr (Or.inr rfl)) (q := 205) rfl (by decide) (t := 209) rfl (fun (c26 : (Int32.ofNat n1_129) = s0_176) => ?_) (fun (c26 : ¬ ((Int32.ofNat n1_129) = s0_176)) => ?_)
                        · skip
                          refine g_iconst X at_205 rfl (q := 206) (v := 1) rfl ?_
                          refine g_goto X at_206 (by decide) (q := 210) rfl ?_
                          exact J210_22 T X _ (bI_t ⟨c23, ⟨c24, ⟨c25, c26⟩⟩⟩)
                        · skip
                          refine g_iconst X at_209 rfl (q := 210) (v := 0) rfl ?_
                          exact J210_22 T X _ (bI_f (fun z => (fun z => (fun z => c26 z.2) z.2) z.2))
                      · skip
                        refine g_iconst X at_209 rfl (q := 210) (v := 0) rfl ?_
                        exact J210_22 T X _ (bI_f (fun z => (fun z => (fun z => c25 z.1) z.2) z.2))
                    · skip
                      refine g_iconst X at_209 rfl (q := 210) (v := 0) rfl ?_
                      exact J210_22 T X _ (bI_f (fun z => (fun z => c24 z.1) z.2))
                  · skip
                    refine g_iconst X at_209 rfl (q := 210) (v := 0) rfl ?_
                    exact J210_22 T X _ (bI_f (fun z => c23 z.1))
              · intro J176_26
                refine g_beq X at_168 (q := 171) rfl (by decide) (t := 175) rfl (fun (c27 : (x4 = x18) ∧ (p2 = p5)) => ?_) (fun (c27 : ¬ ((x4 = x18) ∧ (p2 = p5))) => ?_)
                · skip
                  refine g_iconst X at_171 rfl (q := 172) (v := 1) rfl ?_
                  refine g_goto X at_172 (by decide) (q := 176) rfl ?_
                  exact J176_26 T X _ ((if_pos c27).symm)
                · skip
                  refine g_iconst X at_175 rfl (q := 176) (v := 2) rfl ?_
                  exact J176_26 T X _ ((if_neg c27).symm)
            · intro J164_27
              refine g_beq X at_156 (q := 159) rfl (by decide) (t := 163) rfl (fun (c28 : (x4 = x18) ∧ (p2 = p5)) => ?_) (fun (c28 : ¬ ((x4 = x18) ∧ (p2 = p5))) => ?_)
              · skip
                refine g_iconst X at_159 rfl (q := 160) (v := 0) rfl ?_
                refine g_goto X at_160 (by decide) (q := 164) rfl ?_
                exact J164_27 T X _ (bI_f (fun z => z c28))
              · skip
                refine g_iconst X at_163 rfl (q := 164) (v := 1) rfl ?_
                exact J164_27 T X _ (bI_t c28)
          · intro J152_28
            refine g_icmpB X at_138 (Or.inr (Or.inr rfl)) (q := 141) rfl (by decide) (t := 151) rfl (fun (c29 : x4 = x18) => ?_) (fun (c29 : ¬ (x4 = x18)) => ?_)
            · skip
              refine g_iloadN X at_141 rfl (q := 142) rfl ?_
              refine g_iload X at_142 rfl (q := 144) rfl ?_
              refine g_icmpB X at_144 (Or.inr (Or.inr rfl)) (q := 147) rfl (by decide) (t := 151) rfl (fun (c30 : p2 = p5) => ?_) (fun (c30 : ¬ (p2 = p5)) => ?_)
              · skip
                refine g_iconst X at_147 rfl (q := 148) (v := 1) rfl ?_
                refine g_goto X at_148 (by decide) (q := 152) rfl ?_
                exact J152_28 T X _ (bI_t ⟨c29, c30⟩)
              · skip
                refine g_iconst X at_151 rfl (q := 152) (v := 0) rfl ?_
                exact J152_28 T X _ (bI_f (fun z => c30 z.2))
            · skip
              refine g_iconst X at_151 rfl (q := 152) (v := 0) rfl ?_
              exact J152_28 T X _ (bI_f (fun z => c29 z.1))
        · intro J111_30
          refine g_ifB X at_103 (Or.inr (Or.inr rfl)) (q := 106) rfl (by decide) (t := 110) rfl (fun (c31 : (Int32.ofNat 0) = (0 : Int32)) => ?_) (fun (c31 : ¬ ((Int32.ofNat 0) = (0 : Int32))) => ?_)
          · skip
            refine g_iconst X at_106 rfl (q := 107) (v := 1) rfl ?_
            refine g_goto X at_107 (by decide) (q := 111) rfl ?_
            exact J111_30 T X _ (bI_t c31)
          · skip
            refine g_iconst X at_110 rfl (q := 111) (v := 0) rfl ?_
            exact J111_30 T X _ (bI_f c31)
      · skip
        have b_x24 : (3 : Int) ≤ x24.toInt ∧ x24.toInt ≤ 0 := by have z0 := c22; (try simp only [Int64.lt_iff_toInt_lt, Int32.lt_iff_toInt_lt, Int64.le_iff_toInt_le, Int32.le_iff_toInt_le, ← Int64.toInt_inj, ← Int32.toInt_inj, apply_ite Int64.toInt, apply_ite Int32.toInt, Int64.reduceToInt, Int32.reduceToInt, ne_eq] at z0); have z1 := rng32 x24; omega
        refine g_aload X at_83 rfl (q := 85) rfl rfl ?_
        refine g_iload X at_85 rfl (q := 87) rfl ?_
        refine g_iload X at_87 rfl (q := 89) rfl ?_
        refine g_callV X O_b13.1 [(.int x18), (.int p5)] [] (tw44 hw) (tw45 hw) (tw47 hw) (tw46 hw) (tw3 hw) (tw48 hw) (by decide) (rm8 l Z a0 hw [] b13 x18 p5 k1_42 m1_42 u1_42 sh_42 mk_42 sz_42 C_42 K1_73 M1_73 P1_73 ks1_73 n1_73 _ n0 X.size O_b13 A_k1_42 A_m1_42 A_u1_42 g_b13 g_k1_42 g_m1_42 g_u1_42 ne_b13_k1_42 ne_b13_m1_42 ne_b13_u1_42 ne_k1_42_b13 ne_k1_42_m1_42 ne_k1_42_u1_42 ne_m1_42_b13 ne_m1_42_k1_42 ne_m1_42_u1_42 ne_u1_42_b13 ne_u1_42_k1_42 ne_u1_42_m1_42 (by omega) hz_42 hPN1_73 (by omega) (by omega)) pd0 rfl rfl rfl at_89 (q := 92) rfl (W := 0) rfl (by decide) (by decide) (c2 := 4) (s2 := 44) rfl rfl (by decide) (by decide) (fun v T h' X hQ => ?_)
        obtain ⟨r1_89, K1_89, M1_89, P1_89, ks1_89, n1_89, rfl, Kc, O_b13', A_k1_42', A_m1_42', A_u1_42', hPN1_89, hR_89, hn1_89⟩ := hQ
        have O_b13 := O_b13'
        have A_k1_42 := A_k1_42'
        have A_m1_42 := A_m1_42'
        have A_u1_42 := A_u1_42'
        show Goes p e below s _ n0 _ (T.setTop (mkF m 92 #[.val (.int p1), .val (.int p2), .val (.int p3), .val (.int p4), .val (.int p5), .val (.int p6), .val (.int x4), .val (.int x10), .val (.int x18), .val (.int x24), .val (.int x34), .val (.ref b13), .unset, .unset, .unset, .unset, .unset, .unset] [(.int r1_89)]))
        refine g_pop X at_92 rfl (q := 93) rfl ?_
        refine g_aload X at_93 rfl (q := 95) rfl rfl ?_
        refine g_callV X O_b13.1 [] [] (tw53 hw) (tw54 hw) (tw56 hw) (tw55 hw) (tw3 hw) (tw57 hw) (by decide) (rm9 l Z a0 hw [] b13 k1_42 m1_42 u1_42 sh_42 mk_42 sz_42 C_42 K1_89 P1_89 n1_89 M1_89 ks1_89 _ n0 X.size O_b13 A_k1_42 A_u1_42 g_b13 g_k1_42 ne_b13_k1_42 ne_b13_u1_42 ne_k1_42_b13 ne_k1_42_u1_42 ne_u1_42_b13 ne_u1_42_k1_42 hz_42 hPN1_89 (by omega) (by omega)) pd4 rfl rfl rfl at_95 (q := 98) rfl (W := 0) rfl (by decide) (by decide) (c2 := 4) (s2 := 44) rfl rfl (by decide) (by decide) (fun v T h' X hQ => ?_)
        obtain ⟨K1_95, rfl, Kc, O_b13', A_k1_42', hE_95⟩ := hQ
        have A_m1_42 := A_m1_42.keep Kc (ninS ne_m1_42_b13 (ninS ne_m1_42_k1_42 nin0))
        have A_u1_42 := A_u1_42.keep Kc (ninS ne_u1_42_b13 (ninS ne_u1_42_k1_42 nin0))
        have O_b13 := O_b13'
        have A_k1_42 := A_k1_42'
        show Goes p e below s _ n0 _ (T.setTop (mkF m 98 #[.val (.int p1), .val (.int p2), .val (.int p3), .val (.int p4), .val (.int p5), .val (.int p6), .val (.int x4), .val (.int x10), .val (.int x18), .val (.int x24), .val (.int x34), .val (.ref b13), .unset, .unset, .unset, .unset, .unset, .unset] []))
        refine g_aload X at_98 rfl (q := 100) rfl rfl ?_
        refine g_callV X O_b13.1 [] [] (tw58 hw) (tw59 hw) (tw61 hw) (tw60 hw) (tw3 hw) (tw62 hw) (by decide) (rm10 l Z a0 hw [] b13 k1_42 m1_42 u1_42 sh_42 mk_42 (Int32.ofNat 0) _ n0 X.size O_b13) pd5 rfl rfl rfl at_100 (q := 103) rfl (W := 0) rfl (by decide) (by decide) (c2 := 4) (s2 := 44) rfl rfl (by decide) (by decide) (fun v T h' X hQ => ?_)
        obtain ⟨rfl, rfl⟩ := hQ
        show Goes p e below s _ n0 _ (T.setTop (mkF m 103 #[.val (.int p1), .val (.int p2), .val (.int p3), .val (.int p4), .val (.int p5), .val (.int p6), .val (.int x4), .val (.int x10), .val (.int x18), .val (.int x24), .val (.int x34), .val (.ref b13), .unset, .unset, .unset, .unset, .unset, .unset] [(.int (Int32.ofNat 0))]))
        refine g_jT1 X (J := 111) (P := fun (s0_111 : Int32) => s0_111 = (bI ((Int32.ofNat 0) = (0 : Int32)))) (L := fun s0_111 => #[.val (.int p1), .val (.int p2), .val (.int p3), .val (.int p4), .val (.int p5), .val (.int p6), .val (.int x4), .val (.int x10), .val (.int x18), .val (.int x24), .val (.int x34), .val (.ref b13), .unset, .unset, .unset, .unset, .unset, .unset]) (S := fun s0_111 => [(.int s0_111)]) ?_ ?_
        · intro T X s0_111 hs0_111
          replace hs0_111 : s0_111 = (bI ((Int32.ofNat 0) = (0 : Int32))) := hs0_111
          subst hs0_111
          show Goes p e below s _ n0 _ (T.setTop (mkF m 111 #[.val (.int p1), .val (.int p2), .val (.int p3), .val (.int p4), .val (.int p5), .val (.int p6), .val (.int x4), .val (.int x10), .val (.int x18), .val (.int x24), .val (.int x34), .val (.ref b13), .unset, .unset, .unset, .unset, .unset, .unset] [(.int (bI ((Int32.ofNat 0) = (0 : Int32))))]))
          refine g_istore X at_111 rfl (q := 113) (L' := #[.val (.int p1), .val (.int p2), .val (.int p3), .val (.int p4), .val (.int p5), .val (.int p6), .val (.int x4), .val (.int x10), .val (.int x18), .val (.int x24), .val (.int x34), .val (.ref b13), .val (.int (bI ((Int32.ofNat 0) = (0 : Int32)))), .unset, .unset, .unset, .unset, .unset]) rfl ?_
          refine g_aload X at_113 rfl (q := 115) rfl rfl ?_
          refine g_iload X at_115 rfl (q := 117) rfl ?_
          refine g_iload X at_117 rfl (q := 119) rfl ?_
          refine g_callV X O_b13.1 [(.int x18), (.int p5)] [] (tw44 hw) (tw45 hw) (tw47 hw) (tw46 hw) (tw3 hw) (tw48 hw) (by decide) (rm8 l Z a0 hw [] b13 x18 p5 k1_42 m1_42 u1_42 sh_42 mk_42 sz_42 C_42 K1_95 M1_89 P1_89 (fun _ => 0) 0 _ n0 X.size O_b13 A_k1_42 A_m1_42 A_u1_42 g_b13 g_k1_42 g_m1_42 g_u1_42 ne_b13_k1_42 ne_b13_m1_42 ne_b13_u1_42 ne_k1_42_b13 ne_k1_42_m1_42 ne_k1_42_u1_42 ne_m1_42_b13 ne_m1_42_k1_42 ne_m1_42_u1_42 ne_u1_42_b13 ne_u1_42_k1_42 ne_u1_42_m1_42 (by omega) hz_42 (own_pn0 _ _ _ _ _ _ hE_95) (by omega) (by omega)) pd0 rfl rfl rfl at_119 (q := 122) rfl (W := 0) rfl (by decide) (by decide) (c2 := 4) (s2 := 44) rfl rfl (by decide) (by decide) (fun v T h' X hQ => ?_)
          obtain ⟨r1_119, K1_119, M1_119, P1_119, ks1_119, n1_119, rfl, Kc, O_b13', A_k1_42', A_m1_42', A_u1_42', hPN1_119, hR_119, hn1_119⟩ := hQ
          have O_b13 := O_b13'
          have A_k1_42 := A_k1_42'
          have A_m1_42 := A_m1_42'
          have A_u1_42 := A_u1_42'
          show Goes p e below s _ n0 _ (T.setTop (mkF m 122 #[.val (.int p1), .val (.int p2), .val (.int p3), .val (.int p4), .val (.int p5), .val (.int p6), .val (.int x4), .val (.int x10), .val (.int x18), .val (.int x24), .val (.int x34), .val (.ref b13), .val (.int (bI ((Int32.ofNat 0) = (0 : Int32)))), .unset, .unset, .unset, .unset, .unset] [(.int r1_119)]))
          refine g_istore X at_122 rfl (q := 124) (L' := #[.val (.int p1), .val (.int p2), .val (.int p3), .val (.int p4), .val (.int p5), .val (.int p6), .val (.int x4), .val (.int x10), .val (.int x18), .val (.int x24), .val (.int x34), .val (.ref b13), .val (.int (bI ((Int32.ofNat 0) = (0 : Int32)))), .val (.int r1_119), .unset, .unset, .unset, .unset]) rfl ?_
          refine g_aload X at_124 rfl (q := 126) rfl rfl ?_
          refine g_iload X at_126 rfl (q := 128) rfl ?_
          refine g_iloadN X at_128 rfl (q := 129) rfl ?_
          refine g_callV X O_b13.1 [(.int x4), (.int p2)] [] (tw44 hw) (tw45 hw) (tw47 hw) (tw46 hw) (tw3 hw) (tw48 hw) (by decide) (rm8 l Z a0 hw [] b13 x4 p2 k1_42 m1_42 u1_42 sh_42 mk_42 sz_42 C_42 K1_119 M1_119 P1_119 ks1_119 n1_119 _ n0 X.size O_b13 A_k1_42 A_m1_42 A_u1_42 g_b13 g_k1_42 g_m1_42 g_u1_42 ne_b13_k1_42 ne_b13_m1_42 ne_b13_u1_42 ne_k1_42_b13 ne_k1_42_m1_42 ne_k1_42_u1_42 ne_m1_42_b13 ne_m1_42_k1_42 ne_m1_42_u1_42 ne_u1_42_b13 ne_u1_42_k1_42 ne_u1_42_m1_42 (by omega) hz_42 hPN1_119 (by omega) (by omega)) pd0 rfl rfl rfl at_129 (q := 132) rfl (W := 0) rfl (by decide) (by decide) (c2 := 4) (s2 := 44) rfl rfl (by decide) (by decide) (fun v T h' X hQ => ?_)
          obtain ⟨r1_129, K1_129, M1_129, P1_129, ks1_129, n1_129, rfl, Kc, O_b13', A_k1_42', A_m1_42', A_u1_42', hPN1_129, hR_129, hn1_129⟩ := hQ
          have O_b13 := O_b13'
          have A_k1_42 := A_k1_42'
          have A_m1_42 := A_m1_42'
          have A_u1_42 := A_u1_42'
          show Goes p e below s _ n0 _ (T.setTop (mkF m 132 #[.val (.int p1), .val (.int p2), .val (.int p3), .val (.int p4), .val (.int p5), .val (.int p6), .val (.int x4), .val (.int x10), .val (.int x18), .val (.int x24), .val (.int x34), .val (.ref b13), .val (.int (bI ((Int32.ofNat 0) = (0 : Int32)))), .val (.int r1_119), .unset, .unset, .unset, .unset] [(.int r1_129)]))
          refine g_istore X at_132 rfl (q := 134) (L' := #[.val (.int p1), .val (.int p2), .val (.int p3), .val (.int p4), .val (.int p5), .val (.int p6), .val (.int x4), .val (.int x10), .val (.int x18), .val (.int x24), .val (.int x34), .val (.ref b13), .val (.int (bI ((Int32.ofNat 0) = (0 : Int32)))), .val (.int r1_119), .val (.int r1_129), .unset, .unset, .unset]) rfl ?_
          refine g_iload X at_134 rfl (q := 136) rfl ?_
          refine g_iload X at_136 rfl (q := 138) rfl ?_
          refine g_jT1 X (J := 152) (P := fun (s0_152 : Int32) => s0_152 = (bI ((x4 = x18) ∧ (p2 = p5)))) (L := fun s0_152 => #[.val (.int p1), .val (.int p2), .val (.int p3), .val (.int p4), .val (.int p5), .val (.int p6), .val (.int x4), .val (.int x10), .val (.int x18), .val (.int x24), .val (.int x34), .val (.ref b13), .val (.int (bI ((Int32.ofNat 0) = (0 : Int32)))), .val (.int r1_119), .val (.int r1_129), .unset, .unset, .unset]) (S := fun s0_152 => [(.int s0_152)]) ?_ ?_
          · intro T X s0_152 hs0_152
            replace hs0_152 : s0_152 = (bI ((x4 = x18) ∧ (p2 = p5))) := hs0_152
            subst hs0_152
            show Goes p e below s _ n0 _ (T.setTop (mkF m 152 #[.val (.int p1), .val (.int p2), .val (.int p3), .val (.int p4), .val (.int p5), .val (.int p6), .val (.int x4), .val (.int x10), .val (.int x18), .val (.int x24), .val (.int x34), .val (.ref b13), .val (.int (bI ((Int32.ofNat 0) = (0 : Int32)))), .val (.int r1_119), .val (.int r1_129), .unset, .unset, .unset] [(.int (bI ((x4 = x18) ∧ (p2 = p5))))]))
            refine g_istore X at_152 rfl (q := 154) (L' := #[.val (.int p1), .val (.int p2), .val (.int p3), .val (.int p4), .val (.int p5), .val (.int p6), .val (.int x4), .val (.int x10), .val (.int x18), .val (.int x24), .val (.int x34), .val (.ref b13), .val (.int (bI ((Int32.ofNat 0) = (0 : Int32)))), .val (.int r1_119), .val (.int r1_129), .val (.int (bI ((x4 = x18) ∧ (p2 = p5)))), .unset, .unset]) rfl ?_
            refine g_iload X at_154 rfl (q := 156) rfl ?_
            refine g_jT1 X (J := 164) (P := fun (s0_164 : Int32) => s0_164 = (bI (¬ ((x4 = x18) ∧ (p2 = p5))))) (L := fun s0_164 => #[.val (.int p1), .val (.int p2), .val (.int p3), .val (.int p4), .val (.int p5), .val (.int p6), .val (.int x4), .val (.int x10), .val (.int x18), .val (.int x24), .val (.int x34), .val (.ref b13), .val (.int (bI ((Int32.ofNat 0) = (0 : Int32)))), .val (.int r1_119), .val (.int r1_129), .val (.int (bI ((x4 = x18) ∧ (p2 = p5)))), .unset, .unset]) (S := fun s0_164 => [(.int s0_164)]) ?_ ?_
            · intro T X s0_164 hs0_164
              replace hs0_164 : s0_164 = (bI (¬ ((x4 = x18) ∧ (p2 = p5)))) := hs0_164
              subst hs0_164
              show Goes p e below s _ n0 _ (T.setTop (mkF m 164 #[.val (.int p1), .val (.int p2), .val (.int p3), .val (.int p4), .val (.int p5), .val (.int p6), .val (.int x4), .val (.int x10), .val (.int x18), .val (.int x24), .val (.int x34), .val (.ref b13), .val (.int (bI ((Int32.ofNat 0) = (0 : Int32)))), .val (.int r1_119), .val (.int r1_129), .val (.int (bI ((x4 = x18) ∧ (p2 = p5)))), .unset, .unset] [(.int (bI (¬ ((x4 = x18) ∧ (p2 = p5)))))]))
              refine g_istore X at_164 rfl (q := 166) (L' := #[.val (.int p1), .val (.int p2), .val (.int p3), .val (.int p4), .val (.int p5), .val (.int p6), .val (.int x4), .val (.int x10), .val (.int x18), .val (.int x24), .val (.int x34), .val (.ref b13), .val (.int (bI ((Int32.ofNat 0) = (0 : Int32)))), .val (.int r1_119), .val (.int r1_129), .val (.int (bI ((x4 = x18) ∧ (p2 = p5)))), .val (.int (bI (¬ ((x4 = x18) ∧ (p2 = p5))))), .unset]) rfl ?_
              refine g_iload X at_166 rfl (q := 168) rfl ?_
              refine g_jT1 X (J := 176) (P := fun (s0_176 : Int32) => s0_176 = (if (x4 = x18) ∧ (p2 = p5) then (1 : Int32) else (2 : Int32))) (L := fun s0_176 => #[.val (.int p1), .val (.int p2), .val (.int p3), .val (.int p4), .val (.int p5), .val (.int p6), .val (.int x4), .val (.int x10), .val (.int x18), .val (.int x24), .val (.int x34), .val (.ref b13), .val (.int (bI ((Int32.ofNat 0) = (0 : Int32)))), .val (.int r1_119), .val (.int r1_129), .val (.int (bI ((x4 = x18) ∧ (p2 = p5)))), .val (.int (bI (¬ ((x4 = x18) ∧ (p2 = p5))))), .unset]) (S := fun s0_176 => [(.int s0_176)]) ?_ ?_
              · intro T X s0_176 hs0_176
                replace hs0_176 : s0_176 = (if (x4 = x18) ∧ (p2 = p5) then (1 : Int32) else (2 : Int32)) := hs0_176
                show Goes p e below s _ n0 _ (T.setTop (mkF m 176 #[.val (.int p1), .val (.int p2), .val (.int p3), .val (.int p4), .val (.int p5), .val (.int p6), .val (.int x4), .val (.int x10), .val (.int x18), .val (.int x24), .val (.int x34), .val (.ref b13), .val (.int (bI ((Int32.ofNat 0) = (0 : Int32)))), .val (.int r1_119), .val (.int r1_129), .val (.int (bI ((x4 = x18) ∧ (p2 = p5)))), .val (.int (bI (¬ ((x4 = x18) ∧ (p2 = p5))))), .unset] [(.int s0_176)]))
                have b_s0_176 : (1 : Int) ≤ s0_176.toInt ∧ s0_176.toInt ≤ 2 := by
                  have z0 := hs0_176
                  have f1 := rng32 p2
                  have f2 := rng32 p5
                  have e0 := congrArg Int32.toInt z0
                  (try simp only [Int64.lt_iff_toInt_lt, Int32.lt_iff_toInt_lt, Int64.le_iff_toInt_le, Int32.le_iff_toInt_le, ← Int64.toInt_inj, ← Int32.toInt_inj, apply_ite Int64.toInt, apply_ite Int32.toInt, Int64.reduceToInt, Int32.reduceToInt, ne_eq, true_and, and_true, false_or, or_false, iff_self, and_self, not_true_eq_false, not_false_eq_true] at e0)
                  omega
                refine g_istore X at_176 rfl (q := 178) (L' := #[.val (.int p1), .val (.int p2), .val (.int p3), .val (.int p4), .val (.int p5), .val (.int p6), .val (.int x4), .val (.int x10), .val (.int x18), .val (.int x24), .val (.int x34), .val (.ref b13), .val (.int (bI ((Int32.ofNat 0) = (0 : Int32)))), .val (.int r1_119), .val (.int r1_129), .val (.int (bI ((x4 = x18) ∧ (p2 = p5)))), .val (.int (bI (¬ ((x4 = x18) ∧ (p2 = p5))))), .val (.int s0_176)]) rfl ?_
                refine g_iload X at_178 rfl (q := 180) rfl ?_
                refine g_jT1 X (J := 210) (P := fun (s0_210 : Int32) => s0_210 = (bI (((Int32.ofNat 0) = (0 : Int32)) ∧ ((r1_119 = (0 : Int32)) ∧ ((r1_129 = (bI (¬ ((x4 = x18) ∧ (p2 = p5))))) ∧ ((Int32.ofNat n1_129) = s0_176)))))) (L := fun s0_210 => #[.val (.int p1), .val (.int p2), .val (.int p3), .val (.int p4), .val (.int p5), .val (.int p6), .val (.int x4), .val (.int x10), .val (.int x18), .val (.int x24), .val (.int x34), .val (.ref b13), .val (.int (bI ((Int32.ofNat 0) = (0 : Int32)))), .val (.int r1_119), .val (.int r1_129), .val (.int (bI ((x4 = x18) ∧ (p2 = p5)))), .val (.int (bI (¬ ((x4 = x18) ∧ (p2 = p5))))), .val (.int s0_176)]) (S := fun s0_210 => [(.int s0_210)]) ?_ ?_
                · intro T X s0_210 hs0_210
                  replace hs0_210 : s0_210 = (bI (((Int32.ofNat 0) = (0 : Int32)) ∧ ((r1_119 = (0 : Int32)) ∧ ((r1_129 = (bI (¬ ((x4 = x18) ∧ (p2 = p5))))) ∧ ((Int32.ofNat n1_129) = s0_176))))) := hs0_210
                  subst hs0_210
                  show Goes p e below s _ n0 _ (T.setTop (mkF m 210 #[.val (.int p1), .val (.int p2), .val (.int p3), .val (.int p4), .val (.int p5), .val (.int p6), .val (.int x4), .val (.int x10), .val (.int x18), .val (.int x24), .val (.int x34), .val (.ref b13), .val (.int (bI ((Int32.ofNat 0) = (0 : Int32)))), .val (.int r1_119), .val (.int r1_129), .val (.int (bI ((x4 = x18) ∧ (p2 = p5)))), .val (.int (bI (¬ ((x4 = x18) ∧ (p2 = p5))))), .val (.int s0_176)] [(.int (bI (((Int32.ofNat 0) = (0 : Int32)) ∧ ((r1_119 = (0 : Int32)) ∧ ((r1_129 = (bI (¬ ((x4 = x18) ∧ (p2 = p5))))) ∧ ((Int32.ofNat n1_129) = s0_176))))))]))
                  refine g_retZ X at_210 (by decide) (by decide) (bI_01 _) (own_fin ?_)
                  show ((Int32.ofNat 0) = (0 : Int32)) ∧ ((r1_119 = (0 : Int32)) ∧ ((r1_129 = (bI (¬ ((x4 = x18) ∧ (p2 = p5))))) ∧ ((Int32.ofNat n1_129) = s0_176)))
                  have E := own_keyE (f := x4) (s := p2) (f' := x18) (s' := p5) (by omega) (by omega)
                  have F := own_fin2 hR_119 hR_129
                  refine ⟨rfl, F.1, ?_, ?_⟩
                  · by_cases q : (x4 = x18) ∧ (p2 = p5)
                    · rw [(F.2.1 (E.mpr q)).1]; exact bI_f (fun z => z q)
                    · rw [(F.2.2 (fun z => q (E.mp z))).1]; exact bI_t q
                  · rw [hs0_176]; by_cases q : (x4 = x18) ∧ (p2 = p5)
                    · rw [(F.2.1 (E.mpr q)).2, if_pos q]
                    · rw [(F.2.2 (fun z => q (E.mp z))).2, if_neg q]
                · intro J210_31
                  refine g_beq X at_180 (q := 183) rfl (by decide) (t := 209) rfl (fun (c32 : (Int32.ofNat 0) = (0 : Int32)) => ?_) (fun (c32 : ¬ ((Int32.ofNat 0) = (0 : Int32))) => ?_)
                  · skip
                    refine g_iload X at_183 rfl (q := 185) rfl ?_
                    refine g_ifB X at_185 (Or.inr (Or.inr rfl)) (q := 188) rfl (by decide) (t := 209) rfl (fun (c33 : r1_119 = (0 : Int32)) => ?_) (fun (c33 : ¬ (r1_119 = (0 : Int32))) => ?_)
                    · skip
                      refine g_iload X at_188 rfl (q := 190) rfl ?_
                      refine g_iload X at_190 rfl (q := 192) rfl ?_
                      refine g_icmpB X at_192 (Or.inr (Or.inr rfl)) (q := 195) rfl (by decide) (t := 209) rfl (fun (c34 : r1_129 = (bI (¬ ((x4 = x18) ∧ (p2 = p5))))) => ?_) (fun (c34 : ¬ (r1_129 = (bI (¬ ((x4 = x18) ∧ (p2 = p5)))))) => ?_)
                      · skip
                        refine g_aload X at_195 rfl (q := 197) rfl rfl ?_
                        refine g_callV X O_b13.1 [] [] (tw58 hw) (tw59 hw) (tw61 hw) (tw60 hw) (tw3 hw) (tw62 hw) (by decide) (rm10 l Z a0 hw [] b13 k1_42 m1_42 u1_42 sh_42 mk_42 (Int32.ofNat n1_129) _ n0 X.size O_b13) pd5 rfl rfl rfl at_197 (q := 200) rfl (W := 0) rfl (by decide) (by decide) (c2 := 4) (s2 := 44) rfl rfl (by decide) (by decide) (fun v T h' X hQ => ?_)
                        obtain ⟨rfl, rfl⟩ := hQ
                        show Goes p e below s _ n0 _ (T.setTop (mkF m 200 #[.val (.int p1), .val (.int p2), .val (.int p3), .val (.int p4), .val (.int p5), .val (.int p6), .val (.int x4), .val (.int x10), .val (.int x18), .val (.int x24), .val (.int x34), .val (.ref b13), .val (.int (bI ((Int32.ofNat 0) = (0 : Int32)))), .val (.int r1_119), .val (.int r1_129), .val (.int (bI ((x4 = x18) ∧ (p2 = p5)))), .val (.int (bI (¬ ((x4 = x18) ∧ (p2 = p5))))), .val (.int s0_176)] [(.int (Int32.ofNat n1_129))]))
                        refine g_iload X at_200 rfl (q := 202) rfl ?_
                        refine g_icmpB X at_202 (Or.inr (Or.inr rfl)) (q := 205) rfl (by decide) (t := 209) rfl (fun (c35 : (Int32.ofNat n1_129) = s0_176) => ?_) (fun (c35 : ¬ ((Int32.ofNat n1_129) = s0_176)) => ?_)
                        · skip
                          refine g_iconst X at_205 rfl (q := 206) (v := 1) rfl ?_
                          refine g_goto X at_206 (by decide) (q := 210) rfl ?_
                          exact J210_31 T X _ (bI_t ⟨c32, ⟨c33, ⟨c34, c35⟩⟩⟩)
                        · skip
                          refine g_iconst X at_209 rfl (q := 210) (v := 0) rfl ?_
                          exact J210_31 T X _ (bI_f (fun z => (fun z => (fun z => c35 z.2) z.2) z.2))
                      · skip
                        refine g_iconst X at_209 rfl (q := 210) (v := 0) rfl ?_
                        exact J210_31 T X _ (bI_f (fun z => (fun z => (fun z => c34 z.1) z.2) z.2))
                    · skip
                      refine g_iconst X at_209 rfl (q := 210) (v := 0) rfl ?_
                      exact J210_31 T X _ (bI_f (fun z => (fun z => c33 z.1) z.2))
                  · skip
                    refine g_iconst X at_209 rfl (q := 210) (v := 0) rfl ?_
                    exact J210_31 T X _ (bI_f (fun z => c32 z.1))
              · intro J176_35
                refine g_beq X at_168 (q := 171) rfl (by decide) (t := 175) rfl (fun (c36 : (x4 = x18) ∧ (p2 = p5)) => ?_) (fun (c36 : ¬ ((x4 = x18) ∧ (p2 = p5))) => ?_)
                · skip
                  refine g_iconst X at_171 rfl (q := 172) (v := 1) rfl ?_
                  refine g_goto X at_172 (by decide) (q := 176) rfl ?_
                  exact J176_35 T X _ ((if_pos c36).symm)
                · skip
                  refine g_iconst X at_175 rfl (q := 176) (v := 2) rfl ?_
                  exact J176_35 T X _ ((if_neg c36).symm)
            · intro J164_36
              refine g_beq X at_156 (q := 159) rfl (by decide) (t := 163) rfl (fun (c37 : (x4 = x18) ∧ (p2 = p5)) => ?_) (fun (c37 : ¬ ((x4 = x18) ∧ (p2 = p5))) => ?_)
              · skip
                refine g_iconst X at_159 rfl (q := 160) (v := 0) rfl ?_
                refine g_goto X at_160 (by decide) (q := 164) rfl ?_
                exact J164_36 T X _ (bI_f (fun z => z c37))
              · skip
                refine g_iconst X at_163 rfl (q := 164) (v := 1) rfl ?_
                exact J164_36 T X _ (bI_t c37)
          · intro J152_37
            refine g_icmpB X at_138 (Or.inr (Or.inr rfl)) (q := 141) rfl (by decide) (t := 151) rfl (fun (c38 : x4 = x18) => ?_) (fun (c38 : ¬ (x4 = x18)) => ?_)
            · skip
              refine g_iloadN X at_141 rfl (q := 142) rfl ?_
              refine g_iload X at_142 rfl (q := 144) rfl ?_
              refine g_icmpB X at_144 (Or.inr (Or.inr rfl)) (q := 147) rfl (by decide) (t := 151) rfl (fun (c39 : p2 = p5) => ?_) (fun (c39 : ¬ (p2 = p5)) => ?_)
              · skip
                refine g_iconst X at_147 rfl (q := 148) (v := 1) rfl ?_
                refine g_goto X at_148 (by decide) (q := 152) rfl ?_
                exact J152_37 T X _ (bI_t ⟨c38, c39⟩)
              · skip
                refine g_iconst X at_151 rfl (q := 152) (v := 0) rfl ?_
                exact J152_37 T X _ (bI_f (fun z => c39 z.2))
            · skip
              refine g_iconst X at_151 rfl (q := 152) (v := 0) rfl ?_
              exact J152_37 T X _ (bI_f (fun z => c38 z.1))
        · intro J111_39
          refine g_ifB X at_103 (Or.inr (Or.inr rfl)) (q := 106) rfl (by decide) (t := 110) rfl (fun (c40 : (Int32.ofNat 0) = (0 : Int32)) => ?_) (fun (c40 : ¬ ((Int32.ofNat 0) = (0 : Int32))) => ?_)
          · skip
            refine g_iconst X at_106 rfl (q := 107) (v := 1) rfl ?_
            refine g_goto X at_107 (by decide) (q := 111) rfl ?_
            exact J111_39 T X _ (bI_t c40)
          · skip
            refine g_iconst X at_110 rfl (q := 111) (v := 0) rfl ?_
            exact J111_39 T X _ (bI_f c40)
  · skip
    have b_x24 : (1 : Int) ≤ x24.toInt ∧ x24.toInt ≤ 3 := by have z0 := c1; (try simp only [Int64.lt_iff_toInt_lt, Int32.lt_iff_toInt_lt, Int64.le_iff_toInt_le, Int32.le_iff_toInt_le, ← Int64.toInt_inj, ← Int32.toInt_inj, apply_ite Int64.toInt, apply_ite Int32.toInt, Int64.reduceToInt, Int32.reduceToInt, ne_eq] at z0); have z1 := rng32 x24; omega
    refine g_aload X at_53 rfl (q := 55) rfl rfl ?_
    refine g_iload X at_55 rfl (q := 57) rfl ?_
    refine g_iloadN X at_57 rfl (q := 58) rfl ?_
    refine g_callV X O_b13.1 [(.int x4), (.int p2)] [] (tw44 hw) (tw45 hw) (tw47 hw) (tw46 hw) (tw3 hw) (tw48 hw) (by decide) (rm8 l Z a0 hw [] b13 x4 p2 k1_42 m1_42 u1_42 sh_42 mk_42 sz_42 C_42 (fun _ => (-1 : Int64)) (fun _ => 0) (fun _ => 0) (fun _ => 0) 0 _ n0 X.size O_b13 A_k1_42 A_m1_42 A_u1_42 g_b13 g_k1_42 g_m1_42 g_u1_42 ne_b13_k1_42 ne_b13_m1_42 ne_b13_u1_42 ne_k1_42_b13 ne_k1_42_m1_42 ne_k1_42_u1_42 ne_m1_42_b13 ne_m1_42_k1_42 ne_m1_42_u1_42 ne_u1_42_b13 ne_u1_42_k1_42 ne_u1_42_m1_42 (by omega) hz_42 (own_pn0 _ _ _ _ _ _ (fun _ _ => rfl)) (by omega) (by omega)) pd0 rfl rfl rfl at_58 (q := 61) rfl (W := 0) rfl (by decide) (by decide) (c2 := 4) (s2 := 44) rfl rfl (by decide) (by decide) (fun v T h' X hQ => ?_)
    obtain ⟨r1_58, K1_58, M1_58, P1_58, ks1_58, n1_58, rfl, Kc, O_b13', A_k1_42', A_m1_42', A_u1_42', hPN1_58, hR_58, hn1_58⟩ := hQ
    have O_b13 := O_b13'
    have A_k1_42 := A_k1_42'
    have A_m1_42 := A_m1_42'
    have A_u1_42 := A_u1_42'
    show Goes p e below s _ n0 _ (T.setTop (mkF m 61 #[.val (.int p1), .val (.int p2), .val (.int p3), .val (.int p4), .val (.int p5), .val (.int p6), .val (.int x4), .val (.int x10), .val (.int x18), .val (.int x24), .val (.int x34), .val (.ref b13), .unset, .unset, .unset, .unset, .unset, .unset] [(.int r1_58)]))
    refine g_pop X at_61 rfl (q := 62) rfl ?_
    refine g_iload X at_62 rfl (q := 64) rfl ?_
    refine g_iconst X at_64 rfl (q := 65) (v := 2) rfl ?_
    refine g_icmpA X at_65 (Or.inl rfl) (q := 68) rfl (by decide) (t := 77) rfl (fun (c41 : x24 < (2 : Int32)) => ?_) (fun (c41 : ¬ (x24 < (2 : Int32))) => ?_)
    · skip
      have b_x24 : (1 : Int) ≤ x24.toInt ∧ x24.toInt ≤ 1 := by have z0 := c41; (try simp only [Int64.lt_iff_toInt_lt, Int32.lt_iff_toInt_lt, Int64.le_iff_toInt_le, Int32.le_iff_toInt_le, ← Int64.toInt_inj, ← Int32.toInt_inj, apply_ite Int64.toInt, apply_ite Int32.toInt, Int64.reduceToInt, Int32.reduceToInt, ne_eq] at z0); have z1 := rng32 x24; omega
      refine g_iload X at_77 rfl (q := 79) rfl ?_
      refine g_iconst X at_79 rfl (q := 80) (v := 3) rfl ?_
      refine g_icmpA X at_80 (Or.inl rfl) (q := 83) rfl (by decide) (t := 93) rfl (fun (c42 : x24 < (3 : Int32)) => ?_) (fun (c42 : ¬ (x24 < (3 : Int32))) => ?_)
      · skip
        refine g_aload X at_93 rfl (q := 95) rfl rfl ?_
        refine g_callV X O_b13.1 [] [] (tw53 hw) (tw54 hw) (tw56 hw) (tw55 hw) (tw3 hw) (tw57 hw) (by decide) (rm9 l Z a0 hw [] b13 k1_42 m1_42 u1_42 sh_42 mk_42 sz_42 C_42 K1_58 P1_58 n1_58 M1_58 ks1_58 _ n0 X.size O_b13 A_k1_42 A_u1_42 g_b13 g_k1_42 ne_b13_k1_42 ne_b13_u1_42 ne_k1_42_b13 ne_k1_42_u1_42 ne_u1_42_b13 ne_u1_42_k1_42 hz_42 hPN1_58 (by omega) (by omega)) pd4 rfl rfl rfl at_95 (q := 98) rfl (W := 0) rfl (by decide) (by decide) (c2 := 4) (s2 := 44) rfl rfl (by decide) (by decide) (fun v T h' X hQ => ?_)
        obtain ⟨K1_95, rfl, Kc, O_b13', A_k1_42', hE_95⟩ := hQ
        have A_m1_42 := A_m1_42.keep Kc (ninS ne_m1_42_b13 (ninS ne_m1_42_k1_42 nin0))
        have A_u1_42 := A_u1_42.keep Kc (ninS ne_u1_42_b13 (ninS ne_u1_42_k1_42 nin0))
        have O_b13 := O_b13'
        have A_k1_42 := A_k1_42'
        show Goes p e below s _ n0 _ (T.setTop (mkF m 98 #[.val (.int p1), .val (.int p2), .val (.int p3), .val (.int p4), .val (.int p5), .val (.int p6), .val (.int x4), .val (.int x10), .val (.int x18), .val (.int x24), .val (.int x34), .val (.ref b13), .unset, .unset, .unset, .unset, .unset, .unset] []))
        refine g_aload X at_98 rfl (q := 100) rfl rfl ?_
        refine g_callV X O_b13.1 [] [] (tw58 hw) (tw59 hw) (tw61 hw) (tw60 hw) (tw3 hw) (tw62 hw) (by decide) (rm10 l Z a0 hw [] b13 k1_42 m1_42 u1_42 sh_42 mk_42 (Int32.ofNat 0) _ n0 X.size O_b13) pd5 rfl rfl rfl at_100 (q := 103) rfl (W := 0) rfl (by decide) (by decide) (c2 := 4) (s2 := 44) rfl rfl (by decide) (by decide) (fun v T h' X hQ => ?_)
        obtain ⟨rfl, rfl⟩ := hQ
        show Goes p e below s _ n0 _ (T.setTop (mkF m 103 #[.val (.int p1), .val (.int p2), .val (.int p3), .val (.int p4), .val (.int p5), .val (.int p6), .val (.int x4), .val (.int x10), .val (.int x18), .val (.int x24), .val (.int x34), .val (.ref b13), .unset, .unset, .unset, .unset, .unset, .unset] [(.int (Int32.ofNat 0))]))
        refine g_jT1 X (J := 111) (P := fun (s0_111 : Int32) => s0_111 = (bI ((Int32.ofNat 0) = (0 : Int32)))) (L := fun s0_111 => #[.val (.int p1), .val (.int p2), .val (.int p3), .val (.int p4), .val (.int p5), .val (.int p6), .val (.int x4), .val (.int x10), .val (.int x18), .val (.int x24), .val (.int x34), .val (.ref b13), .unset, .unset, .unset, .unset, .unset, .unset]) (S := fun s0_111 => [(.int s0_111)]) ?_ ?_
        · intro T X s0_111 hs0_111
          replace hs0_111 : s0_111 = (bI ((Int32.ofNat 0) = (0 : Int32))) := hs0_111
          subst hs0_111
          show Goes p e below s _ n0 _ (T.setTop (mkF m 111 #[.val (.int p1), .val (.int p2), .val (.int p3), .val (.int p4), .val (.int p5), .val (.int p6), .val (.int x4), .val (.int x10), .val (.int x18), .val (.int x24), .val (.int x34), .val (.ref b13), .unset, .unset, .unset, .unset, .unset, .unset] [(.int (bI ((Int32.ofNat 0) = (0 : Int32))))]))
          refine g_istore X at_111 rfl (q := 113) (L' := #[.val (.int p1), .val (.int p2), .val (.int p3), .val (.int p4), .val (.int p5), .val (.int p6), .val (.int x4), .val (.int x10), .val (.int x18), .val (.int x24), .val (.int x34), .val (.ref b13), .val (.int (bI ((Int32.ofNat 0) = (0 : Int32)))), .unset, .unset, .unset, .unset, .unset]) rfl ?_
          refine g_aload X at_113 rfl (q := 115) rfl rfl ?_
          refine g_iload X at_115 rfl (q := 117) rfl ?_
          refine g_iload X at_117 rfl (q := 119) rfl ?_
          refine g_callV X O_b13.1 [(.int x18), (.int p5)] [] (tw44 hw) (tw45 hw) (tw47 hw) (tw46 hw) (tw3 hw) (tw48 hw) (by decide) (rm8 l Z a0 hw [] b13 x18 p5 k1_42 m1_42 u1_42 sh_42 mk_42 sz_42 C_42 K1_95 M1_58 P1_58 (fun _ => 0) 0 _ n0 X.size O_b13 A_k1_42 A_m1_42 A_u1_42 g_b13 g_k1_42 g_m1_42 g_u1_42 ne_b13_k1_42 ne_b13_m1_42 ne_b13_u1_42 ne_k1_42_b13 ne_k1_42_m1_42 ne_k1_42_u1_42 ne_m1_42_b13 ne_m1_42_k1_42 ne_m1_42_u1_42 ne_u1_42_b13 ne_u1_42_k1_42 ne_u1_42_m1_42 (by omega) hz_42 (own_pn0 _ _ _ _ _ _ hE_95) (by omega) (by omega)) pd0 rfl rfl rfl at_119 (q := 122) rfl (W := 0) rfl (by decide) (by decide) (c2 := 4) (s2 := 44) rfl rfl (by decide) (by decide) (fun v T h' X hQ => ?_)
          obtain ⟨r1_119, K1_119, M1_119, P1_119, ks1_119, n1_119, rfl, Kc, O_b13', A_k1_42', A_m1_42', A_u1_42', hPN1_119, hR_119, hn1_119⟩ := hQ
          have O_b13 := O_b13'
          have A_k1_42 := A_k1_42'
          have A_m1_42 := A_m1_42'
          have A_u1_42 := A_u1_42'
          show Goes p e below s _ n0 _ (T.setTop (mkF m 122 #[.val (.int p1), .val (.int p2), .val (.int p3), .val (.int p4), .val (.int p5), .val (.int p6), .val (.int x4), .val (.int x10), .val (.int x18), .val (.int x24), .val (.int x34), .val (.ref b13), .val (.int (bI ((Int32.ofNat 0) = (0 : Int32)))), .unset, .unset, .unset, .unset, .unset] [(.int r1_119)]))
          refine g_istore X at_122 rfl (q := 124) (L' := #[.val (.int p1), .val (.int p2), .val (.int p3), .val (.int p4), .val (.int p5), .val (.int p6), .val (.int x4), .val (.int x10), .val (.int x18), .val (.int x24), .val (.int x34), .val (.ref b13), .val (.int (bI ((Int32.ofNat 0) = (0 : Int32)))), .val (.int r1_119), .unset, .unset, .unset, .unset]) rfl ?_
          refine g_aload X at_124 rfl (q := 126) rfl rfl ?_
          refine g_iload X at_126 rfl (q := 128) rfl ?_
          refine g_iloadN X at_128 rfl (q := 129) rfl ?_
          refine g_callV X O_b13.1 [(.int x4), (.int p2)] [] (tw44 hw) (tw45 hw) (tw47 hw) (tw46 hw) (tw3 hw) (tw48 hw) (by decide) (rm8 l Z a0 hw [] b13 x4 p2 k1_42 m1_42 u1_42 sh_42 mk_42 sz_42 C_42 K1_119 M1_119 P1_119 ks1_119 n1_119 _ n0 X.size O_b13 A_k1_42 A_m1_42 A_u1_42 g_b13 g_k1_42 g_m1_42 g_u1_42 ne_b13_k1_42 ne_b13_m1_42 ne_b13_u1_42 ne_k1_42_b13 ne_k1_42_m1_42 ne_k1_42_u1_42 ne_m1_42_b13 ne_m1_42_k1_42 ne_m1_42_u1_42 ne_u1_42_b13 ne_u1_42_k1_42 ne_u1_42_m1_42 (by omega) hz_42 hPN1_119 (by omega) (by omega)) pd0 rfl rfl rfl at_129 (q := 132) rfl (W := 0) rfl (by decide) (by decide) (c2 := 4) (s2 := 44) rfl rfl (by decide) (by decide) (fun v T h' X hQ => ?_)
          obtain ⟨r1_129, K1_129, M1_129, P1_129, ks1_129, n1_129, rfl, Kc, O_b13', A_k1_42', A_m1_42', A_u1_42', hPN1_129, hR_129, hn1_129⟩ := hQ
          have O_b13 := O_b13'
          have A_k1_42 := A_k1_42'
          have A_m1_42 := A_m1_42'
          have A_u1_42 := A_u1_42'
          show Goes p e below s _ n0 _ (T.setTop (mkF m 132 #[.val (.int p1), .val (.int p2), .val (.int p3), .val (.int p4), .val (.int p5), .val (.int p6), .val (.int x4), .val (.int x10), .val (.int x18), .val (.int x24), .val (.int x34), .val (.ref b13), .val (.int (bI ((Int32.ofNat 0) = (0 : Int32)))), .val (.int r1_119), .unset, .unset, .unset, .unset] [(.int r1_129)]))
          refine g_istore X at_132 rfl (q := 134) (L' := #[.val (.int p1), .val (.int p2), .val (.int p3), .val (.int p4), .val (.int p5), .val (.int p6), .val (.int x4), .val (.int x10), .val (.int x18), .val (.int x24), .val (.int x34), .val (.ref b13), .val (.int (bI ((Int32.ofNat 0) = (0 : Int32)))), .val (.int r1_119), .val (.int r1_129), .unset, .unset, .unset]) rfl ?_
          refine g_iload X at_134 rfl (q := 136) rfl ?_
          refine g_iload X at_136 rfl (q := 138) rfl ?_
          refine g_jT1 X (J := 152) (P := fun (s0_152 : Int32) => s0_152 = (bI ((x4 = x18) ∧ (p2 = p5)))) (L := fun s0_152 => #[.val (.int p1), .val (.int p2), .val (.int p3), .val (.int p4), .val (.int p5), .val (.int p6), .val (.int x4), .val (.int x10), .val (.int x18), .val (.int x24), .val (.int x34), .val (.ref b13), .val (.int (bI ((Int32.ofNat 0) = (0 : Int32)))), .val (.int r1_119), .val (.int r1_129), .unset, .unset, .unset]) (S := fun s0_152 => [(.int s0_152)]) ?_ ?_
          · intro T X s0_152 hs0_152
            replace hs0_152 : s0_152 = (bI ((x4 = x18) ∧ (p2 = p5))) := hs0_152
            subst hs0_152
            show Goes p e below s _ n0 _ (T.setTop (mkF m 152 #[.val (.int p1), .val (.int p2), .val (.int p3), .val (.int p4), .val (.int p5), .val (.int p6), .val (.int x4), .val (.int x10), .val (.int x18), .val (.int x24), .val (.int x34), .val (.ref b13), .val (.int (bI ((Int32.ofNat 0) = (0 : Int32)))), .val (.int r1_119), .val (.int r1_129), .unset, .unset, .unset] [(.int (bI ((x4 = x18) ∧ (p2 = p5))))]))
            refine g_istore X at_152 rfl (q := 154) (L' := #[.val (.int p1), .val (.int p2), .val (.int p3), .val (.int p4), .val (.int p5), .val (.int p6), .val (.int x4), .val (.int x10), .val (.int x18), .val (.int x24), .val (.int x34), .val (.ref b13), .val (.int (bI ((Int32.ofNat 0) = (0 : Int32)))), .val (.int r1_119), .val (.int r1_129), .val (.int (bI ((x4 = x18) ∧ (p2 = p5)))), .unset, .unset]) rfl ?_
            refine g_iload X at_154 rfl (q := 156) rfl ?_
            refine g_jT1 X (J := 164) (P := fun (s0_164 : Int32) => s0_164 = (bI (¬ ((x4 = x18) ∧ (p2 = p5))))) (L := fun s0_164 => #[.val (.int p1), .val (.int p2), .val (.int p3), .val (.int p4), .val (.int p5), .val (.int p6), .val (.int x4), .val (.int x10), .val (.int x18), .val (.int x24), .val (.int x34), .val (.ref b13), .val (.int (bI ((Int32.ofNat 0) = (0 : Int32)))), .val (.int r1_119), .val (.int r1_129), .val (.int (bI ((x4 = x18) ∧ (p2 = p5)))), .unset, .unset]) (S := fun s0_164 => [(.int s0_164)]) ?_ ?_
            · intro T X s0_164 hs0_164
              replace hs0_164 : s0_164 = (bI (¬ ((x4 = x18) ∧ (p2 = p5)))) := hs0_164
              subst hs0_164
              show Goes p e below s _ n0 _ (T.setTop (mkF m 164 #[.val (.int p1), .val (.int p2), .val (.int p3), .val (.int p4), .val (.int p5), .val (.int p6), .val (.int x4), .val (.int x10), .val (.int x18), .val (.int x24), .val (.int x34), .val (.ref b13), .val (.int (bI ((Int32.ofNat 0) = (0 : Int32)))), .val (.int r1_119), .val (.int r1_129), .val (.int (bI ((x4 = x18) ∧ (p2 = p5)))), .unset, .unset] [(.int (bI (¬ ((x4 = x18) ∧ (p2 = p5)))))]))
              refine g_istore X at_164 rfl (q := 166) (L' := #[.val (.int p1), .val (.int p2), .val (.int p3), .val (.int p4), .val (.int p5), .val (.int p6), .val (.int x4), .val (.int x10), .val (.int x18), .val (.int x24), .val (.int x34), .val (.ref b13), .val (.int (bI ((Int32.ofNat 0) = (0 : Int32)))), .val (.int r1_119), .val (.int r1_129), .val (.int (bI ((x4 = x18) ∧ (p2 = p5)))), .val (.int (bI (¬ ((x4 = x18) ∧ (p2 = p5))))), .unset]) rfl ?_
              refine g_iload X at_166 rfl (q := 168) rfl ?_
              refine g_jT1 X (J := 176) (P := fun (s0_176 : Int32) => s0_176 = (if (x4 = x18) ∧ (p2 = p5) then (1 : Int32) else (2 : Int32))) (L := fun s0_176 => #[.val (.int p1), .val (.int p2), .val (.int p3), .val (.int p4), .val (.int p5), .val (.int p6), .val (.int x4), .val (.int x10), .val (.int x18), .val (.int x24), .val (.int x34), .val (.ref b13), .val (.int (bI ((Int32.ofNat 0) = (0 : Int32)))), .val (.int r1_119), .val (.int r1_129), .val (.int (bI ((x4 = x18) ∧ (p2 = p5)))), .val (.int (bI (¬ ((x4 = x18) ∧ (p2 = p5))))), .unset]) (S := fun s0_176 => [(.int s0_176)]) ?_ ?_
              · intro T X s0_176 hs0_176
                replace hs0_176 : s0_176 = (if (x4 = x18) ∧ (p2 = p5) then (1 : Int32) else (2 : Int32)) := hs0_176
                show Goes p e below s _ n0 _ (T.setTop (mkF m 176 #[.val (.int p1), .val (.int p2), .val (.int p3), .val (.int p4), .val (.int p5), .val (.int p6), .val (.int x4), .val (.int x10), .val (.int x18), .val (.int x24), .val (.int x34), .val (.ref b13), .val (.int (bI ((Int32.ofNat 0) = (0 : Int32)))), .val (.int r1_119), .val (.int r1_129), .val (.int (bI ((x4 = x18) ∧ (p2 = p5)))), .val (.int (bI (¬ ((x4 = x18) ∧ (p2 = p5))))), .unset] [(.int s0_176)]))
                have b_s0_176 : (1 : Int) ≤ s0_176.toInt ∧ s0_176.toInt ≤ 2 := by
                  have z0 := hs0_176
                  have f1 := rng32 p2
                  have f2 := rng32 p5
                  have e0 := congrArg Int32.toInt z0
                  (try simp only [Int64.lt_iff_toInt_lt, Int32.lt_iff_toInt_lt, Int64.le_iff_toInt_le, Int32.le_iff_toInt_le, ← Int64.toInt_inj, ← Int32.toInt_inj, apply_ite Int64.toInt, apply_ite Int32.toInt, Int64.reduceToInt, Int32.reduceToInt, ne_eq, true_and, and_true, false_or, or_false, iff_self, and_self, not_true_eq_false, not_false_eq_true] at e0)
                  omega
                refine g_istore X at_176 rfl (q := 178) (L' := #[.val (.int p1), .val (.int p2), .val (.int p3), .val (.int p4), .val (.int p5), .val (.int p6), .val (.int x4), .val (.int x10), .val (.int x18), .val (.int x24), .val (.int x34), .val (.ref b13), .val (.int (bI ((Int32.ofNat 0) = (0 : Int32)))), .val (.int r1_119), .val (.int r1_129), .val (.int (bI ((x4 = x18) ∧ (p2 = p5)))), .val (.int (bI (¬ ((x4 = x18) ∧ (p2 = p5))))), .val (.int s0_176)]) rfl ?_
                refine g_iload X at_178 rfl (q := 180) rfl ?_
                refine g_jT1 X (J := 210) (P := fun (s0_210 : Int32) => s0_210 = (bI (((Int32.ofNat 0) = (0 : Int32)) ∧ ((r1_119 = (0 : Int32)) ∧ ((r1_129 = (bI (¬ ((x4 = x18) ∧ (p2 = p5))))) ∧ ((Int32.ofNat n1_129) = s0_176)))))) (L := fun s0_210 => #[.val (.int p1), .val (.int p2), .val (.int p3), .val (.int p4), .val (.int p5), .val (.int p6), .val (.int x4), .val (.int x10), .val (.int x18), .val (.int x24), .val (.int x34), .val (.ref b13), .val (.int (bI ((Int32.ofNat 0) = (0 : Int32)))), .val (.int r1_119), .val (.int r1_129), .val (.int (bI ((x4 = x18) ∧ (p2 = p5)))), .val (.int (bI (¬ ((x4 = x18) ∧ (p2 = p5))))), .val (.int s0_176)]) (S := fun s0_210 => [(.int s0_210)]) ?_ ?_
                · intro T X s0_210 hs0_210
                  replace hs0_210 : s0_210 = (bI (((Int32.ofNat 0) = (0 : Int32)) ∧ ((r1_119 = (0 : Int32)) ∧ ((r1_129 = (bI (¬ ((x4 = x18) ∧ (p2 = p5))))) ∧ ((Int32.ofNat n1_129) = s0_176))))) := hs0_210
                  subst hs0_210
                  show Goes p e below s _ n0 _ (T.setTop (mkF m 210 #[.val (.int p1), .val (.int p2), .val (.int p3), .val (.int p4), .val (.int p5), .val (.int p6), .val (.int x4), .val (.int x10), .val (.int x18), .val (.int x24), .val (.int x34), .val (.ref b13), .val (.int (bI ((Int32.ofNat 0) = (0 : Int32)))), .val (.int r1_119), .val (.int r1_129), .val (.int (bI ((x4 = x18) ∧ (p2 = p5)))), .val (.int (bI (¬ ((x4 = x18) ∧ (p2 = p5))))), .val (.int s0_176)] [(.int (bI (((Int32.ofNat 0) = (0 : Int32)) ∧ ((r1_119 = (0 : Int32)) ∧ ((r1_129 = (bI (¬ ((x4 = x18) ∧ (p2 = p5))))) ∧ ((Int32.ofNat n1_129) = s0_176))))))]))
                  refine g_retZ X at_210 (by decide) (by decide) (bI_01 _) (own_fin ?_)
                  show ((Int32.ofNat 0) = (0 : Int32)) ∧ ((r1_119 = (0 : Int32)) ∧ ((r1_129 = (bI (¬ ((x4 = x18) ∧ (p2 = p5))))) ∧ ((Int32.ofNat n1_129) = s0_176)))
                  have E := own_keyE (f := x4) (s := p2) (f' := x18) (s' := p5) (by omega) (by omega)
                  have F := own_fin2 hR_119 hR_129
                  refine ⟨rfl, F.1, ?_, ?_⟩
                  · by_cases q : (x4 = x18) ∧ (p2 = p5)
                    · rw [(F.2.1 (E.mpr q)).1]; exact bI_f (fun z => z q)
                    · rw [(F.2.2 (fun z => q (E.mp z))).1]; exact bI_t q
                  · rw [hs0_176]; by_cases q : (x4 = x18) ∧ (p2 = p5)
                    · rw [(F.2.1 (E.mpr q)).2, if_pos q]
                    · rw [(F.2.2 (fun z => q (E.mp z))).2, if_neg q]
                · intro J210_42
                  refine g_beq X at_180 (q := 183) rfl (by decide) (t := 209) rfl (fun (c43 : (Int32.ofNat 0) = (0 : Int32)) => ?_) (fun (c43 : ¬ ((Int32.ofNat 0) = (0 : Int32))) => ?_)
                  · skip
                    refine g_iload X at_183 rfl (q := 185) rfl ?_
                    refine g_ifB X at_185 (Or.inr (Or.inr rfl)) (q := 188) rfl (by decide) (t := 209) rfl (fun (c44 : r1_119 = (0 : Int32)) => ?_) (fun (c44 : ¬ (r1_119 = (0 : Int32))) => ?_)
                    · skip
                      refine g_iload X at_188 rfl (q := 190) rfl ?_
                      refine g_iload X at_190 rfl (q := 192) rfl ?_
                      refine g_icmpB X at_192 (Or.inr (Or.inr rfl)) (q := 195) rfl (by decide) (t := 209) rfl (fun (c45 : r1_129 = (bI (¬ ((x4 = x18) ∧ (p2 = p5))))) => ?_) (fun (c45 : ¬ (r1_129 = (bI (¬ ((x4 = x18) ∧ (p2 = p5)))))) => ?_)
                      · skip
                        refine g_aload X at_195 rfl (q := 197) rfl rfl ?_
                        refine g_callV X O_b13.1 [] [] (tw58 hw) (tw59 hw) (tw61 hw) (tw60 hw) (tw3 hw) (tw62 hw) (by decide) (rm10 l Z a0 hw [] b13 k1_42 m1_42 u1_42 sh_42 mk_42 (Int32.ofNat n1_129) _ n0 X.size O_b13) pd5 rfl rfl rfl at_197 (q := 200) rfl (W := 0) rfl (by decide) (by decide) (c2 := 4) (s2 := 44) rfl rfl (by decide) (by decide) (fun v T h' X hQ => ?_)
                        obtain ⟨rfl, rfl⟩ := hQ
                        show Goes p e below s _ n0 _ (T.setTop (mkF m 200 #[.val (.int p1), .val (.int p2), .val (.int p3), .val (.int p4), .val (.int p5), .val (.int p6), .val (.int x4), .val (.int x10), .val (.int x18), .val (.int x24), .val (.int x34), .val (.ref b13), .val (.int (bI ((Int32.ofNat 0) = (0 : Int32)))), .val (.int r1_119), .val (.int r1_129), .val (.int (bI ((x4 = x18) ∧ (p2 = p5)))), .val (.int (bI (¬ ((x4 = x18) ∧ (p2 = p5))))), .val (.int s0_176)] [(.int (Int32.ofNat n1_129))]))
                        refine g_iload X at_200 rfl (q := 202) rfl ?_
                        refine g_icmpB X at_202 (Or.inr (Or.inr rfl)) (q := 205) rfl (by decide) (t := 209) rfl (fun (c46 : (Int32.ofNat n1_129) = s0_176) => ?_) (fun (c46 : ¬ ((Int32.ofNat n1_129) = s0_176)) => ?_)
                        · skip
                          refine g_iconst X at_205 rfl (q := 206) (v := 1) rfl ?_
                          refine g_goto X at_206 (by decide) (q := 210) rfl ?_
                          exact J210_42 T X _ (bI_t ⟨c43, ⟨c44, ⟨c45, c46⟩⟩⟩)
                        · skip
                          refine g_iconst X at_209 rfl (q := 210) (v := 0) rfl ?_
                          exact J210_42 T X _ (bI_f (fun z => (fun z => (fun z => c46 z.2) z.2) z.2))
                      · skip
                        refine g_iconst X at_209 rfl (q := 210) (v := 0) rfl ?_
                        exact J210_42 T X _ (bI_f (fun z => (fun z => (fun z => c45 z.1) z.2) z.2))
                    · skip
                      refine g_iconst X at_209 rfl (q := 210) (v := 0) rfl ?_
                      exact J210_42 T X _ (bI_f (fun z => (fun z => c44 z.1) z.2))
                  · skip
                    refine g_iconst X at_209 rfl (q := 210) (v := 0) rfl ?_
                    exact J210_42 T X _ (bI_f (fun z => c43 z.1))
              · intro J176_46
                refine g_beq X at_168 (q := 171) rfl (by decide) (t := 175) rfl (fun (c47 : (x4 = x18) ∧ (p2 = p5)) => ?_) (fun (c47 : ¬ ((x4 = x18) ∧ (p2 = p5))) => ?_)
                · skip
                  refine g_iconst X at_171 rfl (q := 172) (v := 1) rfl ?_
                  refine g_goto X at_172 (by decide) (q := 176) rfl ?_
                  exact J176_46 T X _ ((if_pos c47).symm)
                · skip
                  refine g_iconst X at_175 rfl (q := 176) (v := 2) rfl ?_
                  exact J176_46 T X _ ((if_neg c47).symm)
            · intro J164_47
              refine g_beq X at_156 (q := 159) rfl (by decide) (t := 163) rfl (fun (c48 : (x4 = x18) ∧ (p2 = p5)) => ?_) (fun (c48 : ¬ ((x4 = x18) ∧ (p2 = p5))) => ?_)
              · skip
                refine g_iconst X at_159 rfl (q := 160) (v := 0) rfl ?_
                refine g_goto X at_160 (by decide) (q := 164) rfl ?_
                exact J164_47 T X _ (bI_f (fun z => z c48))
              · skip
                refine g_iconst X at_163 rfl (q := 164) (v := 1) rfl ?_
                exact J164_47 T X _ (bI_t c48)
          · intro J152_48
            refine g_icmpB X at_138 (Or.inr (Or.inr rfl)) (q := 141) rfl (by decide) (t := 151) rfl (fun (c49 : x4 = x18) => ?_) (fun (c49 : ¬ (x4 = x18)) => ?_)
            · skip
              refine g_iloadN X at_141 rfl (q := 142) rfl ?_
              refine g_iload X at_142 rfl (q := 144) rfl ?_
              refine g_icmpB X at_144 (Or.inr (Or.inr rfl)) (q := 147) rfl (by decide) (t := 151) rfl (fun (c50 : p2 = p5) => ?_) (fun (c50 : ¬ (p2 = p5)) => ?_)
              · skip
                refine g_iconst X at_147 rfl (q := 148) (v := 1) rfl ?_
                refine g_goto X at_148 (by decide) (q := 152) rfl ?_
                exact J152_48 T X _ (bI_t ⟨c49, c50⟩)
              · skip
                refine g_iconst X at_151 rfl (q := 152) (v := 0) rfl ?_
                exact J152_48 T X _ (bI_f (fun z => c50 z.2))
            · skip
              refine g_iconst X at_151 rfl (q := 152) (v := 0) rfl ?_
              exact J152_48 T X _ (bI_f (fun z => c49 z.1))
        · intro J111_50
          refine g_ifB X at_103 (Or.inr (Or.inr rfl)) (q := 106) rfl (by decide) (t := 110) rfl (fun (c51 : (Int32.ofNat 0) = (0 : Int32)) => ?_) (fun (c51 : ¬ ((Int32.ofNat 0) = (0 : Int32))) => ?_)
          · skip
            refine g_iconst X at_106 rfl (q := 107) (v := 1) rfl ?_
            refine g_goto X at_107 (by decide) (q := 111) rfl ?_
            exact J111_50 T X _ (bI_t c51)
          · skip
            refine g_iconst X at_110 rfl (q := 111) (v := 0) rfl ?_
            exact J111_50 T X _ (bI_f c51)
      · skip
        have b_x24 : (3 : Int) ≤ x24.toInt ∧ x24.toInt ≤ 1 := by have z0 := c42; (try simp only [Int64.lt_iff_toInt_lt, Int32.lt_iff_toInt_lt, Int64.le_iff_toInt_le, Int32.le_iff_toInt_le, ← Int64.toInt_inj, ← Int32.toInt_inj, apply_ite Int64.toInt, apply_ite Int32.toInt, Int64.reduceToInt, Int32.reduceToInt, ne_eq] at z0); have z1 := rng32 x24; omega
        refine g_aload X at_83 rfl (q := 85) rfl rfl ?_
        refine g_iload X at_85 rfl (q := 87) rfl ?_
        refine g_iload X at_87 rfl (q := 89) rfl ?_
        refine g_callV X O_b13.1 [(.int x18), (.int p5)] [] (tw44 hw) (tw45 hw) (tw47 hw) (tw46 hw) (tw3 hw) (tw48 hw) (by decide) (rm8 l Z a0 hw [] b13 x18 p5 k1_42 m1_42 u1_42 sh_42 mk_42 sz_42 C_42 K1_58 M1_58 P1_58 ks1_58 n1_58 _ n0 X.size O_b13 A_k1_42 A_m1_42 A_u1_42 g_b13 g_k1_42 g_m1_42 g_u1_42 ne_b13_k1_42 ne_b13_m1_42 ne_b13_u1_42 ne_k1_42_b13 ne_k1_42_m1_42 ne_k1_42_u1_42 ne_m1_42_b13 ne_m1_42_k1_42 ne_m1_42_u1_42 ne_u1_42_b13 ne_u1_42_k1_42 ne_u1_42_m1_42 (by omega) hz_42 hPN1_58 (by omega) (by omega)) pd0 rfl rfl rfl at_89 (q := 92) rfl (W := 0) rfl (by decide) (by decide) (c2 := 4) (s2 := 44) rfl rfl (by decide) (by decide) (fun v T h' X hQ => ?_)
        obtain ⟨r1_89, K1_89, M1_89, P1_89, ks1_89, n1_89, rfl, Kc, O_b13', A_k1_42', A_m1_42', A_u1_42', hPN1_89, hR_89, hn1_89⟩ := hQ
        have O_b13 := O_b13'
        have A_k1_42 := A_k1_42'
        have A_m1_42 := A_m1_42'
        have A_u1_42 := A_u1_42'
        show Goes p e below s _ n0 _ (T.setTop (mkF m 92 #[.val (.int p1), .val (.int p2), .val (.int p3), .val (.int p4), .val (.int p5), .val (.int p6), .val (.int x4), .val (.int x10), .val (.int x18), .val (.int x24), .val (.int x34), .val (.ref b13), .unset, .unset, .unset, .unset, .unset, .unset] [(.int r1_89)]))
        refine g_pop X at_92 rfl (q := 93) rfl ?_
        refine g_aload X at_93 rfl (q := 95) rfl rfl ?_
        refine g_callV X O_b13.1 [] [] (tw53 hw) (tw54 hw) (tw56 hw) (tw55 hw) (tw3 hw) (tw57 hw) (by decide) (rm9 l Z a0 hw [] b13 k1_42 m1_42 u1_42 sh_42 mk_42 sz_42 C_42 K1_89 P1_89 n1_89 M1_89 ks1_89 _ n0 X.size O_b13 A_k1_42 A_u1_42 g_b13 g_k1_42 ne_b13_k1_42 ne_b13_u1_42 ne_k1_42_b13 ne_k1_42_u1_42 ne_u1_42_b13 ne_u1_42_k1_42 hz_42 hPN1_89 (by omega) (by omega)) pd4 rfl rfl rfl at_95 (q := 98) rfl (W := 0) rfl (by decide) (by decide) (c2 := 4) (s2 := 44) rfl rfl (by decide) (by decide) (fun v T h' X hQ => ?_)
        obtain ⟨K1_95, rfl, Kc, O_b13', A_k1_42', hE_95⟩ := hQ
        have A_m1_42 := A_m1_42.keep Kc (ninS ne_m1_42_b13 (ninS ne_m1_42_k1_42 nin0))
        have A_u1_42 := A_u1_42.keep Kc (ninS ne_u1_42_b13 (ninS ne_u1_42_k1_42 nin0))
        have O_b13 := O_b13'
        have A_k1_42 := A_k1_42'
        show Goes p e below s _ n0 _ (T.setTop (mkF m 98 #[.val (.int p1), .val (.int p2), .val (.int p3), .val (.int p4), .val (.int p5), .val (.int p6), .val (.int x4), .val (.int x10), .val (.int x18), .val (.int x24), .val (.int x34), .val (.ref b13), .unset, .unset, .unset, .unset, .unset, .unset] []))
        refine g_aload X at_98 rfl (q := 100) rfl rfl ?_
        refine g_callV X O_b13.1 [] [] (tw58 hw) (tw59 hw) (tw61 hw) (tw60 hw) (tw3 hw) (tw62 hw) (by decide) (rm10 l Z a0 hw [] b13 k1_42 m1_42 u1_42 sh_42 mk_42 (Int32.ofNat 0) _ n0 X.size O_b13) pd5 rfl rfl rfl at_100 (q := 103) rfl (W := 0) rfl (by decide) (by decide) (c2 := 4) (s2 := 44) rfl rfl (by decide) (by decide) (fun v T h' X hQ => ?_)
        obtain ⟨rfl, rfl⟩ := hQ
        show Goes p e below s _ n0 _ (T.setTop (mkF m 103 #[.val (.int p1), .val (.int p2), .val (.int p3), .val (.int p4), .val (.int p5), .val (.int p6), .val (.int x4), .val (.int x10), .val (.int x18), .val (.int x24), .val (.int x34), .val (.ref b13), .unset, .unset, .unset, .unset, .unset, .unset] [(.int (Int32.ofNat 0))]))
        refine g_jT1 X (J := 111) (P := fun (s0_111 : Int32) => s0_111 = (bI ((Int32.ofNat 0) = (0 : Int32)))) (L := fun s0_111 => #[.val (.int p1), .val (.int p2), .val (.int p3), .val (.int p4), .val (.int p5), .val (.int p6), .val (.int x4), .val (.int x10), .val (.int x18), .val (.int x24), .val (.int x34), .val (.ref b13), .unset, .unset, .unset, .unset, .unset, .unset]) (S := fun s0_111 => [(.int s0_111)]) ?_ ?_
        · intro T X s0_111 hs0_111
          replace hs0_111 : s0_111 = (bI ((Int32.ofNat 0) = (0 : Int32))) := hs0_111
          subst hs0_111
          show Goes p e below s _ n0 _ (T.setTop (mkF m 111 #[.val (.int p1), .val (.int p2), .val (.int p3), .val (.int p4), .val (.int p5), .val (.int p6), .val (.int x4), .val (.int x10), .val (.int x18), .val (.int x24), .val (.int x34), .val (.ref b13), .unset, .unset, .unset, .unset, .unset, .unset] [(.int (bI ((Int32.ofNat 0) = (0 : Int32))))]))
          refine g_istore X at_111 rfl (q := 113) (L' := #[.val (.int p1), .val (.int p2), .val (.int p3), .val (.int p4), .val (.int p5), .val (.int p6), .val (.int x4), .val (.int x10), .val (.int x18), .val (.int x24), .val (.int x34), .val (.ref b13), .val (.int (bI ((Int32.ofNat 0) = (0 : Int32)))), .unset, .unset, .unset, .unset, .unset]) rfl ?_
          refine g_aload X at_113 rfl (q := 115) rfl rfl ?_
          refine g_iload X at_115 rfl (q := 117) rfl ?_
          refine g_iload X at_117 rfl (q := 119) rfl ?_
          refine g_callV X O_b13.1 [(.int x18), (.int p5)] [] (tw44 hw) (tw45 hw) (tw47 hw) (tw46 hw) (tw3 hw) (tw48 hw) (by decide) (rm8 l Z a0 hw [] b13 x18 p5 k1_42 m1_42 u1_42 sh_42 mk_42 sz_42 C_42 K1_95 M1_89 P1_89 (fun _ => 0) 0 _ n0 X.size O_b13 A_k1_42 A_m1_42 A_u1_42 g_b13 g_k1_42 g_m1_42 g_u1_42 ne_b13_k1_42 ne_b13_m1_42 ne_b13_u1_42 ne_k1_42_b13 ne_k1_42_m1_42 ne_k1_42_u1_42 ne_m1_42_b13 ne_m1_42_k1_42 ne_m1_42_u1_42 ne_u1_42_b13 ne_u1_42_k1_42 ne_u1_42_m1_42 (by omega) hz_42 (own_pn0 _ _ _ _ _ _ hE_95) (by omega) (by omega)) pd0 rfl rfl rfl at_119 (q := 122) rfl (W := 0) rfl (by decide) (by decide) (c2 := 4) (s2 := 44) rfl rfl (by decide) (by decide) (fun v T h' X hQ => ?_)
          obtain ⟨r1_119, K1_119, M1_119, P1_119, ks1_119, n1_119, rfl, Kc, O_b13', A_k1_42', A_m1_42', A_u1_42', hPN1_119, hR_119, hn1_119⟩ := hQ
          have O_b13 := O_b13'
          have A_k1_42 := A_k1_42'
          have A_m1_42 := A_m1_42'
          have A_u1_42 := A_u1_42'
          show Goes p e below s _ n0 _ (T.setTop (mkF m 122 #[.val (.int p1), .val (.int p2), .val (.int p3), .val (.int p4), .val (.int p5), .val (.int p6), .val (.int x4), .val (.int x10), .val (.int x18), .val (.int x24), .val (.int x34), .val (.ref b13), .val (.int (bI ((Int32.ofNat 0) = (0 : Int32)))), .unset, .unset, .unset, .unset, .unset] [(.int r1_119)]))
          refine g_istore X at_122 rfl (q := 124) (L' := #[.val (.int p1), .val (.int p2), .val (.int p3), .val (.int p4), .val (.int p5), .val (.int p6), .val (.int x4), .val (.int x10), .val (.int x18), .val (.int x24), .val (.int x34), .val (.ref b13), .val (.int (bI ((Int32.ofNat 0) = (0 : Int32)))), .val (.int r1_119), .unset, .unset, .unset, .unset]) rfl ?_
          refine g_aload X at_124 rfl (q := 126) rfl rfl ?_
          refine g_iload X at_126 rfl (q := 128) rfl ?_
          refine g_iloadN X at_128 rfl (q := 129) rfl ?_
          refine g_callV X O_b13.1 [(.int x4), (.int p2)] [] (tw44 hw) (tw45 hw) (tw47 hw) (tw46 hw) (tw3 hw) (tw48 hw) (by decide) (rm8 l Z a0 hw [] b13 x4 p2 k1_42 m1_42 u1_42 sh_42 mk_42 sz_42 C_42 K1_119 M1_119 P1_119 ks1_119 n1_119 _ n0 X.size O_b13 A_k1_42 A_m1_42 A_u1_42 g_b13 g_k1_42 g_m1_42 g_u1_42 ne_b13_k1_42 ne_b13_m1_42 ne_b13_u1_42 ne_k1_42_b13 ne_k1_42_m1_42 ne_k1_42_u1_42 ne_m1_42_b13 ne_m1_42_k1_42 ne_m1_42_u1_42 ne_u1_42_b13 ne_u1_42_k1_42 ne_u1_42_m1_42 (by omega) hz_42 hPN1_119 (by omega) (by omega)) pd0 rfl rfl rfl at_129 (q := 132) rfl (W := 0) rfl (by decide) (by decide) (c2 := 4) (s2 := 44) rfl rfl (by decide) (by decide) (fun v T h' X hQ => ?_)
          obtain ⟨r1_129, K1_129, M1_129, P1_129, ks1_129, n1_129, rfl, Kc, O_b13', A_k1_42', A_m1_42', A_u1_42', hPN1_129, hR_129, hn1_129⟩ := hQ
          have O_b13 := O_b13'
          have A_k1_42 := A_k1_42'
          have A_m1_42 := A_m1_42'
          have A_u1_42 := A_u1_42'
          show Goes p e below s _ n0 _ (T.setTop (mkF m 132 #[.val (.int p1), .val (.int p2), .val (.int p3), .val (.int p4), .val (.int p5), .val (.int p6), .val (.int x4), .val (.int x10), .val (.int x18), .val (.int x24), .val (.int x34), .val (.ref b13), .val (.int (bI ((Int32.ofNat 0) = (0 : Int32)))), .val (.int r1_119), .unset, .unset, .unset, .unset] [(.int r1_129)]))
          refine g_istore X at_132 rfl (q := 134) (L' := #[.val (.int p1), .val (.int p2), .val (.int p3), .val (.int p4), .val (.int p5), .val (.int p6), .val (.int x4), .val (.int x10), .val (.int x18), .val (.int x24), .val (.int x34), .val (.ref b13), .val (.int (bI ((Int32.ofNat 0) = (0 : Int32)))), .val (.int r1_119), .val (.int r1_129), .unset, .unset, .unset]) rfl ?_
          refine g_iload X at_134 rfl (q := 136) rfl ?_
          refine g_iload X at_136 rfl (q := 138) rfl ?_
          refine g_jT1 X (J := 152) (P := fun (s0_152 : Int32) => s0_152 = (bI ((x4 = x18) ∧ (p2 = p5)))) (L := fun s0_152 => #[.val (.int p1), .val (.int p2), .val (.int p3), .val (.int p4), .val (.int p5), .val (.int p6), .val (.int x4), .val (.int x10), .val (.int x18), .val (.int x24), .val (.int x34), .val (.ref b13), .val (.int (bI ((Int32.ofNat 0) = (0 : Int32)))), .val (.int r1_119), .val (.int r1_129), .unset, .unset, .unset]) (S := fun s0_152 => [(.int s0_152)]) ?_ ?_
          · intro T X s0_152 hs0_152
            replace hs0_152 : s0_152 = (bI ((x4 = x18) ∧ (p2 = p5))) := hs0_152
            subst hs0_152
            show Goes p e below s _ n0 _ (T.setTop (mkF m 152 #[.val (.int p1), .val (.int p2), .val (.int p3), .val (.int p4), .val (.int p5), .val (.int p6), .val (.int x4), .val (.int x10), .val (.int x18), .val (.int x24), .val (.int x34), .val (.ref b13), .val (.int (bI ((Int32.ofNat 0) = (0 : Int32)))), .val (.int r1_119), .val (.int r1_129), .unset, .unset, .unset] [(.int (bI ((x4 = x18) ∧ (p2 = p5))))]))
            refine g_istore X at_152 rfl (q := 154) (L' := #[.val (.int p1), .val (.int p2), .val (.int p3), .val (.int p4), .val (.int p5), .val (.int p6), .val (.int x4), .val (.int x10), .val (.int x18), .val (.int x24), .val (.int x34), .val (.ref b13), .val (.int (bI ((Int32.ofNat 0) = (0 : Int32)))), .val (.int r1_119), .val (.int r1_129), .val (.int (bI ((x4 = x18) ∧ (p2 = p5)))), .unset, .unset]) rfl ?_
            refine g_iload X at_154 rfl (q := 156) rfl ?_
            refine g_jT1 X (J := 164) (P := fun (s0_164 : Int32) => s0_164 = (bI (¬ ((x4 = x18) ∧ (p2 = p5))))) (L := fun s0_164 => #[.val (.int p1), .val (.int p2), .val (.int p3), .val (.int p4), .val (.int p5), .val (.int p6), .val (.int x4), .val (.int x10), .val (.int x18), .val (.int x24), .val (.int x34), .val (.ref b13), .val (.int (bI ((Int32.ofNat 0) = (0 : Int32)))), .val (.int r1_119), .val (.int r1_129), .val (.int (bI ((x4 = x18) ∧ (p2 = p5)))), .unset, .unset]) (S := fun s0_164 => [(.int s0_164)]) ?_ ?_
            · intro T X s0_164 hs0_164
              replace hs0_164 : s0_164 = (bI (¬ ((x4 = x18) ∧ (p2 = p5)))) := hs0_164
              subst hs0_164
              show Goes p e below s _ n0 _ (T.setTop (mkF m 164 #[.val (.int p1), .val (.int p2), .val (.int p3), .val (.int p4), .val (.int p5), .val (.int p6), .val (.int x4), .val (.int x10), .val (.int x18), .val (.int x24), .val (.int x34), .val (.ref b13), .val (.int (bI ((Int32.ofNat 0) = (0 : Int32)))), .val (.int r1_119), .val (.int r1_129), .val (.int (bI ((x4 = x18) ∧ (p2 = p5)))), .unset, .unset] [(.int (bI (¬ ((x4 = x18) ∧ (p2 = p5)))))]))
              refine g_istore X at_164 rfl (q := 166) (L' := #[.val (.int p1), .val (.int p2), .val (.int p3), .val (.int p4), .val (.int p5), .val (.int p6), .val (.int x4), .val (.int x10), .val (.int x18), .val (.int x24), .val (.int x34), .val (.ref b13), .val (.int (bI ((Int32.ofNat 0) = (0 : Int32)))), .val (.int r1_119), .val (.int r1_129), .val (.int (bI ((x4 = x18) ∧ (p2 = p5)))), .val (.int (bI (¬ ((x4 = x18) ∧ (p2 = p5))))), .unset]) rfl ?_
              refine g_iload X at_166 rfl (q := 168) rfl ?_
              refine g_jT1 X (J := 176) (P := fun (s0_176 : Int32) => s0_176 = (if (x4 = x18) ∧ (p2 = p5) then (1 : Int32) else (2 : Int32))) (L := fun s0_176 => #[.val (.int p1), .val (.int p2), .val (.int p3), .val (.int p4), .val (.int p5), .val (.int p6), .val (.int x4), .val (.int x10), .val (.int x18), .val (.int x24), .val (.int x34), .val (.ref b13), .val (.int (bI ((Int32.ofNat 0) = (0 : Int32)))), .val (.int r1_119), .val (.int r1_129), .val (.int (bI ((x4 = x18) ∧ (p2 = p5)))), .val (.int (bI (¬ ((x4 = x18) ∧ (p2 = p5))))), .unset]) (S := fun s0_176 => [(.int s0_176)]) ?_ ?_
              · intro T X s0_176 hs0_176
                replace hs0_176 : s0_176 = (if (x4 = x18) ∧ (p2 = p5) then (1 : Int32) else (2 : Int32)) := hs0_176
                show Goes p e below s _ n0 _ (T.setTop (mkF m 176 #[.val (.int p1), .val (.int p2), .val (.int p3), .val (.int p4), .val (.int p5), .val (.int p6), .val (.int x4), .val (.int x10), .val (.int x18), .val (.int x24), .val (.int x34), .val (.ref b13), .val (.int (bI ((Int32.ofNat 0) = (0 : Int32)))), .val (.int r1_119), .val (.int r1_129), .val (.int (bI ((x4 = x18) ∧ (p2 = p5)))), .val (.int (bI (¬ ((x4 = x18) ∧ (p2 = p5))))), .unset] [(.int s0_176)]))
                have b_s0_176 : (1 : Int) ≤ s0_176.toInt ∧ s0_176.toInt ≤ 2 := by
                  have z0 := hs0_176
                  have f1 := rng32 p2
                  have f2 := rng32 p5
                  have e0 := congrArg Int32.toInt z0
                  (try simp only [Int64.lt_iff_toInt_lt, Int32.lt_iff_toInt_lt, Int64.le_iff_toInt_le, Int32.le_iff_toInt_le, ← Int64.toInt_inj, ← Int32.toInt_inj, apply_ite Int64.toInt, apply_ite Int32.toInt, Int64.reduceToInt, Int32.reduceToInt, ne_eq, true_and, and_true, false_or, or_false, iff_self, and_self, not_true_eq_false, not_false_eq_true] at e0)
                  omega
                refine g_istore X at_176 rfl (q := 178) (L' := #[.val (.int p1), .val (.int p2), .val (.int p3), .val (.int p4), .val (.int p5), .val (.int p6), .val (.int x4), .val (.int x10), .val (.int x18), .val (.int x24), .val (.int x34), .val (.ref b13), .val (.int (bI ((Int32.ofNat 0) = (0 : Int32)))), .val (.int r1_119), .val (.int r1_129), .val (.int (bI ((x4 = x18) ∧ (p2 = p5)))), .val (.int (bI (¬ ((x4 = x18) ∧ (p2 = p5))))), .val (.int s0_176)]) rfl ?_
                refine g_iload X at_178 rfl (q := 180) rfl ?_
                refine g_jT1 X (J := 210) (P := fun (s0_210 : Int32) => s0_210 = (bI (((Int32.ofNat 0) = (0 : Int32)) ∧ ((r1_119 = (0 : Int32)) ∧ ((r1_129 = (bI (¬ ((x4 = x18) ∧ (p2 = p5))))) ∧ ((Int32.ofNat n1_129) = s0_176)))))) (L := fun s0_210 => #[.val (.int p1), .val (.int p2), .val (.int p3), .val (.int p4), .val (.int p5), .val (.int p6), .val (.int x4), .val (.int x10), .val (.int x18), .val (.int x24), .val (.int x34), .val (.ref b13), .val (.int (bI ((Int32.ofNat 0) = (0 : Int32)))), .val (.int r1_119), .val (.int r1_129), .val (.int (bI ((x4 = x18) ∧ (p2 = p5)))), .val (.int (bI (¬ ((x4 = x18) ∧ (p2 = p5))))), .val (.int s0_176)]) (S := fun s0_210 => [(.int s0_210)]) ?_ ?_
                · intro T X s0_210 hs0_210
                  replace hs0_210 : s0_210 = (bI (((Int32.ofNat 0) = (0 : Int32)) ∧ ((r1_119 = (0 : Int32)) ∧ ((r1_129 = (bI (¬ ((x4 = x18) ∧ (p2 = p5))))) ∧ ((Int32.ofNat n1_129) = s0_176))))) := hs0_210
                  subst hs0_210
                  show Goes p e below s _ n0 _ (T.setTop (mkF m 210 #[.val (.int p1), .val (.int p2), .val (.int p3), .val (.int p4), .val (.int p5), .val (.int p6), .val (.int x4), .val (.int x10), .val (.int x18), .val (.int x24), .val (.int x34), .val (.ref b13), .val (.int (bI ((Int32.ofNat 0) = (0 : Int32)))), .val (.int r1_119), .val (.int r1_129), .val (.int (bI ((x4 = x18) ∧ (p2 = p5)))), .val (.int (bI (¬ ((x4 = x18) ∧ (p2 = p5))))), .val (.int s0_176)] [(.int (bI (((Int32.ofNat 0) = (0 : Int32)) ∧ ((r1_119 = (0 : Int32)) ∧ ((r1_129 = (bI (¬ ((x4 = x18) ∧ (p2 = p5))))) ∧ ((Int32.ofNat n1_129) = s0_176))))))]))
                  refine g_retZ X at_210 (by decide) (by decide) (bI_01 _) (own_fin ?_)
                  show ((Int32.ofNat 0) = (0 : Int32)) ∧ ((r1_119 = (0 : Int32)) ∧ ((r1_129 = (bI (¬ ((x4 = x18) ∧ (p2 = p5))))) ∧ ((Int32.ofNat n1_129) = s0_176)))
                  have E := own_keyE (f := x4) (s := p2) (f' := x18) (s' := p5) (by omega) (by omega)
                  have F := own_fin2 hR_119 hR_129
                  refine ⟨rfl, F.1, ?_, ?_⟩
                  · by_cases q : (x4 = x18) ∧ (p2 = p5)
                    · rw [(F.2.1 (E.mpr q)).1]; exact bI_f (fun z => z q)
                    · rw [(F.2.2 (fun z => q (E.mp z))).1]; exact bI_t q
                  · rw [hs0_176]; by_cases q : (x4 = x18) ∧ (p2 = p5)
                    · rw [(F.2.1 (E.mpr q)).2, if_pos q]
                    · rw [(F.2.2 (fun z => q (E.mp z))).2, if_neg q]
                · intro J210_51
                  refine g_beq X at_180 (q := 183) rfl (by decide) (t := 209) rfl (fun (c52 : (Int32.ofNat 0) = (0 : Int32)) => ?_) (fun (c52 : ¬ ((Int32.ofNat 0) = (0 : Int32))) => ?_)
                  · skip
                    refine g_iload X at_183 rfl (q := 185) rfl ?_
                    refine g_ifB X at_185 (Or.inr (Or.inr rfl)) (q := 188) rfl (by decide) (t := 209) rfl (fun (c53 : r1_119 = (0 : Int32)) => ?_) (fun (c53 : ¬ (r1_119 = (0 : Int32))) => ?_)
                    · skip
                      refine g_iload X at_188 rfl (q := 190) rfl ?_
                      refine g_iload X at_190 rfl (q := 192) rfl ?_
                      refine g_icmpB X at_192 (Or.inr (Or.inr rfl)) (q := 195) rfl (by decide) (t := 209) rfl (fun (c54 : r1_129 = (bI (¬ ((x4 = x18) ∧ (p2 = p5))))) => ?_) (fun (c54 : ¬ (r1_129 = (bI (¬ ((x4 = x18) ∧ (p2 = p5)))))) => ?_)
                      · skip
                        refine g_aload X at_195 rfl (q := 197) rfl rfl ?_
                        refine g_callV X O_b13.1 [] [] (tw58 hw) (tw59 hw) (tw61 hw) (tw60 hw) (tw3 hw) (tw62 hw) (by decide) (rm10 l Z a0 hw [] b13 k1_42 m1_42 u1_42 sh_42 mk_42 (Int32.ofNat n1_129) _ n0 X.size O_b13) pd5 rfl rfl rfl at_197 (q := 200) rfl (W := 0) rfl (by decide) (by decide) (c2 := 4) (s2 := 44) rfl rfl (by decide) (by decide) (fun v T h' X hQ => ?_)
                        obtain ⟨rfl, rfl⟩ := hQ
                        show Goes p e below s _ n0 _ (T.setTop (mkF m 200 #[.val (.int p1), .val (.int p2), .val (.int p3), .val (.int p4), .val (.int p5), .val (.int p6), .val (.int x4), .val (.int x10), .val (.int x18), .val (.int x24), .val (.int x34), .val (.ref b13), .val (.int (bI ((Int32.ofNat 0) = (0 : Int32)))), .val (.int r1_119), .val (.int r1_129), .val (.int (bI ((x4 = x18) ∧ (p2 = p5)))), .val (.int (bI (¬ ((x4 = x18) ∧ (p2 = p5))))), .val (.int s0_176)] [(.int (Int32.ofNat n1_129))]))
                        refine g_iload X at_200 rfl (q := 202) rfl ?_
                        refine g_icmpB X at_202 (Or.inr (Or.inr rfl)) (q := 205) rfl (by decide) (t := 209) rfl (fun (c55 : (Int32.ofNat n1_129) = s0_176) => ?_) (fun (c55 : ¬ ((Int32.ofNat n1_129) = s0_176)) => ?_)
                        · skip
                          refine g_iconst X at_205 rfl (q := 206) (v := 1) rfl ?_
                          refine g_goto X at_206 (by decide) (q := 210) rfl ?_
                          exact J210_51 T X _ (bI_t ⟨c52, ⟨c53, ⟨c54, c55⟩⟩⟩)
                        · skip
                          refine g_iconst X at_209 rfl (q := 210) (v := 0) rfl ?_
                          exact J210_51 T X _ (bI_f (fun z => (fun z => (fun z => c55 z.2) z.2) z.2))
                      · skip
                        refine g_iconst X at_209 rfl (q := 210) (v := 0) rfl ?_
                        exact J210_51 T X _ (bI_f (fun z => (fun z => (fun z => c54 z.1) z.2) z.2))
                    · skip
                      refine g_iconst X at_209 rfl (q := 210) (v := 0) rfl ?_
                      exact J210_51 T X _ (bI_f (fun z => (fun z => c53 z.1) z.2))
                  · skip
                    refine g_iconst X at_209 rfl (q := 210) (v := 0) rfl ?_
                    exact J210_51 T X _ (bI_f (fun z => c52 z.1))
              · intro J176_55
                refine g_beq X at_168 (q := 171) rfl (by decide) (t := 175) rfl (fun (c56 : (x4 = x18) ∧ (p2 = p5)) => ?_) (fun (c56 : ¬ ((x4 = x18) ∧ (p2 = p5))) => ?_)
                · skip
                  refine g_iconst X at_171 rfl (q := 172) (v := 1) rfl ?_
                  refine g_goto X at_172 (by decide) (q := 176) rfl ?_
                  exact J176_55 T X _ ((if_pos c56).symm)
                · skip
                  refine g_iconst X at_175 rfl (q := 176) (v := 2) rfl ?_
                  exact J176_55 T X _ ((if_neg c56).symm)
            · intro J164_56
              refine g_beq X at_156 (q := 159) rfl (by decide) (t := 163) rfl (fun (c57 : (x4 = x18) ∧ (p2 = p5)) => ?_) (fun (c57 : ¬ ((x4 = x18) ∧ (p2 = p5))) => ?_)
              · skip
                refine g_iconst X at_159 rfl (q := 160) (v := 0) rfl ?_
                refine g_goto X at_160 (by decide) (q := 164) rfl ?_
                exact J164_56 T X _ (bI_f (fun z => z c57))
              · skip
                refine g_iconst X at_163 rfl (q := 164) (v := 1) rfl ?_
                exact J164_56 T X _ (bI_t c57)
          · intro J152_57
            refine g_icmpB X at_138 (Or.inr (Or.inr rfl)) (q := 141) rfl (by decide) (t := 151) rfl (fun (c58 : x4 = x18) => ?_) (fun (c58 : ¬ (x4 = x18)) => ?_)
            · skip
              refine g_iloadN X at_141 rfl (q := 142) rfl ?_
              refine g_iload X at_142 rfl (q := 144) rfl ?_
              refine g_icmpB X at_144 (Or.inr (Or.inr rfl)) (q := 147) rfl (by decide) (t := 151) rfl (fun (c59 : p2 = p5) => ?_) (fun (c59 : ¬ (p2 = p5)) => ?_)
              · skip
                refine g_iconst X at_147 rfl (q := 148) (v := 1) rfl ?_
                refine g_goto X at_148 (by decide) (q := 152) rfl ?_
                exact J152_57 T X _ (bI_t ⟨c58, c59⟩)
              · skip
                refine g_iconst X at_151 rfl (q := 152) (v := 0) rfl ?_
                exact J152_57 T X _ (bI_f (fun z => c59 z.2))
            · skip
              refine g_iconst X at_151 rfl (q := 152) (v := 0) rfl ?_
              exact J152_57 T X _ (bI_f (fun z => c58 z.1))
        · intro J111_59
          refine g_ifB X at_103 (Or.inr (Or.inr rfl)) (q := 106) rfl (by decide) (t := 110) rfl (fun (c60 : (Int32.ofNat 0) = (0 : Int32)) => ?_) (fun (c60 : ¬ ((Int32.ofNat 0) = (0 : Int32))) => ?_)
          · skip
            refine g_iconst X at_106 rfl (q := 107) (v := 1) rfl ?_
            refine g_goto X at_107 (by decide) (q := 111) rfl ?_
            exact J111_59 T X _ (bI_t c60)
          · skip
            refine g_iconst X at_110 rfl (q := 111) (v := 0) rfl ?_
            exact J111_59 T X _ (bI_f c60)
    · skip
      have b_x24 : (2 : Int) ≤ x24.toInt ∧ x24.toInt ≤ 3 := by have z0 := c41; (try simp only [Int64.lt_iff_toInt_lt, Int32.lt_iff_toInt_lt, Int64.le_iff_toInt_le, Int32.le_iff_toInt_le, ← Int64.toInt_inj, ← Int32.toInt_inj, apply_ite Int64.toInt, apply_ite Int32.toInt, Int64.reduceToInt, Int32.reduceToInt, ne_eq] at z0); have z1 := rng32 x24; omega
      refine g_aload X at_68 rfl (q := 70) rfl rfl ?_
      refine g_iload X at_70 rfl (q := 72) rfl ?_
      refine g_iloadN X at_72 rfl (q := 73) rfl ?_
      refine g_callV X O_b13.1 [(.int x10), (.int p4)] [] (tw44 hw) (tw45 hw) (tw47 hw) (tw46 hw) (tw3 hw) (tw48 hw) (by decide) (rm8 l Z a0 hw [] b13 x10 p4 k1_42 m1_42 u1_42 sh_42 mk_42 sz_42 C_42 K1_58 M1_58 P1_58 ks1_58 n1_58 _ n0 X.size O_b13 A_k1_42 A_m1_42 A_u1_42 g_b13 g_k1_42 g_m1_42 g_u1_42 ne_b13_k1_42 ne_b13_m1_42 ne_b13_u1_42 ne_k1_42_b13 ne_k1_42_m1_42 ne_k1_42_u1_42 ne_m1_42_b13 ne_m1_42_k1_42 ne_m1_42_u1_42 ne_u1_42_b13 ne_u1_42_k1_42 ne_u1_42_m1_42 (by omega) hz_42 hPN1_58 (by omega) (by omega)) pd0 rfl rfl rfl at_73 (q := 76) rfl (W := 0) rfl (by decide) (by decide) (c2 := 4) (s2 := 44) rfl rfl (by decide) (by decide) (fun v T h' X hQ => ?_)
      obtain ⟨r1_73, K1_73, M1_73, P1_73, ks1_73, n1_73, rfl, Kc, O_b13', A_k1_42', A_m1_42', A_u1_42', hPN1_73, hR_73, hn1_73⟩ := hQ
      have O_b13 := O_b13'
      have A_k1_42 := A_k1_42'
      have A_m1_42 := A_m1_42'
      have A_u1_42 := A_u1_42'
      show Goes p e below s _ n0 _ (T.setTop (mkF m 76 #[.val (.int p1), .val (.int p2), .val (.int p3), .val (.int p4), .val (.int p5), .val (.int p6), .val (.int x4), .val (.int x10), .val (.int x18), .val (.int x24), .val (.int x34), .val (.ref b13), .unset, .unset, .unset, .unset, .unset, .unset] [(.int r1_73)]))
      refine g_pop X at_76 rfl (q := 77) rfl ?_
      refine g_iload X at_77 rfl (q := 79) rfl ?_
      refine g_iconst X at_79 rfl (q := 80) (v := 3) rfl ?_
      refine g_icmpA X at_80 (Or.inl rfl) (q := 83) rfl (by decide) (t := 93) rfl (fun (c61 : x24 < (3 : Int32)) => ?_) (fun (c61 : ¬ (x24 < (3 : Int32))) => ?_)
      · skip
        have b_x24 : (2 : Int) ≤ x24.toInt ∧ x24.toInt ≤ 2 := by have z0 := c61; (try simp only [Int64.lt_iff_toInt_lt, Int32.lt_iff_toInt_lt, Int64.le_iff_toInt_le, Int32.le_iff_toInt_le, ← Int64.toInt_inj, ← Int32.toInt_inj, apply_ite Int64.toInt, apply_ite Int32.toInt, Int64.reduceToInt, Int32.reduceToInt, ne_eq] at z0); have z1 := rng32 x24; omega
        refine g_aload X at_93 rfl (q := 95) rfl rfl ?_
        refine g_callV X O_b13.1 [] [] (tw53 hw) (tw54 hw) (tw56 hw) (tw55 hw) (tw3 hw) (tw57 hw) (by decide) (rm9 l Z a0 hw [] b13 k1_42 m1_42 u1_42 sh_42 mk_42 sz_42 C_42 K1_73 P1_73 n1_73 M1_73 ks1_73 _ n0 X.size O_b13 A_k1_42 A_u1_42 g_b13 g_k1_42 ne_b13_k1_42 ne_b13_u1_42 ne_k1_42_b13 ne_k1_42_u1_42 ne_u1_42_b13 ne_u1_42_k1_42 hz_42 hPN1_73 (by omega) (by omega)) pd4 rfl rfl rfl at_95 (q := 98) rfl (W := 0) rfl (by decide) (by decide) (c2 := 4) (s2 := 44) rfl rfl (by decide) (by decide) (fun v T h' X hQ => ?_)
        obtain ⟨K1_95, rfl, Kc, O_b13', A_k1_42', hE_95⟩ := hQ
        have A_m1_42 := A_m1_42.keep Kc (ninS ne_m1_42_b13 (ninS ne_m1_42_k1_42 nin0))
        have A_u1_42 := A_u1_42.keep Kc (ninS ne_u1_42_b13 (ninS ne_u1_42_k1_42 nin0))
        have O_b13 := O_b13'
        have A_k1_42 := A_k1_42'
        show Goes p e below s _ n0 _ (T.setTop (mkF m 98 #[.val (.int p1), .val (.int p2), .val (.int p3), .val (.int p4), .val (.int p5), .val (.int p6), .val (.int x4), .val (.int x10), .val (.int x18), .val (.int x24), .val (.int x34), .val (.ref b13), .unset, .unset, .unset, .unset, .unset, .unset] []))
        refine g_aload X at_98 rfl (q := 100) rfl rfl ?_
        refine g_callV X O_b13.1 [] [] (tw58 hw) (tw59 hw) (tw61 hw) (tw60 hw) (tw3 hw) (tw62 hw) (by decide) (rm10 l Z a0 hw [] b13 k1_42 m1_42 u1_42 sh_42 mk_42 (Int32.ofNat 0) _ n0 X.size O_b13) pd5 rfl rfl rfl at_100 (q := 103) rfl (W := 0) rfl (by decide) (by decide) (c2 := 4) (s2 := 44) rfl rfl (by decide) (by decide) (fun v T h' X hQ => ?_)
        obtain ⟨rfl, rfl⟩ := hQ
        show Goes p e below s _ n0 _ (T.setTop (mkF m 103 #[.val (.int p1), .val (.int p2), .val (.int p3), .val (.int p4), .val (.int p5), .val (.int p6), .val (.int x4), .val (.int x10), .val (.int x18), .val (.int x24), .val (.int x34), .val (.ref b13), .unset, .unset, .unset, .unset, .unset, .unset] [(.int (Int32.ofNat 0))]))
        refine g_jT1 X (J := 111) (P := fun (s0_111 : Int32) => s0_111 = (bI ((Int32.ofNat 0) = (0 : Int32)))) (L := fun s0_111 => #[.val (.int p1), .val (.int p2), .val (.int p3), .val (.int p4), .val (.int p5), .val (.int p6), .val (.int x4), .val (.int x10), .val (.int x18), .val (.int x24), .val (.int x34), .val (.ref b13), .unset, .unset, .unset, .unset, .unset, .unset]) (S := fun s0_111 => [(.int s0_111)]) ?_ ?_
        · intro T X s0_111 hs0_111
          replace hs0_111 : s0_111 = (bI ((Int32.ofNat 0) = (0 : Int32))) := hs0_111
          subst hs0_111
          show Goes p e below s _ n0 _ (T.setTop (mkF m 111 #[.val (.int p1), .val (.int p2), .val (.int p3), .val (.int p4), .val (.int p5), .val (.int p6), .val (.int x4), .val (.int x10), .val (.int x18), .val (.int x24), .val (.int x34), .val (.ref b13), .unset, .unset, .unset, .unset, .unset, .unset] [(.int (bI ((Int32.ofNat 0) = (0 : Int32))))]))
          refine g_istore X at_111 rfl (q := 113) (L' := #[.val (.int p1), .val (.int p2), .val (.int p3), .val (.int p4), .val (.int p5), .val (.int p6), .val (.int x4), .val (.int x10), .val (.int x18), .val (.int x24), .val (.int x34), .val (.ref b13), .val (.int (bI ((Int32.ofNat 0) = (0 : Int32)))), .unset, .unset, .unset, .unset, .unset]) rfl ?_
          refine g_aload X at_113 rfl (q := 115) rfl rfl ?_
          refine g_iload X at_115 rfl (q := 117) rfl ?_
          refine g_iload X at_117 rfl (q := 119) rfl ?_
          refine g_callV X O_b13.1 [(.int x18), (.int p5)] [] (tw44 hw) (tw45 hw) (tw47 hw) (tw46 hw) (tw3 hw) (tw48 hw) (by decide) (rm8 l Z a0 hw [] b13 x18 p5 k1_42 m1_42 u1_42 sh_42 mk_42 sz_42 C_42 K1_95 M1_73 P1_73 (fun _ => 0) 0 _ n0 X.size O_b13 A_k1_42 A_m1_42 A_u1_42 g_b13 g_k1_42 g_m1_42 g_u1_42 ne_b13_k1_42 ne_b13_m1_42 ne_b13_u1_42 ne_k1_42_b13 ne_k1_42_m1_42 ne_k1_42_u1_42 ne_m1_42_b13 ne_m1_42_k1_42 ne_m1_42_u1_42 ne_u1_42_b13 ne_u1_42_k1_42 ne_u1_42_m1_42 (by omega) hz_42 (own_pn0 _ _ _ _ _ _ hE_95) (by omega) (by omega)) pd0 rfl rfl rfl at_119 (q := 122) rfl (W := 0) rfl (by decide) (by decide) (c2 := 4) (s2 := 44) rfl rfl (by decide) (by decide) (fun v T h' X hQ => ?_)
          obtain ⟨r1_119, K1_119, M1_119, P1_119, ks1_119, n1_119, rfl, Kc, O_b13', A_k1_42', A_m1_42', A_u1_42', hPN1_119, hR_119, hn1_119⟩ := hQ
          have O_b13 := O_b13'
          have A_k1_42 := A_k1_42'
          have A_m1_42 := A_m1_42'
          have A_u1_42 := A_u1_42'
          show Goes p e below s _ n0 _ (T.setTop (mkF m 122 #[.val (.int p1), .val (.int p2), .val (.int p3), .val (.int p4), .val (.int p5), .val (.int p6), .val (.int x4), .val (.int x10), .val (.int x18), .val (.int x24), .val (.int x34), .val (.ref b13), .val (.int (bI ((Int32.ofNat 0) = (0 : Int32)))), .unset, .unset, .unset, .unset, .unset] [(.int r1_119)]))
          refine g_istore X at_122 rfl (q := 124) (L' := #[.val (.int p1), .val (.int p2), .val (.int p3), .val (.int p4), .val (.int p5), .val (.int p6), .val (.int x4), .val (.int x10), .val (.int x18), .val (.int x24), .val (.int x34), .val (.ref b13), .val (.int (bI ((Int32.ofNat 0) = (0 : Int32)))), .val (.int r1_119), .unset, .unset, .unset, .unset]) rfl ?_
          refine g_aload X at_124 rfl (q := 126) rfl rfl ?_
          refine g_iload X at_126 rfl (q := 128) rfl ?_
          refine g_iloadN X at_128 rfl (q := 129) rfl ?_
          refine g_callV X O_b13.1 [(.int x4), (.int p2)] [] (tw44 hw) (tw45 hw) (tw47 hw) (tw46 hw) (tw3 hw) (tw48 hw) (by decide) (rm8 l Z a0 hw [] b13 x4 p2 k1_42 m1_42 u1_42 sh_42 mk_42 sz_42 C_42 K1_119 M1_119 P1_119 ks1_119 n1_119 _ n0 X.size O_b13 A_k1_42 A_m1_42 A_u1_42 g_b13 g_k1_42 g_m1_42 g_u1_42 ne_b13_k1_42 ne_b13_m1_42 ne_b13_u1_42 ne_k1_42_b13 ne_k1_42_m1_42 ne_k1_42_u1_42 ne_m1_42_b13 ne_m1_42_k1_42 ne_m1_42_u1_42 ne_u1_42_b13 ne_u1_42_k1_42 ne_u1_42_m1_42 (by omega) hz_42 hPN1_119 (by omega) (by omega)) pd0 rfl rfl rfl at_129 (q := 132) rfl (W := 0) rfl (by decide) (by decide) (c2 := 4) (s2 := 44) rfl rfl (by decide) (by decide) (fun v T h' X hQ => ?_)
          obtain ⟨r1_129, K1_129, M1_129, P1_129, ks1_129, n1_129, rfl, Kc, O_b13', A_k1_42', A_m1_42', A_u1_42', hPN1_129, hR_129, hn1_129⟩ := hQ
          have O_b13 := O_b13'
          have A_k1_42 := A_k1_42'
          have A_m1_42 := A_m1_42'
          have A_u1_42 := A_u1_42'
          show Goes p e below s _ n0 _ (T.setTop (mkF m 132 #[.val (.int p1), .val (.int p2), .val (.int p3), .val (.int p4), .val (.int p5), .val (.int p6), .val (.int x4), .val (.int x10), .val (.int x18), .val (.int x24), .val (.int x34), .val (.ref b13), .val (.int (bI ((Int32.ofNat 0) = (0 : Int32)))), .val (.int r1_119), .unset, .unset, .unset, .unset] [(.int r1_129)]))
          refine g_istore X at_132 rfl (q := 134) (L' := #[.val (.int p1), .val (.int p2), .val (.int p3), .val (.int p4), .val (.int p5), .val (.int p6), .val (.int x4), .val (.int x10), .val (.int x18), .val (.int x24), .val (.int x34), .val (.ref b13), .val (.int (bI ((Int32.ofNat 0) = (0 : Int32)))), .val (.int r1_119), .val (.int r1_129), .unset, .unset, .unset]) rfl ?_
          refine g_iload X at_134 rfl (q := 136) rfl ?_
          refine g_iload X at_136 rfl (q := 138) rfl ?_
          refine g_jT1 X (J := 152) (P := fun (s0_152 : Int32) => s0_152 = (bI ((x4 = x18) ∧ (p2 = p5)))) (L := fun s0_152 => #[.val (.int p1), .val (.int p2), .val (.int p3), .val (.int p4), .val (.int p5), .val (.int p6), .val (.int x4), .val (.int x10), .val (.int x18), .val (.int x24), .val (.int x34), .val (.ref b13), .val (.int (bI ((Int32.ofNat 0) = (0 : Int32)))), .val (.int r1_119), .val (.int r1_129), .unset, .unset, .unset]) (S := fun s0_152 => [(.int s0_152)]) ?_ ?_
          · intro T X s0_152 hs0_152
            replace hs0_152 : s0_152 = (bI ((x4 = x18) ∧ (p2 = p5))) := hs0_152
            subst hs0_152
            show Goes p e below s _ n0 _ (T.setTop (mkF m 152 #[.val (.int p1), .val (.int p2), .val (.int p3), .val (.int p4), .val (.int p5), .val (.int p6), .val (.int x4), .val (.int x10), .val (.int x18), .val (.int x24), .val (.int x34), .val (.ref b13), .val (.int (bI ((Int32.ofNat 0) = (0 : Int32)))), .val (.int r1_119), .val (.int r1_129), .unset, .unset, .unset] [(.int (bI ((x4 = x18) ∧ (p2 = p5))))]))
            refine g_istore X at_152 rfl (q := 154) (L' := #[.val (.int p1), .val (.int p2), .val (.int p3), .val (.int p4), .val (.int p5), .val (.int p6), .val (.int x4), .val (.int x10), .val (.int x18), .val (.int x24), .val (.int x34), .val (.ref b13), .val (.int (bI ((Int32.ofNat 0) = (0 : Int32)))), .val (.int r1_119), .val (.int r1_129), .val (.int (bI ((x4 = x18) ∧ (p2 = p5)))), .unset, .unset]) rfl ?_
            refine g_iload X at_154 rfl (q := 156) rfl ?_
            refine g_jT1 X (J := 164) (P := fun (s0_164 : Int32) => s0_164 = (bI (¬ ((x4 = x18) ∧ (p2 = p5))))) (L := fun s0_164 => #[.val (.int p1), .val (.int p2), .val (.int p3), .val (.int p4), .val (.int p5), .val (.int p6), .val (.int x4), .val (.int x10), .val (.int x18), .val (.int x24), .val (.int x34), .val (.ref b13), .val (.int (bI ((Int32.ofNat 0) = (0 : Int32)))), .val (.int r1_119), .val (.int r1_129), .val (.int (bI ((x4 = x18) ∧ (p2 = p5)))), .unset, .unset]) (S := fun s0_164 => [(.int s0_164)]) ?_ ?_
            · intro T X s0_164 hs0_164
              replace hs0_164 : s0_164 = (bI (¬ ((x4 = x18) ∧ (p2 = p5)))) := hs0_164
              subst hs0_164
              show Goes p e below s _ n0 _ (T.setTop (mkF m 164 #[.val (.int p1), .val (.int p2), .val (.int p3), .val (.int p4), .val (.int p5), .val (.int p6), .val (.int x4), .val (.int x10), .val (.int x18), .val (.int x24), .val (.int x34), .val (.ref b13), .val (.int (bI ((Int32.ofNat 0) = (0 : Int32)))), .val (.int r1_119), .val (.int r1_129), .val (.int (bI ((x4 = x18) ∧ (p2 = p5)))), .unset, .unset] [(.int (bI (¬ ((x4 = x18) ∧ (p2 = p5)))))]))
              refine g_istore X at_164 rfl (q := 166) (L' := #[.val (.int p1), .val (.int p2), .val (.int p3), .val (.int p4), .val (.int p5), .val (.int p6), .val (.int x4), .val (.int x10), .val (.int x18), .val (.int x24), .val (.int x34), .val (.ref b13), .val (.int (bI ((Int32.ofNat 0) = (0 : Int32)))), .val (.int r1_119), .val (.int r1_129), .val (.int (bI ((x4 = x18) ∧ (p2 = p5)))), .val (.int (bI (¬ ((x4 = x18) ∧ (p2 = p5))))), .unset]) rfl ?_
              refine g_iload X at_166 rfl (q := 168) rfl ?_
              refine g_jT1 X (J := 176) (P := fun (s0_176 : Int32) => s0_176 = (if (x4 = x18) ∧ (p2 = p5) then (1 : Int32) else (2 : Int32))) (L := fun s0_176 => #[.val (.int p1), .val (.int p2), .val (.int p3), .val (.int p4), .val (.int p5), .val (.int p6), .val (.int x4), .val (.int x10), .val (.int x18), .val (.int x24), .val (.int x34), .val (.ref b13), .val (.int (bI ((Int32.ofNat 0) = (0 : Int32)))), .val (.int r1_119), .val (.int r1_129), .val (.int (bI ((x4 = x18) ∧ (p2 = p5)))), .val (.int (bI (¬ ((x4 = x18) ∧ (p2 = p5))))), .unset]) (S := fun s0_176 => [(.int s0_176)]) ?_ ?_
              · intro T X s0_176 hs0_176
                replace hs0_176 : s0_176 = (if (x4 = x18) ∧ (p2 = p5) then (1 : Int32) else (2 : Int32)) := hs0_176
                show Goes p e below s _ n0 _ (T.setTop (mkF m 176 #[.val (.int p1), .val (.int p2), .val (.int p3), .val (.int p4), .val (.int p5), .val (.int p6), .val (.int x4), .val (.int x10), .val (.int x18), .val (.int x24), .val (.int x34), .val (.ref b13), .val (.int (bI ((Int32.ofNat 0) = (0 : Int32)))), .val (.int r1_119), .val (.int r1_129), .val (.int (bI ((x4 = x18) ∧ (p2 = p5)))), .val (.int (bI (¬ ((x4 = x18) ∧ (p2 = p5))))), .unset] [(.int s0_176)]))
                have b_s0_176 : (1 : Int) ≤ s0_176.toInt ∧ s0_176.toInt ≤ 2 := by
                  have z0 := hs0_176
                  have f1 := rng32 p2
                  have f2 := rng32 p5
                  have e0 := congrArg Int32.toInt z0
                  (try simp only [Int64.lt_iff_toInt_lt, Int32.lt_iff_toInt_lt, Int64.le_iff_toInt_le, Int32.le_iff_toInt_le, ← Int64.toInt_inj, ← Int32.toInt_inj, apply_ite Int64.toInt, apply_ite Int32.toInt, Int64.reduceToInt, Int32.reduceToInt, ne_eq, true_and, and_true, false_or, or_false, iff_self, and_self, not_true_eq_false, not_false_eq_true] at e0)
                  omega
                refine g_istore X at_176 rfl (q := 178) (L' := #[.val (.int p1), .val (.int p2), .val (.int p3), .val (.int p4), .val (.int p5), .val (.int p6), .val (.int x4), .val (.int x10), .val (.int x18), .val (.int x24), .val (.int x34), .val (.ref b13), .val (.int (bI ((Int32.ofNat 0) = (0 : Int32)))), .val (.int r1_119), .val (.int r1_129), .val (.int (bI ((x4 = x18) ∧ (p2 = p5)))), .val (.int (bI (¬ ((x4 = x18) ∧ (p2 = p5))))), .val (.int s0_176)]) rfl ?_
                refine g_iload X at_178 rfl (q := 180) rfl ?_
                refine g_jT1 X (J := 210) (P := fun (s0_210 : Int32) => s0_210 = (bI (((Int32.ofNat 0) = (0 : Int32)) ∧ ((r1_119 = (0 : Int32)) ∧ ((r1_129 = (bI (¬ ((x4 = x18) ∧ (p2 = p5))))) ∧ ((Int32.ofNat n1_129) = s0_176)))))) (L := fun s0_210 => #[.val (.int p1), .val (.int p2), .val (.int p3), .val (.int p4), .val (.int p5), .val (.int p6), .val (.int x4), .val (.int x10), .val (.int x18), .val (.int x24), .val (.int x34), .val (.ref b13), .val (.int (bI ((Int32.ofNat 0) = (0 : Int32)))), .val (.int r1_119), .val (.int r1_129), .val (.int (bI ((x4 = x18) ∧ (p2 = p5)))), .val (.int (bI (¬ ((x4 = x18) ∧ (p2 = p5))))), .val (.int s0_176)]) (S := fun s0_210 => [(.int s0_210)]) ?_ ?_
                · intro T X s0_210 hs0_210
                  replace hs0_210 : s0_210 = (bI (((Int32.ofNat 0) = (0 : Int32)) ∧ ((r1_119 = (0 : Int32)) ∧ ((r1_129 = (bI (¬ ((x4 = x18) ∧ (p2 = p5))))) ∧ ((Int32.ofNat n1_129) = s0_176))))) := hs0_210
                  subst hs0_210
                  show Goes p e below s _ n0 _ (T.setTop (mkF m 210 #[.val (.int p1), .val (.int p2), .val (.int p3), .val (.int p4), .val (.int p5), .val (.int p6), .val (.int x4), .val (.int x10), .val (.int x18), .val (.int x24), .val (.int x34), .val (.ref b13), .val (.int (bI ((Int32.ofNat 0) = (0 : Int32)))), .val (.int r1_119), .val (.int r1_129), .val (.int (bI ((x4 = x18) ∧ (p2 = p5)))), .val (.int (bI (¬ ((x4 = x18) ∧ (p2 = p5))))), .val (.int s0_176)] [(.int (bI (((Int32.ofNat 0) = (0 : Int32)) ∧ ((r1_119 = (0 : Int32)) ∧ ((r1_129 = (bI (¬ ((x4 = x18) ∧ (p2 = p5))))) ∧ ((Int32.ofNat n1_129) = s0_176))))))]))
                  refine g_retZ X at_210 (by decide) (by decide) (bI_01 _) (own_fin ?_)
                  show ((Int32.ofNat 0) = (0 : Int32)) ∧ ((r1_119 = (0 : Int32)) ∧ ((r1_129 = (bI (¬ ((x4 = x18) ∧ (p2 = p5))))) ∧ ((Int32.ofNat n1_129) = s0_176)))
                  have E := own_keyE (f := x4) (s := p2) (f' := x18) (s' := p5) (by omega) (by omega)
                  have F := own_fin2 hR_119 hR_129
                  refine ⟨rfl, F.1, ?_, ?_⟩
                  · by_cases q : (x4 = x18) ∧ (p2 = p5)
                    · rw [(F.2.1 (E.mpr q)).1]; exact bI_f (fun z => z q)
                    · rw [(F.2.2 (fun z => q (E.mp z))).1]; exact bI_t q
                  · rw [hs0_176]; by_cases q : (x4 = x18) ∧ (p2 = p5)
                    · rw [(F.2.1 (E.mpr q)).2, if_pos q]
                    · rw [(F.2.2 (fun z => q (E.mp z))).2, if_neg q]
                · intro J210_61
                  refine g_beq X at_180 (q := 183) rfl (by decide) (t := 209) rfl (fun (c62 : (Int32.ofNat 0) = (0 : Int32)) => ?_) (fun (c62 : ¬ ((Int32.ofNat 0) = (0 : Int32))) => ?_)
                  · skip
                    refine g_iload X at_183 rfl (q := 185) rfl ?_
                    refine g_ifB X at_185 (Or.inr (Or.inr rfl)) (q := 188) rfl (by decide) (t := 209) rfl (fun (c63 : r1_119 = (0 : Int32)) => ?_) (fun (c63 : ¬ (r1_119 = (0 : Int32))) => ?_)
                    · skip
                      refine g_iload X at_188 rfl (q := 190) rfl ?_
                      refine g_iload X at_190 rfl (q := 192) rfl ?_
                      refine g_icmpB X at_192 (Or.inr (Or.inr rfl)) (q := 195) rfl (by decide) (t := 209) rfl (fun (c64 : r1_129 = (bI (¬ ((x4 = x18) ∧ (p2 = p5))))) => ?_) (fun (c64 : ¬ (r1_129 = (bI (¬ ((x4 = x18) ∧ (p2 = p5)))))) => ?_)
                      · skip
                        refine g_aload X at_195 rfl (q := 197) rfl rfl ?_
                        refine g_callV X O_b13.1 [] [] (tw58 hw) (tw59 hw) (tw61 hw) (tw60 hw) (tw3 hw) (tw62 hw) (by decide) (rm10 l Z a0 hw [] b13 k1_42 m1_42 u1_42 sh_42 mk_42 (Int32.ofNat n1_129) _ n0 X.size O_b13) pd5 rfl rfl rfl at_197 (q := 200) rfl (W := 0) rfl (by decide) (by decide) (c2 := 4) (s2 := 44) rfl rfl (by decide) (by decide) (fun v T h' X hQ => ?_)
                        obtain ⟨rfl, rfl⟩ := hQ
                        show Goes p e below s _ n0 _ (T.setTop (mkF m 200 #[.val (.int p1), .val (.int p2), .val (.int p3), .val (.int p4), .val (.int p5), .val (.int p6), .val (.int x4), .val (.int x10), .val (.int x18), .val (.int x24), .val (.int x34), .val (.ref b13), .val (.int (bI ((Int32.ofNat 0) = (0 : Int32)))), .val (.int r1_119), .val (.int r1_129), .val (.int (bI ((x4 = x18) ∧ (p2 = p5)))), .val (.int (bI (¬ ((x4 = x18) ∧ (p2 = p5))))), .val (.int s0_176)] [(.int (Int32.ofNat n1_129))]))
                        refine g_iload X at_200 rfl (q := 202) rfl ?_
                        refine g_icmpB X at_202 (Or.inr (Or.inr rfl)) (q := 205) rfl (by decide) (t := 209) rfl (fun (c65 : (Int32.ofNat n1_129) = s0_176) => ?_) (fun (c65 : ¬ ((Int32.ofNat n1_129) = s0_176)) => ?_)
                        · skip
                          refine g_iconst X at_205 rfl (q := 206) (v := 1) rfl ?_
                          refine g_goto X at_206 (by decide) (q := 210) rfl ?_
                          exact J210_61 T X _ (bI_t ⟨c62, ⟨c63, ⟨c64, c65⟩⟩⟩)
                        · skip
                          refine g_iconst X at_209 rfl (q := 210) (v := 0) rfl ?_
                          exact J210_61 T X _ (bI_f (fun z => (fun z => (fun z => c65 z.2) z.2) z.2))
                      · skip
                        refine g_iconst X at_209 rfl (q := 210) (v := 0) rfl ?_
                        exact J210_61 T X _ (bI_f (fun z => (fun z => (fun z => c64 z.1) z.2) z.2))
                    · skip
                      refine g_iconst X at_209 rfl (q := 210) (v := 0) rfl ?_
                      exact J210_61 T X _ (bI_f (fun z => (fun z => c63 z.1) z.2))
                  · skip
                    refine g_iconst X at_209 rfl (q := 210) (v := 0) rfl ?_
                    exact J210_61 T X _ (bI_f (fun z => c62 z.1))
              · intro J176_65
                refine g_beq X at_168 (q := 171) rfl (by decide) (t := 175) rfl (fun (c66 : (x4 = x18) ∧ (p2 = p5)) => ?_) (fun (c66 : ¬ ((x4 = x18) ∧ (p2 = p5))) => ?_)
                · skip
                  refine g_iconst X at_171 rfl (q := 172) (v := 1) rfl ?_
                  refine g_goto X at_172 (by decide) (q := 176) rfl ?_
                  exact J176_65 T X _ ((if_pos c66).symm)
                · skip
                  refine g_iconst X at_175 rfl (q := 176) (v := 2) rfl ?_
                  exact J176_65 T X _ ((if_neg c66).symm)
            · intro J164_66
              refine g_beq X at_156 (q := 159) rfl (by decide) (t := 163) rfl (fun (c67 : (x4 = x18) ∧ (p2 = p5)) => ?_) (fun (c67 : ¬ ((x4 = x18) ∧ (p2 = p5))) => ?_)
              · skip
                refine g_iconst X at_159 rfl (q := 160) (v := 0) rfl ?_
                refine g_goto X at_160 (by decide) (q := 164) rfl ?_
                exact J164_66 T X _ (bI_f (fun z => z c67))
              · skip
                refine g_iconst X at_163 rfl (q := 164) (v := 1) rfl ?_
                exact J164_66 T X _ (bI_t c67)
          · intro J152_67
            refine g_icmpB X at_138 (Or.inr (Or.inr rfl)) (q := 141) rfl (by decide) (t := 151) rfl (fun (c68 : x4 = x18) => ?_) (fun (c68 : ¬ (x4 = x18)) => ?_)
            · skip
              refine g_iloadN X at_141 rfl (q := 142) rfl ?_
              refine g_iload X at_142 rfl (q := 144) rfl ?_
              refine g_icmpB X at_144 (Or.inr (Or.inr rfl)) (q := 147) rfl (by decide) (t := 151) rfl (fun (c69 : p2 = p5) => ?_) (fun (c69 : ¬ (p2 = p5)) => ?_)
              · skip
                refine g_iconst X at_147 rfl (q := 148) (v := 1) rfl ?_
                refine g_goto X at_148 (by decide) (q := 152) rfl ?_
                exact J152_67 T X _ (bI_t ⟨c68, c69⟩)
              · skip
                refine g_iconst X at_151 rfl (q := 152) (v := 0) rfl ?_
                exact J152_67 T X _ (bI_f (fun z => c69 z.2))
            · skip
              refine g_iconst X at_151 rfl (q := 152) (v := 0) rfl ?_
              exact J152_67 T X _ (bI_f (fun z => c68 z.1))
        · intro J111_69
          refine g_ifB X at_103 (Or.inr (Or.inr rfl)) (q := 106) rfl (by decide) (t := 110) rfl (fun (c70 : (Int32.ofNat 0) = (0 : Int32)) => ?_) (fun (c70 : ¬ ((Int32.ofNat 0) = (0 : Int32))) => ?_)
          · skip
            refine g_iconst X at_106 rfl (q := 107) (v := 1) rfl ?_
            refine g_goto X at_107 (by decide) (q := 111) rfl ?_
            exact J111_69 T X _ (bI_t c70)
          · skip
            refine g_iconst X at_110 rfl (q := 111) (v := 0) rfl ?_
            exact J111_69 T X _ (bI_f c70)
      · skip
        have b_x24 : (3 : Int) ≤ x24.toInt ∧ x24.toInt ≤ 3 := by have z0 := c61; (try simp only [Int64.lt_iff_toInt_lt, Int32.lt_iff_toInt_lt, Int64.le_iff_toInt_le, Int32.le_iff_toInt_le, ← Int64.toInt_inj, ← Int32.toInt_inj, apply_ite Int64.toInt, apply_ite Int32.toInt, Int64.reduceToInt, Int32.reduceToInt, ne_eq] at z0); have z1 := rng32 x24; omega
        refine g_aload X at_83 rfl (q := 85) rfl rfl ?_
        refine g_iload X at_85 rfl (q := 87) rfl ?_
        refine g_iload X at_87 rfl (q := 89) rfl ?_
        refine g_callV X O_b13.1 [(.int x18), (.int p5)] [] (tw44 hw) (tw45 hw) (tw47 hw) (tw46 hw) (tw3 hw) (tw48 hw) (by decide) (rm8 l Z a0 hw [] b13 x18 p5 k1_42 m1_42 u1_42 sh_42 mk_42 sz_42 C_42 K1_73 M1_73 P1_73 ks1_73 n1_73 _ n0 X.size O_b13 A_k1_42 A_m1_42 A_u1_42 g_b13 g_k1_42 g_m1_42 g_u1_42 ne_b13_k1_42 ne_b13_m1_42 ne_b13_u1_42 ne_k1_42_b13 ne_k1_42_m1_42 ne_k1_42_u1_42 ne_m1_42_b13 ne_m1_42_k1_42 ne_m1_42_u1_42 ne_u1_42_b13 ne_u1_42_k1_42 ne_u1_42_m1_42 (by omega) hz_42 hPN1_73 (by omega) (by omega)) pd0 rfl rfl rfl at_89 (q := 92) rfl (W := 0) rfl (by decide) (by decide) (c2 := 4) (s2 := 44) rfl rfl (by decide) (by decide) (fun v T h' X hQ => ?_)
        obtain ⟨r1_89, K1_89, M1_89, P1_89, ks1_89, n1_89, rfl, Kc, O_b13', A_k1_42', A_m1_42', A_u1_42', hPN1_89, hR_89, hn1_89⟩ := hQ
        have O_b13 := O_b13'
        have A_k1_42 := A_k1_42'
        have A_m1_42 := A_m1_42'
        have A_u1_42 := A_u1_42'
        show Goes p e below s _ n0 _ (T.setTop (mkF m 92 #[.val (.int p1), .val (.int p2), .val (.int p3), .val (.int p4), .val (.int p5), .val (.int p6), .val (.int x4), .val (.int x10), .val (.int x18), .val (.int x24), .val (.int x34), .val (.ref b13), .unset, .unset, .unset, .unset, .unset, .unset] [(.int r1_89)]))
        refine g_pop X at_92 rfl (q := 93) rfl ?_
        refine g_aload X at_93 rfl (q := 95) rfl rfl ?_
        refine g_callV X O_b13.1 [] [] (tw53 hw) (tw54 hw) (tw56 hw) (tw55 hw) (tw3 hw) (tw57 hw) (by decide) (rm9 l Z a0 hw [] b13 k1_42 m1_42 u1_42 sh_42 mk_42 sz_42 C_42 K1_89 P1_89 n1_89 M1_89 ks1_89 _ n0 X.size O_b13 A_k1_42 A_u1_42 g_b13 g_k1_42 ne_b13_k1_42 ne_b13_u1_42 ne_k1_42_b13 ne_k1_42_u1_42 ne_u1_42_b13 ne_u1_42_k1_42 hz_42 hPN1_89 (by omega) (by omega)) pd4 rfl rfl rfl at_95 (q := 98) rfl (W := 0) rfl (by decide) (by decide) (c2 := 4) (s2 := 44) rfl rfl (by decide) (by decide) (fun v T h' X hQ => ?_)
        obtain ⟨K1_95, rfl, Kc, O_b13', A_k1_42', hE_95⟩ := hQ
        have A_m1_42 := A_m1_42.keep Kc (ninS ne_m1_42_b13 (ninS ne_m1_42_k1_42 nin0))
        have A_u1_42 := A_u1_42.keep Kc (ninS ne_u1_42_b13 (ninS ne_u1_42_k1_42 nin0))
        have O_b13 := O_b13'
        have A_k1_42 := A_k1_42'
        show Goes p e below s _ n0 _ (T.setTop (mkF m 98 #[.val (.int p1), .val (.int p2), .val (.int p3), .val (.int p4), .val (.int p5), .val (.int p6), .val (.int x4), .val (.int x10), .val (.int x18), .val (.int x24), .val (.int x34), .val (.ref b13), .unset, .unset, .unset, .unset, .unset, .unset] []))
        refine g_aload X at_98 rfl (q := 100) rfl rfl ?_
        refine g_callV X O_b13.1 [] [] (tw58 hw) (tw59 hw) (tw61 hw) (tw60 hw) (tw3 hw) (tw62 hw) (by decide) (rm10 l Z a0 hw [] b13 k1_42 m1_42 u1_42 sh_42 mk_42 (Int32.ofNat 0) _ n0 X.size O_b13) pd5 rfl rfl rfl at_100 (q := 103) rfl (W := 0) rfl (by decide) (by decide) (c2 := 4) (s2 := 44) rfl rfl (by decide) (by decide) (fun v T h' X hQ => ?_)
        obtain ⟨rfl, rfl⟩ := hQ
        show Goes p e below s _ n0 _ (T.setTop (mkF m 103 #[.val (.int p1), .val (.int p2), .val (.int p3), .val (.int p4), .val (.int p5), .val (.int p6), .val (.int x4), .val (.int x10), .val (.int x18), .val (.int x24), .val (.int x34), .val (.ref b13), .unset, .unset, .unset, .unset, .unset, .unset] [(.int (Int32.ofNat 0))]))
        refine g_jT1 X (J := 111) (P := fun (s0_111 : Int32) => s0_111 = (bI ((Int32.ofNat 0) = (0 : Int32)))) (L := fun s0_111 => #[.val (.int p1), .val (.int p2), .val (.int p3), .val (.int p4), .val (.int p5), .val (.int p6), .val (.int x4), .val (.int x10), .val (.int x18), .val (.int x24), .val (.int x34), .val (.ref b13), .unset, .unset, .unset, .unset, .unset, .unset]) (S := fun s0_111 => [(.int s0_111)]) ?_ ?_
        · intro T X s0_111 hs0_111
          replace hs0_111 : s0_111 = (bI ((Int32.ofNat 0) = (0 : Int32))) := hs0_111
          subst hs0_111
          show Goes p e below s _ n0 _ (T.setTop (mkF m 111 #[.val (.int p1), .val (.int p2), .val (.int p3), .val (.int p4), .val (.int p5), .val (.int p6), .val (.int x4), .val (.int x10), .val (.int x18), .val (.int x24), .val (.int x34), .val (.ref b13), .unset, .unset, .unset, .unset, .unset, .unset] [(.int (bI ((Int32.ofNat 0) = (0 : Int32))))]))
          refine g_istore X at_111 rfl (q := 113) (L' := #[.val (.int p1), .val (.int p2), .val (.int p3), .val (.int p4), .val (.int p5), .val (.int p6), .val (.int x4), .val (.int x10), .val (.int x18), .val (.int x24), .val (.int x34), .val (.ref b13), .val (.int (bI ((Int32.ofNat 0) = (0 : Int32)))), .unset, .unset, .unset, .unset, .unset]) rfl ?_
          refine g_aload X at_113 rfl (q := 115) rfl rfl ?_
          refine g_iload X at_115 rfl (q := 117) rfl ?_
          refine g_iload X at_117 rfl (q := 119) rfl ?_
          refine g_callV X O_b13.1 [(.int x18), (.int p5)] [] (tw44 hw) (tw45 hw) (tw47 hw) (tw46 hw) (tw3 hw) (tw48 hw) (by decide) (rm8 l Z a0 hw [] b13 x18 p5 k1_42 m1_42 u1_42 sh_42 mk_42 sz_42 C_42 K1_95 M1_89 P1_89 (fun _ => 0) 0 _ n0 X.size O_b13 A_k1_42 A_m1_42 A_u1_42 g_b13 g_k1_42 g_m1_42 g_u1_42 ne_b13_k1_42 ne_b13_m1_42 ne_b13_u1_42 ne_k1_42_b13 ne_k1_42_m1_42 ne_k1_42_u1_42 ne_m1_42_b13 ne_m1_42_k1_42 ne_m1_42_u1_42 ne_u1_42_b13 ne_u1_42_k1_42 ne_u1_42_m1_42 (by omega) hz_42 (own_pn0 _ _ _ _ _ _ hE_95) (by omega) (by omega)) pd0 rfl rfl rfl at_119 (q := 122) rfl (W := 0) rfl (by decide) (by decide) (c2 := 4) (s2 := 44) rfl rfl (by decide) (by decide) (fun v T h' X hQ => ?_)
          obtain ⟨r1_119, K1_119, M1_119, P1_119, ks1_119, n1_119, rfl, Kc, O_b13', A_k1_42', A_m1_42', A_u1_42', hPN1_119, hR_119, hn1_119⟩ := hQ
          have O_b13 := O_b13'
          have A_k1_42 := A_k1_42'
          have A_m1_42 := A_m1_42'
          have A_u1_42 := A_u1_42'
          show Goes p e below s _ n0 _ (T.setTop (mkF m 122 #[.val (.int p1), .val (.int p2), .val (.int p3), .val (.int p4), .val (.int p5), .val (.int p6), .val (.int x4), .val (.int x10), .val (.int x18), .val (.int x24), .val (.int x34), .val (.ref b13), .val (.int (bI ((Int32.ofNat 0) = (0 : Int32)))), .unset, .unset, .unset, .unset, .unset] [(.int r1_119)]))
          refine g_istore X at_122 rfl (q := 124) (L' := #[.val (.int p1), .val (.int p2), .val (.int p3), .val (.int p4), .val (.int p5), .val (.int p6), .val (.int x4), .val (.int x10), .val (.int x18), .val (.int x24), .val (.int x34), .val (.ref b13), .val (.int (bI ((Int32.ofNat 0) = (0 : Int32)))), .val (.int r1_119), .unset, .unset, .unset, .unset]) rfl ?_
          refine g_aload X at_124 rfl (q := 126) rfl rfl ?_
          refine g_iload X at_126 rfl (q := 128) rfl ?_
          refine g_iloadN X at_128 rfl (q := 129) rfl ?_
          refine g_callV X O_b13.1 [(.int x4), (.int p2)] [] (tw44 hw) (tw45 hw) (tw47 hw) (tw46 hw) (tw3 hw) (tw48 hw) (by decide) (rm8 l Z a0 hw [] b13 x4 p2 k1_42 m1_42 u1_42 sh_42 mk_42 sz_42 C_42 K1_119 M1_119 P1_119 ks1_119 n1_119 _ n0 X.size O_b13 A_k1_42 A_m1_42 A_u1_42 g_b13 g_k1_42 g_m1_42 g_u1_42 ne_b13_k1_42 ne_b13_m1_42 ne_b13_u1_42 ne_k1_42_b13 ne_k1_42_m1_42 ne_k1_42_u1_42 ne_m1_42_b13 ne_m1_42_k1_42 ne_m1_42_u1_42 ne_u1_42_b13 ne_u1_42_k1_42 ne_u1_42_m1_42 (by omega) hz_42 hPN1_119 (by omega) (by omega)) pd0 rfl rfl rfl at_129 (q := 132) rfl (W := 0) rfl (by decide) (by decide) (c2 := 4) (s2 := 44) rfl rfl (by decide) (by decide) (fun v T h' X hQ => ?_)
          obtain ⟨r1_129, K1_129, M1_129, P1_129, ks1_129, n1_129, rfl, Kc, O_b13', A_k1_42', A_m1_42', A_u1_42', hPN1_129, hR_129, hn1_129⟩ := hQ
          have O_b13 := O_b13'
          have A_k1_42 := A_k1_42'
          have A_m1_42 := A_m1_42'
          have A_u1_42 := A_u1_42'
          show Goes p e below s _ n0 _ (T.setTop (mkF m 132 #[.val (.int p1), .val (.int p2), .val (.int p3), .val (.int p4), .val (.int p5), .val (.int p6), .val (.int x4), .val (.int x10), .val (.int x18), .val (.int x24), .val (.int x34), .val (.ref b13), .val (.int (bI ((Int32.ofNat 0) = (0 : Int32)))), .val (.int r1_119), .unset, .unset, .unset, .unset] [(.int r1_129)]))
          refine g_istore X at_132 rfl (q := 134) (L' := #[.val (.int p1), .val (.int p2), .val (.int p3), .val (.int p4), .val (.int p5), .val (.int p6), .val (.int x4), .val (.int x10), .val (.int x18), .val (.int x24), .val (.int x34), .val (.ref b13), .val (.int (bI ((Int32.ofNat 0) = (0 : Int32)))), .val (.int r1_119), .val (.int r1_129), .unset, .unset, .unset]) rfl ?_
          refine g_iload X at_134 rfl (q := 136) rfl ?_
          refine g_iload X at_136 rfl (q := 138) rfl ?_
          refine g_jT1 X (J := 152) (P := fun (s0_152 : Int32) => s0_152 = (bI ((x4 = x18) ∧ (p2 = p5)))) (L := fun s0_152 => #[.val (.int p1), .val (.int p2), .val (.int p3), .val (.int p4), .val (.int p5), .val (.int p6), .val (.int x4), .val (.int x10), .val (.int x18), .val (.int x24), .val (.int x34), .val (.ref b13), .val (.int (bI ((Int32.ofNat 0) = (0 : Int32)))), .val (.int r1_119), .val (.int r1_129), .unset, .unset, .unset]) (S := fun s0_152 => [(.int s0_152)]) ?_ ?_
          · intro T X s0_152 hs0_152
            replace hs0_152 : s0_152 = (bI ((x4 = x18) ∧ (p2 = p5))) := hs0_152
            subst hs0_152
            show Goes p e below s _ n0 _ (T.setTop (mkF m 152 #[.val (.int p1), .val (.int p2), .val (.int p3), .val (.int p4), .val (.int p5), .val (.int p6), .val (.int x4), .val (.int x10), .val (.int x18), .val (.int x24), .val (.int x34), .val (.ref b13), .val (.int (bI ((Int32.ofNat 0) = (0 : Int32)))), .val (.int r1_119), .val (.int r1_129), .unset, .unset, .unset] [(.int (bI ((x4 = x18) ∧ (p2 = p5))))]))
            refine g_istore X at_152 rfl (q := 154) (L' := #[.val (.int p1), .val (.int p2), .val (.int p3), .val (.int p4), .val (.int p5), .val (.int p6), .val (.int x4), .val (.int x10), .val (.int x18), .val (.int x24), .val (.int x34), .val (.ref b13), .val (.int (bI ((Int32.ofNat 0) = (0 : Int32)))), .val (.int r1_119), .val (.int r1_129), .val (.int (bI ((x4 = x18) ∧ (p2 = p5)))), .unset, .unset]) rfl ?_
            refine g_iload X at_154 rfl (q := 156) rfl ?_
            refine g_jT1 X (J := 164) (P := fun (s0_164 : Int32) => s0_164 = (bI (¬ ((x4 = x18) ∧ (p2 = p5))))) (L := fun s0_164 => #[.val (.int p1), .val (.int p2), .val (.int p3), .val (.int p4), .val (.int p5), .val (.int p6), .val (.int x4), .val (.int x10), .val (.int x18), .val (.int x24), .val (.int x34), .val (.ref b13), .val (.int (bI ((Int32.ofNat 0) = (0 : Int32)))), .val (.int r1_119), .val (.int r1_129), .val (.int (bI ((x4 = x18) ∧ (p2 = p5)))), .unset, .unset]) (S := fun s0_164 => [(.int s0_164)]) ?_ ?_
            · intro T X s0_164 hs0_164
              replace hs0_164 : s0_164 = (bI (¬ ((x4 = x18) ∧ (p2 = p5)))) := hs0_164
              subst hs0_164
              show Goes p e below s _ n0 _ (T.setTop (mkF m 164 #[.val (.int p1), .val (.int p2), .val (.int p3), .val (.int p4), .val (.int p5), .val (.int p6), .val (.int x4), .val (.int x10), .val (.int x18), .val (.int x24), .val (.int x34), .val (.ref b13), .val (.int (bI ((Int32.ofNat 0) = (0 : Int32)))), .val (.int r1_119), .val (.int r1_129), .val (.int (bI ((x4 = x18) ∧ (p2 = p5)))), .unset, .unset] [(.int (bI (¬ ((x4 = x18) ∧ (p2 = p5)))))]))
              refine g_istore X at_164 rfl (q := 166) (L' := #[.val (.int p1), .val (.int p2), .val (.int p3), .val (.int p4), .val (.int p5), .val (.int p6), .val (.int x4), .val (.int x10), .val (.int x18), .val (.int x24), .val (.int x34), .val (.ref b13), .val (.int (bI ((Int32.ofNat 0) = (0 : Int32)))), .val (.int r1_119), .val (.int r1_129), .val (.int (bI ((x4 = x18) ∧ (p2 = p5)))), .val (.int (bI (¬ ((x4 = x18) ∧ (p2 = p5))))), .unset]) rfl ?_
              refine g_iload X at_166 rfl (q := 168) rfl ?_
              refine g_jT1 X (J := 176) (P := fun (s0_176 : Int32) => s0_176 = (if (x4 = x18) ∧ (p2 = p5) then (1 : Int32) else (2 : Int32))) (L := fun s0_176 => #[.val (.int p1), .val (.int p2), .val (.int p3), .val (.int p4), .val (.int p5), .val (.int p6), .val (.int x4), .val (.int x10), .val (.int x18), .val (.int x24), .val (.int x34), .val (.ref b13), .val (.int (bI ((Int32.ofNat 0) = (0 : Int32)))), .val (.int r1_119), .val (.int r1_129), .val (.int (bI ((x4 = x18) ∧ (p2 = p5)))), .val (.int (bI (¬ ((x4 = x18) ∧ (p2 = p5))))), .unset]) (S := fun s0_176 => [(.int s0_176)]) ?_ ?_
              · intro T X s0_176 hs0_176
                replace hs0_176 : s0_176 = (if (x4 = x18) ∧ (p2 = p5) then (1 : Int32) else (2 : Int32)) := hs0_176
                show Goes p e below s _ n0 _ (T.setTop (mkF m 176 #[.val (.int p1), .val (.int p2), .val (.int p3), .val (.int p4), .val (.int p5), .val (.int p6), .val (.int x4), .val (.int x10), .val (.int x18), .val (.int x24), .val (.int x34), .val (.ref b13), .val (.int (bI ((Int32.ofNat 0) = (0 : Int32)))), .val (.int r1_119), .val (.int r1_129), .val (.int (bI ((x4 = x18) ∧ (p2 = p5)))), .val (.int (bI (¬ ((x4 = x18) ∧ (p2 = p5))))), .unset] [(.int s0_176)]))
                have b_s0_176 : (1 : Int) ≤ s0_176.toInt ∧ s0_176.toInt ≤ 2 := by
                  have z0 := hs0_176
                  have f1 := rng32 p2
                  have f2 := rng32 p5
                  have e0 := congrArg Int32.toInt z0
                  (try simp only [Int64.lt_iff_toInt_lt, Int32.lt_iff_toInt_lt, Int64.le_iff_toInt_le, Int32.le_iff_toInt_le, ← Int64.toInt_inj, ← Int32.toInt_inj, apply_ite Int64.toInt, apply_ite Int32.toInt, Int64.reduceToInt, Int32.reduceToInt, ne_eq, true_and, and_true, false_or, or_false, iff_self, and_self, not_true_eq_false, not_false_eq_true] at e0)
                  omega
                refine g_istore X at_176 rfl (q := 178) (L' := #[.val (.int p1), .val (.int p2), .val (.int p3), .val (.int p4), .val (.int p5), .val (.int p6), .val (.int x4), .val (.int x10), .val (.int x18), .val (.int x24), .val (.int x34), .val (.ref b13), .val (.int (bI ((Int32.ofNat 0) = (0 : Int32)))), .val (.int r1_119), .val (.int r1_129), .val (.int (bI ((x4 = x18) ∧ (p2 = p5)))), .val (.int (bI (¬ ((x4 = x18) ∧ (p2 = p5))))), .val (.int s0_176)]) rfl ?_
                refine g_iload X at_178 rfl (q := 180) rfl ?_
                refine g_jT1 X (J := 210) (P := fun (s0_210 : Int32) => s0_210 = (bI (((Int32.ofNat 0) = (0 : Int32)) ∧ ((r1_119 = (0 : Int32)) ∧ ((r1_129 = (bI (¬ ((x4 = x18) ∧ (p2 = p5))))) ∧ ((Int32.ofNat n1_129) = s0_176)))))) (L := fun s0_210 => #[.val (.int p1), .val (.int p2), .val (.int p3), .val (.int p4), .val (.int p5), .val (.int p6), .val (.int x4), .val (.int x10), .val (.int x18), .val (.int x24), .val (.int x34), .val (.ref b13), .val (.int (bI ((Int32.ofNat 0) = (0 : Int32)))), .val (.int r1_119), .val (.int r1_129), .val (.int (bI ((x4 = x18) ∧ (p2 = p5)))), .val (.int (bI (¬ ((x4 = x18) ∧ (p2 = p5))))), .val (.int s0_176)]) (S := fun s0_210 => [(.int s0_210)]) ?_ ?_
                · intro T X s0_210 hs0_210
                  replace hs0_210 : s0_210 = (bI (((Int32.ofNat 0) = (0 : Int32)) ∧ ((r1_119 = (0 : Int32)) ∧ ((r1_129 = (bI (¬ ((x4 = x18) ∧ (p2 = p5))))) ∧ ((Int32.ofNat n1_129) = s0_176))))) := hs0_210
                  subst hs0_210
                  show Goes p e below s _ n0 _ (T.setTop (mkF m 210 #[.val (.int p1), .val (.int p2), .val (.int p3), .val (.int p4), .val (.int p5), .val (.int p6), .val (.int x4), .val (.int x10), .val (.int x18), .val (.int x24), .val (.int x34), .val (.ref b13), .val (.int (bI ((Int32.ofNat 0) = (0 : Int32)))), .val (.int r1_119), .val (.int r1_129), .val (.int (bI ((x4 = x18) ∧ (p2 = p5)))), .val (.int (bI (¬ ((x4 = x18) ∧ (p2 = p5))))), .val (.int s0_176)] [(.int (bI (((Int32.ofNat 0) = (0 : Int32)) ∧ ((r1_119 = (0 : Int32)) ∧ ((r1_129 = (bI (¬ ((x4 = x18) ∧ (p2 = p5))))) ∧ ((Int32.ofNat n1_129) = s0_176))))))]))
                  refine g_retZ X at_210 (by decide) (by decide) (bI_01 _) (own_fin ?_)
                  show ((Int32.ofNat 0) = (0 : Int32)) ∧ ((r1_119 = (0 : Int32)) ∧ ((r1_129 = (bI (¬ ((x4 = x18) ∧ (p2 = p5))))) ∧ ((Int32.ofNat n1_129) = s0_176)))
                  have E := own_keyE (f := x4) (s := p2) (f' := x18) (s' := p5) (by omega) (by omega)
                  have F := own_fin2 hR_119 hR_129
                  refine ⟨rfl, F.1, ?_, ?_⟩
                  · by_cases q : (x4 = x18) ∧ (p2 = p5)
                    · rw [(F.2.1 (E.mpr q)).1]; exact bI_f (fun z => z q)
                    · rw [(F.2.2 (fun z => q (E.mp z))).1]; exact bI_t q
                  · rw [hs0_176]; by_cases q : (x4 = x18) ∧ (p2 = p5)
                    · rw [(F.2.1 (E.mpr q)).2, if_pos q]
                    · rw [(F.2.2 (fun z => q (E.mp z))).2, if_neg q]
                · intro J210_70
                  refine g_beq X at_180 (q := 183) rfl (by decide) (t := 209) rfl (fun (c71 : (Int32.ofNat 0) = (0 : Int32)) => ?_) (fun (c71 : ¬ ((Int32.ofNat 0) = (0 : Int32))) => ?_)
                  · skip
                    refine g_iload X at_183 rfl (q := 185) rfl ?_
                    refine g_ifB X at_185 (Or.inr (Or.inr rfl)) (q := 188) rfl (by decide) (t := 209) rfl (fun (c72 : r1_119 = (0 : Int32)) => ?_) (fun (c72 : ¬ (r1_119 = (0 : Int32))) => ?_)
                    · skip
                      refine g_iload X at_188 rfl (q := 190) rfl ?_
                      refine g_iload X at_190 rfl (q := 192) rfl ?_
                      refine g_icmpB X at_192 (Or.inr (Or.inr rfl)) (q := 195) rfl (by decide) (t := 209) rfl (fun (c73 : r1_129 = (bI (¬ ((x4 = x18) ∧ (p2 = p5))))) => ?_) (fun (c73 : ¬ (r1_129 = (bI (¬ ((x4 = x18) ∧ (p2 = p5)))))) => ?_)
                      · skip
                        refine g_aload X at_195 rfl (q := 197) rfl rfl ?_
                        refine g_callV X O_b13.1 [] [] (tw58 hw) (tw59 hw) (tw61 hw) (tw60 hw) (tw3 hw) (tw62 hw) (by decide) (rm10 l Z a0 hw [] b13 k1_42 m1_42 u1_42 sh_42 mk_42 (Int32.ofNat n1_129) _ n0 X.size O_b13) pd5 rfl rfl rfl at_197 (q := 200) rfl (W := 0) rfl (by decide) (by decide) (c2 := 4) (s2 := 44) rfl rfl (by decide) (by decide) (fun v T h' X hQ => ?_)
                        obtain ⟨rfl, rfl⟩ := hQ
                        show Goes p e below s _ n0 _ (T.setTop (mkF m 200 #[.val (.int p1), .val (.int p2), .val (.int p3), .val (.int p4), .val (.int p5), .val (.int p6), .val (.int x4), .val (.int x10), .val (.int x18), .val (.int x24), .val (.int x34), .val (.ref b13), .val (.int (bI ((Int32.ofNat 0) = (0 : Int32)))), .val (.int r1_119), .val (.int r1_129), .val (.int (bI ((x4 = x18) ∧ (p2 = p5)))), .val (.int (bI (¬ ((x4 = x18) ∧ (p2 = p5))))), .val (.int s0_176)] [(.int (Int32.ofNat n1_129))]))
                        refine g_iload X at_200 rfl (q := 202) rfl ?_
                        refine g_icmpB X at_202 (Or.inr (Or.inr rfl)) (q := 205) rfl (by decide) (t := 209) rfl (fun (c74 : (Int32.ofNat n1_129) = s0_176) => ?_) (fun (c74 : ¬ ((Int32.ofNat n1_129) = s0_176)) => ?_)
                        · skip
                          refine g_iconst X at_205 rfl (q := 206) (v := 1) rfl ?_
                          refine g_goto X at_206 (by decide) (q := 210) rfl ?_
                          exact J210_70 T X _ (bI_t ⟨c71, ⟨c72, ⟨c73, c74⟩⟩⟩)
                        · skip
                          refine g_iconst X at_209 rfl (q := 210) (v := 0) rfl ?_
                          exact J210_70 T X _ (bI_f (fun z => (fun z => (fun z => c74 z.2) z.2) z.2))
                      · skip
                        refine g_iconst X at_209 rfl (q := 210) (v := 0) rfl ?_
                        exact J210_70 T X _ (bI_f (fun z => (fun z => (fun z => c73 z.1) z.2) z.2))
                    · skip
                      refine g_iconst X at_209 rfl (q := 210) (v := 0) rfl ?_
                      exact J210_70 T X _ (bI_f (fun z => (fun z => c72 z.1) z.2))
                  · skip
                    refine g_iconst X at_209 rfl (q := 210) (v := 0) rfl ?_
                    exact J210_70 T X _ (bI_f (fun z => c71 z.1))
              · intro J176_74
                refine g_beq X at_168 (q := 171) rfl (by decide) (t := 175) rfl (fun (c75 : (x4 = x18) ∧ (p2 = p5)) => ?_) (fun (c75 : ¬ ((x4 = x18) ∧ (p2 = p5))) => ?_)
                · skip
                  refine g_iconst X at_171 rfl (q := 172) (v := 1) rfl ?_
                  refine g_goto X at_172 (by decide) (q := 176) rfl ?_
                  exact J176_74 T X _ ((if_pos c75).symm)
                · skip
                  refine g_iconst X at_175 rfl (q := 176) (v := 2) rfl ?_
                  exact J176_74 T X _ ((if_neg c75).symm)
            · intro J164_75
              refine g_beq X at_156 (q := 159) rfl (by decide) (t := 163) rfl (fun (c76 : (x4 = x18) ∧ (p2 = p5)) => ?_) (fun (c76 : ¬ ((x4 = x18) ∧ (p2 = p5))) => ?_)
              · skip
                refine g_iconst X at_159 rfl (q := 160) (v := 0) rfl ?_
                refine g_goto X at_160 (by decide) (q := 164) rfl ?_
                exact J164_75 T X _ (bI_f (fun z => z c76))
              · skip
                refine g_iconst X at_163 rfl (q := 164) (v := 1) rfl ?_
                exact J164_75 T X _ (bI_t c76)
          · intro J152_76
            refine g_icmpB X at_138 (Or.inr (Or.inr rfl)) (q := 141) rfl (by decide) (t := 151) rfl (fun (c77 : x4 = x18) => ?_) (fun (c77 : ¬ (x4 = x18)) => ?_)
            · skip
              refine g_iloadN X at_141 rfl (q := 142) rfl ?_
              refine g_iload X at_142 rfl (q := 144) rfl ?_
              refine g_icmpB X at_144 (Or.inr (Or.inr rfl)) (q := 147) rfl (by decide) (t := 151) rfl (fun (c78 : p2 = p5) => ?_) (fun (c78 : ¬ (p2 = p5)) => ?_)
              · skip
                refine g_iconst X at_147 rfl (q := 148) (v := 1) rfl ?_
                refine g_goto X at_148 (by decide) (q := 152) rfl ?_
                exact J152_76 T X _ (bI_t ⟨c77, c78⟩)
              · skip
                refine g_iconst X at_151 rfl (q := 152) (v := 0) rfl ?_
                exact J152_76 T X _ (bI_f (fun z => c78 z.2))
            · skip
              refine g_iconst X at_151 rfl (q := 152) (v := 0) rfl ?_
              exact J152_76 T X _ (bI_f (fun z => c77 z.1))
        · intro J111_78
          refine g_ifB X at_103 (Or.inr (Or.inr rfl)) (q := 106) rfl (by decide) (t := 110) rfl (fun (c79 : (Int32.ofNat 0) = (0 : Int32)) => ?_) (fun (c79 : ¬ ((Int32.ofNat 0) = (0 : Int32))) => ?_)
          · skip
            refine g_iconst X at_106 rfl (q := 107) (v := 1) rfl ?_
            refine g_goto X at_107 (by decide) (q := 111) rfl ?_
            exact J111_78 T X _ (bI_t c79)
          · skip
            refine g_iconst X at_110 rfl (q := 111) (v := 0) rfl ?_
            exact J111_78 T X _ (bI_f c79)
set_option maxRecDepth 65536 in
set_option maxHeartbeats 40000000 in
theorem comes_1 {Post : Tables → Env → Array Value → State → Outcome → State → Prop} (hpost : ∀ tb e args s v u, (limb_1_1.after args s (.returned v) u = true ∧ limb_1_2.after args s (.returned v) u = true ∧ True) → FrameEnd s (.returned v) u (Jvm.fieldLocs frame_1_writes args s ++ Jvm.arrayLocs frame_1_arrays args s ++ Jvm.staticLocs frame_1_statics s) 16 192 → Post tb e args s (.returned v) u) :
    ArmFor flags0 classFile x code maxLocals ret World_1 tables_1 room_1 Calls_1 rest_1 Pre_1 Post := by
  intro l hfl _ _ p e ha hc hk s m args below hf hA hF happ hP
  obtain ⟨hcalls, hrest, hpre⟩ := hP
  obtain ⟨-, -, -, hnamed, -, -, -, hat⟩ := (Spec.applies_iff hf).mp happ
  obtain ⟨hg, hn⟩ := and_e (Cond.before_iff.mp (show (Jvm.Cond.and given_1 narrow_1).before args s = true from hpre))
  obtain ⟨u1, w1⟩ := and_e hg
  obtain ⟨u2, w2⟩ := and_e w1
  obtain ⟨u3, w3⟩ := and_e w2
  obtain ⟨u4, w4⟩ := and_e w3
  obtain ⟨u5, w5⟩ := and_e w4
  obtain ⟨u6, w6⟩ := and_e w5
  obtain ⟨z0, z1, z2, z3, z4, z5, rfl⟩ : ∃ z0 z1 z2 z3 z4 z5 : Value, args = #[z0, z1, z2, z3, z4, z5] := by
    have hs : args.size = 6 := by simpa [Cond.value, given_1] using u1
    obtain ⟨L⟩ := args
    match L, hs with
    | [z0, z1, z2, z3, z4, z5], _ => exact ⟨z0, z1, z2, z3, z4, z5, rfl⟩
  have hw := fun d (hd : d ∈ tables_1) => atoms_spec (ws := Jvm.Cond.code x code maxLocals ret :: tables_1) hat d (List.mem_cons_of_mem _ hd)
  obtain ⟨i0, ei0⟩ := is_v u2
  obtain rfl : z0 = (.int i0) := Option.some.inj ei0
  obtain ⟨i1, ei1⟩ := is_v u3
  obtain rfl : z1 = (.int i1) := Option.some.inj ei1
  obtain ⟨i2, ei2⟩ := is_v u4
  obtain rfl : z2 = (.int i2) := Option.some.inj ei2
  obtain ⟨i3, ei3⟩ := is_v u5
  obtain rfl : z3 = (.int i3) := Option.some.inj ei3
  obtain ⟨i4, ei4⟩ := is_v u6
  obtain rfl : z4 = (.int i4) := Option.some.inj ei4
  obtain ⟨i5, ei5⟩ := is_v w6
  obtain rfl : z5 = (.int i5) := Option.some.inj ei5
  obtain ⟨n, o, h1, h2, h3, _, L, rfl, ⟨N, rfl⟩, hq⟩ := rm0 l s _ hw tables_1 i0 i1 i2 i3 i4 i5 s.heap s.heap.size (Nat.le_refl _) p e ha hc hk s m _ below hf ((Spec.applies_iff_loose hf).mp happ).1 ⟨rfl, State.Warmed39.refl s, rfl⟩ trivial
  refine ⟨n, _, h1, h2, h3, hpost _ _ _ _ _ _ ⟨Cond.after_iff.mpr rfl, Cond.after_iff.mpr (eq_i res_at (Term.int_eval (1)) rfl), trivial⟩ ⟨hq.1, hq.2.1, (hq.2.2.sift fun y hy => Or.inr (N y hy)).mono (by decide) (by decide)⟩⟩
theorem main_1_1 : Claimed_1_1 := comes_1 fun _ _ _ _ _ _ h hF => ⟨h.1, hF⟩
theorem main_1_2 : Claimed_1_2 := comes_1 fun _ _ _ _ _ _ h hF => ⟨h.2.1, hF⟩
end Jvm.Pilot.@@N@@
namespace Jvm.Pilot.@@N@@
open Jvm Jvm.ClassFile Sem Op Lib Jvm.Free Jvm.Stand Jvm.Pilot.@@N@@.Jvm.D
/-! MADE BY PROGRAM (witnessworld.py) out of the Statement's table words and the real class files: 18 classes; the members and pool entries that the words name. The judged class is class 1, her method 1. -/
namespace start1
open Jvm.ClassFile
def u (s : String) : CpInfo := .utf8 (stringToUtf16 s)
/-- a pool by its gaps: so many unusable entries, then the entry; so many at the end -/
def gap : Nat → List CpInfo → List CpInfo
  | 0, r => r
  | n + 1, r => .unusable :: gap n r
def poolList (es : List (Nat × CpInfo)) (last : Nat) : List CpInfo := es.foldr (fun e r => gap e.1 (e.2 :: r)) (gap last [])
def pool (es : List (Nat × CpInfo)) (last : Nat) : Array CpInfo := ⟨poolList es last⟩
def fileOf (pool : Array CpInfo) (this : Nat) (attrs : Array Attribute := #[]) (ms : Array MethodInfo := #[]) (fl : Nat := 33) (sup : Nat := 0) (ifs : Array Nat := #[]) (fds : Array FieldInfo := #[]) : ClassFile where
  minorVersion := 0
  majorVersion := 65
  constantPool := pool
  accessFlags := fl
  thisClass := this
  superClass := sup
  interfaces := ifs
  fields := fds
  methods := ms
  attributes := attrs
def plain (name : String) (sup : Option ClassId) : Class where
  name := name
  kind := .ordinary
  loader := none
  accessFlags := 33
  super := sup
  interfaces := #[]
  cf := none
  fields := #[]
  methods := #[]
  instanceTypes := #[]
  staticTypes := #[]
  resolved := #[]
  callSites := []
  init := .initialized
  statics := none
  mirror := none

def pool0 : Array CpInfo := pool [(5, u "<init>"), (0, u "()V"), (1, .class_ 10), (1, u "java/lang/Object")] 113

def k0c0 : Code := { maxStack := 0, maxLocals := 1, code := object_method_1_code, exceptionTable := #[], attributes := #[] }
def k0m0 : Method := { name := "<init>", desc := "()V", sig := { parameters := [], returnType := none }, accessFlags := 1, code := some k0c0 }
/-- java/lang/Object -/
def k0 : Class := { plain "java/lang/Object" none with
  accessFlags := 33
  interfaces := #[]
  cf := some (fileOf pool0 8 #[] #[{ accessFlags := 1, nameIndex := 5, descriptorIndex := 6, attributes := #[] }] 33 0 #[] #[])
  fields := #[]
  methods := #[k0m0]
  instanceTypes := #[]
  staticTypes := #[]
  resolved := Array.replicate 124 none
  statics := none }

def pool1 : Array CpInfo := pool [(2, .class_ 4), (1, u "java/lang/Object"), (0, u "<init>"), (0, u "()V"), (0, .integer 2147483647), (0, .class_ 9), (0, u "com/example/masked_merge/maskedmerge/core/PairNumbers"), (0, .methodref 8 11), (0, .nameAndType 5 12), (0, u "(I)V"), (0, .methodref 8 14), (0, .nameAndType 15 16), (0, u "number"), (0, u "(II)I"), (0, .methodref 8 18), (0, .nameAndType 19 6), (0, u "clear"), (0, .methodref 8 21), (0, .nameAndType 22 23), (0, u "size"), (0, u "()I"), (0, .class_ 25), (0, u "com/example/masked_merge/maskedmerge/core/PairNumbersClearPinLaw"), (2, u "law"), (0, u "(IIIIII)Z")] 3

def k1m0 : Method := { name := "<init>", desc := "()V", sig := { parameters := [], returnType := none }, accessFlags := 1, code := none }
def k1c1 : Code := { maxStack := 3, maxLocals := 18, code := code, exceptionTable := #[], attributes := #[] }
def k1m1 : Method := { name := "law", desc := "(IIIIII)Z", sig := { parameters := [.int, .int, .int, .int, .int, .int], returnType := some .boolean }, accessFlags := 9, code := some k1c1 }
/-- com/example/masked_merge/maskedmerge/core/PairNumbersClearPinLaw -/
def k1 : Class := { plain "com/example/masked_merge/maskedmerge/core/PairNumbersClearPinLaw" (some 0) with
  accessFlags := 49
  interfaces := #[]
  cf := some (fileOf pool1 24 #[] #[{ accessFlags := 1, nameIndex := 5, descriptorIndex := 6, attributes := #[] }, { accessFlags := 9, nameIndex := 28, descriptorIndex := 29, attributes := #[] }] 49 2 #[] #[])
  fields := #[]
  methods := #[k1m0, k1m1]
  instanceTypes := #[]
  staticTypes := #[]
  resolved := Array.replicate 33 none
  statics := none }

def pool2 : Array CpInfo := pool [(1, .methodref 2 3), (0, .class_ 4), (0, .nameAndType 5 6), (0, u "java/lang/Object"), (0, u "<init>"), (0, u "()V"), (0, .class_ 8), (0, u "com/example/masked_merge/maskedmerge/core/PairNumbers"), (0, .integer 536870912), (9, .methodref 20 21), (0, .class_ 22), (0, .nameAndType 23 24), (0, u "java/lang/Math"), (0, u "max"), (0, u "(II)I"), (0, .methodref 26 27), (0, .class_ 28), (0, .nameAndType 29 30), (0, u "java/lang/Integer"), (0, u "highestOneBit"), (0, u "(I)I"), (0, .fieldref 7 32), (0, .nameAndType 33 34), (0, u "keys"), (0, u "[J"), (0, .fieldref 7 36), (0, .nameAndType 37 38), (0, u "numbers"), (0, u "[I"), (0, .fieldref 7 40), (0, .nameAndType 41 38), (0, u "used"), (2, .methodref 26 45), (0, .nameAndType 46 30), (0, u "numberOfTrailingZeros"), (0, .fieldref 7 48), (0, .nameAndType 49 50), (0, u "shift"), (0, u "I"), (0, .fieldref 7 52), (0, .nameAndType 53 50), (0, u "mask"), (0, .long 18446744073709551615), (1, .methodref 57 58), (0, .class_ 59), (0, .nameAndType 60 61), (0, u "java/util/Arrays"), (0, u "fill"), (0, u "([JJ)V"), (0, .long 4294967295), (1, .long 11400714819323198485), (1, .fieldref 7 67), (0, .nameAndType 68 50), (0, u "size"), (0, u "EMPTY"), (0, u "J"), (1, u "MAX_CAPACITY"), (0, u "SPREAD"), (0, u "(I)V"), (3, u "number"), (0, u "()I"), (0, u "clear")] 17

def k2c0 : Code := { maxStack := 3, maxLocals := 3, code := prog_15_method_1_code, exceptionTable := #[], attributes := #[] }
def k2m0 : Method := { name := "<init>", desc := "(I)V", sig := { parameters := [.int], returnType := none }, accessFlags := 0, code := some k2c0 }
def k2c1 : Code := { maxStack := 6, maxLocals := 6, code := prog_15_method_2_code, exceptionTable := #[], attributes := #[] }
def k2m1 : Method := { name := "number", desc := "(II)I", sig := { parameters := [.int, .int], returnType := some .int }, accessFlags := 0, code := some k2c1 }
def k2c2 : Code := { maxStack := 1, maxLocals := 1, code := prog_15_method_3_code, exceptionTable := #[], attributes := #[] }
def k2m2 : Method := { name := "size", desc := "()I", sig := { parameters := [], returnType := some .int }, accessFlags := 0, code := some k2c2 }
def k2c3 : Code := { maxStack := 4, maxLocals := 2, code := prog_15_method_4_code, exceptionTable := #[], attributes := #[] }
def k2m3 : Method := { name := "clear", desc := "()V", sig := { parameters := [], returnType := none }, accessFlags := 0, code := some k2c3 }
/-- com/example/masked_merge/maskedmerge/core/PairNumbers -/
def k2 : Class := { plain "com/example/masked_merge/maskedmerge/core/PairNumbers" (some 0) with
  accessFlags := 48
  interfaces := #[]
  cf := some (fileOf pool2 7 #[] #[{ accessFlags := 0, nameIndex := 5, descriptorIndex := 74, attributes := #[] }, { accessFlags := 0, nameIndex := 78, descriptorIndex := 24, attributes := #[] }, { accessFlags := 0, nameIndex := 68, descriptorIndex := 79, attributes := #[] }, { accessFlags := 0, nameIndex := 80, descriptorIndex := 6, attributes := #[] }] 48 2 #[] #[{ accessFlags := 26, nameIndex := 69, descriptorIndex := 70, attributes := #[] }, { accessFlags := 26, nameIndex := 72, descriptorIndex := 50, attributes := #[] }, { accessFlags := 26, nameIndex := 73, descriptorIndex := 70, attributes := #[] }, { accessFlags := 18, nameIndex := 33, descriptorIndex := 34, attributes := #[] }, { accessFlags := 18, nameIndex := 37, descriptorIndex := 38, attributes := #[] }, { accessFlags := 18, nameIndex := 41, descriptorIndex := 38, attributes := #[] }, { accessFlags := 18, nameIndex := 49, descriptorIndex := 50, attributes := #[] }, { accessFlags := 18, nameIndex := 53, descriptorIndex := 50, attributes := #[] }, { accessFlags := 2, nameIndex := 68, descriptorIndex := 50, attributes := #[] }])
  fields := #[{ name := "EMPTY", type := .long, accessFlags := 26, slot := 0, constantValue := 0 }, { name := "MAX_CAPACITY", type := .int, accessFlags := 26, slot := 1, constantValue := 0 }, { name := "SPREAD", type := .long, accessFlags := 26, slot := 2, constantValue := 0 }, { name := "keys", type := (.array .long), accessFlags := 18, slot := 0, constantValue := 0 }, { name := "numbers", type := (.array .int), accessFlags := 18, slot := 1, constantValue := 0 }, { name := "used", type := (.array .int), accessFlags := 18, slot := 2, constantValue := 0 }, { name := "shift", type := .int, accessFlags := 18, slot := 3, constantValue := 0 }, { name := "mask", type := .int, accessFlags := 18, slot := 4, constantValue := 0 }, { name := "size", type := .int, accessFlags := 2, slot := 5, constantValue := 0 }]
  methods := #[k2m0, k2m1, k2m2, k2m3]
  instanceTypes := #[(.array .long), (.array .int), (.array .int), .int, .int, .int]
  staticTypes := #[.long, .int, .long]
  resolved := Array.replicate 98 none
  statics := none }

def pool3 : Array CpInfo := pool [(1, .class_ 2), (0, u "java/lang/Math"), (1, .class_ 6), (1, u "java/lang/Object"), (0, u "<init>"), (0, u "()V"), (89, .class_ 100), (1, u "java/lang/Math$RandomNumberGeneratorHolder"), (71, u "negativeZeroFloatBits"), (0, u "J"), (2, u "negativeZeroDoubleBits"), (21, u "max"), (46, u "$assertionsDisabled"), (0, u "Z"), (88, u "(II)I"), (2, u "twoToTheDoubleScaleDown"), (0, u "D"), (4, u "twoToTheDoubleScaleUp"), (9, u "E"), (3, u "PI"), (2, u "TAU"), (2, u "DEGREES_TO_RADIANS"), (0, u "RADIANS_TO_DEGREES")] 94

def k3m0 : Method := { name := "<init>", desc := "()V", sig := { parameters := [], returnType := none }, accessFlags := 2, code := none }
def k3c1 : Code := { maxStack := 2, maxLocals := 2, code := jdk_29_method_65_code, exceptionTable := #[], attributes := #[] }
def k3m1 : Method := { name := "max", desc := "(II)I", sig := { parameters := [.int, .int], returnType := some .int }, accessFlags := 9, code := some k3c1 }
/-- java/lang/Math -/
def k3 : Class := { plain "java/lang/Math" (some 0) with
  accessFlags := 49
  interfaces := #[]
  cf := some (fileOf pool3 1 #[.nestMembers #[98]] #[{ accessFlags := 2, nameIndex := 7, descriptorIndex := 8, attributes := #[] }, { accessFlags := 9, nameIndex := 198, descriptorIndex := 335, attributes := #[] }] 49 4 #[] #[{ accessFlags := 25, nameIndex := 354, descriptorIndex := 339, attributes := #[] }, { accessFlags := 25, nameIndex := 358, descriptorIndex := 339, attributes := #[] }, { accessFlags := 25, nameIndex := 361, descriptorIndex := 339, attributes := #[] }, { accessFlags := 26, nameIndex := 364, descriptorIndex := 339, attributes := #[] }, { accessFlags := 26, nameIndex := 365, descriptorIndex := 339, attributes := #[] }, { accessFlags := 26, nameIndex := 172, descriptorIndex := 173, attributes := #[] }, { accessFlags := 26, nameIndex := 176, descriptorIndex := 173, attributes := #[] }, { accessFlags := 8, nameIndex := 344, descriptorIndex := 339, attributes := #[] }, { accessFlags := 8, nameIndex := 338, descriptorIndex := 339, attributes := #[] }, { accessFlags := 4120, nameIndex := 245, descriptorIndex := 246, attributes := #[] }])
  fields := #[{ name := "E", type := .double, accessFlags := 25, slot := 0, constantValue := 0 }, { name := "PI", type := .double, accessFlags := 25, slot := 1, constantValue := 0 }, { name := "TAU", type := .double, accessFlags := 25, slot := 2, constantValue := 0 }, { name := "DEGREES_TO_RADIANS", type := .double, accessFlags := 26, slot := 3, constantValue := 0 }, { name := "RADIANS_TO_DEGREES", type := .double, accessFlags := 26, slot := 4, constantValue := 0 }, { name := "negativeZeroFloatBits", type := .long, accessFlags := 26, slot := 5, constantValue := 0 }, { name := "negativeZeroDoubleBits", type := .long, accessFlags := 26, slot := 6, constantValue := 0 }, { name := "twoToTheDoubleScaleUp", type := .double, accessFlags := 8, slot := 7, constantValue := 0 }, { name := "twoToTheDoubleScaleDown", type := .double, accessFlags := 8, slot := 8, constantValue := 0 }, { name := "$assertionsDisabled", type := .boolean, accessFlags := 4120, slot := 9, constantValue := 0 }]
  methods := #[k3m0, k3m1]
  instanceTypes := #[]
  staticTypes := #[.double, .double, .double, .double, .double, .long, .long, .double, .double, .boolean]
  resolved := Array.replicate 460 none
  statics := none }

def pool4 : Array CpInfo := pool [(1, .class_ 2), (0, u "java/io/Serializable"), (0, .class_ 4), (0, u "java/lang/Object")] 2

/-- java/io/Serializable -/
def k4 : Class := { plain "java/io/Serializable" (some 0) with
  accessFlags := 1537
  interfaces := #[]
  cf := some (fileOf pool4 1 #[] #[] 1537 3 #[] #[])
  fields := #[]
  methods := #[]
  instanceTypes := #[]
  staticTypes := #[]
  resolved := Array.replicate 7 none
  statics := none }

def pool5 : Array CpInfo := pool [(2, .class_ 4), (1, u "java/lang/Object"), (0, u "<init>"), (0, u "()V"), (1, .class_ 10), (1, u "java/lang/Number"), (2, .class_ 14), (0, u "java/io/Serializable"), (0, u "serialVersionUID"), (0, u "J")] 20

def k5m0 : Method := { name := "<init>", desc := "()V", sig := { parameters := [], returnType := none }, accessFlags := 1, code := none }
/-- java/lang/Number -/
def k5 : Class := { plain "java/lang/Number" (some 0) with
  accessFlags := 1057
  interfaces := #[4]
  cf := some (fileOf pool5 8 #[] #[{ accessFlags := 1, nameIndex := 5, descriptorIndex := 6, attributes := #[] }] 1057 2 #[13] #[{ accessFlags := 26, nameIndex := 15, descriptorIndex := 16, attributes := #[] }])
  fields := #[{ name := "serialVersionUID", type := .long, accessFlags := 26, slot := 0, constantValue := 0 }]
  methods := #[k5m0]
  instanceTypes := #[]
  staticTypes := #[.long]
  resolved := Array.replicate 37 none
  statics := none }

def pool6 : Array CpInfo := pool [(1, .class_ 2), (0, u "java/lang/Comparable"), (0, .class_ 4), (0, u "java/lang/Object")] 7

/-- java/lang/Comparable -/
def k6 : Class := { plain "java/lang/Comparable" (some 0) with
  accessFlags := 1537
  interfaces := #[]
  cf := some (fileOf pool6 1 #[] #[] 1537 3 #[] #[])
  fields := #[]
  methods := #[]
  instanceTypes := #[]
  staticTypes := #[]
  resolved := Array.replicate 12 none
  statics := none }

def pool7 : Array CpInfo := pool [(1, .class_ 2), (0, u "java/lang/constant/Constable"), (0, .class_ 4), (0, u "java/lang/Object")] 6

/-- java/lang/constant/Constable -/
def k7 : Class := { plain "java/lang/constant/Constable" (some 0) with
  accessFlags := 1537
  interfaces := #[]
  cf := some (fileOf pool7 1 #[] #[] 1537 3 #[] #[])
  fields := #[]
  methods := #[]
  instanceTypes := #[]
  staticTypes := #[]
  resolved := Array.replicate 11 none
  statics := none }

def pool8 : Array CpInfo := pool [(1, .class_ 2), (0, u "java/lang/constant/ConstantDesc"), (0, .class_ 4), (0, u "java/lang/Object")] 32

/-- java/lang/constant/ConstantDesc -/
def k8 : Class := { plain "java/lang/constant/ConstantDesc" (some 0) with
  accessFlags := 1537
  interfaces := #[]
  cf := some (fileOf pool8 1 #[] #[] 1537 3 #[] #[])
  fields := #[]
  methods := #[]
  instanceTypes := #[]
  staticTypes := #[]
  resolved := Array.replicate 37 none
  statics := none }

def pool9 : Array CpInfo := pool [(1, .class_ 2), (0, u "java/lang/Integer"), (16, u "digits"), (0, u "[C"), (30, .methodref 1 52), (0, .nameAndType 53 54), (0, u "numberOfLeadingZeros"), (0, u "(I)I"), (30, u "DigitOnes"), (0, u "[B"), (2, u "DigitTens"), (37, .integer 2147483648), (61, .class_ 190), (0, u "java/lang/Integer$IntegerCache"), (3, u "I"), (8, .class_ 204), (0, u "java/lang/Number"), (2, u "value"), (56, .integer 65536), (37, u "TYPE"), (0, u "Ljava/lang/Class;"), (0, .class_ 305), (0, u "java/lang/Comparable"), (0, .class_ 307), (0, u "java/lang/constant/Constable"), (0, .class_ 309), (0, u "java/lang/constant/ConstantDesc"), (0, u "MIN_VALUE"), (1, u "MAX_VALUE"), (3, u "SIZE"), (1, u "BYTES"), (1, u "serialVersionUID"), (0, u "J"), (81, u "highestOneBit"), (2, u "numberOfTrailingZeros")] 46

def k9c0 : Code := { maxStack := 3, maxLocals := 1, code := jdk_33_method_45_code, exceptionTable := #[], attributes := #[] }
def k9m0 : Method := { name := "highestOneBit", desc := "(I)I", sig := { parameters := [.int], returnType := some .int }, accessFlags := 9, code := some k9c0 }
def k9c1 : Code := { maxStack := 3, maxLocals := 2, code := jdk_33_method_47_code, exceptionTable := #[], attributes := #[] }
def k9m1 : Method := { name := "numberOfLeadingZeros", desc := "(I)I", sig := { parameters := [.int], returnType := some .int }, accessFlags := 9, code := some k9c1 }
def k9c2 : Code := { maxStack := 3, maxLocals := 2, code := jdk_33_method_48_code, exceptionTable := #[], attributes := #[] }
def k9m2 : Method := { name := "numberOfTrailingZeros", desc := "(I)I", sig := { parameters := [.int], returnType := some .int }, accessFlags := 9, code := some k9c2 }
/-- java/lang/Integer -/
def k9 : Class := { plain "java/lang/Integer" (some 5) with
  accessFlags := 49
  interfaces := #[6, 7, 8]
  cf := some (fileOf pool9 1 #[.nestMembers #[189]] #[{ accessFlags := 9, nameIndex := 403, descriptorIndex := 54, attributes := #[] }, { accessFlags := 9, nameIndex := 53, descriptorIndex := 54, attributes := #[] }, { accessFlags := 9, nameIndex := 406, descriptorIndex := 54, attributes := #[] }] 49 203 #[304, 306, 308] #[{ accessFlags := 25, nameIndex := 310, descriptorIndex := 194, attributes := #[] }, { accessFlags := 25, nameIndex := 312, descriptorIndex := 194, attributes := #[] }, { accessFlags := 25, nameIndex := 302, descriptorIndex := 303, attributes := #[] }, { accessFlags := 24, nameIndex := 19, descriptorIndex := 20, attributes := #[] }, { accessFlags := 24, nameIndex := 89, descriptorIndex := 86, attributes := #[] }, { accessFlags := 24, nameIndex := 85, descriptorIndex := 86, attributes := #[] }, { accessFlags := 18, nameIndex := 207, descriptorIndex := 194, attributes := #[] }, { accessFlags := 25, nameIndex := 316, descriptorIndex := 194, attributes := #[] }, { accessFlags := 25, nameIndex := 318, descriptorIndex := 194, attributes := #[] }, { accessFlags := 26, nameIndex := 320, descriptorIndex := 321, attributes := #[] }])
  fields := #[{ name := "MIN_VALUE", type := .int, accessFlags := 25, slot := 0, constantValue := 0 }, { name := "MAX_VALUE", type := .int, accessFlags := 25, slot := 1, constantValue := 0 }, { name := "TYPE", type := (.object "java/lang/Class"), accessFlags := 25, slot := 2, constantValue := 0 }, { name := "digits", type := (.array .char), accessFlags := 24, slot := 3, constantValue := 0 }, { name := "DigitTens", type := (.array .byte), accessFlags := 24, slot := 4, constantValue := 0 }, { name := "DigitOnes", type := (.array .byte), accessFlags := 24, slot := 5, constantValue := 0 }, { name := "value", type := .int, accessFlags := 18, slot := 0, constantValue := 0 }, { name := "SIZE", type := .int, accessFlags := 25, slot := 6, constantValue := 0 }, { name := "BYTES", type := .int, accessFlags := 25, slot := 7, constantValue := 0 }, { name := "serialVersionUID", type := .long, accessFlags := 26, slot := 8, constantValue := 0 }]
  methods := #[k9m0, k9m1, k9m2]
  instanceTypes := #[.int]
  staticTypes := #[.int, .int, (.object "java/lang/Class"), (.array .char), (.array .byte), (.array .byte), .int, .int, .long]
  resolved := Array.replicate 453 none
  statics := none }

def pool10 : Array CpInfo := pool [(2, .class_ 4), (1, u "java/lang/Object"), (0, u "<init>"), (0, u "()V"), (7, .class_ 16), (1, u "java/util/Arrays"), (57, .class_ 76), (1, u "java/util/Arrays$NaturalOrder"), (36, .class_ 115), (1, u "java/util/Arrays$LegacyMergeSort"), (1, u "Z"), (257, .class_ 376), (0, u "java/util/Arrays$ArrayList"), (68, u "$assertionsDisabled"), (269, u "MIN_ARRAY_SORT_GRAN"), (0, u "I"), (2, u "INSERTIONSORT_THRESHOLD"), (120, u "fill"), (0, u "([JJ)V"), (133, .class_ 976), (0, u "java/util/Arrays$ArrayItr")] 52

def k10m0 : Method := { name := "<init>", desc := "()V", sig := { parameters := [], returnType := none }, accessFlags := 2, code := none }
def k10c1 : Code := { maxStack := 4, maxLocals := 5, code := jdk_65_method_101_code, exceptionTable := #[], attributes := #[] }
def k10m1 : Method := { name := "fill", desc := "([JJ)V", sig := { parameters := [(.array .long), .long], returnType := none }, accessFlags := 9, code := some k10c1 }
/-- java/util/Arrays -/
def k10 : Class := { plain "java/util/Arrays" (some 0) with
  accessFlags := 49
  interfaces := #[]
  cf := some (fileOf pool10 14 #[.nestMembers #[975, 375, 113, 74]] #[{ accessFlags := 2, nameIndex := 5, descriptorIndex := 6, attributes := #[] }, { accessFlags := 9, nameIndex := 840, descriptorIndex := 841, attributes := #[] }] 49 2 #[] #[{ accessFlags := 26, nameIndex := 715, descriptorIndex := 716, attributes := #[] }, { accessFlags := 26, nameIndex := 719, descriptorIndex := 716, attributes := #[] }, { accessFlags := 4120, nameIndex := 445, descriptorIndex := 117, attributes := #[] }])
  fields := #[{ name := "MIN_ARRAY_SORT_GRAN", type := .int, accessFlags := 26, slot := 0, constantValue := 0 }, { name := "INSERTIONSORT_THRESHOLD", type := .int, accessFlags := 26, slot := 1, constantValue := 0 }, { name := "$assertionsDisabled", type := .boolean, accessFlags := 4120, slot := 2, constantValue := 0 }]
  methods := #[k10m0, k10m1]
  instanceTypes := #[]
  staticTypes := #[.int, .int, .boolean]
  resolved := Array.replicate 1029 none
  statics := none }

def pool11 : Array CpInfo := pool [(1, u "java/lang/Cloneable"), (0, .class_ 1), (0, u "java/lang/Object"), (0, .class_ 3)] 3

/-- java/lang/Cloneable -/
def k11 : Class := { plain "java/lang/Cloneable" (some 0) with
  accessFlags := 1537
  interfaces := #[]
  cf := some (fileOf pool11 2 #[] #[] 1537 4 #[] #[])
  fields := #[]
  methods := #[]
  instanceTypes := #[]
  staticTypes := #[]
  resolved := Array.replicate 8 none
  statics := none }

/-- the primitive byte -/
def k12 : Class := { plain "byte" none with kind := .primitive 'B', accessFlags := 0x411 }
/-- [B -/
def k13 : Class := { plain "[B" (some 0) with kind := .array 12 .byte, interfaces := #[11, 4], accessFlags := 1041 }

/-- the primitive int -/
def k14 : Class := { plain "int" none with kind := .primitive 'I', accessFlags := 0x411 }
/-- [I -/
def k15 : Class := { plain "[I" (some 0) with kind := .array 14 .int, interfaces := #[11, 4], accessFlags := 1041 }

/-- the primitive long -/
def k16 : Class := { plain "long" none with kind := .primitive 'J', accessFlags := 0x411 }
/-- [J -/
def k17 : Class := { plain "[J" (some 0) with kind := .array 16 .long, interfaces := #[11, 4], accessFlags := 1041 }

def heap : Heap := #[]
def classes : Array Class := #[k0, k1, k2, k3, k4, k5, k6, k7, k8, k9, k10, k11, k12, k13, k14, k15, k16, k17]
def interned : List (Array UInt16 × Addr) := []
def slotsUsed : Nat := 0
def theMethod : MethodId := ⟨1, 1⟩
def args0 : Array Value := #[.int 5, .int 7, .int 3, .int 2, .int 1, .int 9]
def aboutOver (below : List Frame) : State where
  vm := { classes := classes, interned := interned.toArray }
  heap := heap
  slotsUsed := slotsUsed
  threads := #[{ frames := .invoking theMethod args0 :: below }]
def below0 : List Frame := [.native { method := ⟨0, 0⟩, args := #[] }]
def about1 : State := aboutOver below0
def p0 : Program := .bare "" "" ""
def e0 : Env := launch0.env 0 0 0
theorem w_frames : about1.frames = Frame.invoking theMethod args0 :: below0 := rfl
set_option maxRecDepth 65536 in
theorem w_args : argsFit about1.vm theMethod args0 = true := by decide +kernel
set_option maxRecDepth 65536 in
theorem w_heap : heapFits about1 = true := by decide +kernel
set_option maxRecDepth 65536 in
theorem w_runnable : about1.curStatus? = some .runnable := by decide +kernel
set_option maxRecDepth 65536 in
theorem w_alone : about1.alone = true := by decide +kernel
set_option maxRecDepth 65536 in
theorem w_named : about1.methodNamed? x = some theMethod := by decide +kernel
set_option maxRecDepth 65536 in
theorem w_hears : about1.hears theMethod below0 = true := by decide +kernel
set_option maxRecDepth 65536 in
theorem w_ripe : about1.ripe theMethod args0 below0 = true := by decide +kernel
theorem w_running : about1.status = .running := rfl
set_option maxRecDepth 65536 in
theorem w_room : about1.hasRoom e0.platform room_1 = true :=
  launch0.hasRoom_least _ room_1 (by decide +kernel) (by decide +kernel) (by decide +kernel) (by decide +kernel) (by decide +kernel) (by decide +kernel)
theorem allAtoms_all (ts : List Jvm.Cond) (a : Array Jvm.Value) (st : Jvm.State) : (allAtoms ts).before a st = ts.all (fun c => c.before a st) := by
  induction ts with
  | nil => rfl
  | cons c t ih =>
    show (Jvm.Cond.and c (allAtoms t)).before a st = _
    rw [Jvm.Cond.before_and, ih, List.all_cons]
def words1 : List Jvm.Cond := Jvm.Cond.code x code maxLocals ret :: tables_1
/-- a 'code' word, met by the world's own term for the bytes: nothing is compared byte by byte -/
theorem code_word {y : MethodName} {bytes : ByteArray} {mx : Nat} {rt : Option FieldType} {a : Array Value} {s : State} {m : MethodId} {meth : Method} {c : Code} (h1 : s.methodNamed? y = some m) (h2 : s.vm.method? m = some meth) (h3 : meth.code = some c) (h4 : c.code = bytes)
    (h5 : (c.maxLocals == mx && c.exceptionTable.isEmpty && decide (c.maxStack ≤ mostOperands) && decide (meth.sig.returnType = rt) && !meth.locks && decide (parseMethodDescriptor y.desc = some meth.sig)) = true) : (Jvm.Cond.code y bytes mx rt).before a s = true := by
  simp only [Bool.and_eq_true, beq_iff_eq, Bool.not_eq_true', decide_eq_true_eq] at h5
  obtain ⟨⟨⟨⟨⟨g1, g2⟩, g3⟩, g4⟩, g5⟩, g6⟩ := h5
  simp [Cond.before, Cond.holds, Cond.value, h1, h2, h3, h4, g1, g2, g3, g4, g5, g6]
def isCode : Jvm.Cond → Bool
  | .code _ _ _ _ => true
  | _ => false
theorem all_split {L : List Jvm.Cond} {P : Jvm.Cond → Bool} (h1 : L.all (fun c => isCode c || P c) = true) (h2 : ∀ c ∈ L.filter isCode, P c = true) : L.all P = true := by
  refine List.all_eq_true.mpr fun c hc => ?_
  have h := List.all_eq_true.mp h1 c hc
  rcases Bool.eq_false_or_eq_true (isCode c) with hi | hi
  · exact h2 c (List.mem_filter.mpr ⟨hc, hi⟩)
  · simpa [hi] using h
set_option maxRecDepth 65536 in
theorem w_c0 : (Jvm.Cond.code x code maxLocals ret).before args0 about1 = true := code_word (m := ⟨1, 1⟩) (meth := k1m1) (c := k1c1) (by decide +kernel) rfl rfl rfl (by decide +kernel)
set_option maxRecDepth 65536 in
theorem w_c1 : (Jvm.Cond.code ({ cls := "com/example/masked_merge/maskedmerge/core/PairNumbers", name := "<init>", desc := "(I)V" } : Jvm.MethodName) prog_15_method_1_code (3 : Nat) (Option.none : Option Jvm.ClassFile.FieldType)).before args0 about1 = true := code_word (m := ⟨2, 0⟩) (meth := k2m0) (c := k2c0) (by decide +kernel) rfl rfl rfl (by decide +kernel)
set_option maxRecDepth 65536 in
theorem w_c2 : (Jvm.Cond.code ({ cls := "java/lang/Object", name := "<init>", desc := "()V" } : Jvm.MethodName) object_method_1_code (1 : Nat) (Option.none : Option Jvm.ClassFile.FieldType)).before args0 about1 = true := code_word (m := ⟨0, 0⟩) (meth := k0m0) (c := k0c0) (by decide +kernel) rfl rfl rfl (by decide +kernel)
set_option maxRecDepth 65536 in
theorem w_c3 : (Jvm.Cond.code ({ cls := "java/lang/Math", name := "max", desc := "(II)I" } : Jvm.MethodName) jdk_29_method_65_code (2 : Nat) (Option.some Jvm.ClassFile.FieldType.int)).before args0 about1 = true := code_word (m := ⟨3, 1⟩) (meth := k3m1) (c := k3c1) (by decide +kernel) rfl rfl rfl (by decide +kernel)
set_option maxRecDepth 65536 in
theorem w_c4 : (Jvm.Cond.code ({ cls := "java/lang/Integer", name := "highestOneBit", desc := "(I)I" } : Jvm.MethodName) jdk_33_method_45_code (1 : Nat) (Option.some Jvm.ClassFile.FieldType.int)).before args0 about1 = true := code_word (m := ⟨9, 0⟩) (meth := k9m0) (c := k9c0) (by decide +kernel) rfl rfl rfl (by decide +kernel)
set_option maxRecDepth 65536 in
theorem w_c5 : (Jvm.Cond.code ({ cls := "java/lang/Integer", name := "numberOfLeadingZeros", desc := "(I)I" } : Jvm.MethodName) jdk_33_method_47_code (2 : Nat) (Option.some Jvm.ClassFile.FieldType.int)).before args0 about1 = true := code_word (m := ⟨9, 1⟩) (meth := k9m1) (c := k9c1) (by decide +kernel) rfl rfl rfl (by decide +kernel)
set_option maxRecDepth 65536 in
theorem w_c6 : (Jvm.Cond.code ({ cls := "java/lang/Integer", name := "numberOfTrailingZeros", desc := "(I)I" } : Jvm.MethodName) jdk_33_method_48_code (2 : Nat) (Option.some Jvm.ClassFile.FieldType.int)).before args0 about1 = true := code_word (m := ⟨9, 2⟩) (meth := k9m2) (c := k9c2) (by decide +kernel) rfl rfl rfl (by decide +kernel)
set_option maxRecDepth 65536 in
theorem w_c7 : (Jvm.Cond.code ({ cls := "java/util/Arrays", name := "fill", desc := "([JJ)V" } : Jvm.MethodName) jdk_65_method_101_code (5 : Nat) (Option.none : Option Jvm.ClassFile.FieldType)).before args0 about1 = true := code_word (m := ⟨10, 1⟩) (meth := k10m1) (c := k10c1) (by decide +kernel) rfl rfl rfl (by decide +kernel)
set_option maxRecDepth 65536 in
theorem w_c8 : (Jvm.Cond.code ({ cls := "com/example/masked_merge/maskedmerge/core/PairNumbers", name := "number", desc := "(II)I" } : Jvm.MethodName) prog_15_method_2_code (6 : Nat) (Option.some Jvm.ClassFile.FieldType.int)).before args0 about1 = true := code_word (m := ⟨2, 1⟩) (meth := k2m1) (c := k2c1) (by decide +kernel) rfl rfl rfl (by decide +kernel)
set_option maxRecDepth 65536 in
theorem w_c9 : (Jvm.Cond.code ({ cls := "com/example/masked_merge/maskedmerge/core/PairNumbers", name := "clear", desc := "()V" } : Jvm.MethodName) prog_15_method_4_code (2 : Nat) (Option.none : Option Jvm.ClassFile.FieldType)).before args0 about1 = true := code_word (m := ⟨2, 3⟩) (meth := k2m3) (c := k2c3) (by decide +kernel) rfl rfl rfl (by decide +kernel)
set_option maxRecDepth 65536 in
theorem w_c10 : (Jvm.Cond.code ({ cls := "com/example/masked_merge/maskedmerge/core/PairNumbers", name := "size", desc := "()I" } : Jvm.MethodName) prog_15_method_3_code (1 : Nat) (Option.some Jvm.ClassFile.FieldType.int)).before args0 about1 = true := code_word (m := ⟨2, 2⟩) (meth := k2m2) (c := k2c2) (by decide +kernel) rfl rfl rfl (by decide +kernel)
def codes1 : List Jvm.Cond := [Jvm.Cond.code x code maxLocals ret, Jvm.Cond.code ({ cls := "com/example/masked_merge/maskedmerge/core/PairNumbers", name := "<init>", desc := "(I)V" } : Jvm.MethodName) prog_15_method_1_code (3 : Nat) (Option.none : Option Jvm.ClassFile.FieldType), Jvm.Cond.code ({ cls := "java/lang/Object", name := "<init>", desc := "()V" } : Jvm.MethodName) object_method_1_code (1 : Nat) (Option.none : Option Jvm.ClassFile.FieldType), Jvm.Cond.code ({ cls := "java/lang/Math", name := "max", desc := "(II)I" } : Jvm.MethodName) jdk_29_method_65_code (2 : Nat) (Option.some Jvm.ClassFile.FieldType.int), Jvm.Cond.code ({ cls := "java/lang/Integer", name := "highestOneBit", desc := "(I)I" } : Jvm.MethodName) jdk_33_method_45_code (1 : Nat) (Option.some Jvm.ClassFile.FieldType.int), Jvm.Cond.code ({ cls := "java/lang/Integer", name := "numberOfLeadingZeros", desc := "(I)I" } : Jvm.MethodName) jdk_33_method_47_code (2 : Nat) (Option.some Jvm.ClassFile.FieldType.int), Jvm.Cond.code ({ cls := "java/lang/Integer", name := "numberOfTrailingZeros", desc := "(I)I" } : Jvm.MethodName) jdk_33_method_48_code (2 : Nat) (Option.some Jvm.ClassFile.FieldType.int), Jvm.Cond.code ({ cls := "java/util/Arrays", name := "fill", desc := "([JJ)V" } : Jvm.MethodName) jdk_65_method_101_code (5 : Nat) (Option.none : Option Jvm.ClassFile.FieldType), Jvm.Cond.code ({ cls := "com/example/masked_merge/maskedmerge/core/PairNumbers", name := "number", desc := "(II)I" } : Jvm.MethodName) prog_15_method_2_code (6 : Nat) (Option.some Jvm.ClassFile.FieldType.int), Jvm.Cond.code ({ cls := "com/example/masked_merge/maskedmerge/core/PairNumbers", name := "clear", desc := "()V" } : Jvm.MethodName) prog_15_method_4_code (2 : Nat) (Option.none : Option Jvm.ClassFile.FieldType), Jvm.Cond.code ({ cls := "com/example/masked_merge/maskedmerge/core/PairNumbers", name := "size", desc := "()I" } : Jvm.MethodName) prog_15_method_3_code (1 : Nat) (Option.some Jvm.ClassFile.FieldType.int)]
set_option maxRecDepth 65536 in
theorem codes_eq : words1.filter isCode = codes1 := rfl
theorem w_codes : ∀ c ∈ words1.filter isCode, c.before args0 about1 = true := by
  rw [codes_eq]
  intro c hc
  simp only [codes1, List.mem_cons, List.not_mem_nil, or_false] at hc
  rcases hc with rfl | rfl | rfl | rfl | rfl | rfl | rfl | rfl | rfl | rfl | rfl
  · exact w_c0
  · exact w_c1
  · exact w_c2
  · exact w_c3
  · exact w_c4
  · exact w_c5
  · exact w_c6
  · exact w_c7
  · exact w_c8
  · exact w_c9
  · exact w_c10
set_option maxRecDepth 65536 in
theorem w_t1 : (words1.take 24).all (fun c => isCode c || c.before args0 about1) = true := by decide +kernel
set_option maxRecDepth 65536 in
theorem w_t2 : ((words1.drop 24).take 24).all (fun c => isCode c || c.before args0 about1) = true := by decide +kernel
set_option maxRecDepth 65536 in
theorem w_t3 : ((words1.drop 24).drop 24).all (fun c => isCode c || c.before args0 about1) = true := by decide +kernel
theorem w_tables : (allAtoms (Jvm.Cond.code x code maxLocals ret :: tables_1)).before args0 about1 = true := by
  rw [allAtoms_all]
  show words1.all (fun c => c.before args0 about1) = true
  refine all_split ?_ w_codes
  rw [← List.take_append_drop 24 words1, List.all_append, w_t1, ← List.take_append_drop 24 (words1.drop 24), List.all_append, w_t2, w_t3]
  rfl
set_option maxRecDepth 65536 in
theorem w_case : (Jvm.Cond.and given_1 narrow_1).before args0 about1 = true := by decide +kernel
theorem w_applies : (headSpec (Jvm.Cond.code x code maxLocals ret :: tables_1) room_1).applies x e0.platform about1 = true :=
  (Spec.applies_iff w_frames).mpr ⟨w_running, w_runnable, w_alone, w_named, w_hears, w_ripe, w_room, w_tables⟩
theorem atStart : AtStart classFile x code maxLocals ret World_1 tables_1 room_1 Calls_1 rest_1 Pre_1 launch0 p0 e0 about1 theMethod args0 below0 :=
  ⟨lists_1, trivial, launch0.admits_env _ _ _, launch0.least_env, fairChoices_fair.cas, fairChoices_fair.clock, w_frames, w_args, w_heap, w_applies, trivial, trivial, w_case⟩
end start1
theorem witness_1 : WitnessClaimed_1 := ⟨start1.p0, start1.e0, start1.about1, start1.theMethod, start1.args0, start1.below0, start1.atStart⟩
end Jvm.Pilot.@@N@@
