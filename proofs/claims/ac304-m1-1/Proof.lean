import JvmDerived
import JvmDerived.Pilot.@@N@@Statement
import JvmDerived.Pilot.@@N@@Code
set_option linter.unusedVariables false
set_option linter.unusedSimpArgs false
namespace Jvm.Own
open Jvm Jvm.ClassFile Sem Op Lib Jvm.Free Jvm.Stand Jvm.LawKit Jvm.RoadKit Bundle

/-! a calculus of walks, over the library's step laws -/
def Wk (Z : State) (own nm : String) (bytes : ByteArray) (ml : Nat) (ret : Option FieldType) (R : Room) (n0 : Nat) (p : Program) (l : Launch) (e : Env) (s : State) (m : MethodId) (args : Array Value) (below : List Frame) (meth : Method) (c : Code) (T : State) (cells slots : Nat) (h : Heap) : Prop :=
  ∃ locs, Stand p l e R s m args below meth c T locs cells slots ∧ Fr n0 locs ∧ T.heap = h ∧ n0 ≤ s.heap.size ∧ p.tables.exec = Jvm.exec ∧ Z.Warmed39 s.vm ∧ c.code = bytes ∧ c.maxLocals = ml ∧ s.vm.findClass own = some m.cls ∧ meth.name = nm ∧ meth.sig.returnType = ret ∧ meth.locks = false
def Goes (p : Program) (e : Env) (below : List Frame) (s : State) (R : Room) (n0 : Nat) (Q : Option Value → Heap → Prop) (t : State) : Prop :=
  ∃ s₂ o, Steps p.tables e below t s₂ ∧ s₂.status = .running ∧ Ended s₂ below o ∧ ∃ v L, o = .returned v ∧ (Fr n0 L ∧ Q v s₂.heap) ∧ FrameEnd s o s₂ L R.cells R.slots
def Met (l : Launch) (Z : State) (y : MethodName) (bytes : ByteArray) (ml : Nat) (ret : Option FieldType) (R : Room) (ws : List Jvm.Cond) (n0 : Nat) (as : Array Value) (h0 : Heap) (Q : Option Value → Heap → Prop) : Prop :=
  MetFree l y (head1 (Jvm.Cond.code y bytes ml ret :: ws) R) (fun a U => a = as ∧ Z.Warmed39 U.vm ∧ U.heap = h0) (fun _ _ _ _ _ => True) (fun _ U o U' => ∃ v L, o = .returned v ∧ (Fr n0 L ∧ Q v U'.heap) ∧ FrameEnd U o U' L R.cells R.slots)
def bI (c : Prop) [Decidable c] : Int32 := if c then 1 else 0
theorem bI_t {c : Prop} [Decidable c] (h : c) : (1 : Int32) = bI c := (if_pos h).symm
theorem bI_f {c : Prop} [Decidable c] (h : ¬ c) : (0 : Int32) = bI c := (if_neg h).symm
theorem bI_01 (c : Prop) [Decidable c] : bI c = 0 ∨ bI c = 1 := by unfold bI; split <;> simp
theorem bI_eq0 (c : Prop) [Decidable c] : bI c = 0 ↔ ¬ c := by unfold bI; split <;> simp_all
theorem bI_eq1 (c : Prop) [Decidable c] : bI c = 1 ↔ c := by unfold bI; split <;> simp_all
theorem bI_inj (c d : Prop) [Decidable c] [Decidable d] : bI c = bI d ↔ (c ↔ d) := by unfold bI; split <;> split <;> simp_all
theorem bI_cong {c d : Prop} [Decidable c] [Decidable d] (h : c ↔ d) : bI c = bI d := (bI_inj c d).mpr h
def pcI (cd : ClassFile.Cond) (x y : Int32) : Prop := match cd with
  | .lt | .ge => x < y
  | .gt | .le => y < x
  | .eq | .ne => x = y
def pcJ (cd : ClassFile.Cond) (x y : Int64) : Prop := match cd with
  | .lt | .ge => x < y
  | .gt | .le => y < x
  | .eq | .ne => x = y

theorem own_bI01 (c : Prop) [Decidable c] : (c ∧ (bI c).toInt = 1) ∨ (¬ c ∧ (bI c).toInt = 0) := by unfold bI; split <;> simp_all
theorem own_mask' (m x : Int32) (k : Nat) (hk : k ≤ 31) (hm : m.toBitVec.toNat = 2 ^ k - 1) : (m &&& x).toInt = x.toInt % (2 ^ k : Nat) := by rw [Int32.and_comm]; exact c_mask x m k hk hm
theorem own_maskL' (m x : Int64) (k : Nat) (hk : k ≤ 63) (hm : m.toBitVec.toNat = 2 ^ k - 1) : (m &&& x).toInt = x.toInt % (2 ^ k : Nat) := by rw [Int64.and_comm]; exact c_maskL x m k hk hm
theorem own_mB (x m : Int32) (k : Nat) (hk : k ≤ 31) (hm : m.toBitVec.toNat = 2 ^ k - 1) (M : Nat) (hM : M + 1 = 2 ^ k) : 0 ≤ (x &&& m).toInt ∧ (x &&& m).toInt ≤ M := by
  rw [c_mask x m k hk hm, ← hM]; have a := Int.emod_nonneg x.toInt (b := ((M + 1 : Nat) : Int)) (by omega); have b := Int.emod_lt_of_pos x.toInt (b := ((M + 1 : Nat) : Int)) (by omega); omega
theorem own_mBL (x m : Int64) (k : Nat) (hk : k ≤ 63) (hm : m.toBitVec.toNat = 2 ^ k - 1) (M : Nat) (hM : M + 1 = 2 ^ k) : 0 ≤ (x &&& m).toInt ∧ (x &&& m).toInt ≤ M := by
  rw [c_maskL x m k hk hm, ← hM]; have a := Int.emod_nonneg x.toInt (b := ((M + 1 : Nat) : Int)) (by omega); have b := Int.emod_lt_of_pos x.toInt (b := ((M + 1 : Nat) : Int)) (by omega); omega
theorem own_mB' (m x : Int32) (k : Nat) (hk : k ≤ 31) (hm : m.toBitVec.toNat = 2 ^ k - 1) (M : Nat) (hM : M + 1 = 2 ^ k) : 0 ≤ (m &&& x).toInt ∧ (m &&& x).toInt ≤ M := by rw [Int32.and_comm]; exact own_mB x m k hk hm M hM
theorem own_mBL' (m x : Int64) (k : Nat) (hk : k ≤ 63) (hm : m.toBitVec.toNat = 2 ^ k - 1) (M : Nat) (hM : M + 1 = 2 ^ k) : 0 ≤ (m &&& x).toInt ∧ (m &&& x).toInt ≤ M := by rw [Int64.and_comm]; exact own_mBL x m k hk hm M hM
theorem own_iaddE (x y : Int32) (h : -2147483648 ≤ x.toInt + y.toInt ∧ x.toInt + y.toInt < 2147483648) : (x + y).toInt = x.toInt + y.toInt := by
  have a := c_iadd x y; have b := rng32 (x + y); omega
theorem own_isubE (x y : Int32) (h : -2147483648 ≤ x.toInt - y.toInt ∧ x.toInt - y.toInt < 2147483648) : (x - y).toInt = x.toInt - y.toInt := by
  have a := c_isub x y; have b := rng32 (x - y); omega
theorem own_imulE (x y : Int32) (h : -2147483648 ≤ x.toInt * y.toInt ∧ x.toInt * y.toInt < 2147483648) : (x * y).toInt = x.toInt * y.toInt := by
  have a := c_imul x y; have b := rng32 (x * y); omega
theorem own_inegE (x : Int32) (h : -2147483648 ≤ -x.toInt ∧ -x.toInt < 2147483648) : (-x).toInt = -x.toInt := by
  have a := c_ineg x; have b := rng32 (-x); omega
theorem own_laddE (x y : Int64) (h : -9223372036854775808 ≤ x.toInt + y.toInt ∧ x.toInt + y.toInt < 9223372036854775808) : (x + y).toInt = x.toInt + y.toInt := by
  have a := c_ladd x y; have b := rng64 (x + y); omega
theorem own_lsubE (x y : Int64) (h : -9223372036854775808 ≤ x.toInt - y.toInt ∧ x.toInt - y.toInt < 9223372036854775808) : (x - y).toInt = x.toInt - y.toInt := by
  have a := c_lsub x y; have b := rng64 (x - y); omega
theorem own_lmulE (x y : Int64) (h : -9223372036854775808 ≤ x.toInt * y.toInt ∧ x.toInt * y.toInt < 9223372036854775808) : (x * y).toInt = x.toInt * y.toInt := by
  have a := c_lmul x y; have b := rng64 (x * y); omega
theorem own_lnegE (x : Int64) (h : -9223372036854775808 ≤ -x.toInt ∧ -x.toInt < 9223372036854775808) : (-x).toInt = -x.toInt := by
  have a := c_lneg x; have b := rng64 (-x); omega
theorem own_l2iE (x : Int64) (h : -2147483648 ≤ x.toInt ∧ x.toInt < 2147483648) : x.toInt32.toInt = x.toInt := by
  have a := c_l2i x; have b := rng32 x.toInt32; omega
theorem own_ushB (x q : Int32) (k : Nat) (hk : q.toBitVec.toNat % 32 = k) (h0 : 0 < k) (M : Nat) (hM : M * 2 ^ k = 4294967296) : 0 ≤ ((x.toUInt32 >>> (q &&& 31).toUInt32).toInt32).toInt ∧ ((x.toUInt32 >>> (q &&& 31).toUInt32).toInt32).toInt < M := by
  rw [c_iushr x q k hk h0]
  have h2 : (0 : Int) < ((2 ^ k : Nat) : Int) := Int.natCast_pos.mpr (Nat.pow_pos (by decide))
  refine ⟨Int.ediv_nonneg (by omega) (Int.le_of_lt h2), Int.ediv_lt_of_lt_mul h2 ?_⟩
  have q : ((M : Int)) * ((2 ^ k : Nat) : Int) = 4294967296 := by rw [← Int.natCast_mul, hM]; rfl
  omega
theorem own_irem (x y : Int32) (d : Int) (hy : y.toInt = d) : (0 ≤ x.toInt → (x % y).toInt = x.toInt % d) ∧ (x.toInt < 0 → (x % y).toInt = -((-x.toInt) % d)) := c_irem x y d hy
theorem own_lrem (x y : Int64) (d : Int) (hy : y.toInt = d) : (0 ≤ x.toInt → (x % y).toInt = x.toInt % d) ∧ (x.toInt < 0 → (x % y).toInt = -((-x.toInt) % d)) := by rw [← lrem_mod]; exact c_lrem x y d hy
theorem own_iremV (x y : Int32) : (0 ≤ x.toInt → 0 < y.toInt → 0 ≤ (x % y).toInt ∧ (x % y).toInt < y.toInt ∧ (x % y).toInt ≤ x.toInt) := fun h1 h2 => ⟨((c_iremV x y).1 h1 h2).1, ((c_iremV x y).1 h1 h2).2.1, ((c_iremV x y).1 h1 h2).2.2.1⟩
theorem own_emod_le {a b : Int} (h1 : 0 ≤ a) (h2 : 0 < b) : a % b ≤ a := by
  have q := Int.emod_add_mul_ediv a b; have z : 0 ≤ b * (a / b) := Int.mul_nonneg (Int.le_of_lt h2) (Int.ediv_nonneg h1 (Int.le_of_lt h2)); omega
theorem own_lremV (x y : Int64) : (0 ≤ x.toInt → 0 < y.toInt → 0 ≤ (x % y).toInt ∧ (x % y).toInt < y.toInt ∧ (x % y).toInt ≤ x.toInt) := fun h1 h2 => by
  rw [Int64.toInt_mod, Int.tmod_eq_emod_of_nonneg h1]
  exact ⟨Int.emod_nonneg _ (by omega), Int.emod_lt_of_pos _ h2, own_emod_le h1 h2⟩
theorem own_iremP (x y : Int32) (d : Int) (hy : y.toInt = d) (h0 : 0 ≤ x.toInt) : (x % y).toInt = x.toInt % d := (own_irem x y d hy).1 h0
theorem own_iremB (x y : Int32) (d : Int) (hy : y.toInt = d) (hd : 0 < d) (h0 : 0 ≤ x.toInt) : 0 ≤ (x % y).toInt ∧ (x % y).toInt < d ∧ (x % y).toInt ≤ x.toInt := by
  rw [own_iremP x y d hy h0]; exact ⟨Int.emod_nonneg _ (by omega), Int.emod_lt_of_pos _ hd, own_emod_le h0 hd⟩
theorem own_iremM (x y : Int32) (d : Int) (hy : y.toInt = d) (hd : 0 < d) : -d < (x % y).toInt ∧ (x % y).toInt < d := by
  rcases Int.lt_or_le x.toInt 0 with h | h
  · rw [(own_irem x y d hy).2 h]; have a := Int.emod_nonneg (-x.toInt) (b := d) (by omega); have b := Int.emod_lt_of_pos (-x.toInt) hd; omega
  · have q := own_iremB x y d hy hd h; omega
theorem own_lremP (x y : Int64) (d : Int) (hy : y.toInt = d) (h0 : 0 ≤ x.toInt) : (x % y).toInt = x.toInt % d := (own_lrem x y d hy).1 h0
theorem own_lremB (x y : Int64) (d : Int) (hy : y.toInt = d) (hd : 0 < d) (h0 : 0 ≤ x.toInt) : 0 ≤ (x % y).toInt ∧ (x % y).toInt < d ∧ (x % y).toInt ≤ x.toInt := by
  rw [own_lremP x y d hy h0]; exact ⟨Int.emod_nonneg _ (by omega), Int.emod_lt_of_pos _ hd, own_emod_le h0 hd⟩
theorem own_lremM (x y : Int64) (d : Int) (hy : y.toInt = d) (hd : 0 < d) : -d < (x % y).toInt ∧ (x % y).toInt < d := by
  rcases Int.lt_or_le x.toInt 0 with h | h
  · rw [(own_lrem x y d hy).2 h]; have a := Int.emod_nonneg (-x.toInt) (b := d) (by omega); have b := Int.emod_lt_of_pos (-x.toInt) hd; omega
  · have q := own_lremB x y d hy hd h; omega
theorem own_bor (A B : Prop) [Decidable A] [Decidable B] : bI A ||| bI B = bI (A ∨ B) := by unfold bI; by_cases a : A <;> by_cases b : B <;> simp [a, b] <;> decide
theorem own_band (A B : Prop) [Decidable A] [Decidable B] : bI A &&& bI B = bI (A ∧ B) := by unfold bI; by_cases a : A <;> by_cases b : B <;> simp [a, b] <;> decide
def Apart (a b : Addr) : Prop := a ≠ b
theorem own_apS {a b : Addr} (h : Apart a b) : Apart b a := Ne.symm h
theorem own_new {h : Heap} {a b : Addr} (hb : b = h.size) (ha : a < h.size) : Apart a b := by subst hb; exact Nat.ne_of_lt ha
theorem own_sz {h0 h : Heap} {b : Addr} {ws : List Addr} (hb : b = h.size) (K : Keep h0 h ws) : h0.size ≤ b := by subst hb; exact K.1
theorem own_far {h : Heap} {a b : Addr} (ha : a < h.size) (hb : h.size ≤ b) : Apart a b := Nat.ne_of_lt (Nat.lt_of_lt_of_le ha hb)
theorem own_narZ {z : Int32} (hz : z = 0 ∨ z = 1) : narrow .boolean (.int z) = .int z := by rcases hz with rfl | rfl <;> rfl
theorem own_fitZ {z : Int32} (hz : z = 0 ∨ z = 1) : fits .boolean (.int z) = true := by rcases hz with rfl | rfl <;> rfl
theorem own_narZ' {z : Int32} (hz : z = 0 ∨ z = 1) : nar .boolean z = z := by rcases hz with rfl | rfl <;> rfl
theorem own_fin {c : Prop} [Decidable c] (h : c) : (some (Value.int (bI c))) = some (Value.int 1) := by rw [← bI_t h]
def own_up {α : Type} (f : Nat → α) (i : Nat) (x : α) : Nat → α := fun k => if k = i then x else f k
def AI (Z : State) (h : Heap) (a : Addr) (ty : FieldType) (n : Nat) (f : Nat → Int32) : Prop := n < 2 ^ 31 ∧ ∃ c : Cell, Arr Z h a c ty ∧ c.slots.size = n ∧ ∀ j, j < n → c.slots[j]? = some (.int (f j))
def AJ (Z : State) (h : Heap) (a : Addr) (n : Nat) (f : Nat → Int64) : Prop := n < 2 ^ 31 ∧ ∃ c : Cell, Arr Z h a c .long ∧ c.slots.size = n ∧ ∀ j, j < n → c.slots[j]? = some (.long (f j))
theorem AI.lt {Z : State} {h : Heap} {a : Addr} {ty : FieldType} {n : Nat} {f : Nat → Int32} (A : AI Z h a ty n f) : a < h.size := by obtain ⟨_, c, A, _⟩ := A; exact A.lt
theorem AI.ext {Z : State} {h h' : Heap} {a : Addr} {ty : FieldType} {n : Nat} {f : Nat → Int32} (A : AI Z h a ty n f) (E : Ext h h') : AI Z h' a ty n f := by obtain ⟨q, c, A, r⟩ := A; exact ⟨q, c, A.ext E, r⟩
theorem AI.keep {Z : State} {h h' : Heap} {a : Addr} {ws : List Addr} {ty : FieldType} {n : Nat} {f : Nat → Int32} (A : AI Z h a ty n f) (K : Keep h h' ws) (q : a ∉ ws) : AI Z h' a ty n f := by obtain ⟨z, c, A, r⟩ := A; exact ⟨z, c, ⟨K.2.1 a c A.1 q, A.2⟩, r⟩
theorem AI.other {Z : State} {h h' : Heap} {a b : Addr} {sl : Nat} {w : Value} {ty : FieldType} {n : Nat} {f : Nat → Int32} (A : AI Z h a ty n f) (W : Wr h h' b sl w) (q : a ≠ b) : AI Z h' a ty n f := by obtain ⟨z, c, A, r⟩ := A; exact ⟨z, c, A.other W q, r⟩
theorem AI.set {Z : State} {h h' : Heap} {a : Addr} {i : Nat} {x : Int32} {ty : FieldType} {n : Nat} {f : Nat → Int32} (A : AI Z h a ty n f) (W : Wr h h' a i (.int x)) : AI Z h' a ty n (own_up f i x) := by
  obtain ⟨z, c, A, r1, r2⟩ := A
  refine ⟨z, _, A.same W, by rw [sz_set]; exact r1, fun j hj => ?_⟩
  by_cases q : j = i
  · subst q; simp [Cell.setSlot, own_up, r1, hj]
  · simp only [Cell.setSlot, own_up, if_neg q]; rw [Array.getElem?_setIfInBounds_ne (Ne.symm q)]; exact r2 j hj
theorem AI.to {Z : State} {h : Heap} {a : Addr} {ty : FieldType} {n : Nat} {f g : Nat → Int32} (A : AI Z h a ty n f) (q : ∀ j, j < n → f j = g j) : AI Z h a ty n g := by obtain ⟨z, c, A, r1, r2⟩ := A; exact ⟨z, c, A, r1, fun j hj => by rw [← q j hj]; exact r2 j hj⟩
theorem AJ.lt {Z : State} {h : Heap} {a : Addr} {n : Nat} {f : Nat → Int64} (A : AJ Z h a n f) : a < h.size := by obtain ⟨_, c, A, _⟩ := A; exact A.lt
theorem AJ.ext {Z : State} {h h' : Heap} {a : Addr} {n : Nat} {f : Nat → Int64} (A : AJ Z h a n f) (E : Ext h h') : AJ Z h' a n f := by obtain ⟨q, c, A, r⟩ := A; exact ⟨q, c, A.ext E, r⟩
theorem AJ.keep {Z : State} {h h' : Heap} {a : Addr} {ws : List Addr} {n : Nat} {f : Nat → Int64} (A : AJ Z h a n f) (K : Keep h h' ws) (q : a ∉ ws) : AJ Z h' a n f := by obtain ⟨z, c, A, r⟩ := A; exact ⟨z, c, ⟨K.2.1 a c A.1 q, A.2⟩, r⟩
theorem AJ.other {Z : State} {h h' : Heap} {a b : Addr} {sl : Nat} {w : Value} {n : Nat} {f : Nat → Int64} (A : AJ Z h a n f) (W : Wr h h' b sl w) (q : a ≠ b) : AJ Z h' a n f := by obtain ⟨z, c, A, r⟩ := A; exact ⟨z, c, A.other W q, r⟩
theorem AJ.set {Z : State} {h h' : Heap} {a : Addr} {i : Nat} {x : Int64} {n : Nat} {f : Nat → Int64} (A : AJ Z h a n f) (W : Wr h h' a i (.long x)) : AJ Z h' a n (own_up f i x) := by
  obtain ⟨z, c, A, r1, r2⟩ := A
  refine ⟨z, _, A.same W, by rw [sz_set]; exact r1, fun j hj => ?_⟩
  by_cases q : j = i
  · subst q; simp [Cell.setSlot, own_up, r1, hj]
  · simp only [Cell.setSlot, own_up, if_neg q]; rw [Array.getElem?_setIfInBounds_ne (Ne.symm q)]; exact r2 j hj
theorem AJ.to {Z : State} {h : Heap} {a : Addr} {n : Nat} {f g : Nat → Int64} (A : AJ Z h a n f) (q : ∀ j, j < n → f j = g j) : AJ Z h a n g := by obtain ⟨z, c, A, r1, r2⟩ := A; exact ⟨z, c, A, r1, fun j hj => by rw [← q j hj]; exact r2 j hj⟩
theorem own_ix {j : Int32} {n k : Nat} (hk : k = n) (q : 0 ≤ j.toInt ∧ j.toInt < n) : ¬ (j < 0 ∨ k ≤ j.toNatClampNeg) := by
  simp only [Int32.lt_iff_toInt_lt, Int32.toNatClampNeg, Int32.reduceToInt]; omega
theorem own_ixn {j : Int32} {n : Nat} (q : 0 ≤ j.toInt ∧ j.toInt < n) : j.toNatClampNeg < n := by simp only [Int32.toNatClampNeg]; omega
section Walk
variable {Z : State} {a0 : Array Value} {own nm : String} {bytes : ByteArray} {ml : Nat} {ret : Option FieldType} {R : Room} {n0 : Nat} {p : Program} {l : Launch} {e : Env} {s : State} {m : MethodId} {args : Array Value} {below : List Frame} {meth : Method} {c : Code} {T : State} {cells slots : Nat} {h : Heap} {Q : Option Value → Heap → Prop}
theorem Met.intro {y : MethodName} {as : Array Value} {h0 : Heap} {ws : List Jvm.Cond} (hp : plainFor y = true) (hn : n0 ≤ h0.size)
    (body : ∀ p e s m below meth c T, Wk Z y.cls y.name bytes ml ret R n0 p l e s m as below meth c T 0 0 h0 → Goes p e below s R n0 Q (T.setTop (entryFrame m as ml))) : Met l Z y bytes ml ret R ws n0 as h0 Q := by
  refine MetFree.of_bodySF hp hisR ?_
  intro p e s m args below meth c s₁ Bd hml0 hP hK
  obtain ⟨rfl, hZ, hh⟩ := hP
  have e0 : s₁.heap = h0 := by rw [← hh, Bd.state]; rfl
  exact body p e s m below meth c s₁ ⟨[], Stand.of_body Bd, Fr.nil n0, e0, by rw [hh]; exact hn, Bd.exec, hZ, Bd.bytes, hml0, findClass_of_methodNamed Bd.named, (name_of_methodNamed Bd.named Bd.method).1, Bd.returns, Bd.notSynchronized⟩
theorem g_of {A B : State} (hs : ∀ t, Steps p.tables e below A t → Steps p.tables e below B t) (k : Goes p e below s R n0 Q A) : Goes p e below s R n0 Q B := by
  obtain ⟨s2, o, h1, h2⟩ := k
  exact ⟨s2, o, hs _ h1, h2⟩
theorem g_cast {g g' : JFrame} (q : g = g') (k : Goes p e below s R n0 Q (T.setTop g')) : Goes p e below s R n0 Q (T.setTop g) := q ▸ k
theorem g_eqI {pc : Nat} {Ls : Array Slot} {x y : Int32} {rest : List Value} (q : x = y) (k : Goes p e below s R n0 Q (T.setTop (mkF m pc Ls (.int y :: rest)))) : Goes p e below s R n0 Q (T.setTop (mkF m pc Ls (.int x :: rest))) := q ▸ k
theorem g_eqJ {pc : Nat} {Ls : Array Slot} {x y : Int64} {rest : List Value} (q : x = y) (k : Goes p e below s R n0 Q (T.setTop (mkF m pc Ls (.long y :: rest)))) : Goes p e below s R n0 Q (T.setTop (mkF m pc Ls (.long x :: rest))) := q ▸ k
theorem g_letJ {pc : Nat} {Ls : Array Slot} {x : Int64} {rest : List Value} (k : ∀ y, y = x → Goes p e below s R n0 Q (T.setTop (mkF m pc Ls (.long y :: rest)))) : Goes p e below s R n0 Q (T.setTop (mkF m pc Ls (.long x :: rest))) := k x rfl
theorem g_letI {pc : Nat} {Ls : Array Slot} {x : Int32} {rest : List Value} (k : ∀ y, y = x → Goes p e below s R n0 Q (T.setTop (mkF m pc Ls (.int y :: rest)))) : Goes p e below s R n0 Q (T.setTop (mkF m pc Ls (.int x :: rest))) := k x rfl
theorem Wk.size (X : Wk Z own nm bytes ml ret R n0 p l e s m args below meth c T cells slots h) : n0 ≤ h.size := by
  obtain ⟨locs, X, N, eh, hn, hx, hZ, hby, hml, hown, hnm, hret, hlk⟩ := X
  have q : s.heap.size ≤ T.heap.size := X.same.2.1
  rw [eh] at q
  exact Nat.le_trans hn q
theorem Wk.mono (X : Wk Z own nm bytes ml ret R n0 p l e s m args below meth c T cells slots h) {cells' slots' : Nat} (hc : cells ≤ cells') (hs : slots ≤ slots') : Wk Z own nm bytes ml ret R n0 p l e s m args below meth c T cells' slots' h := by
  obtain ⟨locs, X, N, eh, hn, hx, hZ, hby, hml, hown, hnm, hret, hlk⟩ := X
  exact ⟨locs, X.mono hc hs, N, eh, hn, hx, hZ, hby, hml, hown, hnm, hret, hlk⟩
theorem g_out (X : Wk Z own nm bytes ml ret R n0 p l e s m args below meth c T cells slots h) {g : JFrame} {v : Option Value} (hv : ret = none → v = none) (hc : cells ≤ R.cells) (hs : slots ≤ R.slots)
    (st : ∀ locs, Stand p l e R s m args below meth c T locs cells slots → p.tables.exec = Jvm.exec → meth.sig.returnType = ret → c.code = bytes → ∀ fs, (∀ (f : JFrame) (acts : List Action), f.method = m → f.locked = none → f.entered = [] → (doReturn e (T.setTop f) acts v).1 = T.setFrames fs) → Steps p.tables e below (T.setTop g) (T.setFrames fs))
    (hQ : Q v h) : Goes p e below s R n0 Q (T.setTop g) := by
  obtain ⟨locs, X, N, eh, hn, hx, hZ, hby, hml, hown, hnm, hret, hlk⟩ := X
  obtain ⟨fs, hr, hrun, hended, hW, hsame⟩ := X.leave (v := v) (fun q => hv (hret ▸ q)) hlk
  exact ⟨_, _, st _ X hx hret hby fs hr, hrun, hended, _, _, rfl, ⟨N, by rw [show (T.setFrames fs).heap = T.heap from rfl, eh]; exact hQ⟩, ⟨_, rfl⟩, hW, hsame.mono hc hs⟩
theorem g_retI (X : Wk Z own nm bytes ml (some .int) R n0 p l e s m args below meth c T cells slots h) {pc : Nat} {Ls : Array Slot} {z : Int32} {rest : List Value} (hd : decode bytes pc = .ok (.ireturn, 1)) (hc : cells ≤ R.cells) (hs : slots ≤ R.slots) (hQ : Q (some (.int z)) h) : Goes p e below s R n0 Q (T.setTop (mkF m pc Ls (.int z :: rest))) :=
  g_out X nofun hc hs (fun _ Y hx hr hb fs hl => retOut Y hx hr rfl (Or.inl ⟨rfl, Or.inl rfl, _, rfl⟩) (hb ▸ hd) hl) hQ
theorem g_retZ (X : Wk Z own nm bytes ml (some .boolean) R n0 p l e s m args below meth c T cells slots h) {pc : Nat} {Ls : Array Slot} {z : Int32} {rest : List Value} (hd : decode bytes pc = .ok (.ireturn, 1)) (hc : cells ≤ R.cells) (hs : slots ≤ R.slots) (hz : z = 0 ∨ z = 1) (hQ : Q (some (.int z)) h) : Goes p e below s R n0 Q (T.setTop (mkF m pc Ls (.int z :: rest))) :=
  g_out X nofun hc hs (fun _ Y hx hr hb fs hl => retOut Y hx hr (by rcases hz with rfl | rfl <;> rfl) (Or.inl ⟨rfl, Or.inr (Or.inl rfl), _, rfl⟩) (hb ▸ hd) hl) hQ
theorem g_retJ (X : Wk Z own nm bytes ml (some .long) R n0 p l e s m args below meth c T cells slots h) {pc : Nat} {Ls : Array Slot} {z : Int64} {rest : List Value} (hd : decode bytes pc = .ok (.lreturn, 1)) (hc : cells ≤ R.cells) (hs : slots ≤ R.slots) (hQ : Q (some (.long z)) h) : Goes p e below s R n0 Q (T.setTop (mkF m pc Ls (.long z :: rest))) :=
  g_out X nofun hc hs (fun _ Y hx hr hb fs hl => retOut Y hx hr rfl (Or.inr (Or.inl ⟨rfl, rfl, _, rfl⟩)) (hb ▸ hd) hl) hQ
theorem g_retA {t : FieldType} (X : Wk Z own nm bytes ml (some t) R n0 p l e s m args below meth c T cells slots h) (ht : t.isReference = true) {pc : Nat} {Ls : Array Slot} {w : Value} (hw : w.isRef = true) {rest : List Value} (hd : decode bytes pc = .ok (.areturn, 1)) (hc : cells ≤ R.cells) (hs : slots ≤ R.slots) (hQ : Q (some w) h) : Goes p e below s R n0 Q (T.setTop (mkF m pc Ls (w :: rest))) :=
  g_out X nofun hc hs (fun _ Y hx hr hb fs hl => retOut Y hx hr (by cases t <;> simp_all [narrow, FieldType.isReference]) (Or.inr (Or.inr (Or.inr (Or.inr ⟨rfl, ht, hw⟩)))) (hb ▸ hd) hl) hQ
theorem g_ret0 (X : Wk Z own nm bytes ml none R n0 p l e s m args below meth c T cells slots h) {pc : Nat} {Ls : Array Slot} (hd : decode bytes pc = .ok (.return_, 1)) (hc : cells ≤ R.cells) (hs : slots ≤ R.slots) (hQ : Q none h) : Goes p e below s R n0 Q (T.setTop (mkF m pc Ls [])) :=
  g_out X (fun _ => rfl) hc hs (fun _ Y hx hr hb fs hl => Y.returnOut hx hr (hb ▸ hd) hl) hQ
theorem g_lcmp (X : Wk Z own nm bytes ml ret R n0 p l e s m args below meth c T cells slots h) {pc q : Nat} {Ls : Array Slot} {rest : List Value} {x y : Int64} (hd : decode bytes pc = .ok (.lcmp, 1)) (hq : pc + 1 = q) (k : Goes p e below s R n0 Q (T.setTop (mkF m q Ls (.int (lcmpW x y) :: rest)))) : Goes p e below s R n0 Q (T.setTop (mkF m pc Ls (.long y :: .long x :: rest))) := by
  obtain ⟨locs, X, N, eh, hn, hx, hZ, hby, hml, hown, hnm, hret, hlk⟩ := X
  subst hby hq
  exact g_of (fun t r => XS.lcmp X.here hx rfl hd rfl r) k
theorem g_iadd (X : Wk Z own nm bytes ml ret R n0 p l e s m args below meth c T cells slots h) {pc q : Nat} {Ls : Array Slot} {rest : List Value} {x y : Int32} (hd : decode bytes pc = .ok (.iadd, 1)) (hq : pc + 1 = q) (k : Goes p e below s R n0 Q (T.setTop (mkF m q Ls (.int (x + y) :: rest)))) : Goes p e below s R n0 Q (T.setTop (mkF m pc Ls (.int y :: .int x :: rest))) := by
  obtain ⟨locs, X, N, eh, hn, hx, hZ, hby, hml, hown, hnm, hret, hlk⟩ := X
  subst hby hq
  exact g_of (fun t r => XS.iadd X.here hx rfl hd rfl r) k
theorem g_isub (X : Wk Z own nm bytes ml ret R n0 p l e s m args below meth c T cells slots h) {pc q : Nat} {Ls : Array Slot} {rest : List Value} {x y : Int32} (hd : decode bytes pc = .ok (.isub, 1)) (hq : pc + 1 = q) (k : Goes p e below s R n0 Q (T.setTop (mkF m q Ls (.int (x - y) :: rest)))) : Goes p e below s R n0 Q (T.setTop (mkF m pc Ls (.int y :: .int x :: rest))) := by
  obtain ⟨locs, X, N, eh, hn, hx, hZ, hby, hml, hown, hnm, hret, hlk⟩ := X
  subst hby hq
  exact g_of (fun t r => XS.isub X.here hx rfl hd rfl r) k
theorem g_imul (X : Wk Z own nm bytes ml ret R n0 p l e s m args below meth c T cells slots h) {pc q : Nat} {Ls : Array Slot} {rest : List Value} {x y : Int32} (hd : decode bytes pc = .ok (.imul, 1)) (hq : pc + 1 = q) (k : Goes p e below s R n0 Q (T.setTop (mkF m q Ls (.int (x * y) :: rest)))) : Goes p e below s R n0 Q (T.setTop (mkF m pc Ls (.int y :: .int x :: rest))) := by
  obtain ⟨locs, X, N, eh, hn, hx, hZ, hby, hml, hown, hnm, hret, hlk⟩ := X
  subst hby hq
  exact g_of (fun t r => XS.imul X.here hx rfl hd rfl r) k
theorem g_iand (X : Wk Z own nm bytes ml ret R n0 p l e s m args below meth c T cells slots h) {pc q : Nat} {Ls : Array Slot} {rest : List Value} {x y : Int32} (hd : decode bytes pc = .ok (.iand, 1)) (hq : pc + 1 = q) (k : Goes p e below s R n0 Q (T.setTop (mkF m q Ls (.int (x &&& y) :: rest)))) : Goes p e below s R n0 Q (T.setTop (mkF m pc Ls (.int y :: .int x :: rest))) := by
  obtain ⟨locs, X, N, eh, hn, hx, hZ, hby, hml, hown, hnm, hret, hlk⟩ := X
  subst hby hq
  exact g_of (fun t r => XS.iand X.here hx rfl hd rfl r) k
theorem g_ior (X : Wk Z own nm bytes ml ret R n0 p l e s m args below meth c T cells slots h) {pc q : Nat} {Ls : Array Slot} {rest : List Value} {x y : Int32} (hd : decode bytes pc = .ok (.ior, 1)) (hq : pc + 1 = q) (k : Goes p e below s R n0 Q (T.setTop (mkF m q Ls (.int (x ||| y) :: rest)))) : Goes p e below s R n0 Q (T.setTop (mkF m pc Ls (.int y :: .int x :: rest))) := by
  obtain ⟨locs, X, N, eh, hn, hx, hZ, hby, hml, hown, hnm, hret, hlk⟩ := X
  subst hby hq
  exact g_of (fun t r => XS.ior X.here hx rfl hd rfl r) k
theorem g_ixor (X : Wk Z own nm bytes ml ret R n0 p l e s m args below meth c T cells slots h) {pc q : Nat} {Ls : Array Slot} {rest : List Value} {x y : Int32} (hd : decode bytes pc = .ok (.ixor, 1)) (hq : pc + 1 = q) (k : Goes p e below s R n0 Q (T.setTop (mkF m q Ls (.int (x ^^^ y) :: rest)))) : Goes p e below s R n0 Q (T.setTop (mkF m pc Ls (.int y :: .int x :: rest))) := by
  obtain ⟨locs, X, N, eh, hn, hx, hZ, hby, hml, hown, hnm, hret, hlk⟩ := X
  subst hby hq
  exact g_of (fun t r => XS.ixor X.here hx rfl hd rfl r) k
theorem g_ladd (X : Wk Z own nm bytes ml ret R n0 p l e s m args below meth c T cells slots h) {pc q : Nat} {Ls : Array Slot} {rest : List Value} {x y : Int64} (hd : decode bytes pc = .ok (.ladd, 1)) (hq : pc + 1 = q) (k : Goes p e below s R n0 Q (T.setTop (mkF m q Ls (.long (x + y) :: rest)))) : Goes p e below s R n0 Q (T.setTop (mkF m pc Ls (.long y :: .long x :: rest))) := by
  obtain ⟨locs, X, N, eh, hn, hx, hZ, hby, hml, hown, hnm, hret, hlk⟩ := X
  subst hby hq
  exact g_of (fun t r => XS.ladd X.here hx rfl hd rfl r) k
theorem g_lsub (X : Wk Z own nm bytes ml ret R n0 p l e s m args below meth c T cells slots h) {pc q : Nat} {Ls : Array Slot} {rest : List Value} {x y : Int64} (hd : decode bytes pc = .ok (.lsub, 1)) (hq : pc + 1 = q) (k : Goes p e below s R n0 Q (T.setTop (mkF m q Ls (.long (x - y) :: rest)))) : Goes p e below s R n0 Q (T.setTop (mkF m pc Ls (.long y :: .long x :: rest))) := by
  obtain ⟨locs, X, N, eh, hn, hx, hZ, hby, hml, hown, hnm, hret, hlk⟩ := X
  subst hby hq
  exact g_of (fun t r => XS.lsub X.here hx rfl hd rfl r) k
theorem g_lmul (X : Wk Z own nm bytes ml ret R n0 p l e s m args below meth c T cells slots h) {pc q : Nat} {Ls : Array Slot} {rest : List Value} {x y : Int64} (hd : decode bytes pc = .ok (.lmul, 1)) (hq : pc + 1 = q) (k : Goes p e below s R n0 Q (T.setTop (mkF m q Ls (.long (x * y) :: rest)))) : Goes p e below s R n0 Q (T.setTop (mkF m pc Ls (.long y :: .long x :: rest))) := by
  obtain ⟨locs, X, N, eh, hn, hx, hZ, hby, hml, hown, hnm, hret, hlk⟩ := X
  subst hby hq
  exact g_of (fun t r => XS.lmul X.here hx rfl hd rfl r) k
theorem g_land (X : Wk Z own nm bytes ml ret R n0 p l e s m args below meth c T cells slots h) {pc q : Nat} {Ls : Array Slot} {rest : List Value} {x y : Int64} (hd : decode bytes pc = .ok (.land, 1)) (hq : pc + 1 = q) (k : Goes p e below s R n0 Q (T.setTop (mkF m q Ls (.long (x &&& y) :: rest)))) : Goes p e below s R n0 Q (T.setTop (mkF m pc Ls (.long y :: .long x :: rest))) := by
  obtain ⟨locs, X, N, eh, hn, hx, hZ, hby, hml, hown, hnm, hret, hlk⟩ := X
  subst hby hq
  exact g_of (fun t r => XS.land X.here hx rfl hd rfl r) k
theorem g_lor (X : Wk Z own nm bytes ml ret R n0 p l e s m args below meth c T cells slots h) {pc q : Nat} {Ls : Array Slot} {rest : List Value} {x y : Int64} (hd : decode bytes pc = .ok (.lor, 1)) (hq : pc + 1 = q) (k : Goes p e below s R n0 Q (T.setTop (mkF m q Ls (.long (x ||| y) :: rest)))) : Goes p e below s R n0 Q (T.setTop (mkF m pc Ls (.long y :: .long x :: rest))) := by
  obtain ⟨locs, X, N, eh, hn, hx, hZ, hby, hml, hown, hnm, hret, hlk⟩ := X
  subst hby hq
  exact g_of (fun t r => XS.lor X.here hx rfl hd rfl r) k
theorem g_lxor (X : Wk Z own nm bytes ml ret R n0 p l e s m args below meth c T cells slots h) {pc q : Nat} {Ls : Array Slot} {rest : List Value} {x y : Int64} (hd : decode bytes pc = .ok (.lxor, 1)) (hq : pc + 1 = q) (k : Goes p e below s R n0 Q (T.setTop (mkF m q Ls (.long (x ^^^ y) :: rest)))) : Goes p e below s R n0 Q (T.setTop (mkF m pc Ls (.long y :: .long x :: rest))) := by
  obtain ⟨locs, X, N, eh, hn, hx, hZ, hby, hml, hown, hnm, hret, hlk⟩ := X
  subst hby hq
  exact g_of (fun t r => XS.lxor X.here hx rfl hd rfl r) k
theorem g_idiv (X : Wk Z own nm bytes ml ret R n0 p l e s m args below meth c T cells slots h) {pc q : Nat} {Ls : Array Slot} {rest : List Value} {x y : Int32} (hd : decode bytes pc = .ok (.idiv, 1)) (hq : pc + 1 = q) (hy : y ≠ 0) (k : Goes p e below s R n0 Q (T.setTop (mkF m q Ls (.int (x / y) :: rest)))) : Goes p e below s R n0 Q (T.setTop (mkF m pc Ls (.int y :: .int x :: rest))) := by
  obtain ⟨locs, X, N, eh, hn, hx, hZ, hby, hml, hown, hnm, hret, hlk⟩ := X
  subst hby hq
  exact g_of (fun t r => XS.idiv X.here hx rfl hd rfl hy r) k
theorem g_irem (X : Wk Z own nm bytes ml ret R n0 p l e s m args below meth c T cells slots h) {pc q : Nat} {Ls : Array Slot} {rest : List Value} {x y : Int32} (hd : decode bytes pc = .ok (.irem, 1)) (hq : pc + 1 = q) (hy : y ≠ 0) (k : Goes p e below s R n0 Q (T.setTop (mkF m q Ls (.int (x % y) :: rest)))) : Goes p e below s R n0 Q (T.setTop (mkF m pc Ls (.int y :: .int x :: rest))) := by
  obtain ⟨locs, X, N, eh, hn, hx, hZ, hby, hml, hown, hnm, hret, hlk⟩ := X
  subst hby hq
  exact g_of (fun t r => XS.irem X.here hx rfl hd rfl hy (by rw [irem_eq_mod x y]; exact r)) k
theorem g_ldiv (X : Wk Z own nm bytes ml ret R n0 p l e s m args below meth c T cells slots h) {pc q : Nat} {Ls : Array Slot} {rest : List Value} {x y : Int64} (hd : decode bytes pc = .ok (.ldiv, 1)) (hq : pc + 1 = q) (hy : y ≠ 0) (k : Goes p e below s R n0 Q (T.setTop (mkF m q Ls (.long (x / y) :: rest)))) : Goes p e below s R n0 Q (T.setTop (mkF m pc Ls (.long y :: .long x :: rest))) := by
  obtain ⟨locs, X, N, eh, hn, hx, hZ, hby, hml, hown, hnm, hret, hlk⟩ := X
  subst hby hq
  exact g_of (fun t r => XS.ldiv X.here hx rfl hd rfl hy r) k
theorem g_lrem (X : Wk Z own nm bytes ml ret R n0 p l e s m args below meth c T cells slots h) {pc q : Nat} {Ls : Array Slot} {rest : List Value} {x y : Int64} (hd : decode bytes pc = .ok (.lrem, 1)) (hq : pc + 1 = q) (hy : y ≠ 0) (k : Goes p e below s R n0 Q (T.setTop (mkF m q Ls (.long (x % y) :: rest)))) : Goes p e below s R n0 Q (T.setTop (mkF m pc Ls (.long y :: .long x :: rest))) := by
  obtain ⟨locs, X, N, eh, hn, hx, hZ, hby, hml, hown, hnm, hret, hlk⟩ := X
  subst hby hq
  exact g_of (fun t r => XS.lrem X.here hx rfl hd rfl hy (by rw [lrem_mod x y]; exact r)) k
theorem g_ineg (X : Wk Z own nm bytes ml ret R n0 p l e s m args below meth c T cells slots h) {pc q : Nat} {Ls : Array Slot} {rest : List Value} {x : Int32} (hd : decode bytes pc = .ok (.ineg, 1)) (hq : pc + 1 = q) (k : Goes p e below s R n0 Q (T.setTop (mkF m q Ls (.int (-x) :: rest)))) : Goes p e below s R n0 Q (T.setTop (mkF m pc Ls (.int x :: rest))) := by
  obtain ⟨locs, X, N, eh, hn, hx, hZ, hby, hml, hown, hnm, hret, hlk⟩ := X
  subst hby hq
  exact g_of (fun t r => XS.ineg X.here hx rfl hd rfl r) k
theorem g_lneg (X : Wk Z own nm bytes ml ret R n0 p l e s m args below meth c T cells slots h) {pc q : Nat} {Ls : Array Slot} {rest : List Value} {x : Int64} (hd : decode bytes pc = .ok (.lneg, 1)) (hq : pc + 1 = q) (k : Goes p e below s R n0 Q (T.setTop (mkF m q Ls (.long (-x) :: rest)))) : Goes p e below s R n0 Q (T.setTop (mkF m pc Ls (.long x :: rest))) := by
  obtain ⟨locs, X, N, eh, hn, hx, hZ, hby, hml, hown, hnm, hret, hlk⟩ := X
  subst hby hq
  exact g_of (fun t r => XS.lneg X.here hx rfl hd rfl r) k
theorem g_i2l (X : Wk Z own nm bytes ml ret R n0 p l e s m args below meth c T cells slots h) {pc q : Nat} {Ls : Array Slot} {rest : List Value} {x : Int32} (hd : decode bytes pc = .ok (.i2l, 1)) (hq : pc + 1 = q) (k : Goes p e below s R n0 Q (T.setTop (mkF m q Ls (.long x.toInt64 :: rest)))) : Goes p e below s R n0 Q (T.setTop (mkF m pc Ls (.int x :: rest))) := by
  obtain ⟨locs, X, N, eh, hn, hx, hZ, hby, hml, hown, hnm, hret, hlk⟩ := X
  subst hby hq
  exact g_of (fun t r => XS.i2l X.here hx rfl hd rfl r) k
theorem g_l2i (X : Wk Z own nm bytes ml ret R n0 p l e s m args below meth c T cells slots h) {pc q : Nat} {Ls : Array Slot} {rest : List Value} {x : Int64} (hd : decode bytes pc = .ok (.l2i, 1)) (hq : pc + 1 = q) (k : Goes p e below s R n0 Q (T.setTop (mkF m q Ls (.int x.toInt32 :: rest)))) : Goes p e below s R n0 Q (T.setTop (mkF m pc Ls (.long x :: rest))) := by
  obtain ⟨locs, X, N, eh, hn, hx, hZ, hby, hml, hown, hnm, hret, hlk⟩ := X
  subst hby hq
  exact g_of (fun t r => XS.l2i X.here hx rfl hd rfl r) k
theorem g_i2b (X : Wk Z own nm bytes ml ret R n0 p l e s m args below meth c T cells slots h) {pc q : Nat} {Ls : Array Slot} {rest : List Value} {x : Int32} (hd : decode bytes pc = .ok (.i2b, 1)) (hq : pc + 1 = q) (k : Goes p e below s R n0 Q (T.setTop (mkF m q Ls (.int x.toInt8.toInt32 :: rest)))) : Goes p e below s R n0 Q (T.setTop (mkF m pc Ls (.int x :: rest))) := by
  obtain ⟨locs, X, N, eh, hn, hx, hZ, hby, hml, hown, hnm, hret, hlk⟩ := X
  subst hby hq
  exact g_of (fun t r => XS.i2b X.here hx rfl hd rfl r) k
theorem g_i2s (X : Wk Z own nm bytes ml ret R n0 p l e s m args below meth c T cells slots h) {pc q : Nat} {Ls : Array Slot} {rest : List Value} {x : Int32} (hd : decode bytes pc = .ok (.i2s, 1)) (hq : pc + 1 = q) (k : Goes p e below s R n0 Q (T.setTop (mkF m q Ls (.int x.toInt16.toInt32 :: rest)))) : Goes p e below s R n0 Q (T.setTop (mkF m pc Ls (.int x :: rest))) := by
  obtain ⟨locs, X, N, eh, hn, hx, hZ, hby, hml, hown, hnm, hret, hlk⟩ := X
  subst hby hq
  exact g_of (fun t r => XS.i2s X.here hx rfl hd rfl r) k
theorem g_ishl (X : Wk Z own nm bytes ml ret R n0 p l e s m args below meth c T cells slots h) {pc q : Nat} {Ls : Array Slot} {rest : List Value} {x y : Int32} (hd : decode bytes pc = .ok (.ishl, 1)) (hq : pc + 1 = q) (k : Goes p e below s R n0 Q (T.setTop (mkF m q Ls (.int (x <<< (y &&& 31)) :: rest)))) : Goes p e below s R n0 Q (T.setTop (mkF m pc Ls (.int y :: .int x :: rest))) := by
  obtain ⟨locs, X, N, eh, hn, hx, hZ, hby, hml, hown, hnm, hret, hlk⟩ := X
  subst hby hq
  exact g_of (fun t r => XS.ishl X.here hx rfl hd rfl r) k
theorem g_ishr (X : Wk Z own nm bytes ml ret R n0 p l e s m args below meth c T cells slots h) {pc q : Nat} {Ls : Array Slot} {rest : List Value} {x y : Int32} (hd : decode bytes pc = .ok (.ishr, 1)) (hq : pc + 1 = q) (k : Goes p e below s R n0 Q (T.setTop (mkF m q Ls (.int (x >>> (y &&& 31)) :: rest)))) : Goes p e below s R n0 Q (T.setTop (mkF m pc Ls (.int y :: .int x :: rest))) := by
  obtain ⟨locs, X, N, eh, hn, hx, hZ, hby, hml, hown, hnm, hret, hlk⟩ := X
  subst hby hq
  exact g_of (fun t r => XS.ishr X.here hx rfl hd rfl r) k
theorem g_iushr (X : Wk Z own nm bytes ml ret R n0 p l e s m args below meth c T cells slots h) {pc q : Nat} {Ls : Array Slot} {rest : List Value} {x y : Int32} (hd : decode bytes pc = .ok (.iushr, 1)) (hq : pc + 1 = q) (k : Goes p e below s R n0 Q (T.setTop (mkF m q Ls (.int ((x.toUInt32 >>> (y &&& 31).toUInt32).toInt32) :: rest)))) : Goes p e below s R n0 Q (T.setTop (mkF m pc Ls (.int y :: .int x :: rest))) := by
  obtain ⟨locs, X, N, eh, hn, hx, hZ, hby, hml, hown, hnm, hret, hlk⟩ := X
  subst hby hq
  exact g_of (fun t r => XS.iushr X.here hx rfl hd rfl r) k
theorem g_lshl (X : Wk Z own nm bytes ml ret R n0 p l e s m args below meth c T cells slots h) {pc q : Nat} {Ls : Array Slot} {rest : List Value} {x : Int64} {y : Int32} (hd : decode bytes pc = .ok (.lshl, 1)) (hq : pc + 1 = q) (k : Goes p e below s R n0 Q (T.setTop (mkF m q Ls (.long (x <<< (y &&& 0x3f).toInt64) :: rest)))) : Goes p e below s R n0 Q (T.setTop (mkF m pc Ls (.int y :: .long x :: rest))) := by
  obtain ⟨locs, X, N, eh, hn, hx, hZ, hby, hml, hown, hnm, hret, hlk⟩ := X
  subst hby hq
  exact g_of (fun t r => XS.lshl X.here hx rfl hd rfl r) k
theorem g_lshr (X : Wk Z own nm bytes ml ret R n0 p l e s m args below meth c T cells slots h) {pc q : Nat} {Ls : Array Slot} {rest : List Value} {x : Int64} {y : Int32} (hd : decode bytes pc = .ok (.lshr, 1)) (hq : pc + 1 = q) (k : Goes p e below s R n0 Q (T.setTop (mkF m q Ls (.long (x >>> (y &&& 0x3f).toInt64) :: rest)))) : Goes p e below s R n0 Q (T.setTop (mkF m pc Ls (.int y :: .long x :: rest))) := by
  obtain ⟨locs, X, N, eh, hn, hx, hZ, hby, hml, hown, hnm, hret, hlk⟩ := X
  subst hby hq
  exact g_of (fun t r => XS.lshr X.here hx rfl hd rfl r) k
theorem g_lushr (X : Wk Z own nm bytes ml ret R n0 p l e s m args below meth c T cells slots h) {pc q : Nat} {Ls : Array Slot} {rest : List Value} {x : Int64} {y : Int32} (hd : decode bytes pc = .ok (.lushr, 1)) (hq : pc + 1 = q) (k : Goes p e below s R n0 Q (T.setTop (mkF m q Ls (.long ((x.toUInt64 >>> (y &&& 0x3f).toInt64.toUInt64).toInt64) :: rest)))) : Goes p e below s R n0 Q (T.setTop (mkF m pc Ls (.int y :: .long x :: rest))) := by
  obtain ⟨locs, X, N, eh, hn, hx, hZ, hby, hml, hown, hnm, hret, hlk⟩ := X
  subst hby hq
  exact g_of (fun t r => XS.lushr X.here hx rfl hd rfl r) k
theorem g_iload (X : Wk Z own nm bytes ml ret R n0 p l e s m args below meth c T cells slots h) {pc q : Nat} {Ls : Array Slot} {st : List Value} {i : Nat} {v : Int32} (hd : decode bytes pc = .ok (.iload i, 2)) (hq : pc + 2 = q) (hl : Ls[i]? = some (.val (.int v))) (k : Goes p e below s R n0 Q (T.setTop (mkF m q Ls (.int v :: st)))) : Goes p e below s R n0 Q (T.setTop (mkF m pc Ls st)) := by
  obtain ⟨locs, X, N, eh, hn, hx, hZ, hby, hml, hown, hnm, hret, hlk⟩ := X
  subst hby hq
  exact g_of (fun t r => XS.iload X.here hx rfl hd hl r) k
theorem g_iloadN (X : Wk Z own nm bytes ml ret R n0 p l e s m args below meth c T cells slots h) {pc q : Nat} {Ls : Array Slot} {st : List Value} {i : Fin 4} {v : Int32} (hd : decode bytes pc = .ok (.iload_n i, 1)) (hq : pc + 1 = q) (hl : Ls[i.val]? = some (.val (.int v))) (k : Goes p e below s R n0 Q (T.setTop (mkF m q Ls (.int v :: st)))) : Goes p e below s R n0 Q (T.setTop (mkF m pc Ls st)) := by
  obtain ⟨locs, X, N, eh, hn, hx, hZ, hby, hml, hown, hnm, hret, hlk⟩ := X
  subst hby hq
  exact g_of (fun t r => XS.iloadN X.here hx rfl hd hl r) k
theorem g_lload (X : Wk Z own nm bytes ml ret R n0 p l e s m args below meth c T cells slots h) {pc q : Nat} {Ls : Array Slot} {st : List Value} {i : Nat} {v : Int64} (hd : decode bytes pc = .ok (.lload i, 2)) (hq : pc + 2 = q) (hl : Ls[i]? = some (.val (.long v))) (k : Goes p e below s R n0 Q (T.setTop (mkF m q Ls (.long v :: st)))) : Goes p e below s R n0 Q (T.setTop (mkF m pc Ls st)) := by
  obtain ⟨locs, X, N, eh, hn, hx, hZ, hby, hml, hown, hnm, hret, hlk⟩ := X
  subst hby hq
  exact g_of (fun t r => XS.lload X.here hx rfl hd hl r) k
theorem g_lloadN (X : Wk Z own nm bytes ml ret R n0 p l e s m args below meth c T cells slots h) {pc q : Nat} {Ls : Array Slot} {st : List Value} {i : Fin 4} {v : Int64} (hd : decode bytes pc = .ok (.lload_n i, 1)) (hq : pc + 1 = q) (hl : Ls[i.val]? = some (.val (.long v))) (k : Goes p e below s R n0 Q (T.setTop (mkF m q Ls (.long v :: st)))) : Goes p e below s R n0 Q (T.setTop (mkF m pc Ls st)) := by
  obtain ⟨locs, X, N, eh, hn, hx, hZ, hby, hml, hown, hnm, hret, hlk⟩ := X
  subst hby hq
  exact g_of (fun t r => XS.lloadN X.here hx rfl hd hl r) k
theorem g_aload (X : Wk Z own nm bytes ml ret R n0 p l e s m args below meth c T cells slots h) {pc q : Nat} {Ls : Array Slot} {st : List Value} {i : Nat} {v : Value} (hd : decode bytes pc = .ok (.aload i, 2)) (hq : pc + 2 = q) (hl : Ls[i]? = some (.val v)) (hv : v.isRef = true) (k : Goes p e below s R n0 Q (T.setTop (mkF m q Ls (v :: st)))) : Goes p e below s R n0 Q (T.setTop (mkF m pc Ls st)) := by
  obtain ⟨locs, X, N, eh, hn, hx, hZ, hby, hml, hown, hnm, hret, hlk⟩ := X
  subst hby hq
  exact g_of (fun t r => XS.aload X.here hx rfl hd hl hv r) k
theorem g_aloadN (X : Wk Z own nm bytes ml ret R n0 p l e s m args below meth c T cells slots h) {pc q : Nat} {Ls : Array Slot} {st : List Value} {i : Fin 4} {v : Value} (hd : decode bytes pc = .ok (.aload_n i, 1)) (hq : pc + 1 = q) (hl : Ls[i.val]? = some (.val v)) (hv : v.isRef = true) (k : Goes p e below s R n0 Q (T.setTop (mkF m q Ls (v :: st)))) : Goes p e below s R n0 Q (T.setTop (mkF m pc Ls st)) := by
  obtain ⟨locs, X, N, eh, hn, hx, hZ, hby, hml, hown, hnm, hret, hlk⟩ := X
  subst hby hq
  exact g_of (fun t r => XS.aloadN X.here hx rfl hd hl hv r) k
theorem g_istore (X : Wk Z own nm bytes ml ret R n0 p l e s m args below meth c T cells slots h) {pc q : Nat} {Ls : Array Slot} {rest : List Value} {i : Nat} {v : Int32} {L' : Array Slot} (hd : decode bytes pc = .ok (.istore i, 2)) (hq : pc + 2 = q) (hl : storeLocals Ls i (.int v) = some L') (k : Goes p e below s R n0 Q (T.setTop (mkF m q L' rest))) : Goes p e below s R n0 Q (T.setTop (mkF m pc Ls (.int v :: rest))) := by
  obtain ⟨locs, X, N, eh, hn, hx, hZ, hby, hml, hown, hnm, hret, hlk⟩ := X
  subst hby hq
  exact g_of (fun t r => XS.istore X.here hx rfl hd rfl hl r) k
theorem g_istoreN (X : Wk Z own nm bytes ml ret R n0 p l e s m args below meth c T cells slots h) {pc q : Nat} {Ls : Array Slot} {rest : List Value} {i : Fin 4} {v : Int32} {L' : Array Slot} (hd : decode bytes pc = .ok (.istore_n i, 1)) (hq : pc + 1 = q) (hl : storeLocals Ls i.val (.int v) = some L') (k : Goes p e below s R n0 Q (T.setTop (mkF m q L' rest))) : Goes p e below s R n0 Q (T.setTop (mkF m pc Ls (.int v :: rest))) := by
  obtain ⟨locs, X, N, eh, hn, hx, hZ, hby, hml, hown, hnm, hret, hlk⟩ := X
  subst hby hq
  exact g_of (fun t r => XS.istoreN X.here hx rfl hd rfl hl r) k
theorem g_lstore (X : Wk Z own nm bytes ml ret R n0 p l e s m args below meth c T cells slots h) {pc q : Nat} {Ls : Array Slot} {rest : List Value} {i : Nat} {v : Int64} {L' : Array Slot} (hd : decode bytes pc = .ok (.lstore i, 2)) (hq : pc + 2 = q) (hl : storeLocals Ls i (.long v) = some L') (k : Goes p e below s R n0 Q (T.setTop (mkF m q L' rest))) : Goes p e below s R n0 Q (T.setTop (mkF m pc Ls (.long v :: rest))) := by
  obtain ⟨locs, X, N, eh, hn, hx, hZ, hby, hml, hown, hnm, hret, hlk⟩ := X
  subst hby hq
  exact g_of (fun t r => XS.lstore X.here hx rfl hd rfl hl r) k
theorem g_lstoreN (X : Wk Z own nm bytes ml ret R n0 p l e s m args below meth c T cells slots h) {pc q : Nat} {Ls : Array Slot} {rest : List Value} {i : Fin 4} {v : Int64} {L' : Array Slot} (hd : decode bytes pc = .ok (.lstore_n i, 1)) (hq : pc + 1 = q) (hl : storeLocals Ls i.val (.long v) = some L') (k : Goes p e below s R n0 Q (T.setTop (mkF m q L' rest))) : Goes p e below s R n0 Q (T.setTop (mkF m pc Ls (.long v :: rest))) := by
  obtain ⟨locs, X, N, eh, hn, hx, hZ, hby, hml, hown, hnm, hret, hlk⟩ := X
  subst hby hq
  exact g_of (fun t r => XS.lstoreN X.here hx rfl hd rfl hl r) k
theorem g_astore (X : Wk Z own nm bytes ml ret R n0 p l e s m args below meth c T cells slots h) {pc q : Nat} {Ls : Array Slot} {rest : List Value} {i : Nat} {v : Value} {L' : Array Slot} (hd : decode bytes pc = .ok (.astore i, 2)) (hq : pc + 2 = q) (hv : v.isRef = true) (hl : storeLocals Ls i v = some L') (k : Goes p e below s R n0 Q (T.setTop (mkF m q L' rest))) : Goes p e below s R n0 Q (T.setTop (mkF m pc Ls (v :: rest))) := by
  obtain ⟨locs, X, N, eh, hn, hx, hZ, hby, hml, hown, hnm, hret, hlk⟩ := X
  subst hby hq
  exact g_of (fun t r => XS.astore X.here hx rfl hd rfl hv hl r) k
theorem g_astoreN (X : Wk Z own nm bytes ml ret R n0 p l e s m args below meth c T cells slots h) {pc q : Nat} {Ls : Array Slot} {rest : List Value} {i : Fin 4} {v : Value} {L' : Array Slot} (hd : decode bytes pc = .ok (.astore_n i, 1)) (hq : pc + 1 = q) (hv : v.isRef = true) (hl : storeLocals Ls i.val v = some L') (k : Goes p e below s R n0 Q (T.setTop (mkF m q L' rest))) : Goes p e below s R n0 Q (T.setTop (mkF m pc Ls (v :: rest))) := by
  obtain ⟨locs, X, N, eh, hn, hx, hZ, hby, hml, hown, hnm, hret, hlk⟩ := X
  subst hby hq
  exact g_of (fun t r => XS.astoreN X.here hx rfl hd rfl hv hl r) k
theorem g_iconst (X : Wk Z own nm bytes ml ret R n0 p l e s m args below meth c T cells slots h) {pc q : Nat} {Ls : Array Slot} {st : List Value} {i : Int} {v : Int32} (hd : decode bytes pc = .ok (.iconst i, 1)) (hq : pc + 1 = q) (hv : Int32.ofInt i = v) (k : Goes p e below s R n0 Q (T.setTop (mkF m q Ls (.int v :: st)))) : Goes p e below s R n0 Q (T.setTop (mkF m pc Ls st)) := by
  obtain ⟨locs, X, N, eh, hn, hx, hZ, hby, hml, hown, hnm, hret, hlk⟩ := X
  subst hby hq
  exact g_of (fun t r => XS.iconst X.here hx rfl hd (by rw [hv]; exact r)) k
theorem g_bipush (X : Wk Z own nm bytes ml ret R n0 p l e s m args below meth c T cells slots h) {pc q : Nat} {Ls : Array Slot} {st : List Value} {i : Int} {v : Int32} (hd : decode bytes pc = .ok (.bipush i, 2)) (hq : pc + 2 = q) (hv : (Int8.ofInt i).toInt32 = v) (k : Goes p e below s R n0 Q (T.setTop (mkF m q Ls (.int v :: st)))) : Goes p e below s R n0 Q (T.setTop (mkF m pc Ls st)) := by
  obtain ⟨locs, X, N, eh, hn, hx, hZ, hby, hml, hown, hnm, hret, hlk⟩ := X
  subst hby hq
  exact g_of (fun t r => XS.bipush X.here hx rfl hd (by rw [hv]; exact r)) k
theorem g_sipush (X : Wk Z own nm bytes ml ret R n0 p l e s m args below meth c T cells slots h) {pc q : Nat} {Ls : Array Slot} {st : List Value} {i : Int} {v : Int32} (hd : decode bytes pc = .ok (.sipush i, 3)) (hq : pc + 3 = q) (hv : (Int16.ofInt i).toInt32 = v) (k : Goes p e below s R n0 Q (T.setTop (mkF m q Ls (.int v :: st)))) : Goes p e below s R n0 Q (T.setTop (mkF m pc Ls st)) := by
  obtain ⟨locs, X, N, eh, hn, hx, hZ, hby, hml, hown, hnm, hret, hlk⟩ := X
  subst hby hq
  exact g_of (fun t r => XS.sipush X.here hx rfl hd (by rw [hv]; exact r)) k
theorem g_lconst (X : Wk Z own nm bytes ml ret R n0 p l e s m args below meth c T cells slots h) {pc q : Nat} {Ls : Array Slot} {st : List Value} {i : Fin 2} {v : Int64} (hd : decode bytes pc = .ok (.lconst i, 1)) (hq : pc + 1 = q) (hv : Int64.ofNat i = v) (k : Goes p e below s R n0 Q (T.setTop (mkF m q Ls (.long v :: st)))) : Goes p e below s R n0 Q (T.setTop (mkF m pc Ls st)) := by
  obtain ⟨locs, X, N, eh, hn, hx, hZ, hby, hml, hown, hnm, hret, hlk⟩ := X
  subst hby hq
  exact g_of (fun t r => XS.lconst X.here hx rfl hd (by rw [hv]; exact r)) k
theorem g_aconst_null (X : Wk Z own nm bytes ml ret R n0 p l e s m args below meth c T cells slots h) {pc q : Nat} {Ls : Array Slot} {st : List Value} (hd : decode bytes pc = .ok (.aconst_null, 1)) (hq : pc + 1 = q) (k : Goes p e below s R n0 Q (T.setTop (mkF m q Ls (.null :: st)))) : Goes p e below s R n0 Q (T.setTop (mkF m pc Ls st)) := by
  obtain ⟨locs, X, N, eh, hn, hx, hZ, hby, hml, hown, hnm, hret, hlk⟩ := X
  subst hby hq
  exact g_of (fun t r => XS.aconstNull X.here hx rfl hd r) k
theorem g_dup (X : Wk Z own nm bytes ml ret R n0 p l e s m args below meth c T cells slots h) {pc q : Nat} {Ls : Array Slot} {rest : List Value} {v : Value} (hd : decode bytes pc = .ok (.dup, 1)) (hq : pc + 1 = q) (hv : v.category = 1) (k : Goes p e below s R n0 Q (T.setTop (mkF m q Ls (v :: v :: rest)))) : Goes p e below s R n0 Q (T.setTop (mkF m pc Ls (v :: rest))) := by
  obtain ⟨locs, X, N, eh, hn, hx, hZ, hby, hml, hown, hnm, hret, hlk⟩ := X
  subst hby hq
  exact g_of (fun t r => XS.dup X.here hx rfl hd rfl hv r) k
theorem g_dup_x1 (X : Wk Z own nm bytes ml ret R n0 p l e s m args below meth c T cells slots h) {pc q : Nat} {Ls : Array Slot} {rest : List Value} {v w : Value} (hd : decode bytes pc = .ok (.dup_x1, 1)) (hq : pc + 1 = q) (hv : v.category = 1) (hw : w.category = 1) (k : Goes p e below s R n0 Q (T.setTop (mkF m q Ls (v :: w :: v :: rest)))) : Goes p e below s R n0 Q (T.setTop (mkF m pc Ls (v :: w :: rest))) := by
  obtain ⟨locs, X, N, eh, hn, hx, hZ, hby, hml, hown, hnm, hret, hlk⟩ := X
  subst hby hq
  exact g_of (fun t r => XS.dupX1 X.here hx rfl hd rfl hv hw r) k
theorem g_dup2 (X : Wk Z own nm bytes ml ret R n0 p l e s m args below meth c T cells slots h) {pc q : Nat} {Ls : Array Slot} {rest : List Value} {v w : Value} (hd : decode bytes pc = .ok (.dup2, 1)) (hq : pc + 1 = q) (hv : v.category = 1) (hw : w.category = 1) (k : Goes p e below s R n0 Q (T.setTop (mkF m q Ls (v :: w :: v :: w :: rest)))) : Goes p e below s R n0 Q (T.setTop (mkF m pc Ls (v :: w :: rest))) := by
  obtain ⟨locs, X, N, eh, hn, hx, hZ, hby, hml, hown, hnm, hret, hlk⟩ := X
  subst hby hq
  exact g_of (fun t r => Jvm.Free.XT.dup2 X.here hx rfl hd rfl hv hw r) k
theorem g_dup2L (X : Wk Z own nm bytes ml ret R n0 p l e s m args below meth c T cells slots h) {pc q : Nat} {Ls : Array Slot} {rest : List Value} {x : Int64} (hd : decode bytes pc = .ok (.dup2, 1)) (hq : pc + 1 = q) (k : Goes p e below s R n0 Q (T.setTop (mkF m q Ls (.long x :: .long x :: rest)))) : Goes p e below s R n0 Q (T.setTop (mkF m pc Ls (.long x :: rest))) := by
  obtain ⟨locs, X, N, eh, hn, hx, hZ, hby, hml, hown, hnm, hret, hlk⟩ := X
  subst hby hq
  exact g_of (fun t r => Jvm.Free.XT.dup2L X.here hx rfl hd rfl r) k
theorem g_pop (X : Wk Z own nm bytes ml ret R n0 p l e s m args below meth c T cells slots h) {pc q : Nat} {Ls : Array Slot} {rest : List Value} {v : Value} (hd : decode bytes pc = .ok (.pop, 1)) (hq : pc + 1 = q) (hv : v.category = 1) (k : Goes p e below s R n0 Q (T.setTop (mkF m q Ls rest))) : Goes p e below s R n0 Q (T.setTop (mkF m pc Ls (v :: rest))) := by
  obtain ⟨locs, X, N, eh, hn, hx, hZ, hby, hml, hown, hnm, hret, hlk⟩ := X
  subst hby hq
  exact g_of (fun t r => XS.pop X.here hx rfl hd rfl hv r) k
theorem g_iinc (X : Wk Z own nm bytes ml ret R n0 p l e s m args below meth c T cells slots h) {pc q : Nat} {Ls L' : Array Slot} {st : List Value} {i : Nat} {cst : Int} {x d : Int32} (hd : decode bytes pc = .ok (.iinc i cst, 3)) (hq : pc + 3 = q) (hl : Ls[i]? = some (.val (.int x))) (hc : Int32.ofInt cst = d) (hl' : storeLocals Ls i (.int (x + d)) = some L') (k : Goes p e below s R n0 Q (T.setTop (mkF m q L' st))) : Goes p e below s R n0 Q (T.setTop (mkF m pc Ls st)) := by
  obtain ⟨locs, X, N, eh, hn, hx, hZ, hby, hml, hown, hnm, hret, hlk⟩ := X
  subst hby hq hc
  exact g_of (fun t r => XS.iinc X.here hx rfl hd hl hl' r) k
theorem g_goto (X : Wk Z own nm bytes ml ret R n0 p l e s m args below meth c T cells slots h) {pc q : Nat} {Ls : Array Slot} {st : List Value} {o : Int} (hd : decode bytes pc = .ok (.goto o, 3)) (ho : 0 ≤ (pc : Int) + o) (hq : ((pc : Int) + o).toNat = q) (k : Goes p e below s R n0 Q (T.setTop (mkF m q Ls st))) : Goes p e below s R n0 Q (T.setTop (mkF m pc Ls st)) := by
  obtain ⟨locs, X, N, eh, hn, hx, hZ, hby, hml, hown, hnm, hret, hlk⟩ := X
  subst hby
  exact g_of (fun t r => XS.goto X.here hx rfl (pc0 := pc) rfl hd ho hq r) k
theorem g_bor (X : Wk Z own nm bytes ml ret R n0 p l e s m args below meth c T cells slots h) {pc q : Nat} {Ls : Array Slot} {rest : List Value} {A B : Prop} [Decidable A] [Decidable B] (hd : decode bytes pc = .ok (.ior, 1)) (hq : pc + 1 = q) (k : Goes p e below s R n0 Q (T.setTop (mkF m q Ls (.int (bI (A ∨ B)) :: rest)))) : Goes p e below s R n0 Q (T.setTop (mkF m pc Ls (.int (bI B) :: .int (bI A) :: rest))) :=
  g_ior X hd hq (by rw [show bI A ||| bI B = bI (A ∨ B) from own_bor A B]; exact k)
theorem g_band (X : Wk Z own nm bytes ml ret R n0 p l e s m args below meth c T cells slots h) {pc q : Nat} {Ls : Array Slot} {rest : List Value} {A B : Prop} [Decidable A] [Decidable B] (hd : decode bytes pc = .ok (.iand, 1)) (hq : pc + 1 = q) (k : Goes p e below s R n0 Q (T.setTop (mkF m q Ls (.int (bI (A ∧ B)) :: rest)))) : Goes p e below s R n0 Q (T.setTop (mkF m pc Ls (.int (bI B) :: .int (bI A) :: rest))) :=
  g_iand X hd hq (by rw [show bI A &&& bI B = bI (A ∧ B) from own_band A B]; exact k)
theorem hI {cd : ClassFile.Cond} {x y : Int32} (hcd : cd = .lt ∨ cd = .gt ∨ cd = .eq) : (pcI cd x y → if_icmp.holds cd x y = true) ∧ (¬ pcI cd x y → if_icmp.holds cd x y = false) := by
  rcases hcd with rfl | rfl | rfl
  · exact ⟨fun q => (tlt q).1, fun q => (flt q).1⟩
  · exact ⟨fun q => (tlt q).2.2.1, fun q => (flt q).2.2.1⟩
  · exact ⟨fun q => (teq q).1, fun q => (feq q).1⟩
theorem hN {cd : ClassFile.Cond} {x y : Int32} (hcd : cd = .ge ∨ cd = .le ∨ cd = .ne) : (pcI cd x y → if_icmp.holds cd x y = false) ∧ (¬ pcI cd x y → if_icmp.holds cd x y = true) := by
  rcases hcd with rfl | rfl | rfl
  · exact ⟨fun q => (tlt q).2.1, fun q => (flt q).2.1⟩
  · exact ⟨fun q => (tlt q).2.2.2, fun q => (flt q).2.2.2⟩
  · exact ⟨fun q => (teq q).2, fun q => (feq q).2⟩
theorem pcL {cd : ClassFile.Cond} {x y : Int64} : pcI cd (lcmpW x y) 0 ↔ pcJ cd x y := by
  cases cd
  · exact lw_eq x y
  · exact lw_eq x y
  · exact lw_lt x y
  · exact lw_lt x y
  · exact lw_gt x y
  · exact lw_gt x y
instance pcI_dec (cd : ClassFile.Cond) (x y : Int32) : Decidable (pcI cd x y) := by cases cd <;> (unfold pcI; infer_instance)
theorem g_icmpA (X : Wk Z own nm bytes ml ret R n0 p l e s m args below meth c T cells slots h) {pc q t : Nat} {Ls : Array Slot} {rest : List Value} {o : Int} {cd : ClassFile.Cond} {x y : Int32} (hd : decode bytes pc = .ok (.if_icmp cd o, 3)) (hcd : cd = .lt ∨ cd = .gt ∨ cd = .eq) (hq : pc + 3 = q) (ho : 0 ≤ (pc : Int) + o) (ht : ((pc : Int) + o).toNat = t) (kP : pcI cd x y → Goes p e below s R n0 Q (T.setTop (mkF m t Ls rest))) (kN : ¬ pcI cd x y → Goes p e below s R n0 Q (T.setTop (mkF m q Ls rest))) : Goes p e below s R n0 Q (T.setTop (mkF m pc Ls (.int y :: .int x :: rest))) := by
  obtain ⟨locs, X, N, eh, hn, hx, hZ, hby, hml, hown, hnm, hret, hlk⟩ := X
  subst hby hq
  by_cases hP : pcI cd x y
  · exact g_of (fun _ r => XS.icmpYes X.here hx rfl (pc0 := pc) rfl hd rfl ((hI hcd).1 hP) ho ht r) (kP hP)
  · exact g_of (fun _ r => XS.icmpNo X.here hx rfl hd rfl ((hI hcd).2 hP) r) (kN hP)
theorem g_ifA (X : Wk Z own nm bytes ml ret R n0 p l e s m args below meth c T cells slots h) {pc q t : Nat} {Ls : Array Slot} {rest : List Value} {o : Int} {cd : ClassFile.Cond} {x : Int32} (hd : decode bytes pc = .ok (.ifCond cd o, 3)) (hcd : cd = .lt ∨ cd = .gt ∨ cd = .eq) (hq : pc + 3 = q) (ho : 0 ≤ (pc : Int) + o) (ht : ((pc : Int) + o).toNat = t) (kP : pcI cd x 0 → Goes p e below s R n0 Q (T.setTop (mkF m t Ls rest))) (kN : ¬ pcI cd x 0 → Goes p e below s R n0 Q (T.setTop (mkF m q Ls rest))) : Goes p e below s R n0 Q (T.setTop (mkF m pc Ls (.int x :: rest))) := by
  obtain ⟨locs, X, N, eh, hn, hx, hZ, hby, hml, hown, hnm, hret, hlk⟩ := X
  subst hby hq
  by_cases hP : pcI cd x 0
  · exact g_of (fun _ r => XS.ifYes X.here hx rfl (pc0 := pc) rfl hd rfl ((if0 _ _).trans ((hI hcd).1 hP)) ho ht r) (kP hP)
  · exact g_of (fun _ r => XS.ifNo X.here hx rfl hd rfl ((if0 _ _).trans ((hI hcd).2 hP)) r) (kN hP)
theorem g_lcmpA (X : Wk Z own nm bytes ml ret R n0 p l e s m args below meth c T cells slots h) {pc q t : Nat} {Ls : Array Slot} {rest : List Value} {o : Int} {cd : ClassFile.Cond} {x y : Int64} {q1 : Nat} (hd0 : decode bytes pc = .ok (.lcmp, 1)) (hq1 : pc + 1 = q1) (hd : decode bytes q1 = .ok (.ifCond cd o, 3)) (hcd : cd = .lt ∨ cd = .gt ∨ cd = .eq) (hq : q1 + 3 = q) (ho : 0 ≤ (q1 : Int) + o) (ht : ((q1 : Int) + o).toNat = t) (kP : pcJ cd x y → Goes p e below s R n0 Q (T.setTop (mkF m t Ls rest))) (kN : ¬ pcJ cd x y → Goes p e below s R n0 Q (T.setTop (mkF m q Ls rest))) : Goes p e below s R n0 Q (T.setTop (mkF m pc Ls (.long y :: .long x :: rest))) := by
  refine g_lcmp X hd0 hq1 (g_ifA X hd hcd hq ho ht (fun z => kP (pcL.mp z)) (fun z => kN (fun w => z (pcL.mpr w))))
theorem g_icmpB (X : Wk Z own nm bytes ml ret R n0 p l e s m args below meth c T cells slots h) {pc q t : Nat} {Ls : Array Slot} {rest : List Value} {o : Int} {cd : ClassFile.Cond} {x y : Int32} (hd : decode bytes pc = .ok (.if_icmp cd o, 3)) (hcd : cd = .ge ∨ cd = .le ∨ cd = .ne) (hq : pc + 3 = q) (ho : 0 ≤ (pc : Int) + o) (ht : ((pc : Int) + o).toNat = t) (kP : pcI cd x y → Goes p e below s R n0 Q (T.setTop (mkF m q Ls rest))) (kN : ¬ pcI cd x y → Goes p e below s R n0 Q (T.setTop (mkF m t Ls rest))) : Goes p e below s R n0 Q (T.setTop (mkF m pc Ls (.int y :: .int x :: rest))) := by
  obtain ⟨locs, X, N, eh, hn, hx, hZ, hby, hml, hown, hnm, hret, hlk⟩ := X
  subst hby hq
  by_cases hP : pcI cd x y
  · exact g_of (fun _ r => XS.icmpNo X.here hx rfl hd rfl ((hN hcd).1 hP) r) (kP hP)
  · exact g_of (fun _ r => XS.icmpYes X.here hx rfl (pc0 := pc) rfl hd rfl ((hN hcd).2 hP) ho ht r) (kN hP)
theorem g_ifB (X : Wk Z own nm bytes ml ret R n0 p l e s m args below meth c T cells slots h) {pc q t : Nat} {Ls : Array Slot} {rest : List Value} {o : Int} {cd : ClassFile.Cond} {x : Int32} (hd : decode bytes pc = .ok (.ifCond cd o, 3)) (hcd : cd = .ge ∨ cd = .le ∨ cd = .ne) (hq : pc + 3 = q) (ho : 0 ≤ (pc : Int) + o) (ht : ((pc : Int) + o).toNat = t) (kP : pcI cd x 0 → Goes p e below s R n0 Q (T.setTop (mkF m q Ls rest))) (kN : ¬ pcI cd x 0 → Goes p e below s R n0 Q (T.setTop (mkF m t Ls rest))) : Goes p e below s R n0 Q (T.setTop (mkF m pc Ls (.int x :: rest))) := by
  obtain ⟨locs, X, N, eh, hn, hx, hZ, hby, hml, hown, hnm, hret, hlk⟩ := X
  subst hby hq
  by_cases hP : pcI cd x 0
  · exact g_of (fun _ r => XS.ifNo X.here hx rfl hd rfl ((if0 _ _).trans ((hN hcd).1 hP)) r) (kP hP)
  · exact g_of (fun _ r => XS.ifYes X.here hx rfl (pc0 := pc) rfl hd rfl ((if0 _ _).trans ((hN hcd).2 hP)) ho ht r) (kN hP)
theorem g_lcmpB (X : Wk Z own nm bytes ml ret R n0 p l e s m args below meth c T cells slots h) {pc q t : Nat} {Ls : Array Slot} {rest : List Value} {o : Int} {cd : ClassFile.Cond} {x y : Int64} {q1 : Nat} (hd0 : decode bytes pc = .ok (.lcmp, 1)) (hq1 : pc + 1 = q1) (hd : decode bytes q1 = .ok (.ifCond cd o, 3)) (hcd : cd = .ge ∨ cd = .le ∨ cd = .ne) (hq : q1 + 3 = q) (ho : 0 ≤ (q1 : Int) + o) (ht : ((q1 : Int) + o).toNat = t) (kP : pcJ cd x y → Goes p e below s R n0 Q (T.setTop (mkF m q Ls rest))) (kN : ¬ pcJ cd x y → Goes p e below s R n0 Q (T.setTop (mkF m t Ls rest))) : Goes p e below s R n0 Q (T.setTop (mkF m pc Ls (.long y :: .long x :: rest))) := by
  refine g_lcmp X hd0 hq1 (g_ifB X hd hcd hq ho ht (fun z => kP (pcL.mp z)) (fun z => kN (fun w => z (pcL.mpr w))))
theorem g_bne (X : Wk Z own nm bytes ml ret R n0 p l e s m args below meth c T cells slots h) {pc q t : Nat} {Ls : Array Slot} {rest : List Value} {o : Int} {c' : Prop} [Decidable c'] (hd : decode bytes pc = .ok (.ifCond .ne o, 3)) (hq : pc + 3 = q) (ho : 0 ≤ (pc : Int) + o) (ht : ((pc : Int) + o).toNat = t) (kP : c' → Goes p e below s R n0 Q (T.setTop (mkF m t Ls rest))) (kN : ¬ c' → Goes p e below s R n0 Q (T.setTop (mkF m q Ls rest))) : Goes p e below s R n0 Q (T.setTop (mkF m pc Ls (.int (bI c') :: rest))) :=
  g_ifB X hd (Or.inr (Or.inr rfl)) hq ho ht (fun z => kN ((bI_eq0 c').mp z)) (fun z => kP (Decidable.of_not_not fun w => z ((bI_eq0 c').mpr w)))
theorem g_beq (X : Wk Z own nm bytes ml ret R n0 p l e s m args below meth c T cells slots h) {pc q t : Nat} {Ls : Array Slot} {rest : List Value} {o : Int} {c' : Prop} [Decidable c'] (hd : decode bytes pc = .ok (.ifCond .eq o, 3)) (hq : pc + 3 = q) (ho : 0 ≤ (pc : Int) + o) (ht : ((pc : Int) + o).toNat = t) (kP : c' → Goes p e below s R n0 Q (T.setTop (mkF m q Ls rest))) (kN : ¬ c' → Goes p e below s R n0 Q (T.setTop (mkF m t Ls rest))) : Goes p e below s R n0 Q (T.setTop (mkF m pc Ls (.int (bI c') :: rest))) :=
  g_ifA X hd (Or.inr (Or.inr rfl)) hq ho ht (fun z => kN ((bI_eq0 c').mp z)) (fun z => kP (Decidable.of_not_not fun w => z ((bI_eq0 c').mpr w)))
theorem g_ifnullY (X : Wk Z own nm bytes ml ret R n0 p l e s m args below meth c T cells slots h) {pc q : Nat} {Ls : Array Slot} {rest : List Value} {o : Int} (hd : decode bytes pc = .ok (.ifnull o, 3)) (ho : 0 ≤ (pc : Int) + o) (hq : ((pc : Int) + o).toNat = q) (k : Goes p e below s R n0 Q (T.setTop (mkF m q Ls rest))) : Goes p e below s R n0 Q (T.setTop (mkF m pc Ls (.null :: rest))) := by
  obtain ⟨locs, X, N, eh, hn, hx, hZ, hby, hml, hown, hnm, hret, hlk⟩ := X
  subst hby
  exact g_of (fun t r => XS.ifnullYes X.here hx rfl (pc0 := pc) rfl hd rfl ho hq r) k
theorem g_ifnullN (X : Wk Z own nm bytes ml ret R n0 p l e s m args below meth c T cells slots h) {pc q : Nat} {Ls : Array Slot} {rest : List Value} {o : Int} {b : Addr} (hd : decode bytes pc = .ok (.ifnull o, 3)) (hq : pc + 3 = q) (k : Goes p e below s R n0 Q (T.setTop (mkF m q Ls rest))) : Goes p e below s R n0 Q (T.setTop (mkF m pc Ls (.ref b :: rest))) := by
  obtain ⟨locs, X, N, eh, hn, hx, hZ, hby, hml, hown, hnm, hret, hlk⟩ := X
  subst hby hq
  exact g_of (fun t r => XS.ifnullNo X.here hx rfl hd rfl r) k
theorem g_ifnonnullY (X : Wk Z own nm bytes ml ret R n0 p l e s m args below meth c T cells slots h) {pc q : Nat} {Ls : Array Slot} {rest : List Value} {o : Int} {b : Addr} (hd : decode bytes pc = .ok (.ifnonnull o, 3)) (ho : 0 ≤ (pc : Int) + o) (hq : ((pc : Int) + o).toNat = q) (k : Goes p e below s R n0 Q (T.setTop (mkF m q Ls rest))) : Goes p e below s R n0 Q (T.setTop (mkF m pc Ls (.ref b :: rest))) := by
  obtain ⟨locs, X, N, eh, hn, hx, hZ, hby, hml, hown, hnm, hret, hlk⟩ := X
  subst hby
  exact g_of (fun t r => XS.ifnonnullYes X.here hx rfl (pc0 := pc) rfl hd rfl ho hq r) k
theorem g_ifnonnullN (X : Wk Z own nm bytes ml ret R n0 p l e s m args below meth c T cells slots h) {pc q : Nat} {Ls : Array Slot} {rest : List Value} {o : Int} (hd : decode bytes pc = .ok (.ifnonnull o, 3)) (hq : pc + 3 = q) (k : Goes p e below s R n0 Q (T.setTop (mkF m q Ls rest))) : Goes p e below s R n0 Q (T.setTop (mkF m pc Ls (.null :: rest))) := by
  obtain ⟨locs, X, N, eh, hn, hx, hZ, hby, hml, hown, hnm, hret, hlk⟩ := X
  subst hby hq
  exact g_of (fun t r => XS.ifnonnullNo X.here hx rfl hd rfl r) k
theorem g_acmp (X : Wk Z own nm bytes ml ret R n0 p l e s m args below meth c T cells slots h) {pc q : Nat} {Ls : Array Slot} {rest : List Value} {o : Int} {cd : ACond} {x y : Value} {same : Bool} (hd : decode bytes pc = .ok (.if_acmp cd o, 3)) (h1 : x.isRef = true) (h2 : y.isRef = true) (hs : decide (x = y) = same) (ho : 0 ≤ (pc : Int) + o) (hq : q = if acV cd same = true then ((pc : Int) + o).toNat else pc + 3) (k : Goes p e below s R n0 Q (T.setTop (mkF m q Ls rest))) : Goes p e below s R n0 Q (T.setTop (mkF m pc Ls (y :: x :: rest))) := by
  obtain ⟨locs, X, N, eh, hn, hx, hZ, hby, hml, hown, hnm, hret, hlk⟩ := X
  subst hby
  exact g_of (fun t r => Jvm.RoadKit.acmp (g := mkF m pc Ls (y :: x :: rest)) X hx rfl h1 h2 (pc0 := pc) rfl hd rfl hs ho hq r) k

theorem g_ldc2 (X : Wk Z own nm bytes ml ret R n0 p l e s m args below meth c T cells slots h) {index : Nat} {v : Int64} (w : (Jvm.Cond.constantLong own index v).before a0 Z = true) {pc q : Nat} {Ls : Array Slot} {st : List Value} (hd : decode bytes pc = .ok (.ldc2_w index, 3)) (hq : pc + 3 = q) (k : Goes p e below s R n0 Q (T.setTop (mkF m q Ls (.long v :: st)))) : Goes p e below s R n0 Q (T.setTop (mkF m pc Ls st)) := by
  obtain ⟨locs, X, N, eh, hn, hx, hZ, hby, hml, hown, hnm, hret, hlk⟩ := X
  subst hby hq
  exact g_of (fun t r => X.ldc2Long hx hown (mvT hZ w) (g := mkF m pc Ls st) rfl hd t r) k
theorem g_ldc (X : Wk Z own nm bytes ml ret R n0 p l e s m args below meth c T cells slots h) {index : Nat} {v : Int32} (w : (Jvm.Cond.constant own index v).before a0 Z = true) {pc q : Nat} {Ls : Array Slot} {st : List Value} (hd : decode bytes pc = .ok (.ldc index, 2)) (hq : pc + 2 = q) (k : Goes p e below s R n0 Q (T.setTop (mkF m q Ls (.int v :: st)))) : Goes p e below s R n0 Q (T.setTop (mkF m pc Ls st)) := by
  obtain ⟨locs, X, N, eh, hn, hx, hZ, hby, hml, hown, hnm, hret, hlk⟩ := X
  subst hby hq
  exact g_of (fun t r => X.ldcInt hx hown (mvT hZ w) (g := mkF m pc Ls st) rfl hd t r) k
theorem g_getF (X : Wk Z own nm bytes ml ret R n0 p l e s m args below meth c T cells slots h) {index : Nat} {R0 O n d : String} (w : (Jvm.Cond.fieldLink own index R0 n d).before a0 Z = true) (via : Via Z R0 O n d) {a : Addr} {v : Value} (F : Fld Z h a O n d v) {pc q : Nat} {Ls : Array Slot} {rest : List Value} (hd : decode bytes pc = .ok (.getfield index, 3)) (hq : pc + 3 = q)
    (k : ∀ T', Wk Z own nm bytes ml ret R n0 p l e s m args below meth c T' cells slots h → Goes p e below s R n0 Q (T'.setTop (mkF m q Ls (v :: rest)))) : Goes p e below s R n0 Q (T.setTop (mkF m pc Ls (.ref a :: rest))) := by
  obtain ⟨locs, X, N, eh, hn, hx, hZ, hby, hml, hown, hnm, hret, hlk⟩ := X
  subst hby hq
  obtain ⟨T', X', e', st⟩ := getF X hx hZ hown (host := "") (Or.inl w) via eh F (g := mkF m pc Ls (.ref a :: rest)) rfl rfl hd
  exact g_of st (k T' ⟨locs, X', N, e', hn, hx, hZ, rfl, hml, hown, hnm, hret, hlk⟩)
theorem g_putF (X : Wk Z own nm bytes ml ret R n0 p l e s m args below meth c T cells slots h) {index kk : Nat} {R0 O n d C : String} {ty : FieldType} (w : (Jvm.Cond.fieldLink own index R0 n d).before a0 Z = true) (via : Via Z R0 O n d) {a : Addr} {v old : Value} (F : Fld Z h a O n d old) (E : Exa Z h a C) (L : (Jvm.Cond.lays C O n d).before a0 Z = true ∨ ((Jvm.Cond.laysFinal C O n d).before a0 Z = true ∧ own = O ∧ nm = "<init>")) (wi : (Jvm.Cond.instantiable C kk).before a0 Z = true) (hty : parseFieldDescriptor d = some ty) (hnr : narrow ty v = v) (hf : fits ty v = true) (ga : n0 ≤ a) {pc q : Nat} {Ls : Array Slot} {rest : List Value} (hd : decode bytes pc = .ok (.putfield index, 3)) (hq : pc + 3 = q)
    (k : ∀ T' h', Wk Z own nm bytes ml ret R n0 p l e s m args below meth c T' cells slots h' → Wr h h' a (Jvm.RoadKit.slotOf Z O n d) v → Goes p e below s R n0 Q (T'.setTop (mkF m q Ls rest))) : Goes p e below s R n0 Q (T.setTop (mkF m pc Ls (v :: .ref a :: rest))) := by
  obtain ⟨locs, X, N, eh, hn, hx, hZ, hby, hml, hown, hnm, hret, hlk⟩ := X
  subst hby hq
  obtain ⟨T', h', X', e', W', st⟩ := putF X hx hZ hown (host := "") (Or.inl w) via eh F E (L.imp id fun z => ⟨z.1, z.2.1, hnm.trans z.2.2⟩) wi hty hnr hf (g := mkF m pc Ls (v :: .ref a :: rest)) rfl rfl hd
  exact g_of st (k T' h' ⟨_, X', Fr.snoc X' N ga, e', hn, hx, hZ, rfl, hml, hown, hnm, hret, hlk⟩ W')
theorem g_new (X : Wk Z own nm bytes ml ret R n0 p l e s m args below meth c T cells slots h) {index n : Nat} {C : String} (w : (Jvm.Cond.classLink own index C).before a0 Z = true) (wi : (Jvm.Cond.instantiable C n).before a0 Z = true) (wz : (Jvm.Cond.initialized C).before a0 Z = true) {pc q c2 s2 : Nat} {Ls : Array Slot} {st : List Value} (hd : decode bytes pc = .ok (.new index, 3)) (hq : pc + 3 = q) (hc : cells + 1 = c2) (hs : slots + n = s2) (hcR : c2 ≤ R.cells) (hsR : s2 ≤ R.slots)
    (k : ∀ T' h' b, Wk Z own nm bytes ml ret R n0 p l e s m args below meth c T' c2 s2 h' → b = h.size → n0 ≤ b → Ext h h' → Exa Z h' b C → (∀ {O nm d : String} {ty : FieldType}, Laid Z a0 C O nm d → parseFieldDescriptor d = some ty → Fld Z h' b O nm d (defaultValue ty)) → Goes p e below s R n0 Q (T'.setTop (mkF m q Ls (.ref b :: st)))) : Goes p e below s R n0 Q (T.setTop (mkF m pc Ls st)) := by
  obtain ⟨locs, X, N, eh, hn, hx, hZ, hby, hml, hown, hnm, hret, hlk⟩ := X
  subst hby hq hc hs
  obtain ⟨T', h', X', e', E', A', D', -, stp⟩ := newO X hx hZ hown w wi wz eh (g := mkF m pc Ls st) rfl hd hcR hsR
  exact g_of stp (k T' h' _ ⟨locs, X', N, e', hn, hx, hZ, rfl, hml, hown, hnm, hret, hlk⟩ rfl (Wk.size ⟨locs, X, N, eh, hn, hx, hZ, rfl, hml, hown, hnm, hret, hlk⟩) E' A' D')
theorem g_initO (X : Wk Z own nm bytes ml ret R n0 p l e s m args below meth c T cells slots h) {index : Nat} (w1 : (Jvm.Cond.methodLink own index Lib.objectInit).before a0 Z = true) (w2 : (Jvm.Cond.instanceMethod Lib.objectInit).before a0 Z = true) (w3 : (Jvm.Cond.code Lib.objectInit ⟨#[0xb1]⟩ 1 none).before a0 Z = true) {a : Addr} {pc q W : Nat} {Ls : Array Slot} {rest : List Value} (hd : decode bytes pc = .ok (.invokespecial index, 3)) (hq : pc + 3 = q) (hLs : Ls.size = ml) (hf : 1 ≤ R.frames) (hW : (rest.map fun v => v.category).sum = W) (hl : W + 12 ≤ R.locals)
    (k : ∀ T', Wk Z own nm bytes ml ret R n0 p l e s m args below meth c T' cells slots h → Goes p e below s R n0 Q (T'.setTop (mkF m q Ls rest))) : Goes p e below s R n0 Q (T.setTop (mkF m pc Ls (.ref a :: rest))) := by
  obtain ⟨locs, X, N, eh, hn, hx, hZ, hby, hml, hown, hnm, hret, hlk⟩ := X
  subst hby hq
  obtain ⟨T', X', e', st⟩ := initO X hx hZ hown w1 w2 w3 eh (g := mkF m pc Ls (.ref a :: rest)) rfl (hLs.trans hml.symm) rfl hd hf (W := W) (by show 2 * 0 + _ ≤ _; omega) hl
  exact g_of st (k T' ⟨locs, X', N, e', hn, hx, hZ, rfl, hml, hown, hnm, hret, hlk⟩)
theorem own_back {index W : Nat} {y : MethodName} {yb : ByteArray} {yml : Nat} {yret : Option FieldType} {Ry : Room} {as' : Array Value} {len : Nat} {Qy : Option Value → Heap → Prop} (hZ : Z.Warmed39 s.vm) (w3 : (Jvm.Cond.initialized y.cls).before a0 Z = true) (w4 : (Jvm.Cond.code y yb yml yret).before a0 Z = true) (hM : Met l Z y yb yml yret Ry [] n0 as' h Qy) (hf : Ry.frames + 1 ≤ R.frames) (hlc : W + (yml + 11) + Ry.locals ≤ R.locals) :
    Back l R p e below s args y len W (fun A a => a = as' ∧ A.U.heap = h ∧ A.cells + Ry.cells ≤ R.cells ∧ A.slots + Ry.slots ≤ R.slots)
      (fun A _ v B => ∃ L, (Fr n0 L ∧ Qy v B.U.heap) ∧ B.locs = A.locs ++ L ∧ B.cells = A.cells + Ry.cells ∧ B.slots = A.slots + Ry.slots) :=
  backOf (Q := fun v h L => Fr n0 L ∧ Qy v h) hM hZ w4 w3 hf hlc
theorem g_callS (X : Wk Z own nm bytes ml ret R n0 p l e s m args below meth c T cells slots h) {index : Nat} {y : MethodName} {yb : ByteArray} {yml : Nat} {yret : Option FieldType} {Ry : Room} {Qy : Option Value → Heap → Prop} {ps : List FieldType} {r : Option FieldType} (as rest : List Value) (w1 : (Jvm.Cond.methodLink own index y).before a0 Z = true) (w2 : (Jvm.Cond.static y).before a0 Z = true) (w3 : (Jvm.Cond.initialized y.cls).before a0 Z = true) (w4 : (Jvm.Cond.code y yb yml yret).before a0 Z = true) (hy : y.cls ≠ "java/lang/invoke/MethodHandle" ∧ y.cls ≠ "java/lang/invoke/VarHandle") (hM : Met l Z y yb yml yret Ry [] n0 as.toArray h Qy) (hp : parseMethodDescriptor y.desc = some ⟨ps, r⟩) (hl : as.length = ps.length)
    {pc q c2 s2 W : Nat} {Ls : Array Slot} {st : List Value} (hst : st = as.reverse ++ rest) (hLs : Ls.size = ml) (hd : decode bytes pc = .ok (.invokestatic index, 3)) (hq : pc + 3 = q) (hW : (rest.map fun v => v.category).sum = W) (hf : Ry.frames + 1 ≤ R.frames) (hlc : W + (yml + 11) + Ry.locals ≤ R.locals) (hc : cells + Ry.cells = c2) (hs : slots + Ry.slots = s2) (hcR : c2 ≤ R.cells) (hsR : s2 ≤ R.slots)
    (k : ∀ v T' h', Wk Z own nm bytes ml ret R n0 p l e s m args below meth c T' c2 s2 h' → Qy v h' → Goes p e below s R n0 Q (T'.setTop (mkF m q Ls (v.toList ++ rest)))) : Goes p e below s R n0 Q (T.setTop (mkF m pc Ls st)) := by
  obtain ⟨locs, X, N, eh, hn, hx, hZ, hby, hml, hown, hnm, hret, hlk⟩ := X
  subst hby hq hc hs hst
  obtain ⟨v, _, ⟨T', L', k', n'⟩, -, X', ⟨Lc, ⟨hF, hQy⟩, l', y', z'⟩, stp⟩ := Jvm.LawKit.callS X hx (y := y) hown (mvT hZ w1) (mvT hZ w2) (mvT hZ w3) (mvT hZ w4) hy (own_back (index := index) (W := W) hZ w3 w4 hM hf hlc) (g := mkF m pc Ls (as.reverse ++ rest)) rfl (hLs.trans hml.symm) (argsL := as) (rest := rest) (lenOf hp hl) rfl (by show 2 * 0 + _ ≤ _; omega) hd (fun _ _ => ⟨rfl, eh, hcR, hsR⟩)
  dsimp only [Pt.U, Pt.locs, Pt.cells, Pt.slots] at X' l' y' z' stp hQy
  subst l' y' z'
  exact g_of stp (k v T' _ ⟨_, X', Fr.app N hF, rfl, hn, hx, hZ, rfl, hml, hown, hnm, hret, hlk⟩ hQy)
theorem g_callI (X : Wk Z own nm bytes ml ret R n0 p l e s m args below meth c T cells slots h) {index : Nat} {y : MethodName} {yb : ByteArray} {yml : Nat} {Ry : Room} {Qy : Option Value → Heap → Prop} {ps : List FieldType} {r : Option FieldType} {a : Addr} (as rest : List Value) (hy1 : y.name = "<init>") (w1 : (Jvm.Cond.methodLink own index y).before a0 Z = true) (w2 : (Jvm.Cond.instanceMethod y).before a0 Z = true) (w3 : (Jvm.Cond.initialized y.cls).before a0 Z = true) (w4 : (Jvm.Cond.code y yb yml none).before a0 Z = true) (hy : y.cls ≠ "java/lang/invoke/MethodHandle" ∧ y.cls ≠ "java/lang/invoke/VarHandle") (hM : Met l Z y yb yml none Ry [] n0 (.ref a :: as).toArray h Qy) (hp : parseMethodDescriptor y.desc = some ⟨ps, r⟩) (hl : as.length = ps.length)
    {pc q c2 s2 W : Nat} {Ls : Array Slot} {st : List Value} (hst : st = as.reverse ++ .ref a :: rest) (hLs : Ls.size = ml) (hd : decode bytes pc = .ok (.invokespecial index, 3)) (hq : pc + 3 = q) (hW : (rest.map fun v => v.category).sum = W) (hf : Ry.frames + 1 ≤ R.frames) (hlc : W + (yml + 11) + Ry.locals ≤ R.locals) (hc : cells + Ry.cells = c2) (hs : slots + Ry.slots = s2) (hcR : c2 ≤ R.cells) (hsR : s2 ≤ R.slots)
    (k : ∀ v T' h', Wk Z own nm bytes ml ret R n0 p l e s m args below meth c T' c2 s2 h' → Qy v h' → Goes p e below s R n0 Q (T'.setTop (mkF m q Ls (v.toList ++ rest)))) : Goes p e below s R n0 Q (T.setTop (mkF m pc Ls st)) := by
  obtain ⟨locs, X, N, eh, hn, hx, hZ, hby, hml, hown, hnm, hret, hlk⟩ := X
  subst hby hq hc hs hst
  obtain ⟨v, _, ⟨T', L', k', n'⟩, -, X', ⟨Lc, ⟨hF, hQy⟩, l', y', z'⟩, stp⟩ := X.specialBack hx (y := y) hy1 hown (mvT hZ w1) (mvT hZ w2) (mvT hZ w4) hy (own_back (index := index) (W := W) hZ w3 w4 hM hf hlc) (g := mkF m pc Ls (as.reverse ++ .ref a :: rest)) rfl (hLs.trans hml.symm) (Steps.refl _) (a := a) (argsL := as) (rest := rest) (lenOf hp hl) rfl (by show 2 * 0 + _ ≤ _; omega) hd (fun _ _ => ⟨rfl, eh, hcR, hsR⟩)
  dsimp only [Pt.U, Pt.locs, Pt.cells, Pt.slots] at X' l' y' z' stp hQy
  subst l' y' z'
  exact g_of (fun _ r => stp.trans r) (k v T' _ ⟨_, X', Fr.app N hF, rfl, hn, hx, hZ, rfl, hml, hown, hnm, hret, hlk⟩ hQy)
theorem g_callV (X : Wk Z own nm bytes ml ret R n0 p l e s m args below meth c T cells slots h) {index : Nat} {y : MethodName} {yb : ByteArray} {yml : Nat} {yret : Option FieldType} {Ry : Room} {Qy : Option Value → Heap → Prop} {ps : List FieldType} {r : Option FieldType} {a : Addr} {C : String} (E : Exa Z h a C) (as rest : List Value) (w1 : (Jvm.Cond.methodLink own index y).before a0 Z = true) (w2 : (Jvm.Cond.declares y).before a0 Z = true) (w5 : (Jvm.Cond.selects C y y).before a0 Z = true) (w6 : (Jvm.Cond.instanceMethod y).before a0 Z = true) (w3 : (Jvm.Cond.initialized y.cls).before a0 Z = true) (w4 : (Jvm.Cond.code y yb yml yret).before a0 Z = true) (hy : y.cls ≠ "java/lang/invoke/MethodHandle" ∧ y.cls ≠ "java/lang/invoke/VarHandle") (hM : Met l Z y yb yml yret Ry [] n0 (.ref a :: as).toArray h Qy) (hp : parseMethodDescriptor y.desc = some ⟨ps, r⟩) (hl : as.length = ps.length)
    {pc q c2 s2 W : Nat} {Ls : Array Slot} {st : List Value} (hst : st = as.reverse ++ .ref a :: rest) (hLs : Ls.size = ml) (hd : decode bytes pc = .ok (.invokevirtual index, 3)) (hq : pc + 3 = q) (hW : (rest.map fun v => v.category).sum = W) (hf : Ry.frames + 1 ≤ R.frames) (hlc : W + (yml + 11) + Ry.locals ≤ R.locals) (hc : cells + Ry.cells = c2) (hs : slots + Ry.slots = s2) (hcR : c2 ≤ R.cells) (hsR : s2 ≤ R.slots)
    (k : ∀ v T' h', Wk Z own nm bytes ml ret R n0 p l e s m args below meth c T' c2 s2 h' → Qy v h' → Goes p e below s R n0 Q (T'.setTop (mkF m q Ls (v.toList ++ rest)))) : Goes p e below s R n0 Q (T.setTop (mkF m pc Ls st)) := by
  obtain ⟨locs, X, N, eh, hn, hx, hZ, hby, hml, hown, hnm, hret, hlk⟩ := X
  subst hby hq hc hs hst
  obtain ⟨cq, kq, qa, qb, qc⟩ := isOf hZ eh E
  obtain ⟨v, _, ⟨T', L', k', n'⟩, -, X', ⟨Lc, ⟨hF, hQy⟩, l', y', z'⟩, stp⟩ := X.virtualBack hx (y := y) (z := y) hown (mvT hZ w1) (mvT hZ w2) (notFace_of_selects (args := #[]) (mvT hZ w5)) (mvT hZ w5) (mvT hZ w6) hy (own_back (index := index) (W := W) hZ w3 w4 hM hf hlc) qa qc (g := mkF m pc Ls (as.reverse ++ .ref a :: rest)) rfl (hLs.trans hml.symm) (Steps.refl _) (argsL := as) (rest := rest) (lenOf hp hl) rfl (by show 2 * 0 + _ ≤ _; omega) hd (fun _ _ => ⟨rfl, eh, hcR, hsR⟩)
  dsimp only [Pt.U, Pt.locs, Pt.cells, Pt.slots] at X' l' y' z' stp hQy
  subst l' y' z'
  exact g_of (fun _ r => stp.trans r) (k v T' _ ⟨_, X', Fr.app N hF, rfl, hn, hx, hZ, rfl, hml, hown, hnm, hret, hlk⟩ hQy)
theorem g_callP (X : Wk Z own nm bytes ml ret R n0 p l e s m args below meth c T cells slots h) {index : Nat} {y : MethodName} {yb : ByteArray} {yml : Nat} {yret : Option FieldType} {Ry : Room} {Qy : Option Value → Heap → Prop} {ps : List FieldType} {r : Option FieldType} {a : Addr} {C : String} (E : Exa Z h a C) (as rest : List Value) (w1 : (Jvm.Cond.methodLink own index y).before a0 Z = true) (w5 : (Jvm.Cond.selects y.cls y y).before a0 Z = true) (w6 : (Jvm.Cond.instanceMethod y).before a0 Z = true) (w7 : (Jvm.Cond.privateMethod y).before a0 Z = true) (w3 : (Jvm.Cond.initialized y.cls).before a0 Z = true) (w4 : (Jvm.Cond.code y yb yml yret).before a0 Z = true) (hy : y.cls ≠ "java/lang/invoke/MethodHandle" ∧ y.cls ≠ "java/lang/invoke/VarHandle") (hM : Met l Z y yb yml yret Ry [] n0 (.ref a :: as).toArray h Qy) (hp : parseMethodDescriptor y.desc = some ⟨ps, r⟩) (hl : as.length = ps.length)
    {pc q c2 s2 W : Nat} {Ls : Array Slot} {st : List Value} (hst : st = as.reverse ++ .ref a :: rest) (hLs : Ls.size = ml) (hd : decode bytes pc = .ok (.invokevirtual index, 3)) (hq : pc + 3 = q) (hW : (rest.map fun v => v.category).sum = W) (hf : Ry.frames + 1 ≤ R.frames) (hlc : W + (yml + 11) + Ry.locals ≤ R.locals) (hc : cells + Ry.cells = c2) (hs : slots + Ry.slots = s2) (hcR : c2 ≤ R.cells) (hsR : s2 ≤ R.slots)
    (k : ∀ v T' h', Wk Z own nm bytes ml ret R n0 p l e s m args below meth c T' c2 s2 h' → Qy v h' → Goes p e below s R n0 Q (T'.setTop (mkF m q Ls (v.toList ++ rest)))) : Goes p e below s R n0 Q (T.setTop (mkF m pc Ls st)) := by
  obtain ⟨locs, X, N, eh, hn, hx, hZ, hby, hml, hown, hnm, hret, hlk⟩ := X
  subst hby hq hc hs hst
  obtain ⟨cq, q1, q2⟩ := E.cell
  obtain ⟨v, _, ⟨T', L', k', n'⟩, -, X', ⟨Lc, ⟨hF, hQy⟩, l', y', z'⟩, stp⟩ := X.privateBack hx (y := y) hown (mvT hZ w1) (mvT hZ w6) (mvT hZ w5) (Cond.privateMethod_at (mvP hZ w7 (args := #[]))) (mvT hZ w4) hy (own_back (index := index) (W := W) hZ w3 w4 hM hf hlc) (g := mkF m pc Ls (as.reverse ++ .ref a :: rest)) rfl (hLs.trans hml.symm) (Steps.refl _) (a := a) (by rw [eh]; exact q1) q2 (argsL := as) (rest := rest) (lenOf hp hl) rfl (by show 2 * 0 + _ ≤ _; omega) hd (fun _ _ => ⟨rfl, eh, hcR, hsR⟩)
  dsimp only [Pt.U, Pt.locs, Pt.cells, Pt.slots] at X' l' y' z' stp hQy
  subst l' y' z'
  exact g_of (fun _ r => stp.trans r) (k v T' _ ⟨_, X', Fr.app N hF, rfl, hn, hx, hZ, rfl, hml, hown, hnm, hret, hlk⟩ hQy)

theorem g_alenI (X : Wk Z own nm bytes ml ret R n0 p l e s m args below meth c T cells slots h) {a : Addr} {ty : FieldType} {n : Nat} {f : Nat → Int32} (A : AI Z h a ty n f) {pc q : Nat} {Ls : Array Slot} {rest : List Value} (hd : decode bytes pc = .ok (.arraylength, 1)) (hq : pc + 1 = q) (k : Goes p e below s R n0 Q (T.setTop (mkF m q Ls (.int n.toInt32 :: rest)))) : Goes p e below s R n0 Q (T.setTop (mkF m pc Ls (.ref a :: rest))) := by
  obtain ⟨locs, X, N, eh, hn, hx, hZ, hby, hml, hown, hnm, hret, hlk⟩ := X
  obtain ⟨z, cl, A, r1, r2⟩ := A
  subst hby hq r1
  exact g_of (fun t r => X.arraylength hx (by rw [eh]; exact A.1) (State.isArrayOf_alike hZ.alike A.2.1) (g := mkF m pc Ls (.ref a :: rest)) rfl rfl hd t r) k
theorem g_alenJ (X : Wk Z own nm bytes ml ret R n0 p l e s m args below meth c T cells slots h) {a : Addr} {n : Nat} {f : Nat → Int64} (A : AJ Z h a n f) {pc q : Nat} {Ls : Array Slot} {rest : List Value} (hd : decode bytes pc = .ok (.arraylength, 1)) (hq : pc + 1 = q) (k : Goes p e below s R n0 Q (T.setTop (mkF m q Ls (.int n.toInt32 :: rest)))) : Goes p e below s R n0 Q (T.setTop (mkF m pc Ls (.ref a :: rest))) := by
  obtain ⟨locs, X, N, eh, hn, hx, hZ, hby, hml, hown, hnm, hret, hlk⟩ := X
  obtain ⟨z, cl, A, r1, r2⟩ := A
  subst hby hq r1
  exact g_of (fun t r => X.arraylength hx (by rw [eh]; exact A.1) (State.isArrayOf_alike hZ.alike A.2.1) (g := mkF m pc Ls (.ref a :: rest)) rfl rfl hd t r) k
theorem g_iaload (X : Wk Z own nm bytes ml ret R n0 p l e s m args below meth c T cells slots h) {a : Addr} {n : Nat} {f : Nat → Int32} (A : AI Z h a .int n f) {j : Int32} (hj : 0 ≤ j.toInt ∧ j.toInt < n) {pc q : Nat} {Ls : Array Slot} {rest : List Value} (hd : decode bytes pc = .ok (.iaload, 1)) (hq : pc + 1 = q) (k : Goes p e below s R n0 Q (T.setTop (mkF m q Ls (.int (f j.toNatClampNeg) :: rest)))) : Goes p e below s R n0 Q (T.setTop (mkF m pc Ls (.int j :: .ref a :: rest))) := by
  obtain ⟨locs, X, N, eh, hn, hx, hZ, hby, hml, hown, hnm, hret, hlk⟩ := X
  obtain ⟨z, cl, A, r1, r2⟩ := A
  subst hby hq
  exact g_of (fun t r => X.iaload hx (j := j) (by rw [eh]; exact A.1) (State.isArrayOf_alike hZ.alike A.2.1) A.2.2 (own_ix r1 hj) (r2 _ (own_ixn hj)) (g := mkF m pc Ls (.int j :: .ref a :: rest)) rfl rfl hd t r) k
theorem g_laload (X : Wk Z own nm bytes ml ret R n0 p l e s m args below meth c T cells slots h) {a : Addr} {n : Nat} {f : Nat → Int64} (A : AJ Z h a n f) {j : Int32} (hj : 0 ≤ j.toInt ∧ j.toInt < n) {pc q : Nat} {Ls : Array Slot} {rest : List Value} (hd : decode bytes pc = .ok (.laload, 1)) (hq : pc + 1 = q) (k : Goes p e below s R n0 Q (T.setTop (mkF m q Ls (.long (f j.toNatClampNeg) :: rest)))) : Goes p e below s R n0 Q (T.setTop (mkF m pc Ls (.int j :: .ref a :: rest))) := by
  obtain ⟨locs, X, N, eh, hn, hx, hZ, hby, hml, hown, hnm, hret, hlk⟩ := X
  obtain ⟨z, cl, A, r1, r2⟩ := A
  subst hby hq
  exact g_of (fun t r => X.laload hx (j := j) (by rw [eh]; exact A.1) (State.isArrayOf_alike hZ.alike A.2.1) A.2.2 (own_ix r1 hj) (r2 _ (own_ixn hj)) (g := mkF m pc Ls (.int j :: .ref a :: rest)) rfl rfl hd t r) k
theorem g_baload (X : Wk Z own nm bytes ml ret R n0 p l e s m args below meth c T cells slots h) {a : Addr} {n : Nat} {f : Nat → Int32} (A : AI Z h a .byte n f) {j : Int32} (hj : 0 ≤ j.toInt ∧ j.toInt < n) {pc q : Nat} {Ls : Array Slot} {rest : List Value} (hd : decode bytes pc = .ok (.baload, 1)) (hq : pc + 1 = q) (k : Goes p e below s R n0 Q (T.setTop (mkF m q Ls (.int (f j.toNatClampNeg) :: rest)))) : Goes p e below s R n0 Q (T.setTop (mkF m pc Ls (.int j :: .ref a :: rest))) := by
  obtain ⟨locs, X, N, eh, hn, hx, hZ, hby, hml, hown, hnm, hret, hlk⟩ := X
  obtain ⟨z, cl, A, r1, r2⟩ := A
  subst hby hq
  exact g_of (fun t r => X.baloadBytes hx (j := j) (by rw [eh]; exact A.1) (State.isArrayOf_alike hZ.alike A.2.1) A.2.2 (own_ix r1 hj) (r2 _ (own_ixn hj)) (g := mkF m pc Ls (.int j :: .ref a :: rest)) rfl rfl hd t r) k
theorem g_zaload (X : Wk Z own nm bytes ml ret R n0 p l e s m args below meth c T cells slots h) {a : Addr} {n : Nat} {f : Nat → Int32} (A : AI Z h a .boolean n f) {j : Int32} (hj : 0 ≤ j.toInt ∧ j.toInt < n) {pc q : Nat} {Ls : Array Slot} {rest : List Value} (hd : decode bytes pc = .ok (.baload, 1)) (hq : pc + 1 = q) (k : Goes p e below s R n0 Q (T.setTop (mkF m q Ls (.int (f j.toNatClampNeg) :: rest)))) : Goes p e below s R n0 Q (T.setTop (mkF m pc Ls (.int j :: .ref a :: rest))) := by
  obtain ⟨locs, X, N, eh, hn, hx, hZ, hby, hml, hown, hnm, hret, hlk⟩ := X
  obtain ⟨z, cl, A, r1, r2⟩ := A
  subst hby hq
  exact g_of (fun t r => X.baloadBooleans hx (j := j) (by rw [eh]; exact A.1) (State.isArrayOf_alike hZ.alike A.2.1) A.2.2 (own_ix r1 hj) (r2 _ (own_ixn hj)) (g := mkF m pc Ls (.int j :: .ref a :: rest)) rfl rfl hd t r) k
theorem g_iastore (X : Wk Z own nm bytes ml ret R n0 p l e s m args below meth c T cells slots h) {a : Addr} {n : Nat} {f : Nat → Int32} (A : AI Z h a .int n f) {j : Int32} {x : Int32} (hj : 0 ≤ j.toInt ∧ j.toInt < n) (ga : n0 ≤ a) {pc q : Nat} {Ls : Array Slot} {rest : List Value} (hd : decode bytes pc = .ok (.iastore, 1)) (hq : pc + 1 = q) (k : ∀ T' h', Wk Z own nm bytes ml ret R n0 p l e s m args below meth c T' cells slots h' → Wr h h' a j.toNatClampNeg (.int x) → Goes p e below s R n0 Q (T'.setTop (mkF m q Ls rest))) : Goes p e below s R n0 Q (T.setTop (mkF m pc Ls (.int x :: .int j :: .ref a :: rest))) := by
  obtain ⟨locs, X, N, eh, hn, hx, hZ, hby, hml, hown, hnm, hret, hlk⟩ := X
  obtain ⟨z, cl, A, r1, r2⟩ := A
  subst hby hq
  obtain ⟨T', h', X', e', W', st⟩ := stI X hx hZ eh A (j := j) (own_ix r1 hj) (g := mkF m pc Ls (.int x :: .int j :: .ref a :: rest)) rfl rfl hd
  exact g_of st (k T' h' ⟨_, X', Fr.snoc X' N ga, e', hn, hx, hZ, rfl, hml, hown, hnm, hret, hlk⟩ W')
theorem g_lastore (X : Wk Z own nm bytes ml ret R n0 p l e s m args below meth c T cells slots h) {a : Addr} {n : Nat} {f : Nat → Int64} (A : AJ Z h a n f) {j : Int32} {x : Int64} (hj : 0 ≤ j.toInt ∧ j.toInt < n) (ga : n0 ≤ a) {pc q : Nat} {Ls : Array Slot} {rest : List Value} (hd : decode bytes pc = .ok (.lastore, 1)) (hq : pc + 1 = q) (k : ∀ T' h', Wk Z own nm bytes ml ret R n0 p l e s m args below meth c T' cells slots h' → Wr h h' a j.toNatClampNeg (.long x) → Goes p e below s R n0 Q (T'.setTop (mkF m q Ls rest))) : Goes p e below s R n0 Q (T.setTop (mkF m pc Ls (.long x :: .int j :: .ref a :: rest))) := by
  obtain ⟨locs, X, N, eh, hn, hx, hZ, hby, hml, hown, hnm, hret, hlk⟩ := X
  obtain ⟨z, cl, A, r1, r2⟩ := A
  subst hby hq
  obtain ⟨T', h', X', e', W', st⟩ := stJ X hx hZ eh A (j := j) (own_ix r1 hj) (g := mkF m pc Ls (.long x :: .int j :: .ref a :: rest)) rfl rfl hd
  exact g_of st (k T' h' ⟨_, X', Fr.snoc X' N ga, e', hn, hx, hZ, rfl, hml, hown, hnm, hret, hlk⟩ W')
theorem g_bastore (X : Wk Z own nm bytes ml ret R n0 p l e s m args below meth c T cells slots h) {a : Addr} {n : Nat} {f : Nat → Int32} (A : AI Z h a .byte n f) {j : Int32} {x : Int32} (hj : 0 ≤ j.toInt ∧ j.toInt < n) (ga : n0 ≤ a) {pc q : Nat} {Ls : Array Slot} {rest : List Value} (hd : decode bytes pc = .ok (.bastore, 1)) (hq : pc + 1 = q) (k : ∀ T' h', Wk Z own nm bytes ml ret R n0 p l e s m args below meth c T' cells slots h' → Wr h h' a j.toNatClampNeg (.int (nar .byte x)) → Goes p e below s R n0 Q (T'.setTop (mkF m q Ls rest))) : Goes p e below s R n0 Q (T.setTop (mkF m pc Ls (.int x :: .int j :: .ref a :: rest))) := by
  obtain ⟨locs, X, N, eh, hn, hx, hZ, hby, hml, hown, hnm, hret, hlk⟩ := X
  obtain ⟨z, cl, A, r1, r2⟩ := A
  subst hby hq
  obtain ⟨T', h', X', e', W', st⟩ := stB X hx hZ eh A (j := j) (own_ix r1 hj) (g := mkF m pc Ls (.int x :: .int j :: .ref a :: rest)) rfl rfl hd
  exact g_of st (k T' h' ⟨_, X', Fr.snoc X' N ga, e', hn, hx, hZ, rfl, hml, hown, hnm, hret, hlk⟩ W')
theorem g_zastore (X : Wk Z own nm bytes ml ret R n0 p l e s m args below meth c T cells slots h) {a : Addr} {n : Nat} {f : Nat → Int32} (A : AI Z h a .boolean n f) {j : Int32} {x : Int32} (hj : 0 ≤ j.toInt ∧ j.toInt < n) (ga : n0 ≤ a) {pc q : Nat} {Ls : Array Slot} {rest : List Value} (hd : decode bytes pc = .ok (.bastore, 1)) (hq : pc + 1 = q) (hz : x = 0 ∨ x = 1) (k : ∀ T' h', Wk Z own nm bytes ml ret R n0 p l e s m args below meth c T' cells slots h' → Wr h h' a j.toNatClampNeg (.int x) → Goes p e below s R n0 Q (T'.setTop (mkF m q Ls rest))) : Goes p e below s R n0 Q (T.setTop (mkF m pc Ls (.int x :: .int j :: .ref a :: rest))) := by
  obtain ⟨locs, X, N, eh, hn, hx, hZ, hby, hml, hown, hnm, hret, hlk⟩ := X
  obtain ⟨z, cl, A, r1, r2⟩ := A
  subst hby hq
  obtain ⟨T', h', X', e', W', st⟩ := stZ X hx hZ eh A (j := j) (own_ix r1 hj) (g := mkF m pc Ls (.int x :: .int j :: .ref a :: rest)) rfl rfl hd
  rw [own_narZ' hz] at W'
  exact g_of st (k T' h' ⟨_, X', Fr.snoc X' N ga, e', hn, hx, hZ, rfl, hml, hown, hnm, hret, hlk⟩ W')
theorem g_newarrI (X : Wk Z own nm bytes ml ret R n0 p l e s m args below meth c T cells slots h) {aty : ArrayType} (ht : defaultValue (newarray.typeOf aty) = .int 0) (w : (Jvm.Cond.arrayClass (newarray.typeOf aty)).before a0 Z = true) {n : Int32} {pc q c2 s2 cap : Nat} {Ls : Array Slot} {rest : List Value} (hd : decode bytes pc = .ok (.newarray aty, 2)) (hq : pc + 2 = q) (h0n : ¬ n < 0) (hcap : n.toNatClampNeg ≤ cap) (hbig : cap * 8 ≤ 536870912) (hc : cells + 1 = c2) (hs : slots + cap = s2) (hcR : c2 ≤ R.cells) (hsR : s2 ≤ R.slots)
    (k : ∀ T' h' b, Wk Z own nm bytes ml ret R n0 p l e s m args below meth c T' c2 s2 h' → b = h.size → n0 ≤ b → Ext h h' → AI Z h' b (newarray.typeOf aty) n.toNatClampNeg (fun _ => 0) → Goes p e below s R n0 Q (T'.setTop (mkF m q Ls (.ref b :: rest)))) : Goes p e below s R n0 Q (T.setTop (mkF m pc Ls (.int n :: rest))) := by
  obtain ⟨locs, X, N, eh, hn, hx, hZ, hby, hml, hown, hnm, hret, hlk⟩ := X
  subst hby hq hc hs
  obtain ⟨T', h', cA, X', e', E', A', stp⟩ := newP X hx hZ (aty := aty) w eh (g := mkF m pc Ls (.int n :: rest)) rfl hd rfl h0n hcap hbig hcR hsR
  refine g_of stp (k T' h' _ ⟨locs, X', N, e', hn, hx, hZ, rfl, hml, hown, hnm, hret, hlk⟩ rfl (Wk.size ⟨locs, X, N, eh, hn, hx, hZ, rfl, hml, hown, hnm, hret, hlk⟩) E' ⟨(back32 h0n).2, _, A', sz_new _ _ _, fun j hj => ?_⟩)
  simp only [newA, Array.getElem?_replicate, hj, if_true]
  rw [ht]
theorem g_newarrJ (X : Wk Z own nm bytes ml ret R n0 p l e s m args below meth c T cells slots h)  (w : (Jvm.Cond.arrayClass .long).before a0 Z = true) {n : Int32} {pc q c2 s2 cap : Nat} {Ls : Array Slot} {rest : List Value} (hd : decode bytes pc = .ok (.newarray .long, 2)) (hq : pc + 2 = q) (h0n : ¬ n < 0) (hcap : n.toNatClampNeg ≤ cap) (hbig : cap * 8 ≤ 536870912) (hc : cells + 1 = c2) (hs : slots + cap = s2) (hcR : c2 ≤ R.cells) (hsR : s2 ≤ R.slots)
    (k : ∀ T' h' b, Wk Z own nm bytes ml ret R n0 p l e s m args below meth c T' c2 s2 h' → b = h.size → n0 ≤ b → Ext h h' → AJ Z h' b n.toNatClampNeg (fun _ => 0) → Goes p e below s R n0 Q (T'.setTop (mkF m q Ls (.ref b :: rest)))) : Goes p e below s R n0 Q (T.setTop (mkF m pc Ls (.int n :: rest))) := by
  obtain ⟨locs, X, N, eh, hn, hx, hZ, hby, hml, hown, hnm, hret, hlk⟩ := X
  subst hby hq hc hs
  obtain ⟨T', h', cA, X', e', E', A', stp⟩ := newP X hx hZ (aty := .long) w eh (g := mkF m pc Ls (.int n :: rest)) rfl hd rfl h0n hcap hbig hcR hsR
  refine g_of stp (k T' h' _ ⟨locs, X', N, e', hn, hx, hZ, rfl, hml, hown, hnm, hret, hlk⟩ rfl (Wk.size ⟨locs, X, N, eh, hn, hx, hZ, rfl, hml, hown, hnm, hret, hlk⟩) E' ⟨(back32 h0n).2, _, A', sz_new _ _ _, fun j hj => ?_⟩)
  simp only [newA, Array.getElem?_replicate, hj, if_true]
  rfl
theorem g_jT0 (X : Wk Z own nm bytes ml ret R n0 p l e s m args below meth c T cells slots h) {J : Nat} {g : JFrame} (L : Array Slot) (S : List Value) (rest : ∀ T', Wk Z own nm bytes ml ret R n0 p l e s m args below meth c T' cells slots h → Goes p e below s R n0 Q (T'.setTop (mkF m J (L) (S)))) (here : (∀ T', Wk Z own nm bytes ml ret R n0 p l e s m args below meth c T' cells slots h → Goes p e below s R n0 Q (T'.setTop (mkF m J (L) (S)))) → Goes p e below s R n0 Q (T.setTop g)) : Goes p e below s R n0 Q (T.setTop g) := here rest
theorem g_jT1 {α : Type} (X : Wk Z own nm bytes ml ret R n0 p l e s m args below meth c T cells slots h) {J : Nat} {g : JFrame} (P : α → Prop) (L : α → Array Slot) (S : α → List Value) (rest : ∀ T', Wk Z own nm bytes ml ret R n0 p l e s m args below meth c T' cells slots h → ∀ a, P a → Goes p e below s R n0 Q (T'.setTop (mkF m J (L a) (S a)))) (here : (∀ T', Wk Z own nm bytes ml ret R n0 p l e s m args below meth c T' cells slots h → ∀ a, P a → Goes p e below s R n0 Q (T'.setTop (mkF m J (L a) (S a)))) → Goes p e below s R n0 Q (T.setTop g)) : Goes p e below s R n0 Q (T.setTop g) := here rest
theorem g_jT2 {α β : Type} (X : Wk Z own nm bytes ml ret R n0 p l e s m args below meth c T cells slots h) {J : Nat} {g : JFrame} (P : α → β → Prop) (L : α → β → Array Slot) (S : α → β → List Value) (rest : ∀ T', Wk Z own nm bytes ml ret R n0 p l e s m args below meth c T' cells slots h → ∀ a b, P a b → Goes p e below s R n0 Q (T'.setTop (mkF m J (L a b) (S a b)))) (here : (∀ T', Wk Z own nm bytes ml ret R n0 p l e s m args below meth c T' cells slots h → ∀ a b, P a b → Goes p e below s R n0 Q (T'.setTop (mkF m J (L a b) (S a b)))) → Goes p e below s R n0 Q (T.setTop g)) : Goes p e below s R n0 Q (T.setTop g) := here rest
theorem g_jT3 {α β γ : Type} (X : Wk Z own nm bytes ml ret R n0 p l e s m args below meth c T cells slots h) {J : Nat} {g : JFrame} (P : α → β → γ → Prop) (L : α → β → γ → Array Slot) (S : α → β → γ → List Value) (rest : ∀ T', Wk Z own nm bytes ml ret R n0 p l e s m args below meth c T' cells slots h → ∀ a b c', P a b c' → Goes p e below s R n0 Q (T'.setTop (mkF m J (L a b c') (S a b c')))) (here : (∀ T', Wk Z own nm bytes ml ret R n0 p l e s m args below meth c T' cells slots h → ∀ a b c', P a b c' → Goes p e below s R n0 Q (T'.setTop (mkF m J (L a b c') (S a b c')))) → Goes p e below s R n0 Q (T.setTop g)) : Goes p e below s R n0 Q (T.setTop g) := here rest
theorem g_jT4 {α β γ δ : Type} (X : Wk Z own nm bytes ml ret R n0 p l e s m args below meth c T cells slots h) {J : Nat} {g : JFrame} (P : α → β → γ → δ → Prop) (L : α → β → γ → δ → Array Slot) (S : α → β → γ → δ → List Value) (rest : ∀ T', Wk Z own nm bytes ml ret R n0 p l e s m args below meth c T' cells slots h → ∀ a b c' d, P a b c' d → Goes p e below s R n0 Q (T'.setTop (mkF m J (L a b c' d) (S a b c' d)))) (here : (∀ T', Wk Z own nm bytes ml ret R n0 p l e s m args below meth c T' cells slots h → ∀ a b c' d, P a b c' d → Goes p e below s R n0 Q (T'.setTop (mkF m J (L a b c' d) (S a b c' d)))) → Goes p e below s R n0 Q (T.setTop g)) : Goes p e below s R n0 Q (T.setTop g) := here rest
theorem g_loop1 {α : Type} (X : Wk Z own nm bytes ml ret R n0 p l e s m args below meth c T cells slots h) {H : Nat} (ms : α → Nat) (I : α → Heap → Prop) (L : α → Array Slot) (S : α → List Value) (a : α) (i0 : I a h) (turn : ∀ a T' h', Wk Z own nm bytes ml ret R n0 p l e s m args below meth c T' cells slots h' → I a h' → (∀ a' T'' h'', Wk Z own nm bytes ml ret R n0 p l e s m args below meth c T'' cells slots h'' → I a' h'' → ms a' < ms a → Goes p e below s R n0 Q (T''.setTop (mkF m H (L a') (S a')))) → Goes p e below s R n0 Q (T'.setTop (mkF m H (L a) (S a)))) : Goes p e below s R n0 Q (T.setTop (mkF m H (L a) (S a))) := by
  induction hk : ms a using Nat.strongRecOn generalizing a T h with
  | _ k ih => exact turn a T h X i0 (fun a' T2 h2 X2 i2 lt => ih _ (hk ▸ lt) X2 a' i2 rfl)
theorem g_loop2 {α β : Type} (X : Wk Z own nm bytes ml ret R n0 p l e s m args below meth c T cells slots h) {H : Nat} (ms : α → β → Nat) (I : α → β → Heap → Prop) (L : α → β → Array Slot) (S : α → β → List Value) (a : α) (b : β) (i0 : I a b h) (turn : ∀ a b T' h', Wk Z own nm bytes ml ret R n0 p l e s m args below meth c T' cells slots h' → I a b h' → (∀ a' b' T'' h'', Wk Z own nm bytes ml ret R n0 p l e s m args below meth c T'' cells slots h'' → I a' b' h'' → ms a' b' < ms a b → Goes p e below s R n0 Q (T''.setTop (mkF m H (L a' b') (S a' b')))) → Goes p e below s R n0 Q (T'.setTop (mkF m H (L a b) (S a b)))) : Goes p e below s R n0 Q (T.setTop (mkF m H (L a b) (S a b))) := by
  induction hk : ms a b using Nat.strongRecOn generalizing a b T h with
  | _ k ih => exact turn a b T h X i0 (fun a' b' T2 h2 X2 i2 lt => ih _ (hk ▸ lt) X2 a' b' i2 rfl)
theorem g_loop3 {α β γ : Type} (X : Wk Z own nm bytes ml ret R n0 p l e s m args below meth c T cells slots h) {H : Nat} (ms : α → β → γ → Nat) (I : α → β → γ → Heap → Prop) (L : α → β → γ → Array Slot) (S : α → β → γ → List Value) (a : α) (b : β) (u : γ) (i0 : I a b u h) (turn : ∀ a b u T' h', Wk Z own nm bytes ml ret R n0 p l e s m args below meth c T' cells slots h' → I a b u h' → (∀ a' b' u' T'' h'', Wk Z own nm bytes ml ret R n0 p l e s m args below meth c T'' cells slots h'' → I a' b' u' h'' → ms a' b' u' < ms a b u → Goes p e below s R n0 Q (T''.setTop (mkF m H (L a' b' u') (S a' b' u')))) → Goes p e below s R n0 Q (T'.setTop (mkF m H (L a b u) (S a b u)))) : Goes p e below s R n0 Q (T.setTop (mkF m H (L a b u) (S a b u))) := by
  induction hk : ms a b u using Nat.strongRecOn generalizing a b u T h with
  | _ k ih => exact turn a b u T h X i0 (fun a' b' u' T2 h2 X2 i2 lt => ih _ (hk ▸ lt) X2 a' b' u' i2 rfl)
theorem g_loop4 {α β γ δ : Type} (X : Wk Z own nm bytes ml ret R n0 p l e s m args below meth c T cells slots h) {H : Nat} (ms : α → β → γ → δ → Nat) (I : α → β → γ → δ → Heap → Prop) (L : α → β → γ → δ → Array Slot) (S : α → β → γ → δ → List Value) (a : α) (b : β) (u : γ) (w : δ) (i0 : I a b u w h) (turn : ∀ a b u w T' h', Wk Z own nm bytes ml ret R n0 p l e s m args below meth c T' cells slots h' → I a b u w h' → (∀ a' b' u' w' T'' h'', Wk Z own nm bytes ml ret R n0 p l e s m args below meth c T'' cells slots h'' → I a' b' u' w' h'' → ms a' b' u' w' < ms a b u w → Goes p e below s R n0 Q (T''.setTop (mkF m H (L a' b' u' w') (S a' b' u' w')))) → Goes p e below s R n0 Q (T'.setTop (mkF m H (L a b u w) (S a b u w)))) : Goes p e below s R n0 Q (T.setTop (mkF m H (L a b u w) (S a b u w))) := by
  induction hk : ms a b u w using Nat.strongRecOn generalizing a b u w T h with
  | _ k ih => exact turn a b u w T h X i0 (fun a' b' u' w' T2 h2 X2 i2 lt => ih _ (hk ▸ lt) X2 a' b' u' w' i2 rfl)
theorem g_loop5 {α β γ δ ε : Type} (X : Wk Z own nm bytes ml ret R n0 p l e s m args below meth c T cells slots h) {H : Nat} (ms : α → β → γ → δ → ε → Nat) (I : α → β → γ → δ → ε → Heap → Prop) (L : α → β → γ → δ → ε → Array Slot) (S : α → β → γ → δ → ε → List Value) (a : α) (b : β) (u : γ) (w : δ) (z : ε) (i0 : I a b u w z h) (turn : ∀ a b u w z T' h', Wk Z own nm bytes ml ret R n0 p l e s m args below meth c T' cells slots h' → I a b u w z h' → (∀ a' b' u' w' z' T'' h'', Wk Z own nm bytes ml ret R n0 p l e s m args below meth c T'' cells slots h'' → I a' b' u' w' z' h'' → ms a' b' u' w' z' < ms a b u w z → Goes p e below s R n0 Q (T''.setTop (mkF m H (L a' b' u' w' z') (S a' b' u' w' z')))) → Goes p e below s R n0 Q (T'.setTop (mkF m H (L a b u w z) (S a b u w z)))) : Goes p e below s R n0 Q (T.setTop (mkF m H (L a b u w z) (S a b u w z))) := by
  induction hk : ms a b u w z using Nat.strongRecOn generalizing a b u w z T h with
  | _ k ih => exact turn a b u w z T h X i0 (fun a' b' u' w' z' T2 h2 X2 i2 lt => ih _ (hk ▸ lt) X2 a' b' u' w' z' i2 rfl)
end Walk
end Jvm.Own
namespace Jvm.Pilot.@@N@@
open Jvm Jvm.ClassFile Sem Op Lib Jvm.Free Jvm.Stand Jvm.LawKit Jvm.RoadKit Bundle Jvm.Own Jvm.Pilot.@@N@@.Jvm.D

theorem tw0 {Z : State} {a0 : Array Value} (hw : ∀ d ∈ tables_1, d.before a0 Z = true) : ((Jvm.Cond.constantLong "com/example/retention/retention/protocol/ProtocolReaderStringsEndPinLaw" (9 : Nat) (255 : Int64))).before a0 Z = true := hw _ (List.mem_of_getElem? (i := 0) rfl)
theorem tw1 {Z : State} {a0 : Array Value} (hw : ∀ d ∈ tables_1, d.before a0 Z = true) : ((Jvm.Cond.arrayClass Jvm.ClassFile.FieldType.byte)).before a0 Z = true := hw _ (List.mem_of_getElem? (i := 1) rfl)
theorem tw2 {Z : State} {a0 : Array Value} (hw : ∀ d ∈ tables_1, d.before a0 Z = true) : ((Jvm.Cond.methodLink "com/example/retention/retention/protocol/ProtocolReaderStringsEndPinLaw" (12 : Nat) ({ cls := "com/example/retention/retention/protocol/ProtocolReaderStringsEndPinLaw", name := "step", desc := "([BI)I" } : Jvm.MethodName))).before a0 Z = true := hw _ (List.mem_of_getElem? (i := 2) rfl)
theorem tw3 {Z : State} {a0 : Array Value} (hw : ∀ d ∈ tables_1, d.before a0 Z = true) : ((Jvm.Cond.static ({ cls := "com/example/retention/retention/protocol/ProtocolReaderStringsEndPinLaw", name := "step", desc := "([BI)I" } : Jvm.MethodName))).before a0 Z = true := hw _ (List.mem_of_getElem? (i := 3) rfl)
theorem tw4 {Z : State} {a0 : Array Value} (hw : ∀ d ∈ tables_1, d.before a0 Z = true) : ((Jvm.Cond.initialized "com/example/retention/retention/protocol/ProtocolReaderStringsEndPinLaw")).before a0 Z = true := hw _ (List.mem_of_getElem? (i := 4) rfl)
theorem tw5 {Z : State} {a0 : Array Value} (hw : ∀ d ∈ tables_1, d.before a0 Z = true) : ((Jvm.Cond.code ({ cls := "com/example/retention/retention/protocol/ProtocolReaderStringsEndPinLaw", name := "step", desc := "([BI)I" } : Jvm.MethodName) method_2_code (3 : Nat) (Option.some Jvm.ClassFile.FieldType.int))).before a0 Z = true := hw _ (List.mem_of_getElem? (i := 5) rfl)
theorem tw6 {Z : State} {a0 : Array Value} (hw : ∀ d ∈ tables_1, d.before a0 Z = true) : ((Jvm.Cond.methodLink "com/example/retention/retention/protocol/ProtocolReaderStringsEndPinLaw" (18 : Nat) ({ cls := "com/example/retention/retention/protocol/ProtocolReader", name := "stringsEnd", desc := "([BII)I" } : Jvm.MethodName))).before a0 Z = true := hw _ (List.mem_of_getElem? (i := 6) rfl)
theorem tw7 {Z : State} {a0 : Array Value} (hw : ∀ d ∈ tables_1, d.before a0 Z = true) : ((Jvm.Cond.static ({ cls := "com/example/retention/retention/protocol/ProtocolReader", name := "stringsEnd", desc := "([BII)I" } : Jvm.MethodName))).before a0 Z = true := hw _ (List.mem_of_getElem? (i := 7) rfl)
theorem tw8 {Z : State} {a0 : Array Value} (hw : ∀ d ∈ tables_1, d.before a0 Z = true) : ((Jvm.Cond.initialized "com/example/retention/retention/protocol/ProtocolReader")).before a0 Z = true := hw _ (List.mem_of_getElem? (i := 8) rfl)
theorem tw9 {Z : State} {a0 : Array Value} (hw : ∀ d ∈ tables_1, d.before a0 Z = true) : ((Jvm.Cond.code ({ cls := "com/example/retention/retention/protocol/ProtocolReader", name := "stringsEnd", desc := "([BII)I" } : Jvm.MethodName) prog_75_method_12_code (6 : Nat) (Option.some Jvm.ClassFile.FieldType.int))).before a0 Z = true := hw _ (List.mem_of_getElem? (i := 9) rfl)
theorem tw10 {Z : State} {a0 : Array Value} (hw : ∀ d ∈ tables_1, d.before a0 Z = true) : ((Jvm.Cond.constantLong "com/example/retention/retention/protocol/ProtocolReaderStringsEndPinLaw" (7 : Nat) (3 : Int64))).before a0 Z = true := hw _ (List.mem_of_getElem? (i := 10) rfl)
theorem tw11 {Z : State} {a0 : Array Value} (hw : ∀ d ∈ tables_1, d.before a0 Z = true) : ((Jvm.Cond.constant "com/example/retention/retention/protocol/ProtocolReaderStringsEndPinLaw" (11 : Nat) (2147483647 : Int32))).before a0 Z = true := hw _ (List.mem_of_getElem? (i := 11) rfl)
theorem pd0 : parseMethodDescriptor "([BI)I" = some ⟨[(.array .byte), .int], some .int⟩ := by decide +kernel
theorem pd1 : parseMethodDescriptor "([BII)I" = some ⟨[(.array .byte), .int, .int], some .int⟩ := by decide +kernel
theorem d1_0 : decode method_2_code 0 = .ok (.iload_n 1, 1) := by decide +kernel
theorem d1_1 : decode method_2_code 1 = .ok (.ifCond .ge 5, 3) := by decide +kernel
theorem d1_4 : decode method_2_code 4 = .ok (.iconst (-1), 1) := by decide +kernel
theorem d1_5 : decode method_2_code 5 = .ok (.ireturn, 1) := by decide +kernel
theorem d1_6 : decode method_2_code 6 = .ok (.iload_n 1, 1) := by decide +kernel
theorem d1_7 : decode method_2_code 7 = .ok (.bipush 6, 2) := by decide +kernel
theorem d1_9 : decode method_2_code 9 = .ok (.if_icmp .le 5, 3) := by decide +kernel
theorem d1_12 : decode method_2_code 12 = .ok (.iconst (-1), 1) := by decide +kernel
theorem d1_13 : decode method_2_code 13 = .ok (.ireturn, 1) := by decide +kernel
theorem d1_14 : decode method_2_code 14 = .ok (.aload_n 0, 1) := by decide +kernel
theorem d1_15 : decode method_2_code 15 = .ok (.iload_n 1, 1) := by decide +kernel
theorem d1_16 : decode method_2_code 16 = .ok (.baload, 1) := by decide +kernel
theorem d1_17 : decode method_2_code 17 = .ok (.sipush 256, 3) := by decide +kernel
theorem d1_20 : decode method_2_code 20 = .ok (.imul, 1) := by decide +kernel
theorem d1_21 : decode method_2_code 21 = .ok (.aload_n 0, 1) := by decide +kernel
theorem d1_22 : decode method_2_code 22 = .ok (.iload_n 1, 1) := by decide +kernel
theorem d1_23 : decode method_2_code 23 = .ok (.iconst 1, 1) := by decide +kernel
theorem d1_24 : decode method_2_code 24 = .ok (.iadd, 1) := by decide +kernel
theorem d1_25 : decode method_2_code 25 = .ok (.baload, 1) := by decide +kernel
theorem d1_26 : decode method_2_code 26 = .ok (.sipush 255, 3) := by decide +kernel
theorem d1_29 : decode method_2_code 29 = .ok (.iand, 1) := by decide +kernel
theorem d1_30 : decode method_2_code 30 = .ok (.iadd, 1) := by decide +kernel
theorem d1_31 : decode method_2_code 31 = .ok (.istore_n 2, 1) := by decide +kernel
theorem d1_32 : decode method_2_code 32 = .ok (.iload_n 2, 1) := by decide +kernel
theorem d1_33 : decode method_2_code 33 = .ok (.ifCond .ge 5, 3) := by decide +kernel
theorem d1_36 : decode method_2_code 36 = .ok (.iconst (-1), 1) := by decide +kernel
theorem d1_37 : decode method_2_code 37 = .ok (.ireturn, 1) := by decide +kernel
theorem d1_38 : decode method_2_code 38 = .ok (.iload_n 1, 1) := by decide +kernel
theorem d1_39 : decode method_2_code 39 = .ok (.iconst 2, 1) := by decide +kernel
theorem d1_40 : decode method_2_code 40 = .ok (.iadd, 1) := by decide +kernel
theorem d1_41 : decode method_2_code 41 = .ok (.iload_n 2, 1) := by decide +kernel
theorem d1_42 : decode method_2_code 42 = .ok (.iadd, 1) := by decide +kernel
theorem d1_43 : decode method_2_code 43 = .ok (.bipush 8, 2) := by decide +kernel
theorem d1_45 : decode method_2_code 45 = .ok (.if_icmp .le 5, 3) := by decide +kernel
theorem d1_48 : decode method_2_code 48 = .ok (.iconst (-1), 1) := by decide +kernel
theorem d1_49 : decode method_2_code 49 = .ok (.ireturn, 1) := by decide +kernel
theorem d1_50 : decode method_2_code 50 = .ok (.iload_n 1, 1) := by decide +kernel
theorem d1_51 : decode method_2_code 51 = .ok (.iconst 2, 1) := by decide +kernel
theorem d1_52 : decode method_2_code 52 = .ok (.iadd, 1) := by decide +kernel
theorem d1_53 : decode method_2_code 53 = .ok (.iload_n 2, 1) := by decide +kernel
theorem d1_54 : decode method_2_code 54 = .ok (.iadd, 1) := by decide +kernel
theorem d1_55 : decode method_2_code 55 = .ok (.ireturn, 1) := by decide +kernel
theorem d2_0 : decode prog_75_method_12_code 0 = .ok (.iload_n 1, 1) := by decide +kernel
theorem d2_1 : decode prog_75_method_12_code 1 = .ok (.istore_n 3, 1) := by decide +kernel
theorem d2_2 : decode prog_75_method_12_code 2 = .ok (.iconst 0, 1) := by decide +kernel
theorem d2_3 : decode prog_75_method_12_code 3 = .ok (.istore 4, 2) := by decide +kernel
theorem d2_5 : decode prog_75_method_12_code 5 = .ok (.iload 4, 2) := by decide +kernel
theorem d2_7 : decode prog_75_method_12_code 7 = .ok (.iload_n 2, 1) := by decide +kernel
theorem d2_8 : decode prog_75_method_12_code 8 = .ok (.if_icmp .ge 67, 3) := by decide +kernel
theorem d2_11 : decode prog_75_method_12_code 11 = .ok (.aload_n 0, 1) := by decide +kernel
theorem d2_12 : decode prog_75_method_12_code 12 = .ok (.arraylength, 1) := by decide +kernel
theorem d2_13 : decode prog_75_method_12_code 13 = .ok (.iload_n 3, 1) := by decide +kernel
theorem d2_14 : decode prog_75_method_12_code 14 = .ok (.isub, 1) := by decide +kernel
theorem d2_15 : decode prog_75_method_12_code 15 = .ok (.iconst 2, 1) := by decide +kernel
theorem d2_16 : decode prog_75_method_12_code 16 = .ok (.if_icmp .ge 5, 3) := by decide +kernel
theorem d2_19 : decode prog_75_method_12_code 19 = .ok (.iconst (-1), 1) := by decide +kernel
theorem d2_20 : decode prog_75_method_12_code 20 = .ok (.ireturn, 1) := by decide +kernel
theorem d2_21 : decode prog_75_method_12_code 21 = .ok (.aload_n 0, 1) := by decide +kernel
theorem d2_22 : decode prog_75_method_12_code 22 = .ok (.iload_n 3, 1) := by decide +kernel
theorem d2_23 : decode prog_75_method_12_code 23 = .ok (.baload, 1) := by decide +kernel
theorem d2_24 : decode prog_75_method_12_code 24 = .ok (.sipush 255, 3) := by decide +kernel
theorem d2_27 : decode prog_75_method_12_code 27 = .ok (.iand, 1) := by decide +kernel
theorem d2_28 : decode prog_75_method_12_code 28 = .ok (.bipush 8, 2) := by decide +kernel
theorem d2_30 : decode prog_75_method_12_code 30 = .ok (.ishl, 1) := by decide +kernel
theorem d2_31 : decode prog_75_method_12_code 31 = .ok (.aload_n 0, 1) := by decide +kernel
theorem d2_32 : decode prog_75_method_12_code 32 = .ok (.iload_n 3, 1) := by decide +kernel
theorem d2_33 : decode prog_75_method_12_code 33 = .ok (.iconst 1, 1) := by decide +kernel
theorem d2_34 : decode prog_75_method_12_code 34 = .ok (.iadd, 1) := by decide +kernel
theorem d2_35 : decode prog_75_method_12_code 35 = .ok (.baload, 1) := by decide +kernel
theorem d2_36 : decode prog_75_method_12_code 36 = .ok (.sipush 255, 3) := by decide +kernel
theorem d2_39 : decode prog_75_method_12_code 39 = .ok (.iand, 1) := by decide +kernel
theorem d2_40 : decode prog_75_method_12_code 40 = .ok (.ior, 1) := by decide +kernel
theorem d2_41 : decode prog_75_method_12_code 41 = .ok (.i2s, 1) := by decide +kernel
theorem d2_42 : decode prog_75_method_12_code 42 = .ok (.istore 5, 2) := by decide +kernel
theorem d2_44 : decode prog_75_method_12_code 44 = .ok (.iload 5, 2) := by decide +kernel
theorem d2_46 : decode prog_75_method_12_code 46 = .ok (.ifCond .lt 14, 3) := by decide +kernel
theorem d2_49 : decode prog_75_method_12_code 49 = .ok (.aload_n 0, 1) := by decide +kernel
theorem d2_50 : decode prog_75_method_12_code 50 = .ok (.arraylength, 1) := by decide +kernel
theorem d2_51 : decode prog_75_method_12_code 51 = .ok (.iload_n 3, 1) := by decide +kernel
theorem d2_52 : decode prog_75_method_12_code 52 = .ok (.isub, 1) := by decide +kernel
theorem d2_53 : decode prog_75_method_12_code 53 = .ok (.iconst 2, 1) := by decide +kernel
theorem d2_54 : decode prog_75_method_12_code 54 = .ok (.isub, 1) := by decide +kernel
theorem d2_55 : decode prog_75_method_12_code 55 = .ok (.iload 5, 2) := by decide +kernel
theorem d2_57 : decode prog_75_method_12_code 57 = .ok (.if_icmp .ge 5, 3) := by decide +kernel
theorem d2_60 : decode prog_75_method_12_code 60 = .ok (.iconst (-1), 1) := by decide +kernel
theorem d2_61 : decode prog_75_method_12_code 61 = .ok (.ireturn, 1) := by decide +kernel
theorem d2_62 : decode prog_75_method_12_code 62 = .ok (.iload_n 3, 1) := by decide +kernel
theorem d2_63 : decode prog_75_method_12_code 63 = .ok (.iconst 2, 1) := by decide +kernel
theorem d2_64 : decode prog_75_method_12_code 64 = .ok (.iload 5, 2) := by decide +kernel
theorem d2_66 : decode prog_75_method_12_code 66 = .ok (.iadd, 1) := by decide +kernel
theorem d2_67 : decode prog_75_method_12_code 67 = .ok (.iadd, 1) := by decide +kernel
theorem d2_68 : decode prog_75_method_12_code 68 = .ok (.istore_n 3, 1) := by decide +kernel
theorem d2_69 : decode prog_75_method_12_code 69 = .ok (.iinc 4 1, 3) := by decide +kernel
theorem d2_72 : decode prog_75_method_12_code 72 = .ok (.goto (-67), 3) := by decide +kernel
theorem d2_75 : decode prog_75_method_12_code 75 = .ok (.iload_n 3, 1) := by decide +kernel
theorem d2_76 : decode prog_75_method_12_code 76 = .ok (.ireturn, 1) := by decide +kernel
theorem own_short (x y : Int32) (hx : -128 ≤ x.toInt ∧ x.toInt ≤ 127) : (((x &&& 255) <<< ((8 : Int32) &&& 31)) ||| (y &&& 255)).toInt16.toInt32 = x * 256 + (y &&& 255) := by
  apply Int32.toInt_inj.mp
  have a := c_mask x 255 8 (by decide) (by decide)
  have b := own_mB y 255 8 (by decide) (by decide) 255 (by decide)
  obtain ⟨u, hu⟩ : ∃ z, z = x &&& 255 := ⟨_, rfl⟩
  obtain ⟨v, hv⟩ : ∃ z, z = y &&& 255 := ⟨_, rfl⟩
  rw [← hu] at a ⊢; rw [← hv] at b ⊢
  have c := c_ishl u 8 8 (by decide)
  obtain ⟨w, hw⟩ : ∃ z, z = u <<< ((8 : Int32) &&& 31) := ⟨_, rfl⟩
  rw [← hw] at c ⊢
  have rw_ := rng32 w
  have d := c_or w v 8 (by decide) 256 (by decide) (by omega) (by omega) (by omega)
  obtain ⟨o, ho⟩ : ∃ z, z = w ||| v := ⟨_, rfl⟩
  rw [← ho] at d ⊢
  have ro := rng32 o
  have e := c_i2s o
  have m := own_imulE x 256 (by simp only [Int32.reduceToInt]; omega)
  simp only [Int32.reduceToInt] at m
  obtain ⟨q, hq⟩ : ∃ z, z = x * 256 := ⟨_, rfl⟩
  rw [← hq] at m ⊢
  have s := own_iaddE q v (by omega)
  rw [s]
  obtain ⟨t, ht⟩ : ∃ z, z = o.toInt16.toInt32 := ⟨_, rfl⟩
  rw [← ht] at e ⊢
  omega

theorem own_i16 {p : Int32} (c1 : ¬ (p < (0 : Int32))) (c2 : ¬ ((6 : Int32) < p)) : 0 ≤ p.toInt ∧ p.toInt < (8 : Nat) := by
  simp only [Int32.lt_iff_toInt_lt, Int32.reduceToInt] at c1 c2; omega
theorem own_i25 {p : Int32} (c1 : ¬ (p < (0 : Int32))) (c2 : ¬ ((6 : Int32) < p)) : 0 ≤ (p + (1 : Int32)).toInt ∧ (p + (1 : Int32)).toInt < (8 : Nat) := by
  simp only [Int32.lt_iff_toInt_lt, Int32.reduceToInt] at c1 c2
  rw [own_iaddE p 1 (by simp only [Int32.reduceToInt]; omega)]; simp only [Int32.reduceToInt]; omega

def stp (F : Nat → Int32) (p2 : Int32) : Int32 := (if p2 < (0 : Int32) then (-1 : Int32) else (if (6 : Int32) < p2 then (-1 : Int32) else (if (((F p2.toNatClampNeg) * (256 : Int32)) + ((F (p2 + (1 : Int32)).toNatClampNeg) &&& (255 : Int32))) < (0 : Int32) then (-1 : Int32) else (if (8 : Int32) < ((p2 + (2 : Int32)) + (((F p2.toNatClampNeg) * (256 : Int32)) + ((F (p2 + (1 : Int32)).toNatClampNeg) &&& (255 : Int32)))) then (-1 : Int32) else ((p2 + (2 : Int32)) + (((F p2.toNatClampNeg) * (256 : Int32)) + ((F (p2 + (1 : Int32)).toNatClampNeg) &&& (255 : Int32))))))))
def itr (F : Nat → Int32) : Nat → Int32 → Int32
  | 0, e => e
  | k + 1, e => stp F (itr F k e)
theorem own_ie {e : Int32} (e0 : 0 ≤ e.toInt) (c : ¬ (((8 : Int32) - e) < (2 : Int32))) : e.toInt ≤ 6 := by
  have a := own_isubE 8 e (by simp only [Int32.reduceToInt]; have := rng32 e; omega)
  simp only [Int32.lt_iff_toInt_lt, Int32.reduceToInt] at a c; omega
theorem own_ie1 {e : Int32} (e0 : 0 ≤ e.toInt) (c : ¬ (((8 : Int32) - e) < (2 : Int32))) : 0 ≤ e.toInt ∧ e.toInt < (8 : Nat) := by have := own_ie e0 c; omega
theorem own_ie2 {e : Int32} (e0 : 0 ≤ e.toInt) (c : ¬ (((8 : Int32) - e) < (2 : Int32))) : 0 ≤ (e + (1 : Int32)).toInt ∧ (e + (1 : Int32)).toInt < (8 : Nat) := by
  have := own_ie e0 c
  rw [own_iaddE e 1 (by simp only [Int32.reduceToInt]; omega)]; simp only [Int32.reduceToInt]; omega
theorem own_stp1 {F : Nat → Int32} {e : Int32} (e0 : 0 ≤ e.toInt) (c : ((8 : Int32) - e) < (2 : Int32)) : stp F e = -1 := by
  have a := own_isubE 8 e (by simp only [Int32.reduceToInt]; have := rng32 e; omega)
  simp only [Int32.lt_iff_toInt_lt, Int32.reduceToInt] at a c
  unfold stp
  rw [if_neg (by simp only [Int32.lt_iff_toInt_lt, Int32.reduceToInt]; omega), if_pos (by simp only [Int32.lt_iff_toInt_lt, Int32.reduceToInt]; omega)]
theorem own_stpA {F : Nat → Int32} {e len : Int32} (e0 : 0 ≤ e.toInt) (c : ¬ (((8 : Int32) - e) < (2 : Int32))) (hl : len = (((F e.toNatClampNeg) * (256 : Int32)) + ((F (e + (1 : Int32)).toNatClampNeg) &&& (255 : Int32)))) : stp F e = (if len < (0 : Int32) then (-1 : Int32) else (if (8 : Int32) < ((e + (2 : Int32)) + len) then (-1 : Int32) else ((e + (2 : Int32)) + len))) := by
  have a := own_ie e0 c
  unfold stp
  rw [if_neg (by simp only [Int32.lt_iff_toInt_lt, Int32.reduceToInt]; omega), if_neg (by simp only [Int32.lt_iff_toInt_lt, Int32.reduceToInt]; omega), ← hl]
theorem own_len {F : Nat → Int32} (hF : ∀ j : Nat, j < 8 → -128 ≤ (F j).toInt ∧ (F j).toInt ≤ 127) {e : Int32} (e0 : 0 ≤ e.toInt) (c : ¬ (((8 : Int32) - e) < (2 : Int32))) : -32768 ≤ ((((F e.toNatClampNeg) * (256 : Int32)) + ((F (e + (1 : Int32)).toNatClampNeg) &&& (255 : Int32)))).toInt ∧ ((((F e.toNatClampNeg) * (256 : Int32)) + ((F (e + (1 : Int32)).toNatClampNeg) &&& (255 : Int32)))).toInt ≤ 32767 := by
  have a := hF e.toNatClampNeg (by have := own_ie e0 c; simp only [Int32.toNatClampNeg]; omega)
  have b := own_mB (F (e + (1 : Int32)).toNatClampNeg) 255 8 (by decide) (by decide) 255 (by decide)
  obtain ⟨v, hv⟩ : ∃ z, z = (F (e + (1 : Int32)).toNatClampNeg) &&& 255 := ⟨_, rfl⟩
  obtain ⟨u, hu⟩ : ∃ z, z = F e.toNatClampNeg := ⟨_, rfl⟩
  rw [← hv] at b ⊢; rw [← hu] at a ⊢
  have m := own_imulE u 256 (by simp only [Int32.reduceToInt]; omega)
  simp only [Int32.reduceToInt] at m
  obtain ⟨q, hq⟩ : ∃ z, z = u * 256 := ⟨_, rfl⟩
  rw [← hq] at m ⊢
  rw [own_iaddE q v (by omega)]; omega
theorem own_sum {e len : Int32} (e0 : 0 ≤ e.toInt) (e6 : e.toInt ≤ 6) (l : -32768 ≤ len.toInt ∧ len.toInt ≤ 32767) : ((e + (2 : Int32)) + len).toInt = e.toInt + 2 + len.toInt ∧ (e + ((2 : Int32) + len)).toInt = e.toInt + 2 + len.toInt ∧ (((8 : Int32) - e) - (2 : Int32)).toInt = 6 - e.toInt := by
  have a := own_iaddE e 2 (by simp only [Int32.reduceToInt]; omega)
  have b := own_iaddE 2 len (by simp only [Int32.reduceToInt]; omega)
  have d := own_isubE 8 e (by simp only [Int32.reduceToInt]; omega)
  simp only [Int32.reduceToInt] at a b d
  refine ⟨?_, ?_, ?_⟩
  · rw [own_iaddE _ _ (by rw [a]; omega), a]
  · rw [own_iaddE _ _ (by rw [b]; omega), b]; omega
  · rw [own_isubE _ _ (by rw [d]; simp only [Int32.reduceToInt]; omega), d]; simp only [Int32.reduceToInt]; omega
theorem own_stpm {F : Nat → Int32} : stp F (-1) = -1 := by unfold stp; rw [if_pos (by decide)]
theorem own_dead {F : Nat → Int32} {p : Int32} {k : Nat} (h : itr F k p = -1) : ∀ n, k ≤ n → itr F n p = -1 := by
  intro n hn
  induction n with
  | zero => have : k = 0 := by omega
            subst this; exact h
  | succ n ih =>
    by_cases q : k = n + 1
    · subst q; exact h
    · show stp F (itr F n p) = -1
      rw [ih (by omega)]; exact own_stpm

theorem own_nb (x : Int32) : -128 ≤ (nar .byte x).toInt ∧ (nar .byte x).toInt ≤ 127 := by have := c_i2b x; show -128 ≤ x.toInt8.toInt32.toInt ∧ x.toInt8.toInt32.toInt ≤ 127; omega
theorem own_grow {F : Nat → Int32} (hF : ∀ j : Nat, j < 8 → -128 ≤ (F j).toInt ∧ (F j).toInt ≤ 127) {p : Int32} (hp : 0 ≤ p.toInt) : ∀ k : Nat, itr F k p = -1 ∨ 2 * (k : Int) ≤ (itr F k p).toInt
  | 0 => Or.inr (by show (0 : Int) ≤ p.toInt; exact hp)
  | k + 1 => by
    show stp F (itr F k p) = -1 ∨ 2 * ((k + 1 : Nat) : Int) ≤ (stp F (itr F k p)).toInt
    rcases own_grow hF hp k with h | h
    · rw [h]; exact Or.inl own_stpm
    · obtain ⟨e, he⟩ : ∃ z, z = itr F k p := ⟨_, rfl⟩
      rw [← he] at h ⊢
      have e0 : 0 ≤ e.toInt := by omega
      by_cases c : ((8 : Int32) - e) < (2 : Int32)
      · exact Or.inl (own_stp1 e0 c)
      · obtain ⟨len, hlen⟩ : ∃ z, z = (((F e.toNatClampNeg) * (256 : Int32)) + ((F (e + (1 : Int32)).toNatClampNeg) &&& (255 : Int32))) := ⟨_, rfl⟩
        have q2 := own_ie e0 c
        have q3 := own_len hF e0 c
        rw [← hlen] at q3
        have q4 := own_sum e0 q2 q3
        rw [own_stpA e0 c hlen]
        by_cases c3 : len < (0 : Int32)
        · rw [if_pos c3]; exact Or.inl rfl
        · rw [if_neg c3]
          by_cases c4 : (8 : Int32) < ((e + (2 : Int32)) + len)
          · rw [if_pos c4]; exact Or.inl rfl
          · rw [if_neg c4]
            simp only [Int32.lt_iff_toInt_lt, Int32.reduceToInt] at c3
            right; rw [q4.1]; omega
theorem own_five {F : Nat → Int32} (hF : ∀ j : Nat, j < 8 → -128 ≤ (F j).toInt ∧ (F j).toInt ≤ 127) {p : Int32} (hp : 0 ≤ p.toInt) : itr F 5 p = -1 := by
  show stp F (itr F 4 p) = -1
  rcases own_grow hF hp 4 with h | h
  · rw [h]; exact own_stpm
  · refine own_stp1 (by omega) ?_
    have a := own_isubE 8 (itr F 4 p) (by simp only [Int32.reduceToInt]; have := rng32 (itr F 4 p); omega)
    simp only [Int32.lt_iff_toInt_lt, Int32.reduceToInt] at a ⊢; omega
theorem own_final {F : Nat → Int32} (hF : ∀ j : Nat, j < 8 → -128 ≤ (F j).toInt ∧ (F j).toInt ≤ 127) {p n e1 e2 e3 e4 e5 r : Int32} (hp : 0 ≤ p.toInt) (hn : 0 ≤ n.toInt)
    (h1 : e1 = (if n < (1 : Int32) then p else (stp F p))) (h2 : e2 = (if n < (2 : Int32) then e1 else (stp F e1))) (h3 : e3 = (if n < (3 : Int32) then e2 else (stp F e2))) (h4 : e4 = (if n < (4 : Int32) then e3 else (stp F e3))) (h5 : e5 = (if n < (5 : Int32) then e4 else (stp F e4))) (hr : r = itr F n.toNatClampNeg p) : r = e5 := by
  obtain ⟨k, hk⟩ : ∃ k : Nat, k = n.toNatClampNeg := ⟨_, rfl⟩
  have hk' : (k : Int) = n.toInt := by rw [hk]; simp only [Int32.toNatClampNeg]; omega
  rw [← hk] at hr
  have L : ∀ m : Int32, n < m ↔ (k : Int) < m.toInt := fun m => by rw [Int32.lt_iff_toInt_lt, hk']
  simp only [L, Int32.reduceToInt] at h1 h2 h3 h4 h5
  rcases (show k = 0 ∨ k = 1 ∨ k = 2 ∨ k = 3 ∨ k = 4 ∨ 5 ≤ k by omega) with z | z | z | z | z | z
  · subst z; rw [if_pos (by omega)] at h1 h2 h3 h4 h5; rw [hr, h5, h4, h3, h2, h1]; rfl
  · subst z; rw [if_neg (by omega)] at h1; rw [if_pos (by omega)] at h2 h3 h4 h5; rw [hr, h5, h4, h3, h2, h1]; rfl
  · subst z; rw [if_neg (by omega)] at h1 h2; rw [if_pos (by omega)] at h3 h4 h5; rw [hr, h5, h4, h3, h2, h1]; rfl
  · subst z; rw [if_neg (by omega)] at h1 h2 h3; rw [if_pos (by omega)] at h4 h5; rw [hr, h5, h4, h3, h2, h1]; rfl
  · subst z; rw [if_neg (by omega)] at h1 h2 h3 h4; rw [if_pos (by omega)] at h5; rw [hr, h5, h4, h3, h2, h1]; rfl
  · rw [if_neg (by omega)] at h1 h2 h3 h4 h5
    have f := own_five hF hp
    rw [hr, own_dead f k z, h5, h4, h3, h2, h1]; exact f.symm
theorem pn1 : plainName "com/example/retention/retention/protocol/ProtocolReaderStringsEndPinLaw" = true := by first | (simp [plainName, overriddenIn]; done) | decide +kernel
theorem ef1 (m : MethodId) (x0 : Addr) (x1 : Int32) : entryFrame m #[(.ref x0), (.int x1)] 3 = mkF m 0 #[.val (.ref x0), .val (.int x1), .unset] [] := by first | (simp [entryFrame, mkF, argsToLocals, Value.category]; done) | rfl
set_option maxRecDepth 65536 in
set_option maxHeartbeats 40000000 in
theorem rm1 (l : Launch) (Z : State) (a0 : Array Value) (hw : ∀ d ∈ tables_1, d.before a0 Z = true) (ws : List Jvm.Cond) (a1 : Addr) (p2 : Int32) (F : Nat → Int32) (h0 : Heap) (n0 : Nat) (Z0 : n0 ≤ h0.size) (A_a1 : AI Z h0 a1 .byte 8 F) :
    Met l Z (⟨"com/example/retention/retention/protocol/ProtocolReaderStringsEndPinLaw", "step", "([BI)I"⟩ : MethodName) method_2_code 3 (some .int) ({ frames := 0, cells := 0, slots := 0, locals := 0 } : Room) ws n0 #[(.ref a1), (.int p2)] h0 (fun v h' => v = some (.int (if p2 < (0 : Int32) then (-1 : Int32) else (if (6 : Int32) < p2 then (-1 : Int32) else (if (((F p2.toNatClampNeg) * (256 : Int32)) + ((F (p2 + (1 : Int32)).toNatClampNeg) &&& (255 : Int32))) < (0 : Int32) then (-1 : Int32) else (if (8 : Int32) < ((p2 + (2 : Int32)) + (((F p2.toNatClampNeg) * (256 : Int32)) + ((F (p2 + (1 : Int32)).toNatClampNeg) &&& (255 : Int32)))) then (-1 : Int32) else ((p2 + (2 : Int32)) + (((F p2.toNatClampNeg) * (256 : Int32)) + ((F (p2 + (1 : Int32)).toNatClampNeg) &&& (255 : Int32))))))))) ∧ h0 = h') := by
  refine Met.intro (plainFor_of_name pn1) Z0 ?_
  intro p e s m below meth c T X
  refine g_cast (ef1 m a1 p2) ?_
  refine g_iloadN X d1_0 rfl (q := 1) rfl ?_
  refine g_ifB X d1_1 (Or.inl rfl) (q := 4) rfl (by decide) (t := 6) rfl (fun (c1 : p2 < (0 : Int32)) => ?_) (fun (c1 : ¬ (p2 < (0 : Int32))) => ?_)
  · skip
    have b_p2 : (-2147483648 : Int) ≤ p2.toInt ∧ p2.toInt ≤ -1 := by have z0 := c1; (try simp only [Int64.lt_iff_toInt_lt, Int32.lt_iff_toInt_lt, Int64.le_iff_toInt_le, Int32.le_iff_toInt_le, ← Int64.toInt_inj, ← Int32.toInt_inj, apply_ite Int64.toInt, apply_ite Int32.toInt, Int64.reduceToInt, Int32.reduceToInt, ne_eq] at z0); have z1 := rng32 p2; omega
    refine g_iconst X d1_4 rfl (q := 5) (v := -1) rfl ?_
    exact g_retI X d1_5 (by decide) (by decide) ⟨congrArg (fun z => some (Value.int z)) ((if_pos c1).symm), rfl⟩
  · skip
    have b_p2 : (0 : Int) ≤ p2.toInt ∧ p2.toInt ≤ 2147483647 := by have z0 := c1; (try simp only [Int64.lt_iff_toInt_lt, Int32.lt_iff_toInt_lt, Int64.le_iff_toInt_le, Int32.le_iff_toInt_le, ← Int64.toInt_inj, ← Int32.toInt_inj, apply_ite Int64.toInt, apply_ite Int32.toInt, Int64.reduceToInt, Int32.reduceToInt, ne_eq] at z0); have z1 := rng32 p2; omega
    refine g_iloadN X d1_6 rfl (q := 7) rfl ?_
    refine g_bipush X d1_7 rfl (q := 9) (v := 6) rfl ?_
    refine g_icmpB X d1_9 (Or.inr (Or.inl rfl)) (q := 12) rfl (by decide) (t := 14) rfl (fun (c2 : (6 : Int32) < p2) => ?_) (fun (c2 : ¬ ((6 : Int32) < p2)) => ?_)
    · skip
      have b_p2 : (7 : Int) ≤ p2.toInt ∧ p2.toInt ≤ 2147483647 := by have z0 := c2; (try simp only [Int64.lt_iff_toInt_lt, Int32.lt_iff_toInt_lt, Int64.le_iff_toInt_le, Int32.le_iff_toInt_le, ← Int64.toInt_inj, ← Int32.toInt_inj, apply_ite Int64.toInt, apply_ite Int32.toInt, Int64.reduceToInt, Int32.reduceToInt, ne_eq] at z0); have z1 := rng32 p2; omega
      refine g_iconst X d1_12 rfl (q := 13) (v := -1) rfl ?_
      exact g_retI X d1_13 (by decide) (by decide) ⟨congrArg (fun z => some (Value.int z)) (((if_pos c2).symm).trans (if_neg c1).symm), rfl⟩
    · skip
      have b_p2 : (0 : Int) ≤ p2.toInt ∧ p2.toInt ≤ 6 := by have z0 := c2; (try simp only [Int64.lt_iff_toInt_lt, Int32.lt_iff_toInt_lt, Int64.le_iff_toInt_le, Int32.le_iff_toInt_le, ← Int64.toInt_inj, ← Int32.toInt_inj, apply_ite Int64.toInt, apply_ite Int32.toInt, Int64.reduceToInt, Int32.reduceToInt, ne_eq] at z0); have z1 := rng32 p2; omega
      refine g_aloadN X d1_14 rfl (q := 15) rfl rfl ?_
      refine g_iloadN X d1_15 rfl (q := 16) rfl ?_
      refine g_baload X A_a1 (own_i16 c1 c2) d1_16 (q := 17) rfl ?_
      refine g_sipush X d1_17 rfl (q := 20) (v := 256) rfl ?_
      refine g_imul X d1_20 rfl (q := 21) ?_
      refine g_aloadN X d1_21 rfl (q := 22) rfl rfl ?_
      refine g_iloadN X d1_22 rfl (q := 23) rfl ?_
      refine g_iconst X d1_23 rfl (q := 24) (v := 1) rfl ?_
      refine g_iadd X d1_24 rfl (q := 25) ?_
      refine g_baload X A_a1 (own_i25 c1 c2) d1_25 (q := 26) rfl ?_
      refine g_sipush X d1_26 rfl (q := 29) (v := 255) rfl ?_
      refine g_iand X d1_29 rfl (q := 30) ?_
      refine g_iadd X d1_30 rfl (q := 31) ?_
      refine g_istoreN X d1_31 rfl (q := 32) (L' := #[.val (.ref a1), .val (.int p2), .val (.int (((F p2.toNatClampNeg) * (256 : Int32)) + ((F (p2 + (1 : Int32)).toNatClampNeg) &&& (255 : Int32))))]) rfl ?_
      refine g_iloadN X d1_32 rfl (q := 33) rfl ?_
      refine g_ifB X d1_33 (Or.inl rfl) (q := 36) rfl (by decide) (t := 38) rfl (fun (c3 : (((F p2.toNatClampNeg) * (256 : Int32)) + ((F (p2 + (1 : Int32)).toNatClampNeg) &&& (255 : Int32))) < (0 : Int32)) => ?_) (fun (c3 : ¬ ((((F p2.toNatClampNeg) * (256 : Int32)) + ((F (p2 + (1 : Int32)).toNatClampNeg) &&& (255 : Int32))) < (0 : Int32))) => ?_)
      · skip
        refine g_iconst X d1_36 rfl (q := 37) (v := -1) rfl ?_
        exact g_retI X d1_37 (by decide) (by decide) ⟨congrArg (fun z => some (Value.int z)) ((((if_pos c3).symm).trans (if_neg c2).symm).trans (if_neg c1).symm), rfl⟩
      · skip
        refine g_iloadN X d1_38 rfl (q := 39) rfl ?_
        refine g_iconst X d1_39 rfl (q := 40) (v := 2) rfl ?_
        refine g_iadd X d1_40 rfl (q := 41) ?_
        refine g_iloadN X d1_41 rfl (q := 42) rfl ?_
        refine g_iadd X d1_42 rfl (q := 43) ?_
        refine g_bipush X d1_43 rfl (q := 45) (v := 8) rfl ?_
        refine g_icmpB X d1_45 (Or.inr (Or.inl rfl)) (q := 48) rfl (by decide) (t := 50) rfl (fun (c4 : (8 : Int32) < ((p2 + (2 : Int32)) + (((F p2.toNatClampNeg) * (256 : Int32)) + ((F (p2 + (1 : Int32)).toNatClampNeg) &&& (255 : Int32))))) => ?_) (fun (c4 : ¬ ((8 : Int32) < ((p2 + (2 : Int32)) + (((F p2.toNatClampNeg) * (256 : Int32)) + ((F (p2 + (1 : Int32)).toNatClampNeg) &&& (255 : Int32)))))) => ?_)
        · skip
          refine g_iconst X d1_48 rfl (q := 49) (v := -1) rfl ?_
          exact g_retI X d1_49 (by decide) (by decide) ⟨congrArg (fun z => some (Value.int z)) (((((if_pos c4).symm).trans (if_neg c3).symm).trans (if_neg c2).symm).trans (if_neg c1).symm), rfl⟩
        · skip
          refine g_iloadN X d1_50 rfl (q := 51) rfl ?_
          refine g_iconst X d1_51 rfl (q := 52) (v := 2) rfl ?_
          refine g_iadd X d1_52 rfl (q := 53) ?_
          refine g_iloadN X d1_53 rfl (q := 54) rfl ?_
          refine g_iadd X d1_54 rfl (q := 55) ?_
          exact g_retI X d1_55 (by decide) (by decide) ⟨congrArg (fun z => some (Value.int z)) (((((if_neg c4).symm).trans (if_neg c3).symm).trans (if_neg c2).symm).trans (if_neg c1).symm), rfl⟩
theorem pn2 : plainName "com/example/retention/retention/protocol/ProtocolReader" = true := by first | (simp [plainName, overriddenIn]; done) | decide +kernel
theorem ef2 (m : MethodId) (x0 : Addr) (x1 : Int32) (x2 : Int32) : entryFrame m #[(.ref x0), (.int x1), (.int x2)] 6 = mkF m 0 #[.val (.ref x0), .val (.int x1), .val (.int x2), .unset, .unset, .unset] [] := by first | (simp [entryFrame, mkF, argsToLocals, Value.category]; done) | rfl
set_option maxRecDepth 65536 in
set_option maxHeartbeats 40000000 in
theorem rm2 (l : Launch) (Z : State) (a0 : Array Value) (hw : ∀ d ∈ tables_1, d.before a0 Z = true) (ws : List Jvm.Cond) (a1 : Addr) (p2 : Int32) (p3 : Int32) (F : Nat → Int32) (h0 : Heap) (n0 : Nat) (Z0 : n0 ≤ h0.size) (A_a1 : AI Z h0 a1 .byte 8 F) (k1 : ¬ (p2 < (0 : Int32))) (k2 : ¬ (p3 < (0 : Int32))) (hF : ∀ j : Nat, j < 8 → -128 ≤ (F j).toInt ∧ (F j).toInt ≤ 127) :
    Met l Z (⟨"com/example/retention/retention/protocol/ProtocolReader", "stringsEnd", "([BII)I"⟩ : MethodName) prog_75_method_12_code 6 (some .int) ({ frames := 0, cells := 0, slots := 0, locals := 0 } : Room) ws n0 #[(.ref a1), (.int p2), (.int p3)] h0 (fun v h' => v = some (.int (itr F p3.toNatClampNeg p2)) ∧ Keep h0 h' []) := by
  refine Met.intro (plainFor_of_name pn2) Z0 ?_
  intro p e s m below meth c T X
  refine g_cast (ef2 m a1 p2 p3) ?_
  have b_p2 : (0 : Int) ≤ p2.toInt ∧ p2.toInt ≤ 2147483647 := by (try simp only [Int64.lt_iff_toInt_lt, Int32.lt_iff_toInt_lt, Int64.le_iff_toInt_le, Int32.le_iff_toInt_le, ← Int64.toInt_inj, ← Int32.toInt_inj, apply_ite Int64.toInt, apply_ite Int32.toInt, Int64.reduceToInt, Int32.reduceToInt, ne_eq] at k1); have z1 := rng32 p2; omega
  have b_p3 : (0 : Int) ≤ p3.toInt ∧ p3.toInt ≤ 2147483647 := by (try simp only [Int64.lt_iff_toInt_lt, Int32.lt_iff_toInt_lt, Int64.le_iff_toInt_le, Int32.le_iff_toInt_le, ← Int64.toInt_inj, ← Int32.toInt_inj, apply_ite Int64.toInt, apply_ite Int32.toInt, Int64.reduceToInt, Int32.reduceToInt, ne_eq] at k2); have z1 := rng32 p3; omega
  have K : Keep h0 h0 [] := Keep.refl h0 _
  refine g_iloadN X d2_0 rfl (q := 1) rfl ?_
  refine g_istoreN X d2_1 rfl (q := 2) (L' := #[.val (.ref a1), .val (.int p2), .val (.int p3), .val (.int p2), .unset, .unset]) rfl ?_
  refine g_iconst X d2_2 rfl (q := 3) (v := 0) rfl ?_
  refine g_istore X d2_3 rfl (q := 5) (L' := #[.val (.ref a1), .val (.int p2), .val (.int p3), .val (.int p2), .val (.int (0 : Int32)), .unset]) rfl ?_
  refine g_loop3 X (H := 5) (fun (i : Int32) (en : Int32) (s5 : Slot) => (p3.toInt - i.toInt).toNat) (fun i en s5 h => AI Z h a1 .byte 8 F ∧ Keep h0 h [] ∧ 0 ≤ i.toInt ∧ i.toInt ≤ p3.toInt ∧ 0 ≤ en.toInt ∧ en = itr F i.toNatClampNeg p2 ∧ One s5) (fun i en s5 => #[.val (.ref a1), .val (.int p2), .val (.int p3), .val (.int en), .val (.int i), s5]) (fun i en s5 => []) 0 p2 .unset ⟨A_a1, K, (by decide), (by simp only [Int32.lt_iff_toInt_lt, Int32.reduceToInt] at k2 ⊢; omega), (by simp only [Int32.lt_iff_toInt_lt, Int32.reduceToInt] at k1 ⊢; omega), rfl, One.u⟩ (fun i en s5 T h X hI ih => ?_)
  have hI2 : AI Z h a1 .byte 8 F ∧ Keep h0 h [] ∧ 0 ≤ i.toInt ∧ i.toInt ≤ p3.toInt ∧ 0 ≤ en.toInt ∧ en = itr F i.toNatClampNeg p2 ∧ One s5 := hI
  obtain ⟨A_a1, K, i0, i1, e0, eI, hs5⟩ := hI2
  show Goes p e below s _ n0 _ (T.setTop (mkF m 5 #[.val (.ref a1), .val (.int p2), .val (.int p3), .val (.int en), .val (.int i), s5] []))
  refine g_iload X d2_5 rfl (q := 7) rfl ?_
  refine g_iloadN X d2_7 rfl (q := 8) rfl ?_
  refine g_icmpB X d2_8 (Or.inl rfl) (q := 11) rfl (by decide) (t := 75) rfl (fun (c1 : i < p3) => ?_) (fun (c1 : ¬ (i < p3)) => ?_)
  · skip
    refine g_aloadN X d2_11 rfl (q := 12) rfl rfl ?_
    refine g_alenI X A_a1 d2_12 (q := 13) rfl ?_
    show Goes p e below s _ n0 _ (T.setTop (mkF m 13 #[.val (.ref a1), .val (.int p2), .val (.int p3), .val (.int en), .val (.int i), s5] [(.int (8 : Int32))]))
    refine g_iloadN X d2_13 rfl (q := 14) rfl ?_
    refine g_isub X d2_14 rfl (q := 15) ?_
    refine g_iconst X d2_15 rfl (q := 16) (v := 2) rfl ?_
    refine g_icmpB X d2_16 (Or.inl rfl) (q := 19) rfl (by decide) (t := 21) rfl (fun (c2 : ((8 : Int32) - en) < (2 : Int32)) => ?_) (fun (c2 : ¬ (((8 : Int32) - en) < (2 : Int32))) => ?_)
    · skip
      refine g_iconst X d2_19 rfl (q := 20) (v := -1) rfl ?_
      exact g_retI X d2_20 (by decide) (by decide) ⟨congrArg (fun z => some (Value.int z)) (own_dead (k := i.toNatClampNeg + 1) (show stp F (itr F i.toNatClampNeg p2) = -1 by rw [← eI]; exact own_stp1 e0 c2) _ (by simp only [Int32.lt_iff_toInt_lt] at c1; simp only [Int32.toNatClampNeg]; omega)).symm, K⟩
    · skip
      refine g_aloadN X d2_21 rfl (q := 22) rfl rfl ?_
      refine g_iloadN X d2_22 rfl (q := 23) rfl ?_
      refine g_baload X A_a1 (own_ie1 e0 c2) d2_23 (q := 24) rfl ?_
      refine g_sipush X d2_24 rfl (q := 27) (v := 255) rfl ?_
      refine g_iand X d2_27 rfl (q := 28) ?_
      refine g_bipush X d2_28 rfl (q := 30) (v := 8) rfl ?_
      refine g_ishl X d2_30 rfl (q := 31) ?_
      refine g_aloadN X d2_31 rfl (q := 32) rfl rfl ?_
      refine g_iloadN X d2_32 rfl (q := 33) rfl ?_
      refine g_iconst X d2_33 rfl (q := 34) (v := 1) rfl ?_
      refine g_iadd X d2_34 rfl (q := 35) ?_
      refine g_baload X A_a1 (own_ie2 e0 c2) d2_35 (q := 36) rfl ?_
      refine g_sipush X d2_36 rfl (q := 39) (v := 255) rfl ?_
      refine g_iand X d2_39 rfl (q := 40) ?_
      refine g_ior X d2_40 rfl (q := 41) ?_
      refine g_i2s X d2_41 rfl (q := 42) ?_
      refine g_eqI (y := (((F en.toNatClampNeg) * (256 : Int32)) + ((F (en + (1 : Int32)).toNatClampNeg) &&& (255 : Int32)))) (own_short _ _ (hF _ (own_ixn (own_ie1 e0 c2)))) ?_
      refine g_letI (fun len hlen => ?_)
      refine g_istore X d2_42 rfl (q := 44) (L' := #[.val (.ref a1), .val (.int p2), .val (.int p3), .val (.int en), .val (.int i), .val (.int len)]) (XS.store1 rfl hs5 rfl) ?_
      refine g_iload X d2_44 rfl (q := 46) rfl ?_
      refine g_ifA X d2_46 (Or.inl rfl) (q := 49) rfl (by decide) (t := 60) rfl (fun (c3 : len < (0 : Int32)) => ?_) (fun (c3 : ¬ (len < (0 : Int32))) => ?_)
      · skip
        have b_len : (-2147483648 : Int) ≤ len.toInt ∧ len.toInt ≤ -1 := by have z0 := c3; (try simp only [Int64.lt_iff_toInt_lt, Int32.lt_iff_toInt_lt, Int64.le_iff_toInt_le, Int32.le_iff_toInt_le, ← Int64.toInt_inj, ← Int32.toInt_inj, apply_ite Int64.toInt, apply_ite Int32.toInt, Int64.reduceToInt, Int32.reduceToInt, ne_eq] at z0); have z1 := rng32 len; omega
        refine g_iconst X d2_60 rfl (q := 61) (v := -1) rfl ?_
        exact g_retI X d2_61 (by decide) (by decide) ⟨congrArg (fun z => some (Value.int z)) (own_dead (k := i.toNatClampNeg + 1) (show stp F (itr F i.toNatClampNeg p2) = -1 by rw [← eI]; exact (own_stpA e0 c2 hlen).trans (if_pos c3)) _ (by simp only [Int32.lt_iff_toInt_lt] at c1; simp only [Int32.toNatClampNeg]; omega)).symm, K⟩
      · skip
        have b_len : (0 : Int) ≤ len.toInt ∧ len.toInt ≤ 2147483647 := by have z0 := c3; (try simp only [Int64.lt_iff_toInt_lt, Int32.lt_iff_toInt_lt, Int64.le_iff_toInt_le, Int32.le_iff_toInt_le, ← Int64.toInt_inj, ← Int32.toInt_inj, apply_ite Int64.toInt, apply_ite Int32.toInt, Int64.reduceToInt, Int32.reduceToInt, ne_eq] at z0); have z1 := rng32 len; omega
        refine g_aloadN X d2_49 rfl (q := 50) rfl rfl ?_
        refine g_alenI X A_a1 d2_50 (q := 51) rfl ?_
        show Goes p e below s _ n0 _ (T.setTop (mkF m 51 #[.val (.ref a1), .val (.int p2), .val (.int p3), .val (.int en), .val (.int i), .val (.int len)] [(.int (8 : Int32))]))
        refine g_iloadN X d2_51 rfl (q := 52) rfl ?_
        refine g_isub X d2_52 rfl (q := 53) ?_
        refine g_iconst X d2_53 rfl (q := 54) (v := 2) rfl ?_
        refine g_isub X d2_54 rfl (q := 55) ?_
        refine g_iload X d2_55 rfl (q := 57) rfl ?_
        refine g_icmpB X d2_57 (Or.inl rfl) (q := 60) rfl (by decide) (t := 62) rfl (fun (c4 : (((8 : Int32) - en) - (2 : Int32)) < len) => ?_) (fun (c4 : ¬ ((((8 : Int32) - en) - (2 : Int32)) < len)) => ?_)
        · skip
          refine g_iconst X d2_60 rfl (q := 61) (v := -1) rfl ?_
          exact g_retI X d2_61 (by decide) (by decide) ⟨congrArg (fun z => some (Value.int z)) (own_dead (k := i.toNatClampNeg + 1) (show stp F (itr F i.toNatClampNeg p2) = -1 by rw [← eI]; exact (own_stpA e0 c2 hlen).trans ((if_neg c3).trans (if_pos (by have q2 := own_ie e0 c2; have q3 := own_len hF e0 c2; rw [← hlen] at q3; have q4 := own_sum e0 q2 q3; simp only [Int32.lt_iff_toInt_lt, Int32.reduceToInt] at c4 ⊢; omega)))) _ (by simp only [Int32.lt_iff_toInt_lt] at c1; simp only [Int32.toNatClampNeg]; omega)).symm, K⟩
        · skip
          refine g_iloadN X d2_62 rfl (q := 63) rfl ?_
          refine g_iconst X d2_63 rfl (q := 64) (v := 2) rfl ?_
          refine g_iload X d2_64 rfl (q := 66) rfl ?_
          refine g_iadd X d2_66 rfl (q := 67) ?_
          refine g_iadd X d2_67 rfl (q := 68) ?_
          refine g_istoreN X d2_68 rfl (q := 69) (L' := #[.val (.ref a1), .val (.int p2), .val (.int p3), .val (.int (en + ((2 : Int32) + len))), .val (.int i), .val (.int len)]) rfl ?_
          refine g_iinc X d2_69 (q := 72) rfl rfl (d := 1) rfl (L' := #[.val (.ref a1), .val (.int p2), .val (.int p3), .val (.int (en + ((2 : Int32) + len))), .val (.int (i + (1 : Int32))), .val (.int len)]) rfl ?_
          refine g_goto X d2_72 (by decide) (q := 5) rfl ?_
          have c1' : i.toInt < p3.toInt := Int32.lt_iff_toInt_lt.mp c1
          have q1 := own_iaddE i 1 (by simp only [Int32.reduceToInt]; have z := rng32 p3; omega)
          simp only [Int32.reduceToInt] at q1
          have q2 := own_ie e0 c2
          have q3 := own_len hF e0 c2
          rw [← hlen] at q3
          have q4 := own_sum e0 q2 q3
          have q5 : itr F (i + 1).toNatClampNeg p2 = (en + ((2 : Int32) + len)) := by
            have z : (i + 1).toNatClampNeg = i.toNatClampNeg + 1 := by simp only [Int32.toNatClampNeg, q1]; omega
            rw [z]; show stp F (itr F i.toNatClampNeg p2) = _
            rw [← eI, own_stpA e0 c2 hlen, if_neg c3, if_neg (by simp only [Int32.lt_iff_toInt_lt, Int32.reduceToInt] at c4 ⊢; omega)]
            exact Int32.toInt_inj.mp (by omega)
          have q6 : 0 ≤ len.toInt := by simp only [Int32.lt_iff_toInt_lt, Int32.reduceToInt] at c3; omega
          exact ih (i + 1) (en + ((2 : Int32) + len)) (.val (.int len)) T _ X ⟨A_a1, K, (by omega), (by omega), (by omega), q5.symm, (One.val rfl)⟩ (by show (p3.toInt - (i + (1 : Int32)).toInt).toNat < (p3.toInt - i.toInt).toNat; omega)
  · skip
    refine g_iloadN X d2_75 rfl (q := 76) rfl ?_
    exact g_retI X d2_76 (by decide) (by decide) ⟨congrArg (fun z => some (Value.int z)) (by have z : i.toInt = p3.toInt := by { simp only [Int32.lt_iff_toInt_lt] at c1; omega }; rw [← Int32.toInt_inj.mp z]; exact eI), K⟩
theorem pn0 : plainName "com/example/retention/retention/protocol/ProtocolReaderStringsEndPinLaw" = true := by first | (simp [plainName, overriddenIn]; done) | decide +kernel
theorem ef0 (m : MethodId) (x0 : Int64) (x1 : Int32) (x2 : Int32) (x3 : Int32) : entryFrame m #[(.long x0), (.int x1), (.int x2), (.int x3)] maxLocals = mkF m 0 #[.val (.long x0), .second, .val (.int x1), .val (.int x2), .val (.int x3), .unset, .unset, .unset, .unset, .unset, .unset, .unset] [] := by first | (simp [entryFrame, mkF, argsToLocals, Value.category, maxLocals]; done) | rfl
set_option maxRecDepth 65536 in
set_option maxHeartbeats 40000000 in
theorem rm0 (l : Launch) (Z : State) (a0 : Array Value) (hw : ∀ d ∈ tables_1, d.before a0 Z = true) (ws : List Jvm.Cond) (q1 : Int64) (p2 : Int32) (p3 : Int32) (p4 : Int32) (h0 : Heap) (n0 : Nat) (Z0 : n0 ≤ h0.size) :
    Met l Z x code maxLocals ret room_1 ws n0 #[(.long q1), (.int p2), (.int p3), (.int p4)] h0 (fun v h' => v = some (.int 1)) := by
  refine Met.intro (plainFor_of_name pn0) Z0 ?_
  intro p e s m below meth c T X
  refine g_cast (ef0 m q1 p2 p3 p4) ?_
  refine g_iload X at_0 rfl (q := 2) rfl ?_
  refine g_iconst X at_2 rfl (q := 3) (v := 1) rfl ?_
  refine g_iand X at_3 rfl (q := 4) ?_
  refine g_jT1 X (J := 16) (P := fun (s0_16 : Int64) => s0_16 = (if (p4 &&& (1 : Int32)) = (0 : Int32) then (255 : Int64) else (3 : Int64))) (L := fun s0_16 => #[.val (.long q1), .second, .val (.int p2), .val (.int p3), .val (.int p4), .unset, .unset, .unset, .unset, .unset, .unset, .unset]) (S := fun s0_16 => [(.long s0_16)]) ?_ ?_
  · intro T X s0_16 hs0_16
    replace hs0_16 : s0_16 = (if (p4 &&& (1 : Int32)) = (0 : Int32) then (255 : Int64) else (3 : Int64)) := hs0_16
    show Goes p e below s _ n0 _ (T.setTop (mkF m 16 #[.val (.long q1), .second, .val (.int p2), .val (.int p3), .val (.int p4), .unset, .unset, .unset, .unset, .unset, .unset, .unset] [(.long s0_16)]))
    have b_s0_16 : (3 : Int) ≤ s0_16.toInt ∧ s0_16.toInt ≤ 255 := by
      have z0 := hs0_16
      have f1 := rng32 p4
      obtain ⟨n1_, hn1_⟩ : ∃ z, z = (p4 &&& (1 : Int32)) := ⟨_, rfl⟩
      (try simp only [← hn1_] at z0)
      have f2 := own_mB p4 (1 : Int32) 1 (by decide) (by decide) 1 (by decide)
      (try rw [← hn1_] at f2)
      have e0 := congrArg Int64.toInt z0
      (try simp only [Int64.lt_iff_toInt_lt, Int32.lt_iff_toInt_lt, Int64.le_iff_toInt_le, Int32.le_iff_toInt_le, ← Int64.toInt_inj, ← Int32.toInt_inj, apply_ite Int64.toInt, apply_ite Int32.toInt, Int64.reduceToInt, Int32.reduceToInt, ne_eq, true_and, and_true, false_or, or_false, iff_self, and_self, not_true_eq_false, not_false_eq_true] at e0)
      omega
    refine g_lstore X at_16 rfl (q := 18) (L' := #[.val (.long q1), .second, .val (.int p2), .val (.int p3), .val (.int p4), .val (.long s0_16), .second, .unset, .unset, .unset, .unset, .unset]) rfl ?_
    refine g_bipush X at_18 rfl (q := 20) (v := 8) rfl ?_
    refine g_newarrI X (aty := .byte) rfl (tw1 hw) at_20 (q := 22) rfl (by decide) (cap := 8) (by decide) (by decide) (c2 := 1) (s2 := 8) rfl rfl (by decide) (by decide) (fun T h' b1 X gz_b1 g_b1 E A_new => ?_)
    have A_b1 : AI Z h' b1 .byte 8 (fun _ => 0) := A_new
    refine g_astore X at_22 rfl (q := 24) (L' := #[.val (.long q1), .second, .val (.int p2), .val (.int p3), .val (.int p4), .val (.long s0_16), .second, .val (.ref b1), .unset, .unset, .unset, .unset]) rfl rfl ?_
    refine g_aload X at_24 rfl (q := 26) rfl rfl ?_
    refine g_iconst X at_26 rfl (q := 27) (v := 0) rfl ?_
    refine g_lloadN X at_27 rfl (q := 28) rfl ?_
    refine g_lload X at_28 rfl (q := 30) rfl ?_
    refine g_land X at_30 rfl (q := 31) ?_
    refine g_l2i X at_31 rfl (q := 32) ?_
    refine g_i2b X at_32 rfl (q := 33) ?_
    refine g_letI (fun y33 hy33 => ?_)
    have b_y33 : (-128 : Int) ≤ y33.toInt ∧ y33.toInt ≤ 127 := by
      have z0 := hy33
      have f1 := rng64 q1
      obtain ⟨n1_, hn1_⟩ : ∃ z, z = (q1 &&& s0_16) := ⟨_, rfl⟩
      (try simp only [← hn1_] at z0)
      have f2 := rng64 n1_
      obtain ⟨n2_, hn2_⟩ : ∃ z, z = n1_.toInt32 := ⟨_, rfl⟩
      (try simp only [← hn2_] at z0)
      have f3 := c_l2i n1_
      (try rw [← hn2_] at f3)
      have f4 := rng32 n2_
      obtain ⟨n3_, hn3_⟩ : ∃ z, z = n2_.toInt8.toInt32 := ⟨_, rfl⟩
      (try simp only [← hn3_] at z0)
      have f5 := c_i2b n2_
      (try rw [← hn3_] at f5)
      have e0 := congrArg Int32.toInt z0
      (try simp only [Int64.lt_iff_toInt_lt, Int32.lt_iff_toInt_lt, Int64.le_iff_toInt_le, Int32.le_iff_toInt_le, ← Int64.toInt_inj, ← Int32.toInt_inj, apply_ite Int64.toInt, apply_ite Int32.toInt, Int64.reduceToInt, Int32.reduceToInt, ne_eq, true_and, and_true, false_or, or_false, iff_self, and_self, not_true_eq_false, not_false_eq_true] at e0)
      omega
    refine g_bastore X A_b1 ⟨by decide, by decide⟩ g_b1 at_33 (q := 34) rfl (fun T h X W => ?_)
    have A_b1 : AI Z h b1 .byte 8 (own_up (fun _ => 0) 0 (nar .byte y33)) := A_b1.set W
    refine g_aload X at_34 rfl (q := 36) rfl rfl ?_
    refine g_iconst X at_36 rfl (q := 37) (v := 1) rfl ?_
    refine g_lloadN X at_37 rfl (q := 38) rfl ?_
    refine g_bipush X at_38 rfl (q := 40) (v := 8) rfl ?_
    refine g_lushr X at_40 rfl (q := 41) ?_
    refine g_lload X at_41 rfl (q := 43) rfl ?_
    refine g_land X at_43 rfl (q := 44) ?_
    refine g_l2i X at_44 rfl (q := 45) ?_
    refine g_i2b X at_45 rfl (q := 46) ?_
    refine g_letI (fun y46 hy46 => ?_)
    have b_y46 : (-128 : Int) ≤ y46.toInt ∧ y46.toInt ≤ 127 := by
      have z0 := hy46
      obtain ⟨n1_, hn1_⟩ : ∃ z, z = (q1.toUInt64 >>> ((8 : Int32) &&& 63).toInt64.toUInt64).toInt64 := ⟨_, rfl⟩
      (try simp only [← hn1_] at z0)
      have f1 := rng64 n1_
      obtain ⟨n2_, hn2_⟩ : ∃ z, z = (n1_ &&& s0_16) := ⟨_, rfl⟩
      (try simp only [← hn2_] at z0)
      have f2 := rng64 n2_
      obtain ⟨n3_, hn3_⟩ : ∃ z, z = n2_.toInt32 := ⟨_, rfl⟩
      (try simp only [← hn3_] at z0)
      have f3 := c_l2i n2_
      (try rw [← hn3_] at f3)
      have f4 := rng32 n3_
      obtain ⟨n4_, hn4_⟩ : ∃ z, z = n3_.toInt8.toInt32 := ⟨_, rfl⟩
      (try simp only [← hn4_] at z0)
      have f5 := c_i2b n3_
      (try rw [← hn4_] at f5)
      have e0 := congrArg Int32.toInt z0
      (try simp only [Int64.lt_iff_toInt_lt, Int32.lt_iff_toInt_lt, Int64.le_iff_toInt_le, Int32.le_iff_toInt_le, ← Int64.toInt_inj, ← Int32.toInt_inj, apply_ite Int64.toInt, apply_ite Int32.toInt, Int64.reduceToInt, Int32.reduceToInt, ne_eq, true_and, and_true, false_or, or_false, iff_self, and_self, not_true_eq_false, not_false_eq_true] at e0)
      omega
    refine g_bastore X A_b1 ⟨by decide, by decide⟩ g_b1 at_46 (q := 47) rfl (fun T h X W => ?_)
    have A_b1 : AI Z h b1 .byte 8 (own_up (own_up (fun _ => 0) 0 (nar .byte y33)) 1 (nar .byte y46)) := A_b1.set W
    refine g_aload X at_47 rfl (q := 49) rfl rfl ?_
    refine g_iconst X at_49 rfl (q := 50) (v := 2) rfl ?_
    refine g_lloadN X at_50 rfl (q := 51) rfl ?_
    refine g_bipush X at_51 rfl (q := 53) (v := 16) rfl ?_
    refine g_lushr X at_53 rfl (q := 54) ?_
    refine g_lload X at_54 rfl (q := 56) rfl ?_
    refine g_land X at_56 rfl (q := 57) ?_
    refine g_l2i X at_57 rfl (q := 58) ?_
    refine g_i2b X at_58 rfl (q := 59) ?_
    refine g_letI (fun y59 hy59 => ?_)
    have b_y59 : (-128 : Int) ≤ y59.toInt ∧ y59.toInt ≤ 127 := by
      have z0 := hy59
      obtain ⟨n1_, hn1_⟩ : ∃ z, z = (q1.toUInt64 >>> ((16 : Int32) &&& 63).toInt64.toUInt64).toInt64 := ⟨_, rfl⟩
      (try simp only [← hn1_] at z0)
      have f1 := rng64 n1_
      obtain ⟨n2_, hn2_⟩ : ∃ z, z = (n1_ &&& s0_16) := ⟨_, rfl⟩
      (try simp only [← hn2_] at z0)
      have f2 := rng64 n2_
      obtain ⟨n3_, hn3_⟩ : ∃ z, z = n2_.toInt32 := ⟨_, rfl⟩
      (try simp only [← hn3_] at z0)
      have f3 := c_l2i n2_
      (try rw [← hn3_] at f3)
      have f4 := rng32 n3_
      obtain ⟨n4_, hn4_⟩ : ∃ z, z = n3_.toInt8.toInt32 := ⟨_, rfl⟩
      (try simp only [← hn4_] at z0)
      have f5 := c_i2b n3_
      (try rw [← hn4_] at f5)
      have e0 := congrArg Int32.toInt z0
      (try simp only [Int64.lt_iff_toInt_lt, Int32.lt_iff_toInt_lt, Int64.le_iff_toInt_le, Int32.le_iff_toInt_le, ← Int64.toInt_inj, ← Int32.toInt_inj, apply_ite Int64.toInt, apply_ite Int32.toInt, Int64.reduceToInt, Int32.reduceToInt, ne_eq, true_and, and_true, false_or, or_false, iff_self, and_self, not_true_eq_false, not_false_eq_true] at e0)
      omega
    refine g_bastore X A_b1 ⟨by decide, by decide⟩ g_b1 at_59 (q := 60) rfl (fun T h X W => ?_)
    have A_b1 : AI Z h b1 .byte 8 (own_up (own_up (own_up (fun _ => 0) 0 (nar .byte y33)) 1 (nar .byte y46)) 2 (nar .byte y59)) := A_b1.set W
    refine g_aload X at_60 rfl (q := 62) rfl rfl ?_
    refine g_iconst X at_62 rfl (q := 63) (v := 3) rfl ?_
    refine g_lloadN X at_63 rfl (q := 64) rfl ?_
    refine g_bipush X at_64 rfl (q := 66) (v := 24) rfl ?_
    refine g_lushr X at_66 rfl (q := 67) ?_
    refine g_lload X at_67 rfl (q := 69) rfl ?_
    refine g_land X at_69 rfl (q := 70) ?_
    refine g_l2i X at_70 rfl (q := 71) ?_
    refine g_i2b X at_71 rfl (q := 72) ?_
    refine g_letI (fun y72 hy72 => ?_)
    have b_y72 : (-128 : Int) ≤ y72.toInt ∧ y72.toInt ≤ 127 := by
      have z0 := hy72
      obtain ⟨n1_, hn1_⟩ : ∃ z, z = (q1.toUInt64 >>> ((24 : Int32) &&& 63).toInt64.toUInt64).toInt64 := ⟨_, rfl⟩
      (try simp only [← hn1_] at z0)
      have f1 := rng64 n1_
      obtain ⟨n2_, hn2_⟩ : ∃ z, z = (n1_ &&& s0_16) := ⟨_, rfl⟩
      (try simp only [← hn2_] at z0)
      have f2 := rng64 n2_
      obtain ⟨n3_, hn3_⟩ : ∃ z, z = n2_.toInt32 := ⟨_, rfl⟩
      (try simp only [← hn3_] at z0)
      have f3 := c_l2i n2_
      (try rw [← hn3_] at f3)
      have f4 := rng32 n3_
      obtain ⟨n4_, hn4_⟩ : ∃ z, z = n3_.toInt8.toInt32 := ⟨_, rfl⟩
      (try simp only [← hn4_] at z0)
      have f5 := c_i2b n3_
      (try rw [← hn4_] at f5)
      have e0 := congrArg Int32.toInt z0
      (try simp only [Int64.lt_iff_toInt_lt, Int32.lt_iff_toInt_lt, Int64.le_iff_toInt_le, Int32.le_iff_toInt_le, ← Int64.toInt_inj, ← Int32.toInt_inj, apply_ite Int64.toInt, apply_ite Int32.toInt, Int64.reduceToInt, Int32.reduceToInt, ne_eq, true_and, and_true, false_or, or_false, iff_self, and_self, not_true_eq_false, not_false_eq_true] at e0)
      omega
    refine g_bastore X A_b1 ⟨by decide, by decide⟩ g_b1 at_72 (q := 73) rfl (fun T h X W => ?_)
    have A_b1 : AI Z h b1 .byte 8 (own_up (own_up (own_up (own_up (fun _ => 0) 0 (nar .byte y33)) 1 (nar .byte y46)) 2 (nar .byte y59)) 3 (nar .byte y72)) := A_b1.set W
    refine g_aload X at_73 rfl (q := 75) rfl rfl ?_
    refine g_iconst X at_75 rfl (q := 76) (v := 4) rfl ?_
    refine g_lloadN X at_76 rfl (q := 77) rfl ?_
    refine g_bipush X at_77 rfl (q := 79) (v := 32) rfl ?_
    refine g_lushr X at_79 rfl (q := 80) ?_
    refine g_lload X at_80 rfl (q := 82) rfl ?_
    refine g_land X at_82 rfl (q := 83) ?_
    refine g_l2i X at_83 rfl (q := 84) ?_
    refine g_i2b X at_84 rfl (q := 85) ?_
    refine g_letI (fun y85 hy85 => ?_)
    have b_y85 : (-128 : Int) ≤ y85.toInt ∧ y85.toInt ≤ 127 := by
      have z0 := hy85
      obtain ⟨n1_, hn1_⟩ : ∃ z, z = (q1.toUInt64 >>> ((32 : Int32) &&& 63).toInt64.toUInt64).toInt64 := ⟨_, rfl⟩
      (try simp only [← hn1_] at z0)
      have f1 := rng64 n1_
      obtain ⟨n2_, hn2_⟩ : ∃ z, z = (n1_ &&& s0_16) := ⟨_, rfl⟩
      (try simp only [← hn2_] at z0)
      have f2 := rng64 n2_
      obtain ⟨n3_, hn3_⟩ : ∃ z, z = n2_.toInt32 := ⟨_, rfl⟩
      (try simp only [← hn3_] at z0)
      have f3 := c_l2i n2_
      (try rw [← hn3_] at f3)
      have f4 := rng32 n3_
      obtain ⟨n4_, hn4_⟩ : ∃ z, z = n3_.toInt8.toInt32 := ⟨_, rfl⟩
      (try simp only [← hn4_] at z0)
      have f5 := c_i2b n3_
      (try rw [← hn4_] at f5)
      have e0 := congrArg Int32.toInt z0
      (try simp only [Int64.lt_iff_toInt_lt, Int32.lt_iff_toInt_lt, Int64.le_iff_toInt_le, Int32.le_iff_toInt_le, ← Int64.toInt_inj, ← Int32.toInt_inj, apply_ite Int64.toInt, apply_ite Int32.toInt, Int64.reduceToInt, Int32.reduceToInt, ne_eq, true_and, and_true, false_or, or_false, iff_self, and_self, not_true_eq_false, not_false_eq_true] at e0)
      omega
    refine g_bastore X A_b1 ⟨by decide, by decide⟩ g_b1 at_85 (q := 86) rfl (fun T h X W => ?_)
    have A_b1 : AI Z h b1 .byte 8 (own_up (own_up (own_up (own_up (own_up (fun _ => 0) 0 (nar .byte y33)) 1 (nar .byte y46)) 2 (nar .byte y59)) 3 (nar .byte y72)) 4 (nar .byte y85)) := A_b1.set W
    refine g_aload X at_86 rfl (q := 88) rfl rfl ?_
    refine g_iconst X at_88 rfl (q := 89) (v := 5) rfl ?_
    refine g_lloadN X at_89 rfl (q := 90) rfl ?_
    refine g_bipush X at_90 rfl (q := 92) (v := 40) rfl ?_
    refine g_lushr X at_92 rfl (q := 93) ?_
    refine g_lload X at_93 rfl (q := 95) rfl ?_
    refine g_land X at_95 rfl (q := 96) ?_
    refine g_l2i X at_96 rfl (q := 97) ?_
    refine g_i2b X at_97 rfl (q := 98) ?_
    refine g_letI (fun y98 hy98 => ?_)
    have b_y98 : (-128 : Int) ≤ y98.toInt ∧ y98.toInt ≤ 127 := by
      have z0 := hy98
      obtain ⟨n1_, hn1_⟩ : ∃ z, z = (q1.toUInt64 >>> ((40 : Int32) &&& 63).toInt64.toUInt64).toInt64 := ⟨_, rfl⟩
      (try simp only [← hn1_] at z0)
      have f1 := rng64 n1_
      obtain ⟨n2_, hn2_⟩ : ∃ z, z = (n1_ &&& s0_16) := ⟨_, rfl⟩
      (try simp only [← hn2_] at z0)
      have f2 := rng64 n2_
      obtain ⟨n3_, hn3_⟩ : ∃ z, z = n2_.toInt32 := ⟨_, rfl⟩
      (try simp only [← hn3_] at z0)
      have f3 := c_l2i n2_
      (try rw [← hn3_] at f3)
      have f4 := rng32 n3_
      obtain ⟨n4_, hn4_⟩ : ∃ z, z = n3_.toInt8.toInt32 := ⟨_, rfl⟩
      (try simp only [← hn4_] at z0)
      have f5 := c_i2b n3_
      (try rw [← hn4_] at f5)
      have e0 := congrArg Int32.toInt z0
      (try simp only [Int64.lt_iff_toInt_lt, Int32.lt_iff_toInt_lt, Int64.le_iff_toInt_le, Int32.le_iff_toInt_le, ← Int64.toInt_inj, ← Int32.toInt_inj, apply_ite Int64.toInt, apply_ite Int32.toInt, Int64.reduceToInt, Int32.reduceToInt, ne_eq, true_and, and_true, false_or, or_false, iff_self, and_self, not_true_eq_false, not_false_eq_true] at e0)
      omega
    refine g_bastore X A_b1 ⟨by decide, by decide⟩ g_b1 at_98 (q := 99) rfl (fun T h X W => ?_)
    have A_b1 : AI Z h b1 .byte 8 (own_up (own_up (own_up (own_up (own_up (own_up (fun _ => 0) 0 (nar .byte y33)) 1 (nar .byte y46)) 2 (nar .byte y59)) 3 (nar .byte y72)) 4 (nar .byte y85)) 5 (nar .byte y98)) := A_b1.set W
    refine g_aload X at_99 rfl (q := 101) rfl rfl ?_
    refine g_bipush X at_101 rfl (q := 103) (v := 6) rfl ?_
    refine g_lloadN X at_103 rfl (q := 104) rfl ?_
    refine g_bipush X at_104 rfl (q := 106) (v := 48) rfl ?_
    refine g_lushr X at_106 rfl (q := 107) ?_
    refine g_lload X at_107 rfl (q := 109) rfl ?_
    refine g_land X at_109 rfl (q := 110) ?_
    refine g_l2i X at_110 rfl (q := 111) ?_
    refine g_i2b X at_111 rfl (q := 112) ?_
    refine g_letI (fun y112 hy112 => ?_)
    have b_y112 : (-128 : Int) ≤ y112.toInt ∧ y112.toInt ≤ 127 := by
      have z0 := hy112
      obtain ⟨n1_, hn1_⟩ : ∃ z, z = (q1.toUInt64 >>> ((48 : Int32) &&& 63).toInt64.toUInt64).toInt64 := ⟨_, rfl⟩
      (try simp only [← hn1_] at z0)
      have f1 := rng64 n1_
      obtain ⟨n2_, hn2_⟩ : ∃ z, z = (n1_ &&& s0_16) := ⟨_, rfl⟩
      (try simp only [← hn2_] at z0)
      have f2 := rng64 n2_
      obtain ⟨n3_, hn3_⟩ : ∃ z, z = n2_.toInt32 := ⟨_, rfl⟩
      (try simp only [← hn3_] at z0)
      have f3 := c_l2i n2_
      (try rw [← hn3_] at f3)
      have f4 := rng32 n3_
      obtain ⟨n4_, hn4_⟩ : ∃ z, z = n3_.toInt8.toInt32 := ⟨_, rfl⟩
      (try simp only [← hn4_] at z0)
      have f5 := c_i2b n3_
      (try rw [← hn4_] at f5)
      have e0 := congrArg Int32.toInt z0
      (try simp only [Int64.lt_iff_toInt_lt, Int32.lt_iff_toInt_lt, Int64.le_iff_toInt_le, Int32.le_iff_toInt_le, ← Int64.toInt_inj, ← Int32.toInt_inj, apply_ite Int64.toInt, apply_ite Int32.toInt, Int64.reduceToInt, Int32.reduceToInt, ne_eq, true_and, and_true, false_or, or_false, iff_self, and_self, not_true_eq_false, not_false_eq_true] at e0)
      omega
    refine g_bastore X A_b1 ⟨by decide, by decide⟩ g_b1 at_112 (q := 113) rfl (fun T h X W => ?_)
    have A_b1 : AI Z h b1 .byte 8 (own_up (own_up (own_up (own_up (own_up (own_up (own_up (fun _ => 0) 0 (nar .byte y33)) 1 (nar .byte y46)) 2 (nar .byte y59)) 3 (nar .byte y72)) 4 (nar .byte y85)) 5 (nar .byte y98)) 6 (nar .byte y112)) := A_b1.set W
    refine g_aload X at_113 rfl (q := 115) rfl rfl ?_
    refine g_bipush X at_115 rfl (q := 117) (v := 7) rfl ?_
    refine g_lloadN X at_117 rfl (q := 118) rfl ?_
    refine g_bipush X at_118 rfl (q := 120) (v := 56) rfl ?_
    refine g_lushr X at_120 rfl (q := 121) ?_
    refine g_lload X at_121 rfl (q := 123) rfl ?_
    refine g_land X at_123 rfl (q := 124) ?_
    refine g_l2i X at_124 rfl (q := 125) ?_
    refine g_i2b X at_125 rfl (q := 126) ?_
    refine g_letI (fun y126 hy126 => ?_)
    have b_y126 : (-128 : Int) ≤ y126.toInt ∧ y126.toInt ≤ 127 := by
      have z0 := hy126
      obtain ⟨n1_, hn1_⟩ : ∃ z, z = (q1.toUInt64 >>> ((56 : Int32) &&& 63).toInt64.toUInt64).toInt64 := ⟨_, rfl⟩
      (try simp only [← hn1_] at z0)
      have f1 := rng64 n1_
      obtain ⟨n2_, hn2_⟩ : ∃ z, z = (n1_ &&& s0_16) := ⟨_, rfl⟩
      (try simp only [← hn2_] at z0)
      have f2 := rng64 n2_
      obtain ⟨n3_, hn3_⟩ : ∃ z, z = n2_.toInt32 := ⟨_, rfl⟩
      (try simp only [← hn3_] at z0)
      have f3 := c_l2i n2_
      (try rw [← hn3_] at f3)
      have f4 := rng32 n3_
      obtain ⟨n4_, hn4_⟩ : ∃ z, z = n3_.toInt8.toInt32 := ⟨_, rfl⟩
      (try simp only [← hn4_] at z0)
      have f5 := c_i2b n3_
      (try rw [← hn4_] at f5)
      have e0 := congrArg Int32.toInt z0
      (try simp only [Int64.lt_iff_toInt_lt, Int32.lt_iff_toInt_lt, Int64.le_iff_toInt_le, Int32.le_iff_toInt_le, ← Int64.toInt_inj, ← Int32.toInt_inj, apply_ite Int64.toInt, apply_ite Int32.toInt, Int64.reduceToInt, Int32.reduceToInt, ne_eq, true_and, and_true, false_or, or_false, iff_self, and_self, not_true_eq_false, not_false_eq_true] at e0)
      omega
    refine g_bastore X A_b1 ⟨by decide, by decide⟩ g_b1 at_126 (q := 127) rfl (fun T h X W => ?_)
    have A_b1 : AI Z h b1 .byte 8 (own_up (own_up (own_up (own_up (own_up (own_up (own_up (own_up (fun _ => 0) 0 (nar .byte y33)) 1 (nar .byte y46)) 2 (nar .byte y59)) 3 (nar .byte y72)) 4 (nar .byte y85)) 5 (nar .byte y98)) 6 (nar .byte y112)) 7 (nar .byte y126)) := A_b1.set W
    obtain ⟨F, hFd⟩ : ∃ z : Nat → Int32, z = (own_up (own_up (own_up (own_up (own_up (own_up (own_up (own_up (fun _ => 0) 0 (nar .byte y33)) 1 (nar .byte y46)) 2 (nar .byte y59)) 3 (nar .byte y72)) 4 (nar .byte y85)) 5 (nar .byte y98)) 6 (nar .byte y112)) 7 (nar .byte y126)) := ⟨_, rfl⟩
    rw [← hFd] at A_b1
    have hF : ∀ j : Nat, j < 8 → -128 ≤ (F j).toInt ∧ (F j).toInt ≤ 127 := by
      rw [hFd]; intro j hj
      rcases (show j = 0 ∨ j = 1 ∨ j = 2 ∨ j = 3 ∨ j = 4 ∨ j = 5 ∨ j = 6 ∨ j = 7 by omega) with rfl | rfl | rfl | rfl | rfl | rfl | rfl | rfl
      · exact own_nb y33
      · exact own_nb y46
      · exact own_nb y59
      · exact own_nb y72
      · exact own_nb y85
      · exact own_nb y98
      · exact own_nb y112
      · exact own_nb y126
    refine g_iload X at_127 rfl (q := 129) rfl ?_
    refine g_iconst X at_129 rfl (q := 130) (v := 2) rfl ?_
    refine g_iand X at_130 rfl (q := 131) ?_
    refine g_jT1 X (J := 145) (P := fun (s0_145 : Int32) => s0_145 = (if (p4 &&& (2 : Int32)) = (0 : Int32) then (p2 &&& (15 : Int32)) else (p2 &&& (2147483647 : Int32)))) (L := fun s0_145 => #[.val (.long q1), .second, .val (.int p2), .val (.int p3), .val (.int p4), .val (.long s0_16), .second, .val (.ref b1), .unset, .unset, .unset, .unset]) (S := fun s0_145 => [(.int s0_145)]) ?_ ?_
    · intro T X s0_145 hs0_145
      replace hs0_145 : s0_145 = (if (p4 &&& (2 : Int32)) = (0 : Int32) then (p2 &&& (15 : Int32)) else (p2 &&& (2147483647 : Int32))) := hs0_145
      show Goes p e below s _ n0 _ (T.setTop (mkF m 145 #[.val (.long q1), .second, .val (.int p2), .val (.int p3), .val (.int p4), .val (.long s0_16), .second, .val (.ref b1), .unset, .unset, .unset, .unset] [(.int s0_145)]))
      have b_s0_145 : (0 : Int) ≤ s0_145.toInt ∧ s0_145.toInt ≤ 2147483647 := by
        have z0 := hs0_145
        have f1 := rng32 p4
        obtain ⟨n1_, hn1_⟩ : ∃ z, z = (p4 &&& (2 : Int32)) := ⟨_, rfl⟩
        (try simp only [← hn1_] at z0)
        have f2 := rng32 n1_
        have f3 := rng32 p2
        obtain ⟨n2_, hn2_⟩ : ∃ z, z = (p2 &&& (15 : Int32)) := ⟨_, rfl⟩
        (try simp only [← hn2_] at z0)
        have f4 := own_mB p2 (15 : Int32) 4 (by decide) (by decide) 15 (by decide)
        (try rw [← hn2_] at f4)
        obtain ⟨n3_, hn3_⟩ : ∃ z, z = (p2 &&& (2147483647 : Int32)) := ⟨_, rfl⟩
        (try simp only [← hn3_] at z0)
        have f5 := own_mB p2 (2147483647 : Int32) 31 (by decide) (by decide) 2147483647 (by decide)
        (try rw [← hn3_] at f5)
        have e0 := congrArg Int32.toInt z0
        (try simp only [Int64.lt_iff_toInt_lt, Int32.lt_iff_toInt_lt, Int64.le_iff_toInt_le, Int32.le_iff_toInt_le, ← Int64.toInt_inj, ← Int32.toInt_inj, apply_ite Int64.toInt, apply_ite Int32.toInt, Int64.reduceToInt, Int32.reduceToInt, ne_eq, true_and, and_true, false_or, or_false, iff_self, and_self, not_true_eq_false, not_false_eq_true] at e0)
        omega
      refine g_istore X at_145 rfl (q := 147) (L' := #[.val (.long q1), .second, .val (.int p2), .val (.int p3), .val (.int p4), .val (.long s0_16), .second, .val (.ref b1), .val (.int s0_145), .unset, .unset, .unset]) rfl ?_
      refine g_iload X at_147 rfl (q := 149) rfl ?_
      refine g_iconst X at_149 rfl (q := 150) (v := 4) rfl ?_
      refine g_iand X at_150 rfl (q := 151) ?_
      refine g_jT1 X (J := 165) (P := fun (s0_165 : Int32) => s0_165 = (if (p4 &&& (4 : Int32)) = (0 : Int32) then (p3 &&& (7 : Int32)) else (p3 &&& (2147483647 : Int32)))) (L := fun s0_165 => #[.val (.long q1), .second, .val (.int p2), .val (.int p3), .val (.int p4), .val (.long s0_16), .second, .val (.ref b1), .val (.int s0_145), .unset, .unset, .unset]) (S := fun s0_165 => [(.int s0_165)]) ?_ ?_
      · intro T X s0_165 hs0_165
        replace hs0_165 : s0_165 = (if (p4 &&& (4 : Int32)) = (0 : Int32) then (p3 &&& (7 : Int32)) else (p3 &&& (2147483647 : Int32))) := hs0_165
        show Goes p e below s _ n0 _ (T.setTop (mkF m 165 #[.val (.long q1), .second, .val (.int p2), .val (.int p3), .val (.int p4), .val (.long s0_16), .second, .val (.ref b1), .val (.int s0_145), .unset, .unset, .unset] [(.int s0_165)]))
        have b_s0_165 : (0 : Int) ≤ s0_165.toInt ∧ s0_165.toInt ≤ 2147483647 := by
          have z0 := hs0_165
          have f1 := rng32 p4
          obtain ⟨n1_, hn1_⟩ : ∃ z, z = (p4 &&& (4 : Int32)) := ⟨_, rfl⟩
          (try simp only [← hn1_] at z0)
          have f2 := rng32 n1_
          have f3 := rng32 p3
          obtain ⟨n2_, hn2_⟩ : ∃ z, z = (p3 &&& (7 : Int32)) := ⟨_, rfl⟩
          (try simp only [← hn2_] at z0)
          have f4 := own_mB p3 (7 : Int32) 3 (by decide) (by decide) 7 (by decide)
          (try rw [← hn2_] at f4)
          obtain ⟨n3_, hn3_⟩ : ∃ z, z = (p3 &&& (2147483647 : Int32)) := ⟨_, rfl⟩
          (try simp only [← hn3_] at z0)
          have f5 := own_mB p3 (2147483647 : Int32) 31 (by decide) (by decide) 2147483647 (by decide)
          (try rw [← hn3_] at f5)
          have e0 := congrArg Int32.toInt z0
          (try simp only [Int64.lt_iff_toInt_lt, Int32.lt_iff_toInt_lt, Int64.le_iff_toInt_le, Int32.le_iff_toInt_le, ← Int64.toInt_inj, ← Int32.toInt_inj, apply_ite Int64.toInt, apply_ite Int32.toInt, Int64.reduceToInt, Int32.reduceToInt, ne_eq, true_and, and_true, false_or, or_false, iff_self, and_self, not_true_eq_false, not_false_eq_true] at e0)
          omega
        refine g_istore X at_165 rfl (q := 167) (L' := #[.val (.long q1), .second, .val (.int p2), .val (.int p3), .val (.int p4), .val (.long s0_16), .second, .val (.ref b1), .val (.int s0_145), .val (.int s0_165), .unset, .unset]) rfl ?_
        refine g_iload X at_167 rfl (q := 169) rfl ?_
        refine g_istore X at_169 rfl (q := 171) (L' := #[.val (.long q1), .second, .val (.int p2), .val (.int p3), .val (.int p4), .val (.long s0_16), .second, .val (.ref b1), .val (.int s0_145), .val (.int s0_165), .val (.int s0_145), .unset]) rfl ?_
        refine g_iload X at_171 rfl (q := 173) rfl ?_
        refine g_iconst X at_173 rfl (q := 174) (v := 1) rfl ?_
        refine g_jT1 X (J := 186) (P := fun (l10_186 : Int32) => l10_186 = (if s0_165 < (1 : Int32) then s0_145 else (stp F s0_145))) (L := fun l10_186 => #[.val (.long q1), .second, .val (.int p2), .val (.int p3), .val (.int p4), .val (.long s0_16), .second, .val (.ref b1), .val (.int s0_145), .val (.int s0_165), .val (.int l10_186), .unset]) (S := fun l10_186 => []) ?_ ?_
        · intro T X l10_186 hl10_186
          replace hl10_186 : l10_186 = (if s0_165 < (1 : Int32) then s0_145 else (stp F s0_145)) := hl10_186
          show Goes p e below s _ n0 _ (T.setTop (mkF m 186 #[.val (.long q1), .second, .val (.int p2), .val (.int p3), .val (.int p4), .val (.long s0_16), .second, .val (.ref b1), .val (.int s0_145), .val (.int s0_165), .val (.int l10_186), .unset] []))
          refine g_iload X at_186 rfl (q := 188) rfl ?_
          refine g_iconst X at_188 rfl (q := 189) (v := 2) rfl ?_
          refine g_jT1 X (J := 201) (P := fun (l10_201 : Int32) => l10_201 = (if s0_165 < (2 : Int32) then l10_186 else (stp F l10_186))) (L := fun l10_201 => #[.val (.long q1), .second, .val (.int p2), .val (.int p3), .val (.int p4), .val (.long s0_16), .second, .val (.ref b1), .val (.int s0_145), .val (.int s0_165), .val (.int l10_201), .unset]) (S := fun l10_201 => []) ?_ ?_
          · intro T X l10_201 hl10_201
            replace hl10_201 : l10_201 = (if s0_165 < (2 : Int32) then l10_186 else (stp F l10_186)) := hl10_201
            show Goes p e below s _ n0 _ (T.setTop (mkF m 201 #[.val (.long q1), .second, .val (.int p2), .val (.int p3), .val (.int p4), .val (.long s0_16), .second, .val (.ref b1), .val (.int s0_145), .val (.int s0_165), .val (.int l10_201), .unset] []))
            refine g_iload X at_201 rfl (q := 203) rfl ?_
            refine g_iconst X at_203 rfl (q := 204) (v := 3) rfl ?_
            refine g_jT1 X (J := 216) (P := fun (l10_216 : Int32) => l10_216 = (if s0_165 < (3 : Int32) then l10_201 else (stp F l10_201))) (L := fun l10_216 => #[.val (.long q1), .second, .val (.int p2), .val (.int p3), .val (.int p4), .val (.long s0_16), .second, .val (.ref b1), .val (.int s0_145), .val (.int s0_165), .val (.int l10_216), .unset]) (S := fun l10_216 => []) ?_ ?_
            · intro T X l10_216 hl10_216
              replace hl10_216 : l10_216 = (if s0_165 < (3 : Int32) then l10_201 else (stp F l10_201)) := hl10_216
              show Goes p e below s _ n0 _ (T.setTop (mkF m 216 #[.val (.long q1), .second, .val (.int p2), .val (.int p3), .val (.int p4), .val (.long s0_16), .second, .val (.ref b1), .val (.int s0_145), .val (.int s0_165), .val (.int l10_216), .unset] []))
              refine g_iload X at_216 rfl (q := 218) rfl ?_
              refine g_iconst X at_218 rfl (q := 219) (v := 4) rfl ?_
              refine g_jT1 X (J := 231) (P := fun (l10_231 : Int32) => l10_231 = (if s0_165 < (4 : Int32) then l10_216 else (stp F l10_216))) (L := fun l10_231 => #[.val (.long q1), .second, .val (.int p2), .val (.int p3), .val (.int p4), .val (.long s0_16), .second, .val (.ref b1), .val (.int s0_145), .val (.int s0_165), .val (.int l10_231), .unset]) (S := fun l10_231 => []) ?_ ?_
              · intro T X l10_231 hl10_231
                replace hl10_231 : l10_231 = (if s0_165 < (4 : Int32) then l10_216 else (stp F l10_216)) := hl10_231
                show Goes p e below s _ n0 _ (T.setTop (mkF m 231 #[.val (.long q1), .second, .val (.int p2), .val (.int p3), .val (.int p4), .val (.long s0_16), .second, .val (.ref b1), .val (.int s0_145), .val (.int s0_165), .val (.int l10_231), .unset] []))
                refine g_iload X at_231 rfl (q := 233) rfl ?_
                refine g_iconst X at_233 rfl (q := 234) (v := 5) rfl ?_
                refine g_jT1 X (J := 246) (P := fun (l10_246 : Int32) => l10_246 = (if s0_165 < (5 : Int32) then l10_231 else (stp F l10_231))) (L := fun l10_246 => #[.val (.long q1), .second, .val (.int p2), .val (.int p3), .val (.int p4), .val (.long s0_16), .second, .val (.ref b1), .val (.int s0_145), .val (.int s0_165), .val (.int l10_246), .unset]) (S := fun l10_246 => []) ?_ ?_
                · intro T X l10_246 hl10_246
                  replace hl10_246 : l10_246 = (if s0_165 < (5 : Int32) then l10_231 else (stp F l10_231)) := hl10_246
                  show Goes p e below s _ n0 _ (T.setTop (mkF m 246 #[.val (.long q1), .second, .val (.int p2), .val (.int p3), .val (.int p4), .val (.long s0_16), .second, .val (.ref b1), .val (.int s0_145), .val (.int s0_165), .val (.int l10_246), .unset] []))
                  refine g_aload X at_246 rfl (q := 248) rfl rfl ?_
                  refine g_iload X at_248 rfl (q := 250) rfl ?_
                  refine g_iload X at_250 rfl (q := 252) rfl ?_
                  refine g_callS X [(.ref b1), (.int s0_145), (.int s0_165)] [] (tw6 hw) (tw7 hw) (tw8 hw) (tw9 hw) (by decide) (rm2 l Z a0 hw [] b1 s0_145 s0_165 F _ n0 X.size A_b1 (show ¬ (s0_145 < (0 : Int32)) from (by first | ((try simp only [Int64.lt_iff_toInt_lt, Int32.lt_iff_toInt_lt, Int64.le_iff_toInt_le, Int32.le_iff_toInt_le, ← Int64.toInt_inj, ← Int32.toInt_inj, apply_ite Int64.toInt, apply_ite Int32.toInt, Int64.reduceToInt, Int32.reduceToInt, ne_eq, true_and, and_true, false_or, or_false, iff_self, and_self, not_true_eq_false, not_false_eq_true]) <;> omega) | (have f1 := rng32 p4; obtain ⟨n1_, hn1_⟩ : ∃ z, z = (p4 &&& (2 : Int32)) := ⟨_, rfl⟩; (try simp only [← hn1_] at hs0_145 ⊢); have f2 := rng32 n1_; have f3 := rng32 p2; obtain ⟨n2_, hn2_⟩ : ∃ z, z = (p2 &&& (15 : Int32)) := ⟨_, rfl⟩; (try simp only [← hn2_] at hs0_145 ⊢); have f4 := own_mB p2 (15 : Int32) 4 (by decide) (by decide) 15 (by decide); (try rw [← hn2_] at f4); obtain ⟨n3_, hn3_⟩ : ∃ z, z = (p2 &&& (2147483647 : Int32)) := ⟨_, rfl⟩; (try simp only [← hn3_] at hs0_145 ⊢); have f5 := own_mB p2 (2147483647 : Int32) 31 (by decide) (by decide) 2147483647 (by decide); (try rw [← hn3_] at f5); have e_hs0_145 := congrArg Int32.toInt hs0_145; (try simp only [Int64.lt_iff_toInt_lt, Int32.lt_iff_toInt_lt, Int64.le_iff_toInt_le, Int32.le_iff_toInt_le, ← Int64.toInt_inj, ← Int32.toInt_inj, apply_ite Int64.toInt, apply_ite Int32.toInt, Int64.reduceToInt, Int32.reduceToInt, ne_eq, true_and, and_true, false_or, or_false, iff_self, and_self, not_true_eq_false, not_false_eq_true] at e_hs0_145); (try simp only [Int64.lt_iff_toInt_lt, Int32.lt_iff_toInt_lt, Int64.le_iff_toInt_le, Int32.le_iff_toInt_le, ← Int64.toInt_inj, ← Int32.toInt_inj, apply_ite Int64.toInt, apply_ite Int32.toInt, Int64.reduceToInt, Int32.reduceToInt, ne_eq, true_and, and_true, false_or, or_false, iff_self, and_self, not_true_eq_false, not_false_eq_true]) <;> omega))) (show ¬ (s0_165 < (0 : Int32)) from (by first | ((try simp only [Int64.lt_iff_toInt_lt, Int32.lt_iff_toInt_lt, Int64.le_iff_toInt_le, Int32.le_iff_toInt_le, ← Int64.toInt_inj, ← Int32.toInt_inj, apply_ite Int64.toInt, apply_ite Int32.toInt, Int64.reduceToInt, Int32.reduceToInt, ne_eq, true_and, and_true, false_or, or_false, iff_self, and_self, not_true_eq_false, not_false_eq_true]) <;> omega) | (have f1 := rng32 p4; obtain ⟨n1_, hn1_⟩ : ∃ z, z = (p4 &&& (4 : Int32)) := ⟨_, rfl⟩; (try simp only [← hn1_] at hs0_165 ⊢); have f2 := rng32 n1_; have f3 := rng32 p3; obtain ⟨n2_, hn2_⟩ : ∃ z, z = (p3 &&& (7 : Int32)) := ⟨_, rfl⟩; (try simp only [← hn2_] at hs0_165 ⊢); have f4 := own_mB p3 (7 : Int32) 3 (by decide) (by decide) 7 (by decide); (try rw [← hn2_] at f4); obtain ⟨n3_, hn3_⟩ : ∃ z, z = (p3 &&& (2147483647 : Int32)) := ⟨_, rfl⟩; (try simp only [← hn3_] at hs0_165 ⊢); have f5 := own_mB p3 (2147483647 : Int32) 31 (by decide) (by decide) 2147483647 (by decide); (try rw [← hn3_] at f5); have e_hs0_165 := congrArg Int32.toInt hs0_165; (try simp only [Int64.lt_iff_toInt_lt, Int32.lt_iff_toInt_lt, Int64.le_iff_toInt_le, Int32.le_iff_toInt_le, ← Int64.toInt_inj, ← Int32.toInt_inj, apply_ite Int64.toInt, apply_ite Int32.toInt, Int64.reduceToInt, Int32.reduceToInt, ne_eq, true_and, and_true, false_or, or_false, iff_self, and_self, not_true_eq_false, not_false_eq_true] at e_hs0_165); (try simp only [Int64.lt_iff_toInt_lt, Int32.lt_iff_toInt_lt, Int64.le_iff_toInt_le, Int32.le_iff_toInt_le, ← Int64.toInt_inj, ← Int32.toInt_inj, apply_ite Int64.toInt, apply_ite Int32.toInt, Int64.reduceToInt, Int32.reduceToInt, ne_eq, true_and, and_true, false_or, or_false, iff_self, and_self, not_true_eq_false, not_false_eq_true]) <;> omega))) hF) pd1 rfl rfl rfl at_252 (q := 255) rfl (W := 0) rfl (by decide) (by decide) (c2 := 1) (s2 := 8) rfl rfl (by decide) (by decide) (fun v T h' X hQ => ?_)
                  obtain ⟨rfl, Kc⟩ := hQ
                  have A_b1 := A_b1.keep Kc nin0
                  show Goes p e below s _ n0 _ (T.setTop (mkF m 255 #[.val (.long q1), .second, .val (.int p2), .val (.int p3), .val (.int p4), .val (.long s0_16), .second, .val (.ref b1), .val (.int s0_145), .val (.int s0_165), .val (.int l10_246), .unset] [(.int (itr F s0_165.toNatClampNeg s0_145))]))
                  refine g_letI (fun r252 hr252 => ?_)
                  refine g_istore X at_255 rfl (q := 257) (L' := #[.val (.long q1), .second, .val (.int p2), .val (.int p3), .val (.int p4), .val (.long s0_16), .second, .val (.ref b1), .val (.int s0_145), .val (.int s0_165), .val (.int l10_246), .val (.int r252)]) rfl ?_
                  refine g_iload X at_257 rfl (q := 259) rfl ?_
                  refine g_iload X at_259 rfl (q := 261) rfl ?_
                  refine g_jT1 X (J := 269) (P := fun (s0_269 : Int32) => s0_269 = (bI (r252 = l10_246))) (L := fun s0_269 => #[.val (.long q1), .second, .val (.int p2), .val (.int p3), .val (.int p4), .val (.long s0_16), .second, .val (.ref b1), .val (.int s0_145), .val (.int s0_165), .val (.int l10_246), .val (.int r252)]) (S := fun s0_269 => [(.int s0_269)]) ?_ ?_
                  · intro T X s0_269 hs0_269
                    replace hs0_269 : s0_269 = (bI (r252 = l10_246)) := hs0_269
                    subst hs0_269
                    show Goes p e below s _ n0 _ (T.setTop (mkF m 269 #[.val (.long q1), .second, .val (.int p2), .val (.int p3), .val (.int p4), .val (.long s0_16), .second, .val (.ref b1), .val (.int s0_145), .val (.int s0_165), .val (.int l10_246), .val (.int r252)] [(.int (bI (r252 = l10_246)))]))
                    refine g_retZ X at_269 (by decide) (by decide) (bI_01 _) (own_fin ?_)
                    show r252 = l10_246
                    exact own_final hF (by omega) (by omega) hl10_186 hl10_201 hl10_216 hl10_231 hl10_246 hr252
                  · intro J269_0
                    refine g_icmpB X at_261 (Or.inr (Or.inr rfl)) (q := 264) rfl (by decide) (t := 268) rfl (fun (c1 : r252 = l10_246) => ?_) (fun (c1 : ¬ (r252 = l10_246)) => ?_)
                    · skip
                      refine g_iconst X at_264 rfl (q := 265) (v := 1) rfl ?_
                      refine g_goto X at_265 (by decide) (q := 269) rfl ?_
                      exact J269_0 T X _ (bI_t c1)
                    · skip
                      refine g_iconst X at_268 rfl (q := 269) (v := 0) rfl ?_
                      exact J269_0 T X _ (bI_f c1)
                · intro J246_1
                  refine g_icmpA X at_234 (Or.inl rfl) (q := 237) rfl (by decide) (t := 246) rfl (fun (c2 : s0_165 < (5 : Int32)) => ?_) (fun (c2 : ¬ (s0_165 < (5 : Int32))) => ?_)
                  · skip
                    have b_s0_165 : (0 : Int) ≤ s0_165.toInt ∧ s0_165.toInt ≤ 4 := by have z0 := c2; (try simp only [Int64.lt_iff_toInt_lt, Int32.lt_iff_toInt_lt, Int64.le_iff_toInt_le, Int32.le_iff_toInt_le, ← Int64.toInt_inj, ← Int32.toInt_inj, apply_ite Int64.toInt, apply_ite Int32.toInt, Int64.reduceToInt, Int32.reduceToInt, ne_eq] at z0); have z1 := rng32 s0_165; omega
                    exact J246_1 T X _ ((if_pos c2).symm)
                  · skip
                    have b_s0_165 : (5 : Int) ≤ s0_165.toInt ∧ s0_165.toInt ≤ 2147483647 := by have z0 := c2; (try simp only [Int64.lt_iff_toInt_lt, Int32.lt_iff_toInt_lt, Int64.le_iff_toInt_le, Int32.le_iff_toInt_le, ← Int64.toInt_inj, ← Int32.toInt_inj, apply_ite Int64.toInt, apply_ite Int32.toInt, Int64.reduceToInt, Int32.reduceToInt, ne_eq] at z0); have z1 := rng32 s0_165; omega
                    refine g_aload X at_237 rfl (q := 239) rfl rfl ?_
                    refine g_iload X at_239 rfl (q := 241) rfl ?_
                    refine g_callS X [(.ref b1), (.int l10_231)] [] (tw2 hw) (tw3 hw) (tw4 hw) (tw5 hw) (by decide) (rm1 l Z a0 hw [] b1 l10_231 F _ n0 X.size A_b1) pd0 rfl rfl rfl at_241 (q := 244) rfl (W := 0) rfl (by decide) (by decide) (c2 := 1) (s2 := 8) rfl rfl (by decide) (by decide) (fun v T h' X hQ => ?_)
                    obtain ⟨rfl, rfl⟩ := hQ
                    show Goes p e below s _ n0 _ (T.setTop (mkF m 244 #[.val (.long q1), .second, .val (.int p2), .val (.int p3), .val (.int p4), .val (.long s0_16), .second, .val (.ref b1), .val (.int s0_145), .val (.int s0_165), .val (.int l10_231), .unset] [(.int (stp F l10_231))]))
                    refine g_istore X at_244 rfl (q := 246) (L' := #[.val (.long q1), .second, .val (.int p2), .val (.int p3), .val (.int p4), .val (.long s0_16), .second, .val (.ref b1), .val (.int s0_145), .val (.int s0_165), .val (.int (stp F l10_231)), .unset]) rfl ?_
                    exact J246_1 T X _ ((if_neg c2).symm)
              · intro J231_2
                refine g_icmpA X at_219 (Or.inl rfl) (q := 222) rfl (by decide) (t := 231) rfl (fun (c3 : s0_165 < (4 : Int32)) => ?_) (fun (c3 : ¬ (s0_165 < (4 : Int32))) => ?_)
                · skip
                  have b_s0_165 : (0 : Int) ≤ s0_165.toInt ∧ s0_165.toInt ≤ 3 := by have z0 := c3; (try simp only [Int64.lt_iff_toInt_lt, Int32.lt_iff_toInt_lt, Int64.le_iff_toInt_le, Int32.le_iff_toInt_le, ← Int64.toInt_inj, ← Int32.toInt_inj, apply_ite Int64.toInt, apply_ite Int32.toInt, Int64.reduceToInt, Int32.reduceToInt, ne_eq] at z0); have z1 := rng32 s0_165; omega
                  exact J231_2 T X _ ((if_pos c3).symm)
                · skip
                  have b_s0_165 : (4 : Int) ≤ s0_165.toInt ∧ s0_165.toInt ≤ 2147483647 := by have z0 := c3; (try simp only [Int64.lt_iff_toInt_lt, Int32.lt_iff_toInt_lt, Int64.le_iff_toInt_le, Int32.le_iff_toInt_le, ← Int64.toInt_inj, ← Int32.toInt_inj, apply_ite Int64.toInt, apply_ite Int32.toInt, Int64.reduceToInt, Int32.reduceToInt, ne_eq] at z0); have z1 := rng32 s0_165; omega
                  refine g_aload X at_222 rfl (q := 224) rfl rfl ?_
                  refine g_iload X at_224 rfl (q := 226) rfl ?_
                  refine g_callS X [(.ref b1), (.int l10_216)] [] (tw2 hw) (tw3 hw) (tw4 hw) (tw5 hw) (by decide) (rm1 l Z a0 hw [] b1 l10_216 F _ n0 X.size A_b1) pd0 rfl rfl rfl at_226 (q := 229) rfl (W := 0) rfl (by decide) (by decide) (c2 := 1) (s2 := 8) rfl rfl (by decide) (by decide) (fun v T h' X hQ => ?_)
                  obtain ⟨rfl, rfl⟩ := hQ
                  show Goes p e below s _ n0 _ (T.setTop (mkF m 229 #[.val (.long q1), .second, .val (.int p2), .val (.int p3), .val (.int p4), .val (.long s0_16), .second, .val (.ref b1), .val (.int s0_145), .val (.int s0_165), .val (.int l10_216), .unset] [(.int (stp F l10_216))]))
                  refine g_istore X at_229 rfl (q := 231) (L' := #[.val (.long q1), .second, .val (.int p2), .val (.int p3), .val (.int p4), .val (.long s0_16), .second, .val (.ref b1), .val (.int s0_145), .val (.int s0_165), .val (.int (stp F l10_216)), .unset]) rfl ?_
                  exact J231_2 T X _ ((if_neg c3).symm)
            · intro J216_3
              refine g_icmpA X at_204 (Or.inl rfl) (q := 207) rfl (by decide) (t := 216) rfl (fun (c4 : s0_165 < (3 : Int32)) => ?_) (fun (c4 : ¬ (s0_165 < (3 : Int32))) => ?_)
              · skip
                have b_s0_165 : (0 : Int) ≤ s0_165.toInt ∧ s0_165.toInt ≤ 2 := by have z0 := c4; (try simp only [Int64.lt_iff_toInt_lt, Int32.lt_iff_toInt_lt, Int64.le_iff_toInt_le, Int32.le_iff_toInt_le, ← Int64.toInt_inj, ← Int32.toInt_inj, apply_ite Int64.toInt, apply_ite Int32.toInt, Int64.reduceToInt, Int32.reduceToInt, ne_eq] at z0); have z1 := rng32 s0_165; omega
                exact J216_3 T X _ ((if_pos c4).symm)
              · skip
                have b_s0_165 : (3 : Int) ≤ s0_165.toInt ∧ s0_165.toInt ≤ 2147483647 := by have z0 := c4; (try simp only [Int64.lt_iff_toInt_lt, Int32.lt_iff_toInt_lt, Int64.le_iff_toInt_le, Int32.le_iff_toInt_le, ← Int64.toInt_inj, ← Int32.toInt_inj, apply_ite Int64.toInt, apply_ite Int32.toInt, Int64.reduceToInt, Int32.reduceToInt, ne_eq] at z0); have z1 := rng32 s0_165; omega
                refine g_aload X at_207 rfl (q := 209) rfl rfl ?_
                refine g_iload X at_209 rfl (q := 211) rfl ?_
                refine g_callS X [(.ref b1), (.int l10_201)] [] (tw2 hw) (tw3 hw) (tw4 hw) (tw5 hw) (by decide) (rm1 l Z a0 hw [] b1 l10_201 F _ n0 X.size A_b1) pd0 rfl rfl rfl at_211 (q := 214) rfl (W := 0) rfl (by decide) (by decide) (c2 := 1) (s2 := 8) rfl rfl (by decide) (by decide) (fun v T h' X hQ => ?_)
                obtain ⟨rfl, rfl⟩ := hQ
                show Goes p e below s _ n0 _ (T.setTop (mkF m 214 #[.val (.long q1), .second, .val (.int p2), .val (.int p3), .val (.int p4), .val (.long s0_16), .second, .val (.ref b1), .val (.int s0_145), .val (.int s0_165), .val (.int l10_201), .unset] [(.int (stp F l10_201))]))
                refine g_istore X at_214 rfl (q := 216) (L' := #[.val (.long q1), .second, .val (.int p2), .val (.int p3), .val (.int p4), .val (.long s0_16), .second, .val (.ref b1), .val (.int s0_145), .val (.int s0_165), .val (.int (stp F l10_201)), .unset]) rfl ?_
                exact J216_3 T X _ ((if_neg c4).symm)
          · intro J201_4
            refine g_icmpA X at_189 (Or.inl rfl) (q := 192) rfl (by decide) (t := 201) rfl (fun (c5 : s0_165 < (2 : Int32)) => ?_) (fun (c5 : ¬ (s0_165 < (2 : Int32))) => ?_)
            · skip
              have b_s0_165 : (0 : Int) ≤ s0_165.toInt ∧ s0_165.toInt ≤ 1 := by have z0 := c5; (try simp only [Int64.lt_iff_toInt_lt, Int32.lt_iff_toInt_lt, Int64.le_iff_toInt_le, Int32.le_iff_toInt_le, ← Int64.toInt_inj, ← Int32.toInt_inj, apply_ite Int64.toInt, apply_ite Int32.toInt, Int64.reduceToInt, Int32.reduceToInt, ne_eq] at z0); have z1 := rng32 s0_165; omega
              exact J201_4 T X _ ((if_pos c5).symm)
            · skip
              have b_s0_165 : (2 : Int) ≤ s0_165.toInt ∧ s0_165.toInt ≤ 2147483647 := by have z0 := c5; (try simp only [Int64.lt_iff_toInt_lt, Int32.lt_iff_toInt_lt, Int64.le_iff_toInt_le, Int32.le_iff_toInt_le, ← Int64.toInt_inj, ← Int32.toInt_inj, apply_ite Int64.toInt, apply_ite Int32.toInt, Int64.reduceToInt, Int32.reduceToInt, ne_eq] at z0); have z1 := rng32 s0_165; omega
              refine g_aload X at_192 rfl (q := 194) rfl rfl ?_
              refine g_iload X at_194 rfl (q := 196) rfl ?_
              refine g_callS X [(.ref b1), (.int l10_186)] [] (tw2 hw) (tw3 hw) (tw4 hw) (tw5 hw) (by decide) (rm1 l Z a0 hw [] b1 l10_186 F _ n0 X.size A_b1) pd0 rfl rfl rfl at_196 (q := 199) rfl (W := 0) rfl (by decide) (by decide) (c2 := 1) (s2 := 8) rfl rfl (by decide) (by decide) (fun v T h' X hQ => ?_)
              obtain ⟨rfl, rfl⟩ := hQ
              show Goes p e below s _ n0 _ (T.setTop (mkF m 199 #[.val (.long q1), .second, .val (.int p2), .val (.int p3), .val (.int p4), .val (.long s0_16), .second, .val (.ref b1), .val (.int s0_145), .val (.int s0_165), .val (.int l10_186), .unset] [(.int (stp F l10_186))]))
              refine g_istore X at_199 rfl (q := 201) (L' := #[.val (.long q1), .second, .val (.int p2), .val (.int p3), .val (.int p4), .val (.long s0_16), .second, .val (.ref b1), .val (.int s0_145), .val (.int s0_165), .val (.int (stp F l10_186)), .unset]) rfl ?_
              exact J201_4 T X _ ((if_neg c5).symm)
        · intro J186_5
          refine g_icmpA X at_174 (Or.inl rfl) (q := 177) rfl (by decide) (t := 186) rfl (fun (c6 : s0_165 < (1 : Int32)) => ?_) (fun (c6 : ¬ (s0_165 < (1 : Int32))) => ?_)
          · skip
            have b_s0_165 : (0 : Int) ≤ s0_165.toInt ∧ s0_165.toInt ≤ 0 := by have z0 := c6; (try simp only [Int64.lt_iff_toInt_lt, Int32.lt_iff_toInt_lt, Int64.le_iff_toInt_le, Int32.le_iff_toInt_le, ← Int64.toInt_inj, ← Int32.toInt_inj, apply_ite Int64.toInt, apply_ite Int32.toInt, Int64.reduceToInt, Int32.reduceToInt, ne_eq] at z0); have z1 := rng32 s0_165; omega
            exact J186_5 T X _ ((if_pos c6).symm)
          · skip
            have b_s0_165 : (1 : Int) ≤ s0_165.toInt ∧ s0_165.toInt ≤ 2147483647 := by have z0 := c6; (try simp only [Int64.lt_iff_toInt_lt, Int32.lt_iff_toInt_lt, Int64.le_iff_toInt_le, Int32.le_iff_toInt_le, ← Int64.toInt_inj, ← Int32.toInt_inj, apply_ite Int64.toInt, apply_ite Int32.toInt, Int64.reduceToInt, Int32.reduceToInt, ne_eq] at z0); have z1 := rng32 s0_165; omega
            refine g_aload X at_177 rfl (q := 179) rfl rfl ?_
            refine g_iload X at_179 rfl (q := 181) rfl ?_
            refine g_callS X [(.ref b1), (.int s0_145)] [] (tw2 hw) (tw3 hw) (tw4 hw) (tw5 hw) (by decide) (rm1 l Z a0 hw [] b1 s0_145 F _ n0 X.size A_b1) pd0 rfl rfl rfl at_181 (q := 184) rfl (W := 0) rfl (by decide) (by decide) (c2 := 1) (s2 := 8) rfl rfl (by decide) (by decide) (fun v T h' X hQ => ?_)
            obtain ⟨rfl, rfl⟩ := hQ
            show Goes p e below s _ n0 _ (T.setTop (mkF m 184 #[.val (.long q1), .second, .val (.int p2), .val (.int p3), .val (.int p4), .val (.long s0_16), .second, .val (.ref b1), .val (.int s0_145), .val (.int s0_165), .val (.int s0_145), .unset] [(.int (stp F s0_145))]))
            refine g_istore X at_184 rfl (q := 186) (L' := #[.val (.long q1), .second, .val (.int p2), .val (.int p3), .val (.int p4), .val (.long s0_16), .second, .val (.ref b1), .val (.int s0_145), .val (.int s0_165), .val (.int (stp F s0_145)), .unset]) rfl ?_
            exact J186_5 T X _ ((if_neg c6).symm)
      · intro J165_6
        refine g_ifA X at_151 (Or.inr (Or.inr rfl)) (q := 154) rfl (by decide) (t := 161) rfl (fun (c7 : (p4 &&& (4 : Int32)) = (0 : Int32)) => ?_) (fun (c7 : ¬ ((p4 &&& (4 : Int32)) = (0 : Int32))) => ?_)
        · skip
          refine g_iloadN X at_161 rfl (q := 162) rfl ?_
          refine g_bipush X at_162 rfl (q := 164) (v := 7) rfl ?_
          refine g_iand X at_164 rfl (q := 165) ?_
          exact J165_6 T X _ ((if_pos c7).symm)
        · skip
          refine g_iloadN X at_154 rfl (q := 155) rfl ?_
          refine g_ldc X (tw11 hw) at_155 (q := 157) rfl ?_
          refine g_iand X at_157 rfl (q := 158) ?_
          refine g_goto X at_158 (by decide) (q := 165) rfl ?_
          exact J165_6 T X _ ((if_neg c7).symm)
    · intro J145_7
      refine g_ifA X at_131 (Or.inr (Or.inr rfl)) (q := 134) rfl (by decide) (t := 141) rfl (fun (c8 : (p4 &&& (2 : Int32)) = (0 : Int32)) => ?_) (fun (c8 : ¬ ((p4 &&& (2 : Int32)) = (0 : Int32))) => ?_)
      · skip
        refine g_iloadN X at_141 rfl (q := 142) rfl ?_
        refine g_bipush X at_142 rfl (q := 144) (v := 15) rfl ?_
        refine g_iand X at_144 rfl (q := 145) ?_
        exact J145_7 T X _ ((if_pos c8).symm)
      · skip
        refine g_iloadN X at_134 rfl (q := 135) rfl ?_
        refine g_ldc X (tw11 hw) at_135 (q := 137) rfl ?_
        refine g_iand X at_137 rfl (q := 138) ?_
        refine g_goto X at_138 (by decide) (q := 145) rfl ?_
        exact J145_7 T X _ ((if_neg c8).symm)
  · intro J16_8
    refine g_ifA X at_4 (Or.inr (Or.inr rfl)) (q := 7) rfl (by decide) (t := 13) rfl (fun (c9 : (p4 &&& (1 : Int32)) = (0 : Int32)) => ?_) (fun (c9 : ¬ ((p4 &&& (1 : Int32)) = (0 : Int32))) => ?_)
    · skip
      refine g_ldc2 X (tw0 hw) at_13 (q := 16) rfl ?_
      exact J16_8 T X _ ((if_pos c9).symm)
    · skip
      refine g_ldc2 X (tw10 hw) at_7 (q := 10) rfl ?_
      refine g_goto X at_10 (by decide) (q := 16) rfl ?_
      exact J16_8 T X _ ((if_neg c9).symm)
set_option maxRecDepth 65536 in
set_option maxHeartbeats 40000000 in
theorem comes_1 {Post : Tables → Env → Array Value → State → Outcome → State → Prop} (hpost : ∀ tb e args s v u, (limb_1_1.after args s (.returned v) u = true ∧ limb_1_2.after args s (.returned v) u = true ∧ True) → FrameEnd s (.returned v) u (Jvm.fieldLocs frame_1_writes args s ++ Jvm.arrayLocs frame_1_arrays args s ++ Jvm.staticLocs frame_1_statics s) 16 128 → Post tb e args s (.returned v) u) :
    ArmFor flags0 classFile x code maxLocals ret World_1 tables_1 room_1 Calls_1 rest_1 Pre_1 Post := by
  intro l hfl _ _ p e ha hc hk s m args below hf hA hF happ hP
  obtain ⟨hcalls, hrest, hpre⟩ := hP
  obtain ⟨-, -, -, hnamed, -, -, -, hat⟩ := (Spec.applies_iff hf).mp happ
  obtain ⟨hg, hn⟩ := and_e (Cond.before_iff.mp (show (Jvm.Cond.and given_1 narrow_1).before args s = true from hpre))
  obtain ⟨u1, w1⟩ := and_e hg
  obtain ⟨u2, w2⟩ := and_e w1
  obtain ⟨u3, w3⟩ := and_e w2
  obtain ⟨u4, w4⟩ := and_e w3
  obtain ⟨z0, z1, z2, z3, rfl⟩ : ∃ z0 z1 z2 z3 : Value, args = #[z0, z1, z2, z3] := by
    have hs : args.size = 4 := by simpa [Cond.value, given_1] using u1
    obtain ⟨L⟩ := args
    match L, hs with
    | [z0, z1, z2, z3], _ => exact ⟨z0, z1, z2, z3, rfl⟩
  have hw := fun d (hd : d ∈ tables_1) => atoms_spec (ws := Jvm.Cond.code x code maxLocals ret :: tables_1) hat d (List.mem_cons_of_mem _ hd)
  obtain ⟨i0, ei0⟩ := isL_v u2
  obtain rfl : z0 = (.long i0) := Option.some.inj ei0
  obtain ⟨i1, ei1⟩ := is_v u3
  obtain rfl : z1 = (.int i1) := Option.some.inj ei1
  obtain ⟨i2, ei2⟩ := is_v u4
  obtain rfl : z2 = (.int i2) := Option.some.inj ei2
  obtain ⟨i3, ei3⟩ := is_v w4
  obtain rfl : z3 = (.int i3) := Option.some.inj ei3
  obtain ⟨n, o, h1, h2, h3, _, L, rfl, ⟨N, rfl⟩, hq⟩ := rm0 l s _ hw tables_1 i0 i1 i2 i3 s.heap s.heap.size (Nat.le_refl _) p e ha hc hk s m _ below hf ((Spec.applies_iff_loose hf).mp happ).1 ⟨rfl, State.Warmed39.refl s, rfl⟩ trivial
  refine ⟨n, _, h1, h2, h3, hpost _ _ _ _ _ _ ⟨Cond.after_iff.mpr rfl, Cond.after_iff.mpr (eq_i res_at (Term.int_eval (1)) rfl), trivial⟩ ⟨hq.1, hq.2.1, (hq.2.2.sift fun y hy => Or.inr (N y hy)).mono (by decide) (by decide)⟩⟩
theorem main_1_1 : Claimed_1_1 := comes_1 fun _ _ _ _ _ _ h hF => ⟨h.1, hF⟩
theorem main_1_2 : Claimed_1_2 := comes_1 fun _ _ _ _ _ _ h hF => ⟨h.2.1, hF⟩
end Jvm.Pilot.@@N@@
namespace Jvm.Pilot.@@N@@
open Jvm Jvm.ClassFile Sem Op Lib Jvm.Free Jvm.Stand Jvm.Pilot.@@N@@.Jvm.D
/-! MADE BY PROGRAM (witnessworld.py) out of the Statement's table words and the real class files: 9 classes; the members and pool entries that the words name. The judged class is class 1, her method 2. -/
namespace start1
open Jvm.ClassFile
def u (s : String) : CpInfo := .utf8 (stringToUtf16 s)
/-- a pool by its gaps: so many unusable entries, then the entry; so many at the end -/
def gap : Nat → List CpInfo → List CpInfo
  | 0, r => r
  | n + 1, r => .unusable :: gap n r
def poolList (es : List (Nat × CpInfo)) (last : Nat) : List CpInfo := es.foldr (fun e r => gap e.1 (e.2 :: r)) (gap last [])
def pool (es : List (Nat × CpInfo)) (last : Nat) : Array CpInfo := ⟨poolList es last⟩
def fileOf (pool : Array CpInfo) (this : Nat) (attrs : Array Attribute := #[]) (ms : Array MethodInfo := #[]) (fl : Nat := 33) (sup : Nat := 0) (ifs : Array Nat := #[]) (fds : Array FieldInfo := #[]) : ClassFile where
  minorVersion := 0
  majorVersion := 65
  constantPool := pool
  accessFlags := fl
  thisClass := this
  superClass := sup
  interfaces := ifs
  fields := fds
  methods := ms
  attributes := attrs
def plain (name : String) (sup : Option ClassId) : Class where
  name := name
  kind := .ordinary
  loader := none
  accessFlags := 33
  super := sup
  interfaces := #[]
  cf := none
  fields := #[]
  methods := #[]
  instanceTypes := #[]
  staticTypes := #[]
  resolved := #[]
  callSites := []
  init := .initialized
  statics := none
  mirror := none

def pool0 : Array CpInfo := pool [(5, u "<init>"), (0, u "()V"), (1, .class_ 10), (1, u "java/lang/Object")] 113

def k0m0 : Method := { name := "<init>", desc := "()V", sig := { parameters := [], returnType := none }, accessFlags := 1, code := none }
/-- java/lang/Object -/
def k0 : Class := { plain "java/lang/Object" none with
  accessFlags := 33
  interfaces := #[]
  cf := some (fileOf pool0 8 #[] #[{ accessFlags := 1, nameIndex := 5, descriptorIndex := 6, attributes := #[] }] 33 0 #[] #[])
  fields := #[]
  methods := #[k0m0]
  instanceTypes := #[]
  staticTypes := #[]
  resolved := Array.replicate 124 none
  statics := none }

def pool1 : Array CpInfo := pool [(2, .class_ 4), (1, u "java/lang/Object"), (0, u "<init>"), (0, u "()V"), (0, .long 3), (1, .long 255), (1, .integer 2147483647), (0, .methodref 13 14), (0, .class_ 15), (0, .nameAndType 16 17), (0, u "com/example/retention/retention/protocol/ProtocolReaderStringsEndPinLaw"), (0, u "step"), (0, u "([BI)I"), (0, .methodref 19 20), (0, .class_ 21), (0, .nameAndType 22 23), (0, u "com/example/retention/retention/protocol/ProtocolReader"), (0, u "stringsEnd"), (0, u "([BII)I"), (3, u "law"), (0, u "(JIII)Z")] 4

def k1m0 : Method := { name := "<init>", desc := "()V", sig := { parameters := [], returnType := none }, accessFlags := 1, code := none }
def k1c1 : Code := { maxStack := 4, maxLocals := 3, code := method_2_code, exceptionTable := #[], attributes := #[] }
def k1m1 : Method := { name := "step", desc := "([BI)I", sig := { parameters := [(.array .byte), .int], returnType := some .int }, accessFlags := 10, code := some k1c1 }
def k1c2 : Code := { maxStack := 6, maxLocals := 12, code := code, exceptionTable := #[], attributes := #[] }
def k1m2 : Method := { name := "law", desc := "(JIII)Z", sig := { parameters := [.long, .int, .int, .int], returnType := some .boolean }, accessFlags := 9, code := some k1c2 }
/-- com/example/retention/retention/protocol/ProtocolReaderStringsEndPinLaw -/
def k1 : Class := { plain "com/example/retention/retention/protocol/ProtocolReaderStringsEndPinLaw" (some 0) with
  accessFlags := 49
  interfaces := #[]
  cf := some (fileOf pool1 13 #[] #[{ accessFlags := 1, nameIndex := 5, descriptorIndex := 6, attributes := #[] }, { accessFlags := 10, nameIndex := 16, descriptorIndex := 17, attributes := #[] }, { accessFlags := 9, nameIndex := 27, descriptorIndex := 28, attributes := #[] }] 49 2 #[] #[])
  fields := #[]
  methods := #[k1m0, k1m1, k1m2]
  instanceTypes := #[]
  staticTypes := #[]
  resolved := Array.replicate 33 none
  statics := none }

def pool2 : Array CpInfo := pool [(2, .class_ 4), (1, u "java/lang/Object"), (15, .class_ 22), (1, u "com/example/retention/retention/protocol/ProtocolReader"), (0, u "utf8"), (0, u "Ljava/nio/charset/CharsetDecoder;"), (14, u "buffer"), (0, u "Ljava/nio/ByteBuffer;"), (159, u "stringsEnd"), (0, u "([BII)I")] 37

def k2c0 : Code := { maxStack := 4, maxLocals := 6, code := prog_75_method_12_code, exceptionTable := #[], attributes := #[] }
def k2m0 : Method := { name := "stringsEnd", desc := "([BII)I", sig := { parameters := [(.array .byte), .int, .int], returnType := some .int }, accessFlags := 9, code := some k2c0 }
/-- com/example/retention/retention/protocol/ProtocolReader -/
def k2 : Class := { plain "com/example/retention/retention/protocol/ProtocolReader" (some 0) with
  accessFlags := 49
  interfaces := #[]
  cf := some (fileOf pool2 20 #[] #[{ accessFlags := 9, nameIndex := 200, descriptorIndex := 201, attributes := #[] }] 49 2 #[] #[{ accessFlags := 18, nameIndex := 39, descriptorIndex := 40, attributes := #[] }, { accessFlags := 18, nameIndex := 23, descriptorIndex := 24, attributes := #[] }])
  fields := #[{ name := "buffer", type := (.object "java/nio/ByteBuffer"), accessFlags := 18, slot := 0, constantValue := 0 }, { name := "utf8", type := (.object "java/nio/charset/CharsetDecoder"), accessFlags := 18, slot := 1, constantValue := 0 }]
  methods := #[k2m0]
  instanceTypes := #[(.object "java/nio/ByteBuffer"), (.object "java/nio/charset/CharsetDecoder")]
  staticTypes := #[]
  resolved := Array.replicate 239 none
  statics := none }

def pool3 : Array CpInfo := pool [(1, u "java/lang/Cloneable"), (0, .class_ 1), (0, u "java/lang/Object"), (0, .class_ 3)] 3

/-- java/lang/Cloneable -/
def k3 : Class := { plain "java/lang/Cloneable" (some 0) with
  accessFlags := 1537
  interfaces := #[]
  cf := some (fileOf pool3 2 #[] #[] 1537 4 #[] #[])
  fields := #[]
  methods := #[]
  instanceTypes := #[]
  staticTypes := #[]
  resolved := Array.replicate 8 none
  statics := none }

def pool4 : Array CpInfo := pool [(1, u "java/io/Serializable"), (0, .class_ 1), (0, u "java/lang/Object"), (0, .class_ 3)] 3

/-- java/io/Serializable -/
def k4 : Class := { plain "java/io/Serializable" (some 0) with
  accessFlags := 1537
  interfaces := #[]
  cf := some (fileOf pool4 2 #[] #[] 1537 4 #[] #[])
  fields := #[]
  methods := #[]
  instanceTypes := #[]
  staticTypes := #[]
  resolved := Array.replicate 8 none
  statics := none }

/-- the primitive byte -/
def k5 : Class := { plain "byte" none with kind := .primitive 'B', accessFlags := 0x411 }
/-- [B -/
def k6 : Class := { plain "[B" (some 0) with kind := .array 5 .byte, interfaces := #[3, 4], accessFlags := 1041 }

/-- the primitive int -/
def k7 : Class := { plain "int" none with kind := .primitive 'I', accessFlags := 0x411 }
/-- [I -/
def k8 : Class := { plain "[I" (some 0) with kind := .array 7 .int, interfaces := #[3, 4], accessFlags := 1041 }

def heap : Heap := #[]
def classes : Array Class := #[k0, k1, k2, k3, k4, k5, k6, k7, k8]
def interned : List (Array UInt16 × Addr) := []
def slotsUsed : Nat := 0
def theMethod : MethodId := ⟨1, 2⟩
def args0 : Array Value := #[.long 5, .int 7, .int 9, .int 1]
def aboutOver (below : List Frame) : State where
  vm := { classes := classes, interned := interned.toArray }
  heap := heap
  slotsUsed := slotsUsed
  threads := #[{ frames := .invoking theMethod args0 :: below }]
def below0 : List Frame := [.native { method := ⟨0, 0⟩, args := #[] }]
def about1 : State := aboutOver below0
def p0 : Program := .bare "" "" ""
def e0 : Env := launch0.env 0 0 0
theorem w_frames : about1.frames = Frame.invoking theMethod args0 :: below0 := rfl
set_option maxRecDepth 65536 in
theorem w_args : argsFit about1.vm theMethod args0 = true := by decide +kernel
set_option maxRecDepth 65536 in
theorem w_heap : heapFits about1 = true := by decide +kernel
set_option maxRecDepth 65536 in
theorem w_runnable : about1.curStatus? = some .runnable := by decide +kernel
set_option maxRecDepth 65536 in
theorem w_alone : about1.alone = true := by decide +kernel
set_option maxRecDepth 65536 in
theorem w_named : about1.methodNamed? x = some theMethod := by decide +kernel
set_option maxRecDepth 65536 in
theorem w_hears : about1.hears theMethod below0 = true := by decide +kernel
set_option maxRecDepth 65536 in
theorem w_ripe : about1.ripe theMethod args0 below0 = true := by decide +kernel
theorem w_running : about1.status = .running := rfl
set_option maxRecDepth 65536 in
theorem w_room : about1.hasRoom e0.platform room_1 = true :=
  launch0.hasRoom_least _ room_1 (by decide +kernel) (by decide +kernel) (by decide +kernel) (by decide +kernel) (by decide +kernel) (by decide +kernel)
theorem allAtoms_all (ts : List Jvm.Cond) (a : Array Jvm.Value) (st : Jvm.State) : (allAtoms ts).before a st = ts.all (fun c => c.before a st) := by
  induction ts with
  | nil => rfl
  | cons c t ih =>
    show (Jvm.Cond.and c (allAtoms t)).before a st = _
    rw [Jvm.Cond.before_and, ih, List.all_cons]
def words1 : List Jvm.Cond := Jvm.Cond.code x code maxLocals ret :: tables_1
/-- a 'code' word, met by the world's own term for the bytes: nothing is compared byte by byte -/
theorem code_word {y : MethodName} {bytes : ByteArray} {mx : Nat} {rt : Option FieldType} {a : Array Value} {s : State} {m : MethodId} {meth : Method} {c : Code} (h1 : s.methodNamed? y = some m) (h2 : s.vm.method? m = some meth) (h3 : meth.code = some c) (h4 : c.code = bytes)
    (h5 : (c.maxLocals == mx && c.exceptionTable.isEmpty && decide (c.maxStack ≤ mostOperands) && decide (meth.sig.returnType = rt) && !meth.locks && decide (parseMethodDescriptor y.desc = some meth.sig)) = true) : (Jvm.Cond.code y bytes mx rt).before a s = true := by
  simp only [Bool.and_eq_true, beq_iff_eq, Bool.not_eq_true', decide_eq_true_eq] at h5
  obtain ⟨⟨⟨⟨⟨g1, g2⟩, g3⟩, g4⟩, g5⟩, g6⟩ := h5
  simp [Cond.before, Cond.holds, Cond.value, h1, h2, h3, h4, g1, g2, g3, g4, g5, g6]
def isCode : Jvm.Cond → Bool
  | .code _ _ _ _ => true
  | _ => false
theorem all_split {L : List Jvm.Cond} {P : Jvm.Cond → Bool} (h1 : L.all (fun c => isCode c || P c) = true) (h2 : ∀ c ∈ L.filter isCode, P c = true) : L.all P = true := by
  refine List.all_eq_true.mpr fun c hc => ?_
  have h := List.all_eq_true.mp h1 c hc
  rcases Bool.eq_false_or_eq_true (isCode c) with hi | hi
  · exact h2 c (List.mem_filter.mpr ⟨hc, hi⟩)
  · simpa [hi] using h
set_option maxRecDepth 65536 in
theorem w_c0 : (Jvm.Cond.code x code maxLocals ret).before args0 about1 = true := code_word (m := ⟨1, 2⟩) (meth := k1m2) (c := k1c2) (by decide +kernel) rfl rfl rfl (by decide +kernel)
set_option maxRecDepth 65536 in
theorem w_c1 : (Jvm.Cond.code ({ cls := "com/example/retention/retention/protocol/ProtocolReaderStringsEndPinLaw", name := "step", desc := "([BI)I" } : Jvm.MethodName) method_2_code (3 : Nat) (Option.some Jvm.ClassFile.FieldType.int)).before args0 about1 = true := code_word (m := ⟨1, 1⟩) (meth := k1m1) (c := k1c1) (by decide +kernel) rfl rfl rfl (by decide +kernel)
set_option maxRecDepth 65536 in
theorem w_c2 : (Jvm.Cond.code ({ cls := "com/example/retention/retention/protocol/ProtocolReader", name := "stringsEnd", desc := "([BII)I" } : Jvm.MethodName) prog_75_method_12_code (6 : Nat) (Option.some Jvm.ClassFile.FieldType.int)).before args0 about1 = true := code_word (m := ⟨2, 0⟩) (meth := k2m0) (c := k2c0) (by decide +kernel) rfl rfl rfl (by decide +kernel)
def codes1 : List Jvm.Cond := [Jvm.Cond.code x code maxLocals ret, Jvm.Cond.code ({ cls := "com/example/retention/retention/protocol/ProtocolReaderStringsEndPinLaw", name := "step", desc := "([BI)I" } : Jvm.MethodName) method_2_code (3 : Nat) (Option.some Jvm.ClassFile.FieldType.int), Jvm.Cond.code ({ cls := "com/example/retention/retention/protocol/ProtocolReader", name := "stringsEnd", desc := "([BII)I" } : Jvm.MethodName) prog_75_method_12_code (6 : Nat) (Option.some Jvm.ClassFile.FieldType.int)]
set_option maxRecDepth 65536 in
theorem codes_eq : words1.filter isCode = codes1 := rfl
theorem w_codes : ∀ c ∈ words1.filter isCode, c.before args0 about1 = true := by
  rw [codes_eq]
  intro c hc
  simp only [codes1, List.mem_cons, List.not_mem_nil, or_false] at hc
  rcases hc with rfl | rfl | rfl
  · exact w_c0
  · exact w_c1
  · exact w_c2
set_option maxRecDepth 65536 in
theorem w_t1 : words1.all (fun c => isCode c || c.before args0 about1) = true := by decide +kernel
theorem w_tables : (allAtoms (Jvm.Cond.code x code maxLocals ret :: tables_1)).before args0 about1 = true := by
  rw [allAtoms_all]
  show words1.all (fun c => c.before args0 about1) = true
  refine all_split ?_ w_codes
  rw [w_t1]
set_option maxRecDepth 65536 in
theorem w_case : (Jvm.Cond.and given_1 narrow_1).before args0 about1 = true := by decide +kernel
theorem w_applies : (headSpec (Jvm.Cond.code x code maxLocals ret :: tables_1) room_1).applies x e0.platform about1 = true :=
  (Spec.applies_iff w_frames).mpr ⟨w_running, w_runnable, w_alone, w_named, w_hears, w_ripe, w_room, w_tables⟩
theorem atStart : AtStart classFile x code maxLocals ret World_1 tables_1 room_1 Calls_1 rest_1 Pre_1 launch0 p0 e0 about1 theMethod args0 below0 :=
  ⟨lists_1, trivial, launch0.admits_env _ _ _, launch0.least_env, fairChoices_fair.cas, fairChoices_fair.clock, w_frames, w_args, w_heap, w_applies, trivial, trivial, w_case⟩
end start1
theorem witness_1 : WitnessClaimed_1 := ⟨start1.p0, start1.e0, start1.about1, start1.theMethod, start1.args0, start1.below0, start1.atStart⟩
end Jvm.Pilot.@@N@@
