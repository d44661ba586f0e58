import JvmDerived
import JvmDerived.Pilot.@@N@@Statement
import JvmDerived.Pilot.@@N@@Code
set_option linter.unusedVariables false
set_option linter.unusedSimpArgs false
namespace Jvm.Own
open Jvm Jvm.ClassFile Sem Op Lib Jvm.Free Jvm.Stand Jvm.LawKit Jvm.RoadKit Bundle

/-! a calculus of walks, over the library's step laws -/
def Wk (Z : State) (own nm : String) (bytes : ByteArray) (ml : Nat) (ret : Option FieldType) (R : Room) (n0 : Nat) (p : Program) (l : Launch) (e : Env) (s : State) (m : MethodId) (args : Array Value) (below : List Frame) (meth : Method) (c : Code) (T : State) (cells slots : Nat) (h : Heap) : Prop :=
  ∃ locs, Stand p l e R s m args below meth c T locs cells slots ∧ Fr n0 locs ∧ T.heap = h ∧ n0 ≤ s.heap.size ∧ p.tables.exec = Jvm.exec ∧ Z.Warmed39 s.vm ∧ c.code = bytes ∧ c.maxLocals = ml ∧ s.vm.findClass own = some m.cls ∧ meth.name = nm ∧ meth.sig.returnType = ret ∧ meth.locks = false
def Goes (p : Program) (e : Env) (below : List Frame) (s : State) (R : Room) (n0 : Nat) (Q : Option Value → Heap → Prop) (t : State) : Prop :=
  ∃ s₂ o, Steps p.tables e below t s₂ ∧ s₂.status = .running ∧ Ended s₂ below o ∧ ∃ v L, o = .returned v ∧ (Fr n0 L ∧ Q v s₂.heap) ∧ FrameEnd s o s₂ L R.cells R.slots
def Met (l : Launch) (Z : State) (y : MethodName) (bytes : ByteArray) (ml : Nat) (ret : Option FieldType) (R : Room) (ws : List Jvm.Cond) (n0 : Nat) (as : Array Value) (h0 : Heap) (Q : Option Value → Heap → Prop) : Prop :=
  MetFree l y (head1 (Jvm.Cond.code y bytes ml ret :: ws) R) (fun a U => a = as ∧ Z.Warmed39 U.vm ∧ U.heap = h0) (fun _ _ _ _ _ => True) (fun _ U o U' => ∃ v L, o = .returned v ∧ (Fr n0 L ∧ Q v U'.heap) ∧ FrameEnd U o U' L R.cells R.slots)
def bI (c : Prop) [Decidable c] : Int32 := if c then 1 else 0
theorem bI_t {c : Prop} [Decidable c] (h : c) : (1 : Int32) = bI c := (if_pos h).symm
theorem bI_f {c : Prop} [Decidable c] (h : ¬ c) : (0 : Int32) = bI c := (if_neg h).symm
theorem bI_01 (c : Prop) [Decidable c] : bI c = 0 ∨ bI c = 1 := by unfold bI; split <;> simp
theorem bI_eq0 (c : Prop) [Decidable c] : bI c = 0 ↔ ¬ c := by unfold bI; split <;> simp_all
theorem bI_eq1 (c : Prop) [Decidable c] : bI c = 1 ↔ c := by unfold bI; split <;> simp_all
theorem bI_inj (c d : Prop) [Decidable c] [Decidable d] : bI c = bI d ↔ (c ↔ d) := by unfold bI; split <;> split <;> simp_all
theorem bI_cong {c d : Prop} [Decidable c] [Decidable d] (h : c ↔ d) : bI c = bI d := (bI_inj c d).mpr h
def pcI (cd : ClassFile.Cond) (x y : Int32) : Prop := match cd with
  | .lt | .ge => x < y
  | .gt | .le => y < x
  | .eq | .ne => x = y
def pcJ (cd : ClassFile.Cond) (x y : Int64) : Prop := match cd with
  | .lt | .ge => x < y
  | .gt | .le => y < x
  | .eq | .ne => x = y

theorem own_bI01 (c : Prop) [Decidable c] : (c ∧ (bI c).toInt = 1) ∨ (¬ c ∧ (bI c).toInt = 0) := by unfold bI; split <;> simp_all
theorem own_mask' (m x : Int32) (k : Nat) (hk : k ≤ 31) (hm : m.toBitVec.toNat = 2 ^ k - 1) : (m &&& x).toInt = x.toInt % (2 ^ k : Nat) := by rw [Int32.and_comm]; exact c_mask x m k hk hm
theorem own_maskL' (m x : Int64) (k : Nat) (hk : k ≤ 63) (hm : m.toBitVec.toNat = 2 ^ k - 1) : (m &&& x).toInt = x.toInt % (2 ^ k : Nat) := by rw [Int64.and_comm]; exact c_maskL x m k hk hm
theorem own_mB (x m : Int32) (k : Nat) (hk : k ≤ 31) (hm : m.toBitVec.toNat = 2 ^ k - 1) (M : Nat) (hM : M + 1 = 2 ^ k) : 0 ≤ (x &&& m).toInt ∧ (x &&& m).toInt ≤ M := by
  rw [c_mask x m k hk hm, ← hM]; have a := Int.emod_nonneg x.toInt (b := ((M + 1 : Nat) : Int)) (by omega); have b := Int.emod_lt_of_pos x.toInt (b := ((M + 1 : Nat) : Int)) (by omega); omega
theorem own_mBL (x m : Int64) (k : Nat) (hk : k ≤ 63) (hm : m.toBitVec.toNat = 2 ^ k - 1) (M : Nat) (hM : M + 1 = 2 ^ k) : 0 ≤ (x &&& m).toInt ∧ (x &&& m).toInt ≤ M := by
  rw [c_maskL x m k hk hm, ← hM]; have a := Int.emod_nonneg x.toInt (b := ((M + 1 : Nat) : Int)) (by omega); have b := Int.emod_lt_of_pos x.toInt (b := ((M + 1 : Nat) : Int)) (by omega); omega
theorem own_mB' (m x : Int32) (k : Nat) (hk : k ≤ 31) (hm : m.toBitVec.toNat = 2 ^ k - 1) (M : Nat) (hM : M + 1 = 2 ^ k) : 0 ≤ (m &&& x).toInt ∧ (m &&& x).toInt ≤ M := by rw [Int32.and_comm]; exact own_mB x m k hk hm M hM
theorem own_mBL' (m x : Int64) (k : Nat) (hk : k ≤ 63) (hm : m.toBitVec.toNat = 2 ^ k - 1) (M : Nat) (hM : M + 1 = 2 ^ k) : 0 ≤ (m &&& x).toInt ∧ (m &&& x).toInt ≤ M := by rw [Int64.and_comm]; exact own_mBL x m k hk hm M hM
theorem own_iaddE (x y : Int32) (h : -2147483648 ≤ x.toInt + y.toInt ∧ x.toInt + y.toInt < 2147483648) : (x + y).toInt = x.toInt + y.toInt := by
  have a := c_iadd x y; have b := rng32 (x + y); omega
theorem own_isubE (x y : Int32) (h : -2147483648 ≤ x.toInt - y.toInt ∧ x.toInt - y.toInt < 2147483648) : (x - y).toInt = x.toInt - y.toInt := by
  have a := c_isub x y; have b := rng32 (x - y); omega
theorem own_imulE (x y : Int32) (h : -2147483648 ≤ x.toInt * y.toInt ∧ x.toInt * y.toInt < 2147483648) : (x * y).toInt = x.toInt * y.toInt := by
  have a := c_imul x y; have b := rng32 (x * y); omega
theorem own_inegE (x : Int32) (h : -2147483648 ≤ -x.toInt ∧ -x.toInt < 2147483648) : (-x).toInt = -x.toInt := by
  have a := c_ineg x; have b := rng32 (-x); omega
theorem own_laddE (x y : Int64) (h : -9223372036854775808 ≤ x.toInt + y.toInt ∧ x.toInt + y.toInt < 9223372036854775808) : (x + y).toInt = x.toInt + y.toInt := by
  have a := c_ladd x y; have b := rng64 (x + y); omega
theorem own_lsubE (x y : Int64) (h : -9223372036854775808 ≤ x.toInt - y.toInt ∧ x.toInt - y.toInt < 9223372036854775808) : (x - y).toInt = x.toInt - y.toInt := by
  have a := c_lsub x y; have b := rng64 (x - y); omega
theorem own_lmulE (x y : Int64) (h : -9223372036854775808 ≤ x.toInt * y.toInt ∧ x.toInt * y.toInt < 9223372036854775808) : (x * y).toInt = x.toInt * y.toInt := by
  have a := c_lmul x y; have b := rng64 (x * y); omega
theorem own_lnegE (x : Int64) (h : -9223372036854775808 ≤ -x.toInt ∧ -x.toInt < 9223372036854775808) : (-x).toInt = -x.toInt := by
  have a := c_lneg x; have b := rng64 (-x); omega
theorem own_l2iE (x : Int64) (h : -2147483648 ≤ x.toInt ∧ x.toInt < 2147483648) : x.toInt32.toInt = x.toInt := by
  have a := c_l2i x; have b := rng32 x.toInt32; omega
theorem own_ushB (x q : Int32) (k : Nat) (hk : q.toBitVec.toNat % 32 = k) (h0 : 0 < k) (M : Nat) (hM : M * 2 ^ k = 4294967296) : 0 ≤ ((x.toUInt32 >>> (q &&& 31).toUInt32).toInt32).toInt ∧ ((x.toUInt32 >>> (q &&& 31).toUInt32).toInt32).toInt < M := by
  rw [c_iushr x q k hk h0]
  have h2 : (0 : Int) < ((2 ^ k : Nat) : Int) := Int.natCast_pos.mpr (Nat.pow_pos (by decide))
  refine ⟨Int.ediv_nonneg (by omega) (Int.le_of_lt h2), Int.ediv_lt_of_lt_mul h2 ?_⟩
  have q : ((M : Int)) * ((2 ^ k : Nat) : Int) = 4294967296 := by rw [← Int.natCast_mul, hM]; rfl
  omega
theorem own_irem (x y : Int32) (d : Int) (hy : y.toInt = d) : (0 ≤ x.toInt → (x % y).toInt = x.toInt % d) ∧ (x.toInt < 0 → (x % y).toInt = -((-x.toInt) % d)) := c_irem x y d hy
theorem own_lrem (x y : Int64) (d : Int) (hy : y.toInt = d) : (0 ≤ x.toInt → (x % y).toInt = x.toInt % d) ∧ (x.toInt < 0 → (x % y).toInt = -((-x.toInt) % d)) := by rw [← lrem_mod]; exact c_lrem x y d hy
theorem own_iremV (x y : Int32) : (0 ≤ x.toInt → 0 < y.toInt → 0 ≤ (x % y).toInt ∧ (x % y).toInt < y.toInt ∧ (x % y).toInt ≤ x.toInt) := fun h1 h2 => ⟨((c_iremV x y).1 h1 h2).1, ((c_iremV x y).1 h1 h2).2.1, ((c_iremV x y).1 h1 h2).2.2.1⟩
theorem own_emod_le {a b : Int} (h1 : 0 ≤ a) (h2 : 0 < b) : a % b ≤ a := by
  have q := Int.emod_add_mul_ediv a b; have z : 0 ≤ b * (a / b) := Int.mul_nonneg (Int.le_of_lt h2) (Int.ediv_nonneg h1 (Int.le_of_lt h2)); omega
theorem own_lremV (x y : Int64) : (0 ≤ x.toInt → 0 < y.toInt → 0 ≤ (x % y).toInt ∧ (x % y).toInt < y.toInt ∧ (x % y).toInt ≤ x.toInt) := fun h1 h2 => by
  rw [Int64.toInt_mod, Int.tmod_eq_emod_of_nonneg h1]
  exact ⟨Int.emod_nonneg _ (by omega), Int.emod_lt_of_pos _ h2, own_emod_le h1 h2⟩
theorem own_iremP (x y : Int32) (d : Int) (hy : y.toInt = d) (h0 : 0 ≤ x.toInt) : (x % y).toInt = x.toInt % d := (own_irem x y d hy).1 h0
theorem own_iremB (x y : Int32) (d : Int) (hy : y.toInt = d) (hd : 0 < d) (h0 : 0 ≤ x.toInt) : 0 ≤ (x % y).toInt ∧ (x % y).toInt < d ∧ (x % y).toInt ≤ x.toInt := by
  rw [own_iremP x y d hy h0]; exact ⟨Int.emod_nonneg _ (by omega), Int.emod_lt_of_pos _ hd, own_emod_le h0 hd⟩
theorem own_iremM (x y : Int32) (d : Int) (hy : y.toInt = d) (hd : 0 < d) : -d < (x % y).toInt ∧ (x % y).toInt < d := by
  rcases Int.lt_or_le x.toInt 0 with h | h
  · rw [(own_irem x y d hy).2 h]; have a := Int.emod_nonneg (-x.toInt) (b := d) (by omega); have b := Int.emod_lt_of_pos (-x.toInt) hd; omega
  · have q := own_iremB x y d hy hd h; omega
theorem own_lremP (x y : Int64) (d : Int) (hy : y.toInt = d) (h0 : 0 ≤ x.toInt) : (x % y).toInt = x.toInt % d := (own_lrem x y d hy).1 h0
theorem own_lremB (x y : Int64) (d : Int) (hy : y.toInt = d) (hd : 0 < d) (h0 : 0 ≤ x.toInt) : 0 ≤ (x % y).toInt ∧ (x % y).toInt < d ∧ (x % y).toInt ≤ x.toInt := by
  rw [own_lremP x y d hy h0]; exact ⟨Int.emod_nonneg _ (by omega), Int.emod_lt_of_pos _ hd, own_emod_le h0 hd⟩
theorem own_lremM (x y : Int64) (d : Int) (hy : y.toInt = d) (hd : 0 < d) : -d < (x % y).toInt ∧ (x % y).toInt < d := by
  rcases Int.lt_or_le x.toInt 0 with h | h
  · rw [(own_lrem x y d hy).2 h]; have a := Int.emod_nonneg (-x.toInt) (b := d) (by omega); have b := Int.emod_lt_of_pos (-x.toInt) hd; omega
  · have q := own_lremB x y d hy hd h; omega
theorem own_bor (A B : Prop) [Decidable A] [Decidable B] : bI A ||| bI B = bI (A ∨ B) := by unfold bI; by_cases a : A <;> by_cases b : B <;> simp [a, b] <;> decide
theorem own_band (A B : Prop) [Decidable A] [Decidable B] : bI A &&& bI B = bI (A ∧ B) := by unfold bI; by_cases a : A <;> by_cases b : B <;> simp [a, b] <;> decide
def Apart (a b : Addr) : Prop := a ≠ b
theorem own_apS {a b : Addr} (h : Apart a b) : Apart b a := Ne.symm h
theorem own_new {h : Heap} {a b : Addr} (hb : b = h.size) (ha : a < h.size) : Apart a b := by subst hb; exact Nat.ne_of_lt ha
theorem own_sz {h0 h : Heap} {b : Addr} {ws : List Addr} (hb : b = h.size) (K : Keep h0 h ws) : h0.size ≤ b := by subst hb; exact K.1
theorem own_far {h : Heap} {a b : Addr} (ha : a < h.size) (hb : h.size ≤ b) : Apart a b := Nat.ne_of_lt (Nat.lt_of_lt_of_le ha hb)
theorem own_narZ {z : Int32} (hz : z = 0 ∨ z = 1) : narrow .boolean (.int z) = .int z := by rcases hz with rfl | rfl <;> rfl
theorem own_fitZ {z : Int32} (hz : z = 0 ∨ z = 1) : fits .boolean (.int z) = true := by rcases hz with rfl | rfl <;> rfl
theorem own_narZ' {z : Int32} (hz : z = 0 ∨ z = 1) : nar .boolean z = z := by rcases hz with rfl | rfl <;> rfl
theorem own_fin {c : Prop} [Decidable c] (h : c) : (some (Value.int (bI c))) = some (Value.int 1) := by rw [← bI_t h]
def own_up {α : Type} (f : Nat → α) (i : Nat) (x : α) : Nat → α := fun k => if k = i then x else f k
def AI (Z : State) (h : Heap) (a : Addr) (ty : FieldType) (n : Nat) (f : Nat → Int32) : Prop := n < 2 ^ 31 ∧ ∃ c : Cell, Arr Z h a c ty ∧ c.slots.size = n ∧ ∀ j, j < n → c.slots[j]? = some (.int (f j))
def AJ (Z : State) (h : Heap) (a : Addr) (n : Nat) (f : Nat → Int64) : Prop := n < 2 ^ 31 ∧ ∃ c : Cell, Arr Z h a c .long ∧ c.slots.size = n ∧ ∀ j, j < n → c.slots[j]? = some (.long (f j))
theorem AI.lt {Z : State} {h : Heap} {a : Addr} {ty : FieldType} {n : Nat} {f : Nat → Int32} (A : AI Z h a ty n f) : a < h.size := by obtain ⟨_, c, A, _⟩ := A; exact A.lt
theorem AI.ext {Z : State} {h h' : Heap} {a : Addr} {ty : FieldType} {n : Nat} {f : Nat → Int32} (A : AI Z h a ty n f) (E : Ext h h') : AI Z h' a ty n f := by obtain ⟨q, c, A, r⟩ := A; exact ⟨q, c, A.ext E, r⟩
theorem AI.keep {Z : State} {h h' : Heap} {a : Addr} {ws : List Addr} {ty : FieldType} {n : Nat} {f : Nat → Int32} (A : AI Z h a ty n f) (K : Keep h h' ws) (q : a ∉ ws) : AI Z h' a ty n f := by obtain ⟨z, c, A, r⟩ := A; exact ⟨z, c, ⟨K.2.1 a c A.1 q, A.2⟩, r⟩
theorem AI.other {Z : State} {h h' : Heap} {a b : Addr} {sl : Nat} {w : Value} {ty : FieldType} {n : Nat} {f : Nat → Int32} (A : AI Z h a ty n f) (W : Wr h h' b sl w) (q : a ≠ b) : AI Z h' a ty n f := by obtain ⟨z, c, A, r⟩ := A; exact ⟨z, c, A.other W q, r⟩
theorem AI.set {Z : State} {h h' : Heap} {a : Addr} {i : Nat} {x : Int32} {ty : FieldType} {n : Nat} {f : Nat → Int32} (A : AI Z h a ty n f) (W : Wr h h' a i (.int x)) : AI Z h' a ty n (own_up f i x) := by
  obtain ⟨z, c, A, r1, r2⟩ := A
  refine ⟨z, _, A.same W, by rw [sz_set]; exact r1, fun j hj => ?_⟩
  by_cases q : j = i
  · subst q; simp [Cell.setSlot, own_up, r1, hj]
  · simp only [Cell.setSlot, own_up, if_neg q]; rw [Array.getElem?_setIfInBounds_ne (Ne.symm q)]; exact r2 j hj
theorem AI.to {Z : State} {h : Heap} {a : Addr} {ty : FieldType} {n : Nat} {f g : Nat → Int32} (A : AI Z h a ty n f) (q : ∀ j, j < n → f j = g j) : AI Z h a ty n g := by obtain ⟨z, c, A, r1, r2⟩ := A; exact ⟨z, c, A, r1, fun j hj => by rw [← q j hj]; exact r2 j hj⟩
theorem AJ.lt {Z : State} {h : Heap} {a : Addr} {n : Nat} {f : Nat → Int64} (A : AJ Z h a n f) : a < h.size := by obtain ⟨_, c, A, _⟩ := A; exact A.lt
theorem AJ.ext {Z : State} {h h' : Heap} {a : Addr} {n : Nat} {f : Nat → Int64} (A : AJ Z h a n f) (E : Ext h h') : AJ Z h' a n f := by obtain ⟨q, c, A, r⟩ := A; exact ⟨q, c, A.ext E, r⟩
theorem AJ.keep {Z : State} {h h' : Heap} {a : Addr} {ws : List Addr} {n : Nat} {f : Nat → Int64} (A : AJ Z h a n f) (K : Keep h h' ws) (q : a ∉ ws) : AJ Z h' a n f := by obtain ⟨z, c, A, r⟩ := A; exact ⟨z, c, ⟨K.2.1 a c A.1 q, A.2⟩, r⟩
theorem AJ.other {Z : State} {h h' : Heap} {a b : Addr} {sl : Nat} {w : Value} {n : Nat} {f : Nat → Int64} (A : AJ Z h a n f) (W : Wr h h' b sl w) (q : a ≠ b) : AJ Z h' a n f := by obtain ⟨z, c, A, r⟩ := A; exact ⟨z, c, A.other W q, r⟩
theorem AJ.set {Z : State} {h h' : Heap} {a : Addr} {i : Nat} {x : Int64} {n : Nat} {f : Nat → Int64} (A : AJ Z h a n f) (W : Wr h h' a i (.long x)) : AJ Z h' a n (own_up f i x) := by
  obtain ⟨z, c, A, r1, r2⟩ := A
  refine ⟨z, _, A.same W, by rw [sz_set]; exact r1, fun j hj => ?_⟩
  by_cases q : j = i
  · subst q; simp [Cell.setSlot, own_up, r1, hj]
  · simp only [Cell.setSlot, own_up, if_neg q]; rw [Array.getElem?_setIfInBounds_ne (Ne.symm q)]; exact r2 j hj
theorem AJ.to {Z : State} {h : Heap} {a : Addr} {n : Nat} {f g : Nat → Int64} (A : AJ Z h a n f) (q : ∀ j, j < n → f j = g j) : AJ Z h a n g := by obtain ⟨z, c, A, r1, r2⟩ := A; exact ⟨z, c, A, r1, fun j hj => by rw [← q j hj]; exact r2 j hj⟩
theorem own_ix {j : Int32} {n k : Nat} (hk : k = n) (q : 0 ≤ j.toInt ∧ j.toInt < n) : ¬ (j < 0 ∨ k ≤ j.toNatClampNeg) := by
  simp only [Int32.lt_iff_toInt_lt, Int32.toNatClampNeg, Int32.reduceToInt]; omega
theorem own_ixn {j : Int32} {n : Nat} (q : 0 ≤ j.toInt ∧ j.toInt < n) : j.toNatClampNeg < n := by simp only [Int32.toNatClampNeg]; omega
section Walk
variable {Z : State} {a0 : Array Value} {own nm : String} {bytes : ByteArray} {ml : Nat} {ret : Option FieldType} {R : Room} {n0 : Nat} {p : Program} {l : Launch} {e : Env} {s : State} {m : MethodId} {args : Array Value} {below : List Frame} {meth : Method} {c : Code} {T : State} {cells slots : Nat} {h : Heap} {Q : Option Value → Heap → Prop}
theorem Met.intro {y : MethodName} {as : Array Value} {h0 : Heap} {ws : List Jvm.Cond} (hp : plainFor y = true) (hn : n0 ≤ h0.size)
    (body : ∀ p e s m below meth c T, Wk Z y.cls y.name bytes ml ret R n0 p l e s m as below meth c T 0 0 h0 → Goes p e below s R n0 Q (T.setTop (entryFrame m as ml))) : Met l Z y bytes ml ret R ws n0 as h0 Q := by
  refine MetFree.of_bodySF hp hisR ?_
  intro p e s m args below meth c s₁ Bd hml0 hP hK
  obtain ⟨rfl, hZ, hh⟩ := hP
  have e0 : s₁.heap = h0 := by rw [← hh, Bd.state]; rfl
  exact body p e s m below meth c s₁ ⟨[], Stand.of_body Bd, Fr.nil n0, e0, by rw [hh]; exact hn, Bd.exec, hZ, Bd.bytes, hml0, findClass_of_methodNamed Bd.named, (name_of_methodNamed Bd.named Bd.method).1, Bd.returns, Bd.notSynchronized⟩
theorem g_of {A B : State} (hs : ∀ t, Steps p.tables e below A t → Steps p.tables e below B t) (k : Goes p e below s R n0 Q A) : Goes p e below s R n0 Q B := by
  obtain ⟨s2, o, h1, h2⟩ := k
  exact ⟨s2, o, hs _ h1, h2⟩
theorem g_cast {g g' : JFrame} (q : g = g') (k : Goes p e below s R n0 Q (T.setTop g')) : Goes p e below s R n0 Q (T.setTop g) := q ▸ k
theorem g_eqI {pc : Nat} {Ls : Array Slot} {x y : Int32} {rest : List Value} (q : x = y) (k : Goes p e below s R n0 Q (T.setTop (mkF m pc Ls (.int y :: rest)))) : Goes p e below s R n0 Q (T.setTop (mkF m pc Ls (.int x :: rest))) := q ▸ k
theorem g_eqJ {pc : Nat} {Ls : Array Slot} {x y : Int64} {rest : List Value} (q : x = y) (k : Goes p e below s R n0 Q (T.setTop (mkF m pc Ls (.long y :: rest)))) : Goes p e below s R n0 Q (T.setTop (mkF m pc Ls (.long x :: rest))) := q ▸ k
theorem g_letJ {pc : Nat} {Ls : Array Slot} {x : Int64} {rest : List Value} (k : ∀ y, y = x → Goes p e below s R n0 Q (T.setTop (mkF m pc Ls (.long y :: rest)))) : Goes p e below s R n0 Q (T.setTop (mkF m pc Ls (.long x :: rest))) := k x rfl
theorem g_letI {pc : Nat} {Ls : Array Slot} {x : Int32} {rest : List Value} (k : ∀ y, y = x → Goes p e below s R n0 Q (T.setTop (mkF m pc Ls (.int y :: rest)))) : Goes p e below s R n0 Q (T.setTop (mkF m pc Ls (.int x :: rest))) := k x rfl
theorem Wk.size (X : Wk Z own nm bytes ml ret R n0 p l e s m args below meth c T cells slots h) : n0 ≤ h.size := by
  obtain ⟨locs, X, N, eh, hn, hx, hZ, hby, hml, hown, hnm, hret, hlk⟩ := X
  have q : s.heap.size ≤ T.heap.size := X.same.2.1
  rw [eh] at q
  exact Nat.le_trans hn q
theorem Wk.mono (X : Wk Z own nm bytes ml ret R n0 p l e s m args below meth c T cells slots h) {cells' slots' : Nat} (hc : cells ≤ cells') (hs : slots ≤ slots') : Wk Z own nm bytes ml ret R n0 p l e s m args below meth c T cells' slots' h := by
  obtain ⟨locs, X, N, eh, hn, hx, hZ, hby, hml, hown, hnm, hret, hlk⟩ := X
  exact ⟨locs, X.mono hc hs, N, eh, hn, hx, hZ, hby, hml, hown, hnm, hret, hlk⟩
theorem g_out (X : Wk Z own nm bytes ml ret R n0 p l e s m args below meth c T cells slots h) {g : JFrame} {v : Option Value} (hv : ret = none → v = none) (hc : cells ≤ R.cells) (hs : slots ≤ R.slots)
    (st : ∀ locs, Stand p l e R s m args below meth c T locs cells slots → p.tables.exec = Jvm.exec → meth.sig.returnType = ret → c.code = bytes → ∀ fs, (∀ (f : JFrame) (acts : List Action), f.method = m → f.locked = none → f.entered = [] → (doReturn e (T.setTop f) acts v).1 = T.setFrames fs) → Steps p.tables e below (T.setTop g) (T.setFrames fs))
    (hQ : Q v h) : Goes p e below s R n0 Q (T.setTop g) := by
  obtain ⟨locs, X, N, eh, hn, hx, hZ, hby, hml, hown, hnm, hret, hlk⟩ := X
  obtain ⟨fs, hr, hrun, hended, hW, hsame⟩ := X.leave (v := v) (fun q => hv (hret ▸ q)) hlk
  exact ⟨_, _, st _ X hx hret hby fs hr, hrun, hended, _, _, rfl, ⟨N, by rw [show (T.setFrames fs).heap = T.heap from rfl, eh]; exact hQ⟩, ⟨_, rfl⟩, hW, hsame.mono hc hs⟩
theorem g_retI (X : Wk Z own nm bytes ml (some .int) R n0 p l e s m args below meth c T cells slots h) {pc : Nat} {Ls : Array Slot} {z : Int32} {rest : List Value} (hd : decode bytes pc = .ok (.ireturn, 1)) (hc : cells ≤ R.cells) (hs : slots ≤ R.slots) (hQ : Q (some (.int z)) h) : Goes p e below s R n0 Q (T.setTop (mkF m pc Ls (.int z :: rest))) :=
  g_out X nofun hc hs (fun _ Y hx hr hb fs hl => retOut Y hx hr rfl (Or.inl ⟨rfl, Or.inl rfl, _, rfl⟩) (hb ▸ hd) hl) hQ
theorem g_retZ (X : Wk Z own nm bytes ml (some .boolean) R n0 p l e s m args below meth c T cells slots h) {pc : Nat} {Ls : Array Slot} {z : Int32} {rest : List Value} (hd : decode bytes pc = .ok (.ireturn, 1)) (hc : cells ≤ R.cells) (hs : slots ≤ R.slots) (hz : z = 0 ∨ z = 1) (hQ : Q (some (.int z)) h) : Goes p e below s R n0 Q (T.setTop (mkF m pc Ls (.int z :: rest))) :=
  g_out X nofun hc hs (fun _ Y hx hr hb fs hl => retOut Y hx hr (by rcases hz with rfl | rfl <;> rfl) (Or.inl ⟨rfl, Or.inr (Or.inl rfl), _, rfl⟩) (hb ▸ hd) hl) hQ
theorem g_retJ (X : Wk Z own nm bytes ml (some .long) R n0 p l e s m args below meth c T cells slots h) {pc : Nat} {Ls : Array Slot} {z : Int64} {rest : List Value} (hd : decode bytes pc = .ok (.lreturn, 1)) (hc : cells ≤ R.cells) (hs : slots ≤ R.slots) (hQ : Q (some (.long z)) h) : Goes p e below s R n0 Q (T.setTop (mkF m pc Ls (.long z :: rest))) :=
  g_out X nofun hc hs (fun _ Y hx hr hb fs hl => retOut Y hx hr rfl (Or.inr (Or.inl ⟨rfl, rfl, _, rfl⟩)) (hb ▸ hd) hl) hQ
theorem g_retA {t : FieldType} (X : Wk Z own nm bytes ml (some t) R n0 p l e s m args below meth c T cells slots h) (ht : t.isReference = true) {pc : Nat} {Ls : Array Slot} {w : Value} (hw : w.isRef = true) {rest : List Value} (hd : decode bytes pc = .ok (.areturn, 1)) (hc : cells ≤ R.cells) (hs : slots ≤ R.slots) (hQ : Q (some w) h) : Goes p e below s R n0 Q (T.setTop (mkF m pc Ls (w :: rest))) :=
  g_out X nofun hc hs (fun _ Y hx hr hb fs hl => retOut Y hx hr (by cases t <;> simp_all [narrow, FieldType.isReference]) (Or.inr (Or.inr (Or.inr (Or.inr ⟨rfl, ht, hw⟩)))) (hb ▸ hd) hl) hQ
theorem g_ret0 (X : Wk Z own nm bytes ml none R n0 p l e s m args below meth c T cells slots h) {pc : Nat} {Ls : Array Slot} (hd : decode bytes pc = .ok (.return_, 1)) (hc : cells ≤ R.cells) (hs : slots ≤ R.slots) (hQ : Q none h) : Goes p e below s R n0 Q (T.setTop (mkF m pc Ls [])) :=
  g_out X (fun _ => rfl) hc hs (fun _ Y hx hr hb fs hl => Y.returnOut hx hr (hb ▸ hd) hl) hQ
theorem g_lcmp (X : Wk Z own nm bytes ml ret R n0 p l e s m args below meth c T cells slots h) {pc q : Nat} {Ls : Array Slot} {rest : List Value} {x y : Int64} (hd : decode bytes pc = .ok (.lcmp, 1)) (hq : pc + 1 = q) (k : Goes p e below s R n0 Q (T.setTop (mkF m q Ls (.int (lcmpW x y) :: rest)))) : Goes p e below s R n0 Q (T.setTop (mkF m pc Ls (.long y :: .long x :: rest))) := by
  obtain ⟨locs, X, N, eh, hn, hx, hZ, hby, hml, hown, hnm, hret, hlk⟩ := X
  subst hby hq
  exact g_of (fun t r => XS.lcmp X.here hx rfl hd rfl r) k
theorem g_iadd (X : Wk Z own nm bytes ml ret R n0 p l e s m args below meth c T cells slots h) {pc q : Nat} {Ls : Array Slot} {rest : List Value} {x y : Int32} (hd : decode bytes pc = .ok (.iadd, 1)) (hq : pc + 1 = q) (k : Goes p e below s R n0 Q (T.setTop (mkF m q Ls (.int (x + y) :: rest)))) : Goes p e below s R n0 Q (T.setTop (mkF m pc Ls (.int y :: .int x :: rest))) := by
  obtain ⟨locs, X, N, eh, hn, hx, hZ, hby, hml, hown, hnm, hret, hlk⟩ := X
  subst hby hq
  exact g_of (fun t r => XS.iadd X.here hx rfl hd rfl r) k
theorem g_isub (X : Wk Z own nm bytes ml ret R n0 p l e s m args below meth c T cells slots h) {pc q : Nat} {Ls : Array Slot} {rest : List Value} {x y : Int32} (hd : decode bytes pc = .ok (.isub, 1)) (hq : pc + 1 = q) (k : Goes p e below s R n0 Q (T.setTop (mkF m q Ls (.int (x - y) :: rest)))) : Goes p e below s R n0 Q (T.setTop (mkF m pc Ls (.int y :: .int x :: rest))) := by
  obtain ⟨locs, X, N, eh, hn, hx, hZ, hby, hml, hown, hnm, hret, hlk⟩ := X
  subst hby hq
  exact g_of (fun t r => XS.isub X.here hx rfl hd rfl r) k
theorem g_imul (X : Wk Z own nm bytes ml ret R n0 p l e s m args below meth c T cells slots h) {pc q : Nat} {Ls : Array Slot} {rest : List Value} {x y : Int32} (hd : decode bytes pc = .ok (.imul, 1)) (hq : pc + 1 = q) (k : Goes p e below s R n0 Q (T.setTop (mkF m q Ls (.int (x * y) :: rest)))) : Goes p e below s R n0 Q (T.setTop (mkF m pc Ls (.int y :: .int x :: rest))) := by
  obtain ⟨locs, X, N, eh, hn, hx, hZ, hby, hml, hown, hnm, hret, hlk⟩ := X
  subst hby hq
  exact g_of (fun t r => XS.imul X.here hx rfl hd rfl r) k
theorem g_iand (X : Wk Z own nm bytes ml ret R n0 p l e s m args below meth c T cells slots h) {pc q : Nat} {Ls : Array Slot} {rest : List Value} {x y : Int32} (hd : decode bytes pc = .ok (.iand, 1)) (hq : pc + 1 = q) (k : Goes p e below s R n0 Q (T.setTop (mkF m q Ls (.int (x &&& y) :: rest)))) : Goes p e below s R n0 Q (T.setTop (mkF m pc Ls (.int y :: .int x :: rest))) := by
  obtain ⟨locs, X, N, eh, hn, hx, hZ, hby, hml, hown, hnm, hret, hlk⟩ := X
  subst hby hq
  exact g_of (fun t r => XS.iand X.here hx rfl hd rfl r) k
theorem g_ior (X : Wk Z own nm bytes ml ret R n0 p l e s m args below meth c T cells slots h) {pc q : Nat} {Ls : Array Slot} {rest : List Value} {x y : Int32} (hd : decode bytes pc = .ok (.ior, 1)) (hq : pc + 1 = q) (k : Goes p e below s R n0 Q (T.setTop (mkF m q Ls (.int (x ||| y) :: rest)))) : Goes p e below s R n0 Q (T.setTop (mkF m pc Ls (.int y :: .int x :: rest))) := by
  obtain ⟨locs, X, N, eh, hn, hx, hZ, hby, hml, hown, hnm, hret, hlk⟩ := X
  subst hby hq
  exact g_of (fun t r => XS.ior X.here hx rfl hd rfl r) k
theorem g_ixor (X : Wk Z own nm bytes ml ret R n0 p l e s m args below meth c T cells slots h) {pc q : Nat} {Ls : Array Slot} {rest : List Value} {x y : Int32} (hd : decode bytes pc = .ok (.ixor, 1)) (hq : pc + 1 = q) (k : Goes p e below s R n0 Q (T.setTop (mkF m q Ls (.int (x ^^^ y) :: rest)))) : Goes p e below s R n0 Q (T.setTop (mkF m pc Ls (.int y :: .int x :: rest))) := by
  obtain ⟨locs, X, N, eh, hn, hx, hZ, hby, hml, hown, hnm, hret, hlk⟩ := X
  subst hby hq
  exact g_of (fun t r => XS.ixor X.here hx rfl hd rfl r) k
theorem g_ladd (X : Wk Z own nm bytes ml ret R n0 p l e s m args below meth c T cells slots h) {pc q : Nat} {Ls : Array Slot} {rest : List Value} {x y : Int64} (hd : decode bytes pc = .ok (.ladd, 1)) (hq : pc + 1 = q) (k : Goes p e below s R n0 Q (T.setTop (mkF m q Ls (.long (x + y) :: rest)))) : Goes p e below s R n0 Q (T.setTop (mkF m pc Ls (.long y :: .long x :: rest))) := by
  obtain ⟨locs, X, N, eh, hn, hx, hZ, hby, hml, hown, hnm, hret, hlk⟩ := X
  subst hby hq
  exact g_of (fun t r => XS.ladd X.here hx rfl hd rfl r) k
theorem g_lsub (X : Wk Z own nm bytes ml ret R n0 p l e s m args below meth c T cells slots h) {pc q : Nat} {Ls : Array Slot} {rest : List Value} {x y : Int64} (hd : decode bytes pc = .ok (.lsub, 1)) (hq : pc + 1 = q) (k : Goes p e below s R n0 Q (T.setTop (mkF m q Ls (.long (x - y) :: rest)))) : Goes p e below s R n0 Q (T.setTop (mkF m pc Ls (.long y :: .long x :: rest))) := by
  obtain ⟨locs, X, N, eh, hn, hx, hZ, hby, hml, hown, hnm, hret, hlk⟩ := X
  subst hby hq
  exact g_of (fun t r => XS.lsub X.here hx rfl hd rfl r) k
theorem g_lmul (X : Wk Z own nm bytes ml ret R n0 p l e s m args below meth c T cells slots h) {pc q : Nat} {Ls : Array Slot} {rest : List Value} {x y : Int64} (hd : decode bytes pc = .ok (.lmul, 1)) (hq : pc + 1 = q) (k : Goes p e below s R n0 Q (T.setTop (mkF m q Ls (.long (x * y) :: rest)))) : Goes p e below s R n0 Q (T.setTop (mkF m pc Ls (.long y :: .long x :: rest))) := by
  obtain ⟨locs, X, N, eh, hn, hx, hZ, hby, hml, hown, hnm, hret, hlk⟩ := X
  subst hby hq
  exact g_of (fun t r => XS.lmul X.here hx rfl hd rfl r) k
theorem g_land (X : Wk Z own nm bytes ml ret R n0 p l e s m args below meth c T cells slots h) {pc q : Nat} {Ls : Array Slot} {rest : List Value} {x y : Int64} (hd : decode bytes pc = .ok (.land, 1)) (hq : pc + 1 = q) (k : Goes p e below s R n0 Q (T.setTop (mkF m q Ls (.long (x &&& y) :: rest)))) : Goes p e below s R n0 Q (T.setTop (mkF m pc Ls (.long y :: .long x :: rest))) := by
  obtain ⟨locs, X, N, eh, hn, hx, hZ, hby, hml, hown, hnm, hret, hlk⟩ := X
  subst hby hq
  exact g_of (fun t r => XS.land X.here hx rfl hd rfl r) k
theorem g_lor (X : Wk Z own nm bytes ml ret R n0 p l e s m args below meth c T cells slots h) {pc q : Nat} {Ls : Array Slot} {rest : List Value} {x y : Int64} (hd : decode bytes pc = .ok (.lor, 1)) (hq : pc + 1 = q) (k : Goes p e below s R n0 Q (T.setTop (mkF m q Ls (.long (x ||| y) :: rest)))) : Goes p e below s R n0 Q (T.setTop (mkF m pc Ls (.long y :: .long x :: rest))) := by
  obtain ⟨locs, X, N, eh, hn, hx, hZ, hby, hml, hown, hnm, hret, hlk⟩ := X
  subst hby hq
  exact g_of (fun t r => XS.lor X.here hx rfl hd rfl r) k
theorem g_lxor (X : Wk Z own nm bytes ml ret R n0 p l e s m args below meth c T cells slots h) {pc q : Nat} {Ls : Array Slot} {rest : List Value} {x y : Int64} (hd : decode bytes pc = .ok (.lxor, 1)) (hq : pc + 1 = q) (k : Goes p e below s R n0 Q (T.setTop (mkF m q Ls (.long (x ^^^ y) :: rest)))) : Goes p e below s R n0 Q (T.setTop (mkF m pc Ls (.long y :: .long x :: rest))) := by
  obtain ⟨locs, X, N, eh, hn, hx, hZ, hby, hml, hown, hnm, hret, hlk⟩ := X
  subst hby hq
  exact g_of (fun t r => XS.lxor X.here hx rfl hd rfl r) k
theorem g_idiv (X : Wk Z own nm bytes ml ret R n0 p l e s m args below meth c T cells slots h) {pc q : Nat} {Ls : Array Slot} {rest : List Value} {x y : Int32} (hd : decode bytes pc = .ok (.idiv, 1)) (hq : pc + 1 = q) (hy : y ≠ 0) (k : Goes p e below s R n0 Q (T.setTop (mkF m q Ls (.int (x / y) :: rest)))) : Goes p e below s R n0 Q (T.setTop (mkF m pc Ls (.int y :: .int x :: rest))) := by
  obtain ⟨locs, X, N, eh, hn, hx, hZ, hby, hml, hown, hnm, hret, hlk⟩ := X
  subst hby hq
  exact g_of (fun t r => XS.idiv X.here hx rfl hd rfl hy r) k
theorem g_irem (X : Wk Z own nm bytes ml ret R n0 p l e s m args below meth c T cells slots h) {pc q : Nat} {Ls : Array Slot} {rest : List Value} {x y : Int32} (hd : decode bytes pc = .ok (.irem, 1)) (hq : pc + 1 = q) (hy : y ≠ 0) (k : Goes p e below s R n0 Q (T.setTop (mkF m q Ls (.int (x % y) :: rest)))) : Goes p e below s R n0 Q (T.setTop (mkF m pc Ls (.int y :: .int x :: rest))) := by
  obtain ⟨locs, X, N, eh, hn, hx, hZ, hby, hml, hown, hnm, hret, hlk⟩ := X
  subst hby hq
  exact g_of (fun t r => XS.irem X.here hx rfl hd rfl hy (by rw [irem_eq_mod x y]; exact r)) k
theorem g_ldiv (X : Wk Z own nm bytes ml ret R n0 p l e s m args below meth c T cells slots h) {pc q : Nat} {Ls : Array Slot} {rest : List Value} {x y : Int64} (hd : decode bytes pc = .ok (.ldiv, 1)) (hq : pc + 1 = q) (hy : y ≠ 0) (k : Goes p e below s R n0 Q (T.setTop (mkF m q Ls (.long (x / y) :: rest)))) : Goes p e below s R n0 Q (T.setTop (mkF m pc Ls (.long y :: .long x :: rest))) := by
  obtain ⟨locs, X, N, eh, hn, hx, hZ, hby, hml, hown, hnm, hret, hlk⟩ := X
  subst hby hq
  exact g_of (fun t r => XS.ldiv X.here hx rfl hd rfl hy r) k
theorem g_lrem (X : Wk Z own nm bytes ml ret R n0 p l e s m args below meth c T cells slots h) {pc q : Nat} {Ls : Array Slot} {rest : List Value} {x y : Int64} (hd : decode bytes pc = .ok (.lrem, 1)) (hq : pc + 1 = q) (hy : y ≠ 0) (k : Goes p e below s R n0 Q (T.setTop (mkF m q Ls (.long (x % y) :: rest)))) : Goes p e below s R n0 Q (T.setTop (mkF m pc Ls (.long y :: .long x :: rest))) := by
  obtain ⟨locs, X, N, eh, hn, hx, hZ, hby, hml, hown, hnm, hret, hlk⟩ := X
  subst hby hq
  exact g_of (fun t r => XS.lrem X.here hx rfl hd rfl hy (by rw [lrem_mod x y]; exact r)) k
theorem g_ineg (X : Wk Z own nm bytes ml ret R n0 p l e s m args below meth c T cells slots h) {pc q : Nat} {Ls : Array Slot} {rest : List Value} {x : Int32} (hd : decode bytes pc = .ok (.ineg, 1)) (hq : pc + 1 = q) (k : Goes p e below s R n0 Q (T.setTop (mkF m q Ls (.int (-x) :: rest)))) : Goes p e below s R n0 Q (T.setTop (mkF m pc Ls (.int x :: rest))) := by
  obtain ⟨locs, X, N, eh, hn, hx, hZ, hby, hml, hown, hnm, hret, hlk⟩ := X
  subst hby hq
  exact g_of (fun t r => XS.ineg X.here hx rfl hd rfl r) k
theorem g_lneg (X : Wk Z own nm bytes ml ret R n0 p l e s m args below meth c T cells slots h) {pc q : Nat} {Ls : Array Slot} {rest : List Value} {x : Int64} (hd : decode bytes pc = .ok (.lneg, 1)) (hq : pc + 1 = q) (k : Goes p e below s R n0 Q (T.setTop (mkF m q Ls (.long (-x) :: rest)))) : Goes p e below s R n0 Q (T.setTop (mkF m pc Ls (.long x :: rest))) := by
  obtain ⟨locs, X, N, eh, hn, hx, hZ, hby, hml, hown, hnm, hret, hlk⟩ := X
  subst hby hq
  exact g_of (fun t r => XS.lneg X.here hx rfl hd rfl r) k
theorem g_i2l (X : Wk Z own nm bytes ml ret R n0 p l e s m args below meth c T cells slots h) {pc q : Nat} {Ls : Array Slot} {rest : List Value} {x : Int32} (hd : decode bytes pc = .ok (.i2l, 1)) (hq : pc + 1 = q) (k : Goes p e below s R n0 Q (T.setTop (mkF m q Ls (.long x.toInt64 :: rest)))) : Goes p e below s R n0 Q (T.setTop (mkF m pc Ls (.int x :: rest))) := by
  obtain ⟨locs, X, N, eh, hn, hx, hZ, hby, hml, hown, hnm, hret, hlk⟩ := X
  subst hby hq
  exact g_of (fun t r => XS.i2l X.here hx rfl hd rfl r) k
theorem g_l2i (X : Wk Z own nm bytes ml ret R n0 p l e s m args below meth c T cells slots h) {pc q : Nat} {Ls : Array Slot} {rest : List Value} {x : Int64} (hd : decode bytes pc = .ok (.l2i, 1)) (hq : pc + 1 = q) (k : Goes p e below s R n0 Q (T.setTop (mkF m q Ls (.int x.toInt32 :: rest)))) : Goes p e below s R n0 Q (T.setTop (mkF m pc Ls (.long x :: rest))) := by
  obtain ⟨locs, X, N, eh, hn, hx, hZ, hby, hml, hown, hnm, hret, hlk⟩ := X
  subst hby hq
  exact g_of (fun t r => XS.l2i X.here hx rfl hd rfl r) k
theorem g_i2b (X : Wk Z own nm bytes ml ret R n0 p l e s m args below meth c T cells slots h) {pc q : Nat} {Ls : Array Slot} {rest : List Value} {x : Int32} (hd : decode bytes pc = .ok (.i2b, 1)) (hq : pc + 1 = q) (k : Goes p e below s R n0 Q (T.setTop (mkF m q Ls (.int x.toInt8.toInt32 :: rest)))) : Goes p e below s R n0 Q (T.setTop (mkF m pc Ls (.int x :: rest))) := by
  obtain ⟨locs, X, N, eh, hn, hx, hZ, hby, hml, hown, hnm, hret, hlk⟩ := X
  subst hby hq
  exact g_of (fun t r => XS.i2b X.here hx rfl hd rfl r) k
theorem g_ishl (X : Wk Z own nm bytes ml ret R n0 p l e s m args below meth c T cells slots h) {pc q : Nat} {Ls : Array Slot} {rest : List Value} {x y : Int32} (hd : decode bytes pc = .ok (.ishl, 1)) (hq : pc + 1 = q) (k : Goes p e below s R n0 Q (T.setTop (mkF m q Ls (.int (x <<< (y &&& 31)) :: rest)))) : Goes p e below s R n0 Q (T.setTop (mkF m pc Ls (.int y :: .int x :: rest))) := by
  obtain ⟨locs, X, N, eh, hn, hx, hZ, hby, hml, hown, hnm, hret, hlk⟩ := X
  subst hby hq
  exact g_of (fun t r => XS.ishl X.here hx rfl hd rfl r) k
theorem g_ishr (X : Wk Z own nm bytes ml ret R n0 p l e s m args below meth c T cells slots h) {pc q : Nat} {Ls : Array Slot} {rest : List Value} {x y : Int32} (hd : decode bytes pc = .ok (.ishr, 1)) (hq : pc + 1 = q) (k : Goes p e below s R n0 Q (T.setTop (mkF m q Ls (.int (x >>> (y &&& 31)) :: rest)))) : Goes p e below s R n0 Q (T.setTop (mkF m pc Ls (.int y :: .int x :: rest))) := by
  obtain ⟨locs, X, N, eh, hn, hx, hZ, hby, hml, hown, hnm, hret, hlk⟩ := X
  subst hby hq
  exact g_of (fun t r => XS.ishr X.here hx rfl hd rfl r) k
theorem g_iushr (X : Wk Z own nm bytes ml ret R n0 p l e s m args below meth c T cells slots h) {pc q : Nat} {Ls : Array Slot} {rest : List Value} {x y : Int32} (hd : decode bytes pc = .ok (.iushr, 1)) (hq : pc + 1 = q) (k : Goes p e below s R n0 Q (T.setTop (mkF m q Ls (.int ((x.toUInt32 >>> (y &&& 31).toUInt32).toInt32) :: rest)))) : Goes p e below s R n0 Q (T.setTop (mkF m pc Ls (.int y :: .int x :: rest))) := by
  obtain ⟨locs, X, N, eh, hn, hx, hZ, hby, hml, hown, hnm, hret, hlk⟩ := X
  subst hby hq
  exact g_of (fun t r => XS.iushr X.here hx rfl hd rfl r) k
theorem g_lshl (X : Wk Z own nm bytes ml ret R n0 p l e s m args below meth c T cells slots h) {pc q : Nat} {Ls : Array Slot} {rest : List Value} {x : Int64} {y : Int32} (hd : decode bytes pc = .ok (.lshl, 1)) (hq : pc + 1 = q) (k : Goes p e below s R n0 Q (T.setTop (mkF m q Ls (.long (x <<< (y &&& 0x3f).toInt64) :: rest)))) : Goes p e below s R n0 Q (T.setTop (mkF m pc Ls (.int y :: .long x :: rest))) := by
  obtain ⟨locs, X, N, eh, hn, hx, hZ, hby, hml, hown, hnm, hret, hlk⟩ := X
  subst hby hq
  exact g_of (fun t r => XS.lshl X.here hx rfl hd rfl r) k
theorem g_lshr (X : Wk Z own nm bytes ml ret R n0 p l e s m args below meth c T cells slots h) {pc q : Nat} {Ls : Array Slot} {rest : List Value} {x : Int64} {y : Int32} (hd : decode bytes pc = .ok (.lshr, 1)) (hq : pc + 1 = q) (k : Goes p e below s R n0 Q (T.setTop (mkF m q Ls (.long (x >>> (y &&& 0x3f).toInt64) :: rest)))) : Goes p e below s R n0 Q (T.setTop (mkF m pc Ls (.int y :: .long x :: rest))) := by
  obtain ⟨locs, X, N, eh, hn, hx, hZ, hby, hml, hown, hnm, hret, hlk⟩ := X
  subst hby hq
  exact g_of (fun t r => XS.lshr X.here hx rfl hd rfl r) k
theorem g_lushr (X : Wk Z own nm bytes ml ret R n0 p l e s m args below meth c T cells slots h) {pc q : Nat} {Ls : Array Slot} {rest : List Value} {x : Int64} {y : Int32} (hd : decode bytes pc = .ok (.lushr, 1)) (hq : pc + 1 = q) (k : Goes p e below s R n0 Q (T.setTop (mkF m q Ls (.long ((x.toUInt64 >>> (y &&& 0x3f).toInt64.toUInt64).toInt64) :: rest)))) : Goes p e below s R n0 Q (T.setTop (mkF m pc Ls (.int y :: .long x :: rest))) := by
  obtain ⟨locs, X, N, eh, hn, hx, hZ, hby, hml, hown, hnm, hret, hlk⟩ := X
  subst hby hq
  exact g_of (fun t r => XS.lushr X.here hx rfl hd rfl r) k
theorem g_iload (X : Wk Z own nm bytes ml ret R n0 p l e s m args below meth c T cells slots h) {pc q : Nat} {Ls : Array Slot} {st : List Value} {i : Nat} {v : Int32} (hd : decode bytes pc = .ok (.iload i, 2)) (hq : pc + 2 = q) (hl : Ls[i]? = some (.val (.int v))) (k : Goes p e below s R n0 Q (T.setTop (mkF m q Ls (.int v :: st)))) : Goes p e below s R n0 Q (T.setTop (mkF m pc Ls st)) := by
  obtain ⟨locs, X, N, eh, hn, hx, hZ, hby, hml, hown, hnm, hret, hlk⟩ := X
  subst hby hq
  exact g_of (fun t r => XS.iload X.here hx rfl hd hl r) k
theorem g_iloadN (X : Wk Z own nm bytes ml ret R n0 p l e s m args below meth c T cells slots h) {pc q : Nat} {Ls : Array Slot} {st : List Value} {i : Fin 4} {v : Int32} (hd : decode bytes pc = .ok (.iload_n i, 1)) (hq : pc + 1 = q) (hl : Ls[i.val]? = some (.val (.int v))) (k : Goes p e below s R n0 Q (T.setTop (mkF m q Ls (.int v :: st)))) : Goes p e below s R n0 Q (T.setTop (mkF m pc Ls st)) := by
  obtain ⟨locs, X, N, eh, hn, hx, hZ, hby, hml, hown, hnm, hret, hlk⟩ := X
  subst hby hq
  exact g_of (fun t r => XS.iloadN X.here hx rfl hd hl r) k
theorem g_lload (X : Wk Z own nm bytes ml ret R n0 p l e s m args below meth c T cells slots h) {pc q : Nat} {Ls : Array Slot} {st : List Value} {i : Nat} {v : Int64} (hd : decode bytes pc = .ok (.lload i, 2)) (hq : pc + 2 = q) (hl : Ls[i]? = some (.val (.long v))) (k : Goes p e below s R n0 Q (T.setTop (mkF m q Ls (.long v :: st)))) : Goes p e below s R n0 Q (T.setTop (mkF m pc Ls st)) := by
  obtain ⟨locs, X, N, eh, hn, hx, hZ, hby, hml, hown, hnm, hret, hlk⟩ := X
  subst hby hq
  exact g_of (fun t r => XS.lload X.here hx rfl hd hl r) k
theorem g_lloadN (X : Wk Z own nm bytes ml ret R n0 p l e s m args below meth c T cells slots h) {pc q : Nat} {Ls : Array Slot} {st : List Value} {i : Fin 4} {v : Int64} (hd : decode bytes pc = .ok (.lload_n i, 1)) (hq : pc + 1 = q) (hl : Ls[i.val]? = some (.val (.long v))) (k : Goes p e below s R n0 Q (T.setTop (mkF m q Ls (.long v :: st)))) : Goes p e below s R n0 Q (T.setTop (mkF m pc Ls st)) := by
  obtain ⟨locs, X, N, eh, hn, hx, hZ, hby, hml, hown, hnm, hret, hlk⟩ := X
  subst hby hq
  exact g_of (fun t r => XS.lloadN X.here hx rfl hd hl r) k
theorem g_aload (X : Wk Z own nm bytes ml ret R n0 p l e s m args below meth c T cells slots h) {pc q : Nat} {Ls : Array Slot} {st : List Value} {i : Nat} {v : Value} (hd : decode bytes pc = .ok (.aload i, 2)) (hq : pc + 2 = q) (hl : Ls[i]? = some (.val v)) (hv : v.isRef = true) (k : Goes p e below s R n0 Q (T.setTop (mkF m q Ls (v :: st)))) : Goes p e below s R n0 Q (T.setTop (mkF m pc Ls st)) := by
  obtain ⟨locs, X, N, eh, hn, hx, hZ, hby, hml, hown, hnm, hret, hlk⟩ := X
  subst hby hq
  exact g_of (fun t r => XS.aload X.here hx rfl hd hl hv r) k
theorem g_aloadN (X : Wk Z own nm bytes ml ret R n0 p l e s m args below meth c T cells slots h) {pc q : Nat} {Ls : Array Slot} {st : List Value} {i : Fin 4} {v : Value} (hd : decode bytes pc = .ok (.aload_n i, 1)) (hq : pc + 1 = q) (hl : Ls[i.val]? = some (.val v)) (hv : v.isRef = true) (k : Goes p e below s R n0 Q (T.setTop (mkF m q Ls (v :: st)))) : Goes p e below s R n0 Q (T.setTop (mkF m pc Ls st)) := by
  obtain ⟨locs, X, N, eh, hn, hx, hZ, hby, hml, hown, hnm, hret, hlk⟩ := X
  subst hby hq
  exact g_of (fun t r => XS.aloadN X.here hx rfl hd hl hv r) k
theorem g_istore (X : Wk Z own nm bytes ml ret R n0 p l e s m args below meth c T cells slots h) {pc q : Nat} {Ls : Array Slot} {rest : List Value} {i : Nat} {v : Int32} {L' : Array Slot} (hd : decode bytes pc = .ok (.istore i, 2)) (hq : pc + 2 = q) (hl : storeLocals Ls i (.int v) = some L') (k : Goes p e below s R n0 Q (T.setTop (mkF m q L' rest))) : Goes p e below s R n0 Q (T.setTop (mkF m pc Ls (.int v :: rest))) := by
  obtain ⟨locs, X, N, eh, hn, hx, hZ, hby, hml, hown, hnm, hret, hlk⟩ := X
  subst hby hq
  exact g_of (fun t r => XS.istore X.here hx rfl hd rfl hl r) k
theorem g_istoreN (X : Wk Z own nm bytes ml ret R n0 p l e s m args below meth c T cells slots h) {pc q : Nat} {Ls : Array Slot} {rest : List Value} {i : Fin 4} {v : Int32} {L' : Array Slot} (hd : decode bytes pc = .ok (.istore_n i, 1)) (hq : pc + 1 = q) (hl : storeLocals Ls i.val (.int v) = some L') (k : Goes p e below s R n0 Q (T.setTop (mkF m q L' rest))) : Goes p e below s R n0 Q (T.setTop (mkF m pc Ls (.int v :: rest))) := by
  obtain ⟨locs, X, N, eh, hn, hx, hZ, hby, hml, hown, hnm, hret, hlk⟩ := X
  subst hby hq
  exact g_of (fun t r => XS.istoreN X.here hx rfl hd rfl hl r) k
theorem g_lstore (X : Wk Z own nm bytes ml ret R n0 p l e s m args below meth c T cells slots h) {pc q : Nat} {Ls : Array Slot} {rest : List Value} {i : Nat} {v : Int64} {L' : Array Slot} (hd : decode bytes pc = .ok (.lstore i, 2)) (hq : pc + 2 = q) (hl : storeLocals Ls i (.long v) = some L') (k : Goes p e below s R n0 Q (T.setTop (mkF m q L' rest))) : Goes p e below s R n0 Q (T.setTop (mkF m pc Ls (.long v :: rest))) := by
  obtain ⟨locs, X, N, eh, hn, hx, hZ, hby, hml, hown, hnm, hret, hlk⟩ := X
  subst hby hq
  exact g_of (fun t r => XS.lstore X.here hx rfl hd rfl hl r) k
theorem g_lstoreN (X : Wk Z own nm bytes ml ret R n0 p l e s m args below meth c T cells slots h) {pc q : Nat} {Ls : Array Slot} {rest : List Value} {i : Fin 4} {v : Int64} {L' : Array Slot} (hd : decode bytes pc = .ok (.lstore_n i, 1)) (hq : pc + 1 = q) (hl : storeLocals Ls i.val (.long v) = some L') (k : Goes p e below s R n0 Q (T.setTop (mkF m q L' rest))) : Goes p e below s R n0 Q (T.setTop (mkF m pc Ls (.long v :: rest))) := by
  obtain ⟨locs, X, N, eh, hn, hx, hZ, hby, hml, hown, hnm, hret, hlk⟩ := X
  subst hby hq
  exact g_of (fun t r => XS.lstoreN X.here hx rfl hd rfl hl r) k
theorem g_astore (X : Wk Z own nm bytes ml ret R n0 p l e s m args below meth c T cells slots h) {pc q : Nat} {Ls : Array Slot} {rest : List Value} {i : Nat} {v : Value} {L' : Array Slot} (hd : decode bytes pc = .ok (.astore i, 2)) (hq : pc + 2 = q) (hv : v.isRef = true) (hl : storeLocals Ls i v = some L') (k : Goes p e below s R n0 Q (T.setTop (mkF m q L' rest))) : Goes p e below s R n0 Q (T.setTop (mkF m pc Ls (v :: rest))) := by
  obtain ⟨locs, X, N, eh, hn, hx, hZ, hby, hml, hown, hnm, hret, hlk⟩ := X
  subst hby hq
  exact g_of (fun t r => XS.astore X.here hx rfl hd rfl hv hl r) k
theorem g_astoreN (X : Wk Z own nm bytes ml ret R n0 p l e s m args below meth c T cells slots h) {pc q : Nat} {Ls : Array Slot} {rest : List Value} {i : Fin 4} {v : Value} {L' : Array Slot} (hd : decode bytes pc = .ok (.astore_n i, 1)) (hq : pc + 1 = q) (hv : v.isRef = true) (hl : storeLocals Ls i.val v = some L') (k : Goes p e below s R n0 Q (T.setTop (mkF m q L' rest))) : Goes p e below s R n0 Q (T.setTop (mkF m pc Ls (v :: rest))) := by
  obtain ⟨locs, X, N, eh, hn, hx, hZ, hby, hml, hown, hnm, hret, hlk⟩ := X
  subst hby hq
  exact g_of (fun t r => XS.astoreN X.here hx rfl hd rfl hv hl r) k
theorem g_iconst (X : Wk Z own nm bytes ml ret R n0 p l e s m args below meth c T cells slots h) {pc q : Nat} {Ls : Array Slot} {st : List Value} {i : Int} {v : Int32} (hd : decode bytes pc = .ok (.iconst i, 1)) (hq : pc + 1 = q) (hv : Int32.ofInt i = v) (k : Goes p e below s R n0 Q (T.setTop (mkF m q Ls (.int v :: st)))) : Goes p e below s R n0 Q (T.setTop (mkF m pc Ls st)) := by
  obtain ⟨locs, X, N, eh, hn, hx, hZ, hby, hml, hown, hnm, hret, hlk⟩ := X
  subst hby hq
  exact g_of (fun t r => XS.iconst X.here hx rfl hd (by rw [hv]; exact r)) k
theorem g_bipush (X : Wk Z own nm bytes ml ret R n0 p l e s m args below meth c T cells slots h) {pc q : Nat} {Ls : Array Slot} {st : List Value} {i : Int} {v : Int32} (hd : decode bytes pc = .ok (.bipush i, 2)) (hq : pc + 2 = q) (hv : (Int8.ofInt i).toInt32 = v) (k : Goes p e below s R n0 Q (T.setTop (mkF m q Ls (.int v :: st)))) : Goes p e below s R n0 Q (T.setTop (mkF m pc Ls st)) := by
  obtain ⟨locs, X, N, eh, hn, hx, hZ, hby, hml, hown, hnm, hret, hlk⟩ := X
  subst hby hq
  exact g_of (fun t r => XS.bipush X.here hx rfl hd (by rw [hv]; exact r)) k
theorem g_sipush (X : Wk Z own nm bytes ml ret R n0 p l e s m args below meth c T cells slots h) {pc q : Nat} {Ls : Array Slot} {st : List Value} {i : Int} {v : Int32} (hd : decode bytes pc = .ok (.sipush i, 3)) (hq : pc + 3 = q) (hv : (Int16.ofInt i).toInt32 = v) (k : Goes p e below s R n0 Q (T.setTop (mkF m q Ls (.int v :: st)))) : Goes p e below s R n0 Q (T.setTop (mkF m pc Ls st)) := by
  obtain ⟨locs, X, N, eh, hn, hx, hZ, hby, hml, hown, hnm, hret, hlk⟩ := X
  subst hby hq
  exact g_of (fun t r => XS.sipush X.here hx rfl hd (by rw [hv]; exact r)) k
theorem g_lconst (X : Wk Z own nm bytes ml ret R n0 p l e s m args below meth c T cells slots h) {pc q : Nat} {Ls : Array Slot} {st : List Value} {i : Fin 2} {v : Int64} (hd : decode bytes pc = .ok (.lconst i, 1)) (hq : pc + 1 = q) (hv : Int64.ofNat i = v) (k : Goes p e below s R n0 Q (T.setTop (mkF m q Ls (.long v :: st)))) : Goes p e below s R n0 Q (T.setTop (mkF m pc Ls st)) := by
  obtain ⟨locs, X, N, eh, hn, hx, hZ, hby, hml, hown, hnm, hret, hlk⟩ := X
  subst hby hq
  exact g_of (fun t r => XS.lconst X.here hx rfl hd (by rw [hv]; exact r)) k
theorem g_aconst_null (X : Wk Z own nm bytes ml ret R n0 p l e s m args below meth c T cells slots h) {pc q : Nat} {Ls : Array Slot} {st : List Value} (hd : decode bytes pc = .ok (.aconst_null, 1)) (hq : pc + 1 = q) (k : Goes p e below s R n0 Q (T.setTop (mkF m q Ls (.null :: st)))) : Goes p e below s R n0 Q (T.setTop (mkF m pc Ls st)) := by
  obtain ⟨locs, X, N, eh, hn, hx, hZ, hby, hml, hown, hnm, hret, hlk⟩ := X
  subst hby hq
  exact g_of (fun t r => XS.aconstNull X.here hx rfl hd r) k
theorem g_dup (X : Wk Z own nm bytes ml ret R n0 p l e s m args below meth c T cells slots h) {pc q : Nat} {Ls : Array Slot} {rest : List Value} {v : Value} (hd : decode bytes pc = .ok (.dup, 1)) (hq : pc + 1 = q) (hv : v.category = 1) (k : Goes p e below s R n0 Q (T.setTop (mkF m q Ls (v :: v :: rest)))) : Goes p e below s R n0 Q (T.setTop (mkF m pc Ls (v :: rest))) := by
  obtain ⟨locs, X, N, eh, hn, hx, hZ, hby, hml, hown, hnm, hret, hlk⟩ := X
  subst hby hq
  exact g_of (fun t r => XS.dup X.here hx rfl hd rfl hv r) k
theorem g_dup_x1 (X : Wk Z own nm bytes ml ret R n0 p l e s m args below meth c T cells slots h) {pc q : Nat} {Ls : Array Slot} {rest : List Value} {v w : Value} (hd : decode bytes pc = .ok (.dup_x1, 1)) (hq : pc + 1 = q) (hv : v.category = 1) (hw : w.category = 1) (k : Goes p e below s R n0 Q (T.setTop (mkF m q Ls (v :: w :: v :: rest)))) : Goes p e below s R n0 Q (T.setTop (mkF m pc Ls (v :: w :: rest))) := by
  obtain ⟨locs, X, N, eh, hn, hx, hZ, hby, hml, hown, hnm, hret, hlk⟩ := X
  subst hby hq
  exact g_of (fun t r => XS.dupX1 X.here hx rfl hd rfl hv hw r) k
theorem g_dup2 (X : Wk Z own nm bytes ml ret R n0 p l e s m args below meth c T cells slots h) {pc q : Nat} {Ls : Array Slot} {rest : List Value} {v w : Value} (hd : decode bytes pc = .ok (.dup2, 1)) (hq : pc + 1 = q) (hv : v.category = 1) (hw : w.category = 1) (k : Goes p e below s R n0 Q (T.setTop (mkF m q Ls (v :: w :: v :: w :: rest)))) : Goes p e below s R n0 Q (T.setTop (mkF m pc Ls (v :: w :: rest))) := by
  obtain ⟨locs, X, N, eh, hn, hx, hZ, hby, hml, hown, hnm, hret, hlk⟩ := X
  subst hby hq
  exact g_of (fun t r => Jvm.Free.XT.dup2 X.here hx rfl hd rfl hv hw r) k
theorem g_dup2L (X : Wk Z own nm bytes ml ret R n0 p l e s m args below meth c T cells slots h) {pc q : Nat} {Ls : Array Slot} {rest : List Value} {x : Int64} (hd : decode bytes pc = .ok (.dup2, 1)) (hq : pc + 1 = q) (k : Goes p e below s R n0 Q (T.setTop (mkF m q Ls (.long x :: .long x :: rest)))) : Goes p e below s R n0 Q (T.setTop (mkF m pc Ls (.long x :: rest))) := by
  obtain ⟨locs, X, N, eh, hn, hx, hZ, hby, hml, hown, hnm, hret, hlk⟩ := X
  subst hby hq
  exact g_of (fun t r => Jvm.Free.XT.dup2L X.here hx rfl hd rfl r) k
theorem g_pop (X : Wk Z own nm bytes ml ret R n0 p l e s m args below meth c T cells slots h) {pc q : Nat} {Ls : Array Slot} {rest : List Value} {v : Value} (hd : decode bytes pc = .ok (.pop, 1)) (hq : pc + 1 = q) (hv : v.category = 1) (k : Goes p e below s R n0 Q (T.setTop (mkF m q Ls rest))) : Goes p e below s R n0 Q (T.setTop (mkF m pc Ls (v :: rest))) := by
  obtain ⟨locs, X, N, eh, hn, hx, hZ, hby, hml, hown, hnm, hret, hlk⟩ := X
  subst hby hq
  exact g_of (fun t r => XS.pop X.here hx rfl hd rfl hv r) k
theorem g_iinc (X : Wk Z own nm bytes ml ret R n0 p l e s m args below meth c T cells slots h) {pc q : Nat} {Ls L' : Array Slot} {st : List Value} {i : Nat} {cst : Int} {x d : Int32} (hd : decode bytes pc = .ok (.iinc i cst, 3)) (hq : pc + 3 = q) (hl : Ls[i]? = some (.val (.int x))) (hc : Int32.ofInt cst = d) (hl' : storeLocals Ls i (.int (x + d)) = some L') (k : Goes p e below s R n0 Q (T.setTop (mkF m q L' st))) : Goes p e below s R n0 Q (T.setTop (mkF m pc Ls st)) := by
  obtain ⟨locs, X, N, eh, hn, hx, hZ, hby, hml, hown, hnm, hret, hlk⟩ := X
  subst hby hq hc
  exact g_of (fun t r => XS.iinc X.here hx rfl hd hl hl' r) k
theorem g_goto (X : Wk Z own nm bytes ml ret R n0 p l e s m args below meth c T cells slots h) {pc q : Nat} {Ls : Array Slot} {st : List Value} {o : Int} (hd : decode bytes pc = .ok (.goto o, 3)) (ho : 0 ≤ (pc : Int) + o) (hq : ((pc : Int) + o).toNat = q) (k : Goes p e below s R n0 Q (T.setTop (mkF m q Ls st))) : Goes p e below s R n0 Q (T.setTop (mkF m pc Ls st)) := by
  obtain ⟨locs, X, N, eh, hn, hx, hZ, hby, hml, hown, hnm, hret, hlk⟩ := X
  subst hby
  exact g_of (fun t r => XS.goto X.here hx rfl (pc0 := pc) rfl hd ho hq r) k
theorem g_bor (X : Wk Z own nm bytes ml ret R n0 p l e s m args below meth c T cells slots h) {pc q : Nat} {Ls : Array Slot} {rest : List Value} {A B : Prop} [Decidable A] [Decidable B] (hd : decode bytes pc = .ok (.ior, 1)) (hq : pc + 1 = q) (k : Goes p e below s R n0 Q (T.setTop (mkF m q Ls (.int (bI (A ∨ B)) :: rest)))) : Goes p e below s R n0 Q (T.setTop (mkF m pc Ls (.int (bI B) :: .int (bI A) :: rest))) :=
  g_ior X hd hq (by rw [show bI A ||| bI B = bI (A ∨ B) from own_bor A B]; exact k)
theorem g_band (X : Wk Z own nm bytes ml ret R n0 p l e s m args below meth c T cells slots h) {pc q : Nat} {Ls : Array Slot} {rest : List Value} {A B : Prop} [Decidable A] [Decidable B] (hd : decode bytes pc = .ok (.iand, 1)) (hq : pc + 1 = q) (k : Goes p e below s R n0 Q (T.setTop (mkF m q Ls (.int (bI (A ∧ B)) :: rest)))) : Goes p e below s R n0 Q (T.setTop (mkF m pc Ls (.int (bI B) :: .int (bI A) :: rest))) :=
  g_iand X hd hq (by rw [show bI A &&& bI B = bI (A ∧ B) from own_band A B]; exact k)
theorem hI {cd : ClassFile.Cond} {x y : Int32} (hcd : cd = .lt ∨ cd = .gt ∨ cd = .eq) : (pcI cd x y → if_icmp.holds cd x y = true) ∧ (¬ pcI cd x y → if_icmp.holds cd x y = false) := by
  rcases hcd with rfl | rfl | rfl
  · exact ⟨fun q => (tlt q).1, fun q => (flt q).1⟩
  · exact ⟨fun q => (tlt q).2.2.1, fun q => (flt q).2.2.1⟩
  · exact ⟨fun q => (teq q).1, fun q => (feq q).1⟩
theorem hN {cd : ClassFile.Cond} {x y : Int32} (hcd : cd = .ge ∨ cd = .le ∨ cd = .ne) : (pcI cd x y → if_icmp.holds cd x y = false) ∧ (¬ pcI cd x y → if_icmp.holds cd x y = true) := by
  rcases hcd with rfl | rfl | rfl
  · exact ⟨fun q => (tlt q).2.1, fun q => (flt q).2.1⟩
  · exact ⟨fun q => (tlt q).2.2.2, fun q => (flt q).2.2.2⟩
  · exact ⟨fun q => (teq q).2, fun q => (feq q).2⟩
theorem pcL {cd : ClassFile.Cond} {x y : Int64} : pcI cd (lcmpW x y) 0 ↔ pcJ cd x y := by
  cases cd
  · exact lw_eq x y
  · exact lw_eq x y
  · exact lw_lt x y
  · exact lw_lt x y
  · exact lw_gt x y
  · exact lw_gt x y
instance pcI_dec (cd : ClassFile.Cond) (x y : Int32) : Decidable (pcI cd x y) := by cases cd <;> (unfold pcI; infer_instance)
theorem g_icmpA (X : Wk Z own nm bytes ml ret R n0 p l e s m args below meth c T cells slots h) {pc q t : Nat} {Ls : Array Slot} {rest : List Value} {o : Int} {cd : ClassFile.Cond} {x y : Int32} (hd : decode bytes pc = .ok (.if_icmp cd o, 3)) (hcd : cd = .lt ∨ cd = .gt ∨ cd = .eq) (hq : pc + 3 = q) (ho : 0 ≤ (pc : Int) + o) (ht : ((pc : Int) + o).toNat = t) (kP : pcI cd x y → Goes p e below s R n0 Q (T.setTop (mkF m t Ls rest))) (kN : ¬ pcI cd x y → Goes p e below s R n0 Q (T.setTop (mkF m q Ls rest))) : Goes p e below s R n0 Q (T.setTop (mkF m pc Ls (.int y :: .int x :: rest))) := by
  obtain ⟨locs, X, N, eh, hn, hx, hZ, hby, hml, hown, hnm, hret, hlk⟩ := X
  subst hby hq
  by_cases hP : pcI cd x y
  · exact g_of (fun _ r => XS.icmpYes X.here hx rfl (pc0 := pc) rfl hd rfl ((hI hcd).1 hP) ho ht r) (kP hP)
  · exact g_of (fun _ r => XS.icmpNo X.here hx rfl hd rfl ((hI hcd).2 hP) r) (kN hP)
theorem g_ifA (X : Wk Z own nm bytes ml ret R n0 p l e s m args below meth c T cells slots h) {pc q t : Nat} {Ls : Array Slot} {rest : List Value} {o : Int} {cd : ClassFile.Cond} {x : Int32} (hd : decode bytes pc = .ok (.ifCond cd o, 3)) (hcd : cd = .lt ∨ cd = .gt ∨ cd = .eq) (hq : pc + 3 = q) (ho : 0 ≤ (pc : Int) + o) (ht : ((pc : Int) + o).toNat = t) (kP : pcI cd x 0 → Goes p e below s R n0 Q (T.setTop (mkF m t Ls rest))) (kN : ¬ pcI cd x 0 → Goes p e below s R n0 Q (T.setTop (mkF m q Ls rest))) : Goes p e below s R n0 Q (T.setTop (mkF m pc Ls (.int x :: rest))) := by
  obtain ⟨locs, X, N, eh, hn, hx, hZ, hby, hml, hown, hnm, hret, hlk⟩ := X
  subst hby hq
  by_cases hP : pcI cd x 0
  · exact g_of (fun _ r => XS.ifYes X.here hx rfl (pc0 := pc) rfl hd rfl ((if0 _ _).trans ((hI hcd).1 hP)) ho ht r) (kP hP)
  · exact g_of (fun _ r => XS.ifNo X.here hx rfl hd rfl ((if0 _ _).trans ((hI hcd).2 hP)) r) (kN hP)
theorem g_lcmpA (X : Wk Z own nm bytes ml ret R n0 p l e s m args below meth c T cells slots h) {pc q t : Nat} {Ls : Array Slot} {rest : List Value} {o : Int} {cd : ClassFile.Cond} {x y : Int64} {q1 : Nat} (hd0 : decode bytes pc = .ok (.lcmp, 1)) (hq1 : pc + 1 = q1) (hd : decode bytes q1 = .ok (.ifCond cd o, 3)) (hcd : cd = .lt ∨ cd = .gt ∨ cd = .eq) (hq : q1 + 3 = q) (ho : 0 ≤ (q1 : Int) + o) (ht : ((q1 : Int) + o).toNat = t) (kP : pcJ cd x y → Goes p e below s R n0 Q (T.setTop (mkF m t Ls rest))) (kN : ¬ pcJ cd x y → Goes p e below s R n0 Q (T.setTop (mkF m q Ls rest))) : Goes p e below s R n0 Q (T.setTop (mkF m pc Ls (.long y :: .long x :: rest))) := by
  refine g_lcmp X hd0 hq1 (g_ifA X hd hcd hq ho ht (fun z => kP (pcL.mp z)) (fun z => kN (fun w => z (pcL.mpr w))))
theorem g_icmpB (X : Wk Z own nm bytes ml ret R n0 p l e s m args below meth c T cells slots h) {pc q t : Nat} {Ls : Array Slot} {rest : List Value} {o : Int} {cd : ClassFile.Cond} {x y : Int32} (hd : decode bytes pc = .ok (.if_icmp cd o, 3)) (hcd : cd = .ge ∨ cd = .le ∨ cd = .ne) (hq : pc + 3 = q) (ho : 0 ≤ (pc : Int) + o) (ht : ((pc : Int) + o).toNat = t) (kP : pcI cd x y → Goes p e below s R n0 Q (T.setTop (mkF m q Ls rest))) (kN : ¬ pcI cd x y → Goes p e below s R n0 Q (T.setTop (mkF m t Ls rest))) : Goes p e below s R n0 Q (T.setTop (mkF m pc Ls (.int y :: .int x :: rest))) := by
  obtain ⟨locs, X, N, eh, hn, hx, hZ, hby, hml, hown, hnm, hret, hlk⟩ := X
  subst hby hq
  by_cases hP : pcI cd x y
  · exact g_of (fun _ r => XS.icmpNo X.here hx rfl hd rfl ((hN hcd).1 hP) r) (kP hP)
  · exact g_of (fun _ r => XS.icmpYes X.here hx rfl (pc0 := pc) rfl hd rfl ((hN hcd).2 hP) ho ht r) (kN hP)
theorem g_ifB (X : Wk Z own nm bytes ml ret R n0 p l e s m args below meth c T cells slots h) {pc q t : Nat} {Ls : Array Slot} {rest : List Value} {o : Int} {cd : ClassFile.Cond} {x : Int32} (hd : decode bytes pc = .ok (.ifCond cd o, 3)) (hcd : cd = .ge ∨ cd = .le ∨ cd = .ne) (hq : pc + 3 = q) (ho : 0 ≤ (pc : Int) + o) (ht : ((pc : Int) + o).toNat = t) (kP : pcI cd x 0 → Goes p e below s R n0 Q (T.setTop (mkF m q Ls rest))) (kN : ¬ pcI cd x 0 → Goes p e below s R n0 Q (T.setTop (mkF m t Ls rest))) : Goes p e below s R n0 Q (T.setTop (mkF m pc Ls (.int x :: rest))) := by
  obtain ⟨locs, X, N, eh, hn, hx, hZ, hby, hml, hown, hnm, hret, hlk⟩ := X
  subst hby hq
  by_cases hP : pcI cd x 0
  · exact g_of (fun _ r => XS.ifNo X.here hx rfl hd rfl ((if0 _ _).trans ((hN hcd).1 hP)) r) (kP hP)
  · exact g_of (fun _ r => XS.ifYes X.here hx rfl (pc0 := pc) rfl hd rfl ((if0 _ _).trans ((hN hcd).2 hP)) ho ht r) (kN hP)
theorem g_lcmpB (X : Wk Z own nm bytes ml ret R n0 p l e s m args below meth c T cells slots h) {pc q t : Nat} {Ls : Array Slot} {rest : List Value} {o : Int} {cd : ClassFile.Cond} {x y : Int64} {q1 : Nat} (hd0 : decode bytes pc = .ok (.lcmp, 1)) (hq1 : pc + 1 = q1) (hd : decode bytes q1 = .ok (.ifCond cd o, 3)) (hcd : cd = .ge ∨ cd = .le ∨ cd = .ne) (hq : q1 + 3 = q) (ho : 0 ≤ (q1 : Int) + o) (ht : ((q1 : Int) + o).toNat = t) (kP : pcJ cd x y → Goes p e below s R n0 Q (T.setTop (mkF m q Ls rest))) (kN : ¬ pcJ cd x y → Goes p e below s R n0 Q (T.setTop (mkF m t Ls rest))) : Goes p e below s R n0 Q (T.setTop (mkF m pc Ls (.long y :: .long x :: rest))) := by
  refine g_lcmp X hd0 hq1 (g_ifB X hd hcd hq ho ht (fun z => kP (pcL.mp z)) (fun z => kN (fun w => z (pcL.mpr w))))
theorem g_bne (X : Wk Z own nm bytes ml ret R n0 p l e s m args below meth c T cells slots h) {pc q t : Nat} {Ls : Array Slot} {rest : List Value} {o : Int} {c' : Prop} [Decidable c'] (hd : decode bytes pc = .ok (.ifCond .ne o, 3)) (hq : pc + 3 = q) (ho : 0 ≤ (pc : Int) + o) (ht : ((pc : Int) + o).toNat = t) (kP : c' → Goes p e below s R n0 Q (T.setTop (mkF m t Ls rest))) (kN : ¬ c' → Goes p e below s R n0 Q (T.setTop (mkF m q Ls rest))) : Goes p e below s R n0 Q (T.setTop (mkF m pc Ls (.int (bI c') :: rest))) :=
  g_ifB X hd (Or.inr (Or.inr rfl)) hq ho ht (fun z => kN ((bI_eq0 c').mp z)) (fun z => kP (Decidable.of_not_not fun w => z ((bI_eq0 c').mpr w)))
theorem g_beq (X : Wk Z own nm bytes ml ret R n0 p l e s m args below meth c T cells slots h) {pc q t : Nat} {Ls : Array Slot} {rest : List Value} {o : Int} {c' : Prop} [Decidable c'] (hd : decode bytes pc = .ok (.ifCond .eq o, 3)) (hq : pc + 3 = q) (ho : 0 ≤ (pc : Int) + o) (ht : ((pc : Int) + o).toNat = t) (kP : c' → Goes p e below s R n0 Q (T.setTop (mkF m q Ls rest))) (kN : ¬ c' → Goes p e below s R n0 Q (T.setTop (mkF m t Ls rest))) : Goes p e below s R n0 Q (T.setTop (mkF m pc Ls (.int (bI c') :: rest))) :=
  g_ifA X hd (Or.inr (Or.inr rfl)) hq ho ht (fun z => kN ((bI_eq0 c').mp z)) (fun z => kP (Decidable.of_not_not fun w => z ((bI_eq0 c').mpr w)))
theorem g_ifnullY (X : Wk Z own nm bytes ml ret R n0 p l e s m args below meth c T cells slots h) {pc q : Nat} {Ls : Array Slot} {rest : List Value} {o : Int} (hd : decode bytes pc = .ok (.ifnull o, 3)) (ho : 0 ≤ (pc : Int) + o) (hq : ((pc : Int) + o).toNat = q) (k : Goes p e below s R n0 Q (T.setTop (mkF m q Ls rest))) : Goes p e below s R n0 Q (T.setTop (mkF m pc Ls (.null :: rest))) := by
  obtain ⟨locs, X, N, eh, hn, hx, hZ, hby, hml, hown, hnm, hret, hlk⟩ := X
  subst hby
  exact g_of (fun t r => XS.ifnullYes X.here hx rfl (pc0 := pc) rfl hd rfl ho hq r) k
theorem g_ifnullN (X : Wk Z own nm bytes ml ret R n0 p l e s m args below meth c T cells slots h) {pc q : Nat} {Ls : Array Slot} {rest : List Value} {o : Int} {b : Addr} (hd : decode bytes pc = .ok (.ifnull o, 3)) (hq : pc + 3 = q) (k : Goes p e below s R n0 Q (T.setTop (mkF m q Ls rest))) : Goes p e below s R n0 Q (T.setTop (mkF m pc Ls (.ref b :: rest))) := by
  obtain ⟨locs, X, N, eh, hn, hx, hZ, hby, hml, hown, hnm, hret, hlk⟩ := X
  subst hby hq
  exact g_of (fun t r => XS.ifnullNo X.here hx rfl hd rfl r) k
theorem g_ifnonnullY (X : Wk Z own nm bytes ml ret R n0 p l e s m args below meth c T cells slots h) {pc q : Nat} {Ls : Array Slot} {rest : List Value} {o : Int} {b : Addr} (hd : decode bytes pc = .ok (.ifnonnull o, 3)) (ho : 0 ≤ (pc : Int) + o) (hq : ((pc : Int) + o).toNat = q) (k : Goes p e below s R n0 Q (T.setTop (mkF m q Ls rest))) : Goes p e below s R n0 Q (T.setTop (mkF m pc Ls (.ref b :: rest))) := by
  obtain ⟨locs, X, N, eh, hn, hx, hZ, hby, hml, hown, hnm, hret, hlk⟩ := X
  subst hby
  exact g_of (fun t r => XS.ifnonnullYes X.here hx rfl (pc0 := pc) rfl hd rfl ho hq r) k
theorem g_ifnonnullN (X : Wk Z own nm bytes ml ret R n0 p l e s m args below meth c T cells slots h) {pc q : Nat} {Ls : Array Slot} {rest : List Value} {o : Int} (hd : decode bytes pc = .ok (.ifnonnull o, 3)) (hq : pc + 3 = q) (k : Goes p e below s R n0 Q (T.setTop (mkF m q Ls rest))) : Goes p e below s R n0 Q (T.setTop (mkF m pc Ls (.null :: rest))) := by
  obtain ⟨locs, X, N, eh, hn, hx, hZ, hby, hml, hown, hnm, hret, hlk⟩ := X
  subst hby hq
  exact g_of (fun t r => XS.ifnonnullNo X.here hx rfl hd rfl r) k
theorem g_acmp (X : Wk Z own nm bytes ml ret R n0 p l e s m args below meth c T cells slots h) {pc q : Nat} {Ls : Array Slot} {rest : List Value} {o : Int} {cd : ACond} {x y : Value} {same : Bool} (hd : decode bytes pc = .ok (.if_acmp cd o, 3)) (h1 : x.isRef = true) (h2 : y.isRef = true) (hs : decide (x = y) = same) (ho : 0 ≤ (pc : Int) + o) (hq : q = if acV cd same = true then ((pc : Int) + o).toNat else pc + 3) (k : Goes p e below s R n0 Q (T.setTop (mkF m q Ls rest))) : Goes p e below s R n0 Q (T.setTop (mkF m pc Ls (y :: x :: rest))) := by
  obtain ⟨locs, X, N, eh, hn, hx, hZ, hby, hml, hown, hnm, hret, hlk⟩ := X
  subst hby
  exact g_of (fun t r => Jvm.RoadKit.acmp (g := mkF m pc Ls (y :: x :: rest)) X hx rfl h1 h2 (pc0 := pc) rfl hd rfl hs ho hq r) k

theorem g_ldc2 (X : Wk Z own nm bytes ml ret R n0 p l e s m args below meth c T cells slots h) {index : Nat} {v : Int64} (w : (Jvm.Cond.constantLong own index v).before a0 Z = true) {pc q : Nat} {Ls : Array Slot} {st : List Value} (hd : decode bytes pc = .ok (.ldc2_w index, 3)) (hq : pc + 3 = q) (k : Goes p e below s R n0 Q (T.setTop (mkF m q Ls (.long v :: st)))) : Goes p e below s R n0 Q (T.setTop (mkF m pc Ls st)) := by
  obtain ⟨locs, X, N, eh, hn, hx, hZ, hby, hml, hown, hnm, hret, hlk⟩ := X
  subst hby hq
  exact g_of (fun t r => X.ldc2Long hx hown (mvT hZ w) (g := mkF m pc Ls st) rfl hd t r) k
theorem g_ldc (X : Wk Z own nm bytes ml ret R n0 p l e s m args below meth c T cells slots h) {index : Nat} {v : Int32} (w : (Jvm.Cond.constant own index v).before a0 Z = true) {pc q : Nat} {Ls : Array Slot} {st : List Value} (hd : decode bytes pc = .ok (.ldc index, 2)) (hq : pc + 2 = q) (k : Goes p e below s R n0 Q (T.setTop (mkF m q Ls (.int v :: st)))) : Goes p e below s R n0 Q (T.setTop (mkF m pc Ls st)) := by
  obtain ⟨locs, X, N, eh, hn, hx, hZ, hby, hml, hown, hnm, hret, hlk⟩ := X
  subst hby hq
  exact g_of (fun t r => X.ldcInt hx hown (mvT hZ w) (g := mkF m pc Ls st) rfl hd t r) k
theorem g_getF (X : Wk Z own nm bytes ml ret R n0 p l e s m args below meth c T cells slots h) {index : Nat} {R0 O n d : String} (w : (Jvm.Cond.fieldLink own index R0 n d).before a0 Z = true) (via : Via Z R0 O n d) {a : Addr} {v : Value} (F : Fld Z h a O n d v) {pc q : Nat} {Ls : Array Slot} {rest : List Value} (hd : decode bytes pc = .ok (.getfield index, 3)) (hq : pc + 3 = q)
    (k : ∀ T', Wk Z own nm bytes ml ret R n0 p l e s m args below meth c T' cells slots h → Goes p e below s R n0 Q (T'.setTop (mkF m q Ls (v :: rest)))) : Goes p e below s R n0 Q (T.setTop (mkF m pc Ls (.ref a :: rest))) := by
  obtain ⟨locs, X, N, eh, hn, hx, hZ, hby, hml, hown, hnm, hret, hlk⟩ := X
  subst hby hq
  obtain ⟨T', X', e', st⟩ := getF X hx hZ hown (host := "") (Or.inl w) via eh F (g := mkF m pc Ls (.ref a :: rest)) rfl rfl hd
  exact g_of st (k T' ⟨locs, X', N, e', hn, hx, hZ, rfl, hml, hown, hnm, hret, hlk⟩)
theorem g_putF (X : Wk Z own nm bytes ml ret R n0 p l e s m args below meth c T cells slots h) {index kk : Nat} {R0 O n d C : String} {ty : FieldType} (w : (Jvm.Cond.fieldLink own index R0 n d).before a0 Z = true) (via : Via Z R0 O n d) {a : Addr} {v old : Value} (F : Fld Z h a O n d old) (E : Exa Z h a C) (L : (Jvm.Cond.lays C O n d).before a0 Z = true ∨ ((Jvm.Cond.laysFinal C O n d).before a0 Z = true ∧ own = O ∧ nm = "<init>")) (wi : (Jvm.Cond.instantiable C kk).before a0 Z = true) (hty : parseFieldDescriptor d = some ty) (hnr : narrow ty v = v) (hf : fits ty v = true) (ga : n0 ≤ a) {pc q : Nat} {Ls : Array Slot} {rest : List Value} (hd : decode bytes pc = .ok (.putfield index, 3)) (hq : pc + 3 = q)
    (k : ∀ T' h', Wk Z own nm bytes ml ret R n0 p l e s m args below meth c T' cells slots h' → Wr h h' a (Jvm.RoadKit.slotOf Z O n d) v → Goes p e below s R n0 Q (T'.setTop (mkF m q Ls rest))) : Goes p e below s R n0 Q (T.setTop (mkF m pc Ls (v :: .ref a :: rest))) := by
  obtain ⟨locs, X, N, eh, hn, hx, hZ, hby, hml, hown, hnm, hret, hlk⟩ := X
  subst hby hq
  obtain ⟨T', h', X', e', W', st⟩ := putF X hx hZ hown (host := "") (Or.inl w) via eh F E (L.imp id fun z => ⟨z.1, z.2.1, hnm.trans z.2.2⟩) wi hty hnr hf (g := mkF m pc Ls (v :: .ref a :: rest)) rfl rfl hd
  exact g_of st (k T' h' ⟨_, X', Fr.snoc X' N ga, e', hn, hx, hZ, rfl, hml, hown, hnm, hret, hlk⟩ W')
theorem g_new (X : Wk Z own nm bytes ml ret R n0 p l e s m args below meth c T cells slots h) {index n : Nat} {C : String} (w : (Jvm.Cond.classLink own index C).before a0 Z = true) (wi : (Jvm.Cond.instantiable C n).before a0 Z = true) (wz : (Jvm.Cond.initialized C).before a0 Z = true) {pc q c2 s2 : Nat} {Ls : Array Slot} {st : List Value} (hd : decode bytes pc = .ok (.new index, 3)) (hq : pc + 3 = q) (hc : cells + 1 = c2) (hs : slots + n = s2) (hcR : c2 ≤ R.cells) (hsR : s2 ≤ R.slots)
    (k : ∀ T' h' b, Wk Z own nm bytes ml ret R n0 p l e s m args below meth c T' c2 s2 h' → b = h.size → n0 ≤ b → Ext h h' → Exa Z h' b C → (∀ {O nm d : String} {ty : FieldType}, Laid Z a0 C O nm d → parseFieldDescriptor d = some ty → Fld Z h' b O nm d (defaultValue ty)) → Goes p e below s R n0 Q (T'.setTop (mkF m q Ls (.ref b :: st)))) : Goes p e below s R n0 Q (T.setTop (mkF m pc Ls st)) := by
  obtain ⟨locs, X, N, eh, hn, hx, hZ, hby, hml, hown, hnm, hret, hlk⟩ := X
  subst hby hq hc hs
  obtain ⟨T', h', X', e', E', A', D', -, stp⟩ := newO X hx hZ hown w wi wz eh (g := mkF m pc Ls st) rfl hd hcR hsR
  exact g_of stp (k T' h' _ ⟨locs, X', N, e', hn, hx, hZ, rfl, hml, hown, hnm, hret, hlk⟩ rfl (Wk.size ⟨locs, X, N, eh, hn, hx, hZ, rfl, hml, hown, hnm, hret, hlk⟩) E' A' D')
theorem g_initO (X : Wk Z own nm bytes ml ret R n0 p l e s m args below meth c T cells slots h) {index : Nat} (w1 : (Jvm.Cond.methodLink own index Lib.objectInit).before a0 Z = true) (w2 : (Jvm.Cond.instanceMethod Lib.objectInit).before a0 Z = true) (w3 : (Jvm.Cond.code Lib.objectInit ⟨#[0xb1]⟩ 1 none).before a0 Z = true) {a : Addr} {pc q W : Nat} {Ls : Array Slot} {rest : List Value} (hd : decode bytes pc = .ok (.invokespecial index, 3)) (hq : pc + 3 = q) (hLs : Ls.size = ml) (hf : 1 ≤ R.frames) (hW : (rest.map fun v => v.category).sum = W) (hl : W + 12 ≤ R.locals)
    (k : ∀ T', Wk Z own nm bytes ml ret R n0 p l e s m args below meth c T' cells slots h → Goes p e below s R n0 Q (T'.setTop (mkF m q Ls rest))) : Goes p e below s R n0 Q (T.setTop (mkF m pc Ls (.ref a :: rest))) := by
  obtain ⟨locs, X, N, eh, hn, hx, hZ, hby, hml, hown, hnm, hret, hlk⟩ := X
  subst hby hq
  obtain ⟨T', X', e', st⟩ := initO X hx hZ hown w1 w2 w3 eh (g := mkF m pc Ls (.ref a :: rest)) rfl (hLs.trans hml.symm) rfl hd hf (W := W) (by show 2 * 0 + _ ≤ _; omega) hl
  exact g_of st (k T' ⟨locs, X', N, e', hn, hx, hZ, rfl, hml, hown, hnm, hret, hlk⟩)
theorem own_back {index W : Nat} {y : MethodName} {yb : ByteArray} {yml : Nat} {yret : Option FieldType} {Ry : Room} {as' : Array Value} {len : Nat} {Qy : Option Value → Heap → Prop} (hZ : Z.Warmed39 s.vm) (w3 : (Jvm.Cond.initialized y.cls).before a0 Z = true) (w4 : (Jvm.Cond.code y yb yml yret).before a0 Z = true) (hM : Met l Z y yb yml yret Ry [] n0 as' h Qy) (hf : Ry.frames + 1 ≤ R.frames) (hlc : W + (yml + 11) + Ry.locals ≤ R.locals) :
    Back l R p e below s args y len W (fun A a => a = as' ∧ A.U.heap = h ∧ A.cells + Ry.cells ≤ R.cells ∧ A.slots + Ry.slots ≤ R.slots)
      (fun A _ v B => ∃ L, (Fr n0 L ∧ Qy v B.U.heap) ∧ B.locs = A.locs ++ L ∧ B.cells = A.cells + Ry.cells ∧ B.slots = A.slots + Ry.slots) :=
  backOf (Q := fun v h L => Fr n0 L ∧ Qy v h) hM hZ w4 w3 hf hlc
theorem g_callS (X : Wk Z own nm bytes ml ret R n0 p l e s m args below meth c T cells slots h) {index : Nat} {y : MethodName} {yb : ByteArray} {yml : Nat} {yret : Option FieldType} {Ry : Room} {Qy : Option Value → Heap → Prop} {ps : List FieldType} {r : Option FieldType} (as rest : List Value) (w1 : (Jvm.Cond.methodLink own index y).before a0 Z = true) (w2 : (Jvm.Cond.static y).before a0 Z = true) (w3 : (Jvm.Cond.initialized y.cls).before a0 Z = true) (w4 : (Jvm.Cond.code y yb yml yret).before a0 Z = true) (hy : y.cls ≠ "java/lang/invoke/MethodHandle" ∧ y.cls ≠ "java/lang/invoke/VarHandle") (hM : Met l Z y yb yml yret Ry [] n0 as.toArray h Qy) (hp : parseMethodDescriptor y.desc = some ⟨ps, r⟩) (hl : as.length = ps.length)
    {pc q c2 s2 W : Nat} {Ls : Array Slot} {st : List Value} (hst : st = as.reverse ++ rest) (hLs : Ls.size = ml) (hd : decode bytes pc = .ok (.invokestatic index, 3)) (hq : pc + 3 = q) (hW : (rest.map fun v => v.category).sum = W) (hf : Ry.frames + 1 ≤ R.frames) (hlc : W + (yml + 11) + Ry.locals ≤ R.locals) (hc : cells + Ry.cells = c2) (hs : slots + Ry.slots = s2) (hcR : c2 ≤ R.cells) (hsR : s2 ≤ R.slots)
    (k : ∀ v T' h', Wk Z own nm bytes ml ret R n0 p l e s m args below meth c T' c2 s2 h' → Qy v h' → Goes p e below s R n0 Q (T'.setTop (mkF m q Ls (v.toList ++ rest)))) : Goes p e below s R n0 Q (T.setTop (mkF m pc Ls st)) := by
  obtain ⟨locs, X, N, eh, hn, hx, hZ, hby, hml, hown, hnm, hret, hlk⟩ := X
  subst hby hq hc hs hst
  obtain ⟨v, _, ⟨T', L', k', n'⟩, -, X', ⟨Lc, ⟨hF, hQy⟩, l', y', z'⟩, stp⟩ := Jvm.LawKit.callS X hx (y := y) hown (mvT hZ w1) (mvT hZ w2) (mvT hZ w3) (mvT hZ w4) hy (own_back (index := index) (W := W) hZ w3 w4 hM hf hlc) (g := mkF m pc Ls (as.reverse ++ rest)) rfl (hLs.trans hml.symm) (argsL := as) (rest := rest) (lenOf hp hl) rfl (by show 2 * 0 + _ ≤ _; omega) hd (fun _ _ => ⟨rfl, eh, hcR, hsR⟩)
  dsimp only [Pt.U, Pt.locs, Pt.cells, Pt.slots] at X' l' y' z' stp hQy
  subst l' y' z'
  exact g_of stp (k v T' _ ⟨_, X', Fr.app N hF, rfl, hn, hx, hZ, rfl, hml, hown, hnm, hret, hlk⟩ hQy)
theorem g_callI (X : Wk Z own nm bytes ml ret R n0 p l e s m args below meth c T cells slots h) {index : Nat} {y : MethodName} {yb : ByteArray} {yml : Nat} {Ry : Room} {Qy : Option Value → Heap → Prop} {ps : List FieldType} {r : Option FieldType} {a : Addr} (as rest : List Value) (hy1 : y.name = "<init>") (w1 : (Jvm.Cond.methodLink own index y).before a0 Z = true) (w2 : (Jvm.Cond.instanceMethod y).before a0 Z = true) (w3 : (Jvm.Cond.initialized y.cls).before a0 Z = true) (w4 : (Jvm.Cond.code y yb yml none).before a0 Z = true) (hy : y.cls ≠ "java/lang/invoke/MethodHandle" ∧ y.cls ≠ "java/lang/invoke/VarHandle") (hM : Met l Z y yb yml none Ry [] n0 (.ref a :: as).toArray h Qy) (hp : parseMethodDescriptor y.desc = some ⟨ps, r⟩) (hl : as.length = ps.length)
    {pc q c2 s2 W : Nat} {Ls : Array Slot} {st : List Value} (hst : st = as.reverse ++ .ref a :: rest) (hLs : Ls.size = ml) (hd : decode bytes pc = .ok (.invokespecial index, 3)) (hq : pc + 3 = q) (hW : (rest.map fun v => v.category).sum = W) (hf : Ry.frames + 1 ≤ R.frames) (hlc : W + (yml + 11) + Ry.locals ≤ R.locals) (hc : cells + Ry.cells = c2) (hs : slots + Ry.slots = s2) (hcR : c2 ≤ R.cells) (hsR : s2 ≤ R.slots)
    (k : ∀ v T' h', Wk Z own nm bytes ml ret R n0 p l e s m args below meth c T' c2 s2 h' → Qy v h' → Goes p e below s R n0 Q (T'.setTop (mkF m q Ls (v.toList ++ rest)))) : Goes p e below s R n0 Q (T.setTop (mkF m pc Ls st)) := by
  obtain ⟨locs, X, N, eh, hn, hx, hZ, hby, hml, hown, hnm, hret, hlk⟩ := X
  subst hby hq hc hs hst
  obtain ⟨v, _, ⟨T', L', k', n'⟩, -, X', ⟨Lc, ⟨hF, hQy⟩, l', y', z'⟩, stp⟩ := X.specialBack hx (y := y) hy1 hown (mvT hZ w1) (mvT hZ w2) (mvT hZ w4) hy (own_back (index := index) (W := W) hZ w3 w4 hM hf hlc) (g := mkF m pc Ls (as.reverse ++ .ref a :: rest)) rfl (hLs.trans hml.symm) (Steps.refl _) (a := a) (argsL := as) (rest := rest) (lenOf hp hl) rfl (by show 2 * 0 + _ ≤ _; omega) hd (fun _ _ => ⟨rfl, eh, hcR, hsR⟩)
  dsimp only [Pt.U, Pt.locs, Pt.cells, Pt.slots] at X' l' y' z' stp hQy
  subst l' y' z'
  exact g_of (fun _ r => stp.trans r) (k v T' _ ⟨_, X', Fr.app N hF, rfl, hn, hx, hZ, rfl, hml, hown, hnm, hret, hlk⟩ hQy)
theorem g_callV (X : Wk Z own nm bytes ml ret R n0 p l e s m args below meth c T cells slots h) {index : Nat} {y : MethodName} {yb : ByteArray} {yml : Nat} {yret : Option FieldType} {Ry : Room} {Qy : Option Value → Heap → Prop} {ps : List FieldType} {r : Option FieldType} {a : Addr} {C : String} (E : Exa Z h a C) (as rest : List Value) (w1 : (Jvm.Cond.methodLink own index y).before a0 Z = true) (w2 : (Jvm.Cond.declares y).before a0 Z = true) (w5 : (Jvm.Cond.selects C y y).before a0 Z = true) (w6 : (Jvm.Cond.instanceMethod y).before a0 Z = true) (w3 : (Jvm.Cond.initialized y.cls).before a0 Z = true) (w4 : (Jvm.Cond.code y yb yml yret).before a0 Z = true) (hy : y.cls ≠ "java/lang/invoke/MethodHandle" ∧ y.cls ≠ "java/lang/invoke/VarHandle") (hM : Met l Z y yb yml yret Ry [] n0 (.ref a :: as).toArray h Qy) (hp : parseMethodDescriptor y.desc = some ⟨ps, r⟩) (hl : as.length = ps.length)
    {pc q c2 s2 W : Nat} {Ls : Array Slot} {st : List Value} (hst : st = as.reverse ++ .ref a :: rest) (hLs : Ls.size = ml) (hd : decode bytes pc = .ok (.invokevirtual index, 3)) (hq : pc + 3 = q) (hW : (rest.map fun v => v.category).sum = W) (hf : Ry.frames + 1 ≤ R.frames) (hlc : W + (yml + 11) + Ry.locals ≤ R.locals) (hc : cells + Ry.cells = c2) (hs : slots + Ry.slots = s2) (hcR : c2 ≤ R.cells) (hsR : s2 ≤ R.slots)
    (k : ∀ v T' h', Wk Z own nm bytes ml ret R n0 p l e s m args below meth c T' c2 s2 h' → Qy v h' → Goes p e below s R n0 Q (T'.setTop (mkF m q Ls (v.toList ++ rest)))) : Goes p e below s R n0 Q (T.setTop (mkF m pc Ls st)) := by
  obtain ⟨locs, X, N, eh, hn, hx, hZ, hby, hml, hown, hnm, hret, hlk⟩ := X
  subst hby hq hc hs hst
  obtain ⟨cq, kq, qa, qb, qc⟩ := isOf hZ eh E
  obtain ⟨v, _, ⟨T', L', k', n'⟩, -, X', ⟨Lc, ⟨hF, hQy⟩, l', y', z'⟩, stp⟩ := X.virtualBack hx (y := y) (z := y) hown (mvT hZ w1) (mvT hZ w2) (notFace_of_selects (args := #[]) (mvT hZ w5)) (mvT hZ w5) (mvT hZ w6) hy (own_back (index := index) (W := W) hZ w3 w4 hM hf hlc) qa qc (g := mkF m pc Ls (as.reverse ++ .ref a :: rest)) rfl (hLs.trans hml.symm) (Steps.refl _) (argsL := as) (rest := rest) (lenOf hp hl) rfl (by show 2 * 0 + _ ≤ _; omega) hd (fun _ _ => ⟨rfl, eh, hcR, hsR⟩)
  dsimp only [Pt.U, Pt.locs, Pt.cells, Pt.slots] at X' l' y' z' stp hQy
  subst l' y' z'
  exact g_of (fun _ r => stp.trans r) (k v T' _ ⟨_, X', Fr.app N hF, rfl, hn, hx, hZ, rfl, hml, hown, hnm, hret, hlk⟩ hQy)
theorem g_callP (X : Wk Z own nm bytes ml ret R n0 p l e s m args below meth c T cells slots h) {index : Nat} {y : MethodName} {yb : ByteArray} {yml : Nat} {yret : Option FieldType} {Ry : Room} {Qy : Option Value → Heap → Prop} {ps : List FieldType} {r : Option FieldType} {a : Addr} {C : String} (E : Exa Z h a C) (as rest : List Value) (w1 : (Jvm.Cond.methodLink own index y).before a0 Z = true) (w5 : (Jvm.Cond.selects y.cls y y).before a0 Z = true) (w6 : (Jvm.Cond.instanceMethod y).before a0 Z = true) (w7 : (Jvm.Cond.privateMethod y).before a0 Z = true) (w3 : (Jvm.Cond.initialized y.cls).before a0 Z = true) (w4 : (Jvm.Cond.code y yb yml yret).before a0 Z = true) (hy : y.cls ≠ "java/lang/invoke/MethodHandle" ∧ y.cls ≠ "java/lang/invoke/VarHandle") (hM : Met l Z y yb yml yret Ry [] n0 (.ref a :: as).toArray h Qy) (hp : parseMethodDescriptor y.desc = some ⟨ps, r⟩) (hl : as.length = ps.length)
    {pc q c2 s2 W : Nat} {Ls : Array Slot} {st : List Value} (hst : st = as.reverse ++ .ref a :: rest) (hLs : Ls.size = ml) (hd : decode bytes pc = .ok (.invokevirtual index, 3)) (hq : pc + 3 = q) (hW : (rest.map fun v => v.category).sum = W) (hf : Ry.frames + 1 ≤ R.frames) (hlc : W + (yml + 11) + Ry.locals ≤ R.locals) (hc : cells + Ry.cells = c2) (hs : slots + Ry.slots = s2) (hcR : c2 ≤ R.cells) (hsR : s2 ≤ R.slots)
    (k : ∀ v T' h', Wk Z own nm bytes ml ret R n0 p l e s m args below meth c T' c2 s2 h' → Qy v h' → Goes p e below s R n0 Q (T'.setTop (mkF m q Ls (v.toList ++ rest)))) : Goes p e below s R n0 Q (T.setTop (mkF m pc Ls st)) := by
  obtain ⟨locs, X, N, eh, hn, hx, hZ, hby, hml, hown, hnm, hret, hlk⟩ := X
  subst hby hq hc hs hst
  obtain ⟨cq, q1, q2⟩ := E.cell
  obtain ⟨v, _, ⟨T', L', k', n'⟩, -, X', ⟨Lc, ⟨hF, hQy⟩, l', y', z'⟩, stp⟩ := X.privateBack hx (y := y) hown (mvT hZ w1) (mvT hZ w6) (mvT hZ w5) (Cond.privateMethod_at (mvP hZ w7 (args := #[]))) (mvT hZ w4) hy (own_back (index := index) (W := W) hZ w3 w4 hM hf hlc) (g := mkF m pc Ls (as.reverse ++ .ref a :: rest)) rfl (hLs.trans hml.symm) (Steps.refl _) (a := a) (by rw [eh]; exact q1) q2 (argsL := as) (rest := rest) (lenOf hp hl) rfl (by show 2 * 0 + _ ≤ _; omega) hd (fun _ _ => ⟨rfl, eh, hcR, hsR⟩)
  dsimp only [Pt.U, Pt.locs, Pt.cells, Pt.slots] at X' l' y' z' stp hQy
  subst l' y' z'
  exact g_of (fun _ r => stp.trans r) (k v T' _ ⟨_, X', Fr.app N hF, rfl, hn, hx, hZ, rfl, hml, hown, hnm, hret, hlk⟩ hQy)

theorem g_alenI (X : Wk Z own nm bytes ml ret R n0 p l e s m args below meth c T cells slots h) {a : Addr} {ty : FieldType} {n : Nat} {f : Nat → Int32} (A : AI Z h a ty n f) {pc q : Nat} {Ls : Array Slot} {rest : List Value} (hd : decode bytes pc = .ok (.arraylength, 1)) (hq : pc + 1 = q) (k : Goes p e below s R n0 Q (T.setTop (mkF m q Ls (.int n.toInt32 :: rest)))) : Goes p e below s R n0 Q (T.setTop (mkF m pc Ls (.ref a :: rest))) := by
  obtain ⟨locs, X, N, eh, hn, hx, hZ, hby, hml, hown, hnm, hret, hlk⟩ := X
  obtain ⟨z, cl, A, r1, r2⟩ := A
  subst hby hq r1
  exact g_of (fun t r => X.arraylength hx (by rw [eh]; exact A.1) (State.isArrayOf_alike hZ.alike A.2.1) (g := mkF m pc Ls (.ref a :: rest)) rfl rfl hd t r) k
theorem g_alenJ (X : Wk Z own nm bytes ml ret R n0 p l e s m args below meth c T cells slots h) {a : Addr} {n : Nat} {f : Nat → Int64} (A : AJ Z h a n f) {pc q : Nat} {Ls : Array Slot} {rest : List Value} (hd : decode bytes pc = .ok (.arraylength, 1)) (hq : pc + 1 = q) (k : Goes p e below s R n0 Q (T.setTop (mkF m q Ls (.int n.toInt32 :: rest)))) : Goes p e below s R n0 Q (T.setTop (mkF m pc Ls (.ref a :: rest))) := by
  obtain ⟨locs, X, N, eh, hn, hx, hZ, hby, hml, hown, hnm, hret, hlk⟩ := X
  obtain ⟨z, cl, A, r1, r2⟩ := A
  subst hby hq r1
  exact g_of (fun t r => X.arraylength hx (by rw [eh]; exact A.1) (State.isArrayOf_alike hZ.alike A.2.1) (g := mkF m pc Ls (.ref a :: rest)) rfl rfl hd t r) k
theorem g_iaload (X : Wk Z own nm bytes ml ret R n0 p l e s m args below meth c T cells slots h) {a : Addr} {n : Nat} {f : Nat → Int32} (A : AI Z h a .int n f) {j : Int32} (hj : 0 ≤ j.toInt ∧ j.toInt < n) {pc q : Nat} {Ls : Array Slot} {rest : List Value} (hd : decode bytes pc = .ok (.iaload, 1)) (hq : pc + 1 = q) (k : Goes p e below s R n0 Q (T.setTop (mkF m q Ls (.int (f j.toNatClampNeg) :: rest)))) : Goes p e below s R n0 Q (T.setTop (mkF m pc Ls (.int j :: .ref a :: rest))) := by
  obtain ⟨locs, X, N, eh, hn, hx, hZ, hby, hml, hown, hnm, hret, hlk⟩ := X
  obtain ⟨z, cl, A, r1, r2⟩ := A
  subst hby hq
  exact g_of (fun t r => X.iaload hx (j := j) (by rw [eh]; exact A.1) (State.isArrayOf_alike hZ.alike A.2.1) A.2.2 (own_ix r1 hj) (r2 _ (own_ixn hj)) (g := mkF m pc Ls (.int j :: .ref a :: rest)) rfl rfl hd t r) k
theorem g_laload (X : Wk Z own nm bytes ml ret R n0 p l e s m args below meth c T cells slots h) {a : Addr} {n : Nat} {f : Nat → Int64} (A : AJ Z h a n f) {j : Int32} (hj : 0 ≤ j.toInt ∧ j.toInt < n) {pc q : Nat} {Ls : Array Slot} {rest : List Value} (hd : decode bytes pc = .ok (.laload, 1)) (hq : pc + 1 = q) (k : Goes p e below s R n0 Q (T.setTop (mkF m q Ls (.long (f j.toNatClampNeg) :: rest)))) : Goes p e below s R n0 Q (T.setTop (mkF m pc Ls (.int j :: .ref a :: rest))) := by
  obtain ⟨locs, X, N, eh, hn, hx, hZ, hby, hml, hown, hnm, hret, hlk⟩ := X
  obtain ⟨z, cl, A, r1, r2⟩ := A
  subst hby hq
  exact g_of (fun t r => X.laload hx (j := j) (by rw [eh]; exact A.1) (State.isArrayOf_alike hZ.alike A.2.1) A.2.2 (own_ix r1 hj) (r2 _ (own_ixn hj)) (g := mkF m pc Ls (.int j :: .ref a :: rest)) rfl rfl hd t r) k
theorem g_baload (X : Wk Z own nm bytes ml ret R n0 p l e s m args below meth c T cells slots h) {a : Addr} {n : Nat} {f : Nat → Int32} (A : AI Z h a .byte n f) {j : Int32} (hj : 0 ≤ j.toInt ∧ j.toInt < n) {pc q : Nat} {Ls : Array Slot} {rest : List Value} (hd : decode bytes pc = .ok (.baload, 1)) (hq : pc + 1 = q) (k : Goes p e below s R n0 Q (T.setTop (mkF m q Ls (.int (f j.toNatClampNeg) :: rest)))) : Goes p e below s R n0 Q (T.setTop (mkF m pc Ls (.int j :: .ref a :: rest))) := by
  obtain ⟨locs, X, N, eh, hn, hx, hZ, hby, hml, hown, hnm, hret, hlk⟩ := X
  obtain ⟨z, cl, A, r1, r2⟩ := A
  subst hby hq
  exact g_of (fun t r => X.baloadBytes hx (j := j) (by rw [eh]; exact A.1) (State.isArrayOf_alike hZ.alike A.2.1) A.2.2 (own_ix r1 hj) (r2 _ (own_ixn hj)) (g := mkF m pc Ls (.int j :: .ref a :: rest)) rfl rfl hd t r) k
theorem g_zaload (X : Wk Z own nm bytes ml ret R n0 p l e s m args below meth c T cells slots h) {a : Addr} {n : Nat} {f : Nat → Int32} (A : AI Z h a .boolean n f) {j : Int32} (hj : 0 ≤ j.toInt ∧ j.toInt < n) {pc q : Nat} {Ls : Array Slot} {rest : List Value} (hd : decode bytes pc = .ok (.baload, 1)) (hq : pc + 1 = q) (k : Goes p e below s R n0 Q (T.setTop (mkF m q Ls (.int (f j.toNatClampNeg) :: rest)))) : Goes p e below s R n0 Q (T.setTop (mkF m pc Ls (.int j :: .ref a :: rest))) := by
  obtain ⟨locs, X, N, eh, hn, hx, hZ, hby, hml, hown, hnm, hret, hlk⟩ := X
  obtain ⟨z, cl, A, r1, r2⟩ := A
  subst hby hq
  exact g_of (fun t r => X.baloadBooleans hx (j := j) (by rw [eh]; exact A.1) (State.isArrayOf_alike hZ.alike A.2.1) A.2.2 (own_ix r1 hj) (r2 _ (own_ixn hj)) (g := mkF m pc Ls (.int j :: .ref a :: rest)) rfl rfl hd t r) k
theorem g_iastore (X : Wk Z own nm bytes ml ret R n0 p l e s m args below meth c T cells slots h) {a : Addr} {n : Nat} {f : Nat → Int32} (A : AI Z h a .int n f) {j : Int32} {x : Int32} (hj : 0 ≤ j.toInt ∧ j.toInt < n) (ga : n0 ≤ a) {pc q : Nat} {Ls : Array Slot} {rest : List Value} (hd : decode bytes pc = .ok (.iastore, 1)) (hq : pc + 1 = q) (k : ∀ T' h', Wk Z own nm bytes ml ret R n0 p l e s m args below meth c T' cells slots h' → Wr h h' a j.toNatClampNeg (.int x) → Goes p e below s R n0 Q (T'.setTop (mkF m q Ls rest))) : Goes p e below s R n0 Q (T.setTop (mkF m pc Ls (.int x :: .int j :: .ref a :: rest))) := by
  obtain ⟨locs, X, N, eh, hn, hx, hZ, hby, hml, hown, hnm, hret, hlk⟩ := X
  obtain ⟨z, cl, A, r1, r2⟩ := A
  subst hby hq
  obtain ⟨T', h', X', e', W', st⟩ := stI X hx hZ eh A (j := j) (own_ix r1 hj) (g := mkF m pc Ls (.int x :: .int j :: .ref a :: rest)) rfl rfl hd
  exact g_of st (k T' h' ⟨_, X', Fr.snoc X' N ga, e', hn, hx, hZ, rfl, hml, hown, hnm, hret, hlk⟩ W')
theorem g_lastore (X : Wk Z own nm bytes ml ret R n0 p l e s m args below meth c T cells slots h) {a : Addr} {n : Nat} {f : Nat → Int64} (A : AJ Z h a n f) {j : Int32} {x : Int64} (hj : 0 ≤ j.toInt ∧ j.toInt < n) (ga : n0 ≤ a) {pc q : Nat} {Ls : Array Slot} {rest : List Value} (hd : decode bytes pc = .ok (.lastore, 1)) (hq : pc + 1 = q) (k : ∀ T' h', Wk Z own nm bytes ml ret R n0 p l e s m args below meth c T' cells slots h' → Wr h h' a j.toNatClampNeg (.long x) → Goes p e below s R n0 Q (T'.setTop (mkF m q Ls rest))) : Goes p e below s R n0 Q (T.setTop (mkF m pc Ls (.long x :: .int j :: .ref a :: rest))) := by
  obtain ⟨locs, X, N, eh, hn, hx, hZ, hby, hml, hown, hnm, hret, hlk⟩ := X
  obtain ⟨z, cl, A, r1, r2⟩ := A
  subst hby hq
  obtain ⟨T', h', X', e', W', st⟩ := stJ X hx hZ eh A (j := j) (own_ix r1 hj) (g := mkF m pc Ls (.long x :: .int j :: .ref a :: rest)) rfl rfl hd
  exact g_of st (k T' h' ⟨_, X', Fr.snoc X' N ga, e', hn, hx, hZ, rfl, hml, hown, hnm, hret, hlk⟩ W')
theorem g_bastore (X : Wk Z own nm bytes ml ret R n0 p l e s m args below meth c T cells slots h) {a : Addr} {n : Nat} {f : Nat → Int32} (A : AI Z h a .byte n f) {j : Int32} {x : Int32} (hj : 0 ≤ j.toInt ∧ j.toInt < n) (ga : n0 ≤ a) {pc q : Nat} {Ls : Array Slot} {rest : List Value} (hd : decode bytes pc = .ok (.bastore, 1)) (hq : pc + 1 = q) (k : ∀ T' h', Wk Z own nm bytes ml ret R n0 p l e s m args below meth c T' cells slots h' → Wr h h' a j.toNatClampNeg (.int (nar .byte x)) → Goes p e below s R n0 Q (T'.setTop (mkF m q Ls rest))) : Goes p e below s R n0 Q (T.setTop (mkF m pc Ls (.int x :: .int j :: .ref a :: rest))) := by
  obtain ⟨locs, X, N, eh, hn, hx, hZ, hby, hml, hown, hnm, hret, hlk⟩ := X
  obtain ⟨z, cl, A, r1, r2⟩ := A
  subst hby hq
  obtain ⟨T', h', X', e', W', st⟩ := stB X hx hZ eh A (j := j) (own_ix r1 hj) (g := mkF m pc Ls (.int x :: .int j :: .ref a :: rest)) rfl rfl hd
  exact g_of st (k T' h' ⟨_, X', Fr.snoc X' N ga, e', hn, hx, hZ, rfl, hml, hown, hnm, hret, hlk⟩ W')
theorem g_zastore (X : Wk Z own nm bytes ml ret R n0 p l e s m args below meth c T cells slots h) {a : Addr} {n : Nat} {f : Nat → Int32} (A : AI Z h a .boolean n f) {j : Int32} {x : Int32} (hj : 0 ≤ j.toInt ∧ j.toInt < n) (ga : n0 ≤ a) {pc q : Nat} {Ls : Array Slot} {rest : List Value} (hd : decode bytes pc = .ok (.bastore, 1)) (hq : pc + 1 = q) (hz : x = 0 ∨ x = 1) (k : ∀ T' h', Wk Z own nm bytes ml ret R n0 p l e s m args below meth c T' cells slots h' → Wr h h' a j.toNatClampNeg (.int x) → Goes p e below s R n0 Q (T'.setTop (mkF m q Ls rest))) : Goes p e below s R n0 Q (T.setTop (mkF m pc Ls (.int x :: .int j :: .ref a :: rest))) := by
  obtain ⟨locs, X, N, eh, hn, hx, hZ, hby, hml, hown, hnm, hret, hlk⟩ := X
  obtain ⟨z, cl, A, r1, r2⟩ := A
  subst hby hq
  obtain ⟨T', h', X', e', W', st⟩ := stZ X hx hZ eh A (j := j) (own_ix r1 hj) (g := mkF m pc Ls (.int x :: .int j :: .ref a :: rest)) rfl rfl hd
  rw [own_narZ' hz] at W'
  exact g_of st (k T' h' ⟨_, X', Fr.snoc X' N ga, e', hn, hx, hZ, rfl, hml, hown, hnm, hret, hlk⟩ W')
theorem g_newarrI (X : Wk Z own nm bytes ml ret R n0 p l e s m args below meth c T cells slots h) {aty : ArrayType} (ht : defaultValue (newarray.typeOf aty) = .int 0) (w : (Jvm.Cond.arrayClass (newarray.typeOf aty)).before a0 Z = true) {n : Int32} {pc q c2 s2 cap : Nat} {Ls : Array Slot} {rest : List Value} (hd : decode bytes pc = .ok (.newarray aty, 2)) (hq : pc + 2 = q) (h0n : ¬ n < 0) (hcap : n.toNatClampNeg ≤ cap) (hbig : cap * 8 ≤ 536870912) (hc : cells + 1 = c2) (hs : slots + cap = s2) (hcR : c2 ≤ R.cells) (hsR : s2 ≤ R.slots)
    (k : ∀ T' h' b, Wk Z own nm bytes ml ret R n0 p l e s m args below meth c T' c2 s2 h' → b = h.size → n0 ≤ b → Ext h h' → AI Z h' b (newarray.typeOf aty) n.toNatClampNeg (fun _ => 0) → Goes p e below s R n0 Q (T'.setTop (mkF m q Ls (.ref b :: rest)))) : Goes p e below s R n0 Q (T.setTop (mkF m pc Ls (.int n :: rest))) := by
  obtain ⟨locs, X, N, eh, hn, hx, hZ, hby, hml, hown, hnm, hret, hlk⟩ := X
  subst hby hq hc hs
  obtain ⟨T', h', cA, X', e', E', A', stp⟩ := newP X hx hZ (aty := aty) w eh (g := mkF m pc Ls (.int n :: rest)) rfl hd rfl h0n hcap hbig hcR hsR
  refine g_of stp (k T' h' _ ⟨locs, X', N, e', hn, hx, hZ, rfl, hml, hown, hnm, hret, hlk⟩ rfl (Wk.size ⟨locs, X, N, eh, hn, hx, hZ, rfl, hml, hown, hnm, hret, hlk⟩) E' ⟨(back32 h0n).2, _, A', sz_new _ _ _, fun j hj => ?_⟩)
  simp only [newA, Array.getElem?_replicate, hj, if_true]
  rw [ht]
theorem g_newarrJ (X : Wk Z own nm bytes ml ret R n0 p l e s m args below meth c T cells slots h)  (w : (Jvm.Cond.arrayClass .long).before a0 Z = true) {n : Int32} {pc q c2 s2 cap : Nat} {Ls : Array Slot} {rest : List Value} (hd : decode bytes pc = .ok (.newarray .long, 2)) (hq : pc + 2 = q) (h0n : ¬ n < 0) (hcap : n.toNatClampNeg ≤ cap) (hbig : cap * 8 ≤ 536870912) (hc : cells + 1 = c2) (hs : slots + cap = s2) (hcR : c2 ≤ R.cells) (hsR : s2 ≤ R.slots)
    (k : ∀ T' h' b, Wk Z own nm bytes ml ret R n0 p l e s m args below meth c T' c2 s2 h' → b = h.size → n0 ≤ b → Ext h h' → AJ Z h' b n.toNatClampNeg (fun _ => 0) → Goes p e below s R n0 Q (T'.setTop (mkF m q Ls (.ref b :: rest)))) : Goes p e below s R n0 Q (T.setTop (mkF m pc Ls (.int n :: rest))) := by
  obtain ⟨locs, X, N, eh, hn, hx, hZ, hby, hml, hown, hnm, hret, hlk⟩ := X
  subst hby hq hc hs
  obtain ⟨T', h', cA, X', e', E', A', stp⟩ := newP X hx hZ (aty := .long) w eh (g := mkF m pc Ls (.int n :: rest)) rfl hd rfl h0n hcap hbig hcR hsR
  refine g_of stp (k T' h' _ ⟨locs, X', N, e', hn, hx, hZ, rfl, hml, hown, hnm, hret, hlk⟩ rfl (Wk.size ⟨locs, X, N, eh, hn, hx, hZ, rfl, hml, hown, hnm, hret, hlk⟩) E' ⟨(back32 h0n).2, _, A', sz_new _ _ _, fun j hj => ?_⟩)
  simp only [newA, Array.getElem?_replicate, hj, if_true]
  rfl
theorem g_jT0 (X : Wk Z own nm bytes ml ret R n0 p l e s m args below meth c T cells slots h) {J : Nat} {g : JFrame} (L : Array Slot) (S : List Value) (rest : ∀ T', Wk Z own nm bytes ml ret R n0 p l e s m args below meth c T' cells slots h → Goes p e below s R n0 Q (T'.setTop (mkF m J (L) (S)))) (here : (∀ T', Wk Z own nm bytes ml ret R n0 p l e s m args below meth c T' cells slots h → Goes p e below s R n0 Q (T'.setTop (mkF m J (L) (S)))) → Goes p e below s R n0 Q (T.setTop g)) : Goes p e below s R n0 Q (T.setTop g) := here rest
theorem g_jT1 {α : Type} (X : Wk Z own nm bytes ml ret R n0 p l e s m args below meth c T cells slots h) {J : Nat} {g : JFrame} (P : α → Prop) (L : α → Array Slot) (S : α → List Value) (rest : ∀ T', Wk Z own nm bytes ml ret R n0 p l e s m args below meth c T' cells slots h → ∀ a, P a → Goes p e below s R n0 Q (T'.setTop (mkF m J (L a) (S a)))) (here : (∀ T', Wk Z own nm bytes ml ret R n0 p l e s m args below meth c T' cells slots h → ∀ a, P a → Goes p e below s R n0 Q (T'.setTop (mkF m J (L a) (S a)))) → Goes p e below s R n0 Q (T.setTop g)) : Goes p e below s R n0 Q (T.setTop g) := here rest
theorem g_jT2 {α β : Type} (X : Wk Z own nm bytes ml ret R n0 p l e s m args below meth c T cells slots h) {J : Nat} {g : JFrame} (P : α → β → Prop) (L : α → β → Array Slot) (S : α → β → List Value) (rest : ∀ T', Wk Z own nm bytes ml ret R n0 p l e s m args below meth c T' cells slots h → ∀ a b, P a b → Goes p e below s R n0 Q (T'.setTop (mkF m J (L a b) (S a b)))) (here : (∀ T', Wk Z own nm bytes ml ret R n0 p l e s m args below meth c T' cells slots h → ∀ a b, P a b → Goes p e below s R n0 Q (T'.setTop (mkF m J (L a b) (S a b)))) → Goes p e below s R n0 Q (T.setTop g)) : Goes p e below s R n0 Q (T.setTop g) := here rest
theorem g_jT3 {α β γ : Type} (X : Wk Z own nm bytes ml ret R n0 p l e s m args below meth c T cells slots h) {J : Nat} {g : JFrame} (P : α → β → γ → Prop) (L : α → β → γ → Array Slot) (S : α → β → γ → List Value) (rest : ∀ T', Wk Z own nm bytes ml ret R n0 p l e s m args below meth c T' cells slots h → ∀ a b c', P a b c' → Goes p e below s R n0 Q (T'.setTop (mkF m J (L a b c') (S a b c')))) (here : (∀ T', Wk Z own nm bytes ml ret R n0 p l e s m args below meth c T' cells slots h → ∀ a b c', P a b c' → Goes p e below s R n0 Q (T'.setTop (mkF m J (L a b c') (S a b c')))) → Goes p e below s R n0 Q (T.setTop g)) : Goes p e below s R n0 Q (T.setTop g) := here rest
theorem g_jT4 {α β γ δ : Type} (X : Wk Z own nm bytes ml ret R n0 p l e s m args below meth c T cells slots h) {J : Nat} {g : JFrame} (P : α → β → γ → δ → Prop) (L : α → β → γ → δ → Array Slot) (S : α → β → γ → δ → List Value) (rest : ∀ T', Wk Z own nm bytes ml ret R n0 p l e s m args below meth c T' cells slots h → ∀ a b c' d, P a b c' d → Goes p e below s R n0 Q (T'.setTop (mkF m J (L a b c' d) (S a b c' d)))) (here : (∀ T', Wk Z own nm bytes ml ret R n0 p l e s m args below meth c T' cells slots h → ∀ a b c' d, P a b c' d → Goes p e below s R n0 Q (T'.setTop (mkF m J (L a b c' d) (S a b c' d)))) → Goes p e below s R n0 Q (T.setTop g)) : Goes p e below s R n0 Q (T.setTop g) := here rest
theorem g_loop1 {α : Type} (X : Wk Z own nm bytes ml ret R n0 p l e s m args below meth c T cells slots h) {H : Nat} (ms : α → Nat) (I : α → Heap → Prop) (L : α → Array Slot) (S : α → List Value) (a : α) (i0 : I a h) (turn : ∀ a T' h', Wk Z own nm bytes ml ret R n0 p l e s m args below meth c T' cells slots h' → I a h' → (∀ a' T'' h'', Wk Z own nm bytes ml ret R n0 p l e s m args below meth c T'' cells slots h'' → I a' h'' → ms a' < ms a → Goes p e below s R n0 Q (T''.setTop (mkF m H (L a') (S a')))) → Goes p e below s R n0 Q (T'.setTop (mkF m H (L a) (S a)))) : Goes p e below s R n0 Q (T.setTop (mkF m H (L a) (S a))) := by
  induction hk : ms a using Nat.strongRecOn generalizing a T h with
  | _ k ih => exact turn a T h X i0 (fun a' T2 h2 X2 i2 lt => ih _ (hk ▸ lt) X2 a' i2 rfl)
theorem g_loop2 {α β : Type} (X : Wk Z own nm bytes ml ret R n0 p l e s m args below meth c T cells slots h) {H : Nat} (ms : α → β → Nat) (I : α → β → Heap → Prop) (L : α → β → Array Slot) (S : α → β → List Value) (a : α) (b : β) (i0 : I a b h) (turn : ∀ a b T' h', Wk Z own nm bytes ml ret R n0 p l e s m args below meth c T' cells slots h' → I a b h' → (∀ a' b' T'' h'', Wk Z own nm bytes ml ret R n0 p l e s m args below meth c T'' cells slots h'' → I a' b' h'' → ms a' b' < ms a b → Goes p e below s R n0 Q (T''.setTop (mkF m H (L a' b') (S a' b')))) → Goes p e below s R n0 Q (T'.setTop (mkF m H (L a b) (S a b)))) : Goes p e below s R n0 Q (T.setTop (mkF m H (L a b) (S a b))) := by
  induction hk : ms a b using Nat.strongRecOn generalizing a b T h with
  | _ k ih => exact turn a b T h X i0 (fun a' b' T2 h2 X2 i2 lt => ih _ (hk ▸ lt) X2 a' b' i2 rfl)
theorem g_loop3 {α β γ : Type} (X : Wk Z own nm bytes ml ret R n0 p l e s m args below meth c T cells slots h) {H : Nat} (ms : α → β → γ → Nat) (I : α → β → γ → Heap → Prop) (L : α → β → γ → Array Slot) (S : α → β → γ → List Value) (a : α) (b : β) (u : γ) (i0 : I a b u h) (turn : ∀ a b u T' h', Wk Z own nm bytes ml ret R n0 p l e s m args below meth c T' cells slots h' → I a b u h' → (∀ a' b' u' T'' h'', Wk Z own nm bytes ml ret R n0 p l e s m args below meth c T'' cells slots h'' → I a' b' u' h'' → ms a' b' u' < ms a b u → Goes p e below s R n0 Q (T''.setTop (mkF m H (L a' b' u') (S a' b' u')))) → Goes p e below s R n0 Q (T'.setTop (mkF m H (L a b u) (S a b u)))) : Goes p e below s R n0 Q (T.setTop (mkF m H (L a b u) (S a b u))) := by
  induction hk : ms a b u using Nat.strongRecOn generalizing a b u T h with
  | _ k ih => exact turn a b u T h X i0 (fun a' b' u' T2 h2 X2 i2 lt => ih _ (hk ▸ lt) X2 a' b' u' i2 rfl)
theorem g_loop4 {α β γ δ : Type} (X : Wk Z own nm bytes ml ret R n0 p l e s m args below meth c T cells slots h) {H : Nat} (ms : α → β → γ → δ → Nat) (I : α → β → γ → δ → Heap → Prop) (L : α → β → γ → δ → Array Slot) (S : α → β → γ → δ → List Value) (a : α) (b : β) (u : γ) (w : δ) (i0 : I a b u w h) (turn : ∀ a b u w T' h', Wk Z own nm bytes ml ret R n0 p l e s m args below meth c T' cells slots h' → I a b u w h' → (∀ a' b' u' w' T'' h'', Wk Z own nm bytes ml ret R n0 p l e s m args below meth c T'' cells slots h'' → I a' b' u' w' h'' → ms a' b' u' w' < ms a b u w → Goes p e below s R n0 Q (T''.setTop (mkF m H (L a' b' u' w') (S a' b' u' w')))) → Goes p e below s R n0 Q (T'.setTop (mkF m H (L a b u w) (S a b u w)))) : Goes p e below s R n0 Q (T.setTop (mkF m H (L a b u w) (S a b u w))) := by
  induction hk : ms a b u w using Nat.strongRecOn generalizing a b u w T h with
  | _ k ih => exact turn a b u w T h X i0 (fun a' b' u' w' T2 h2 X2 i2 lt => ih _ (hk ▸ lt) X2 a' b' u' w' i2 rfl)
theorem g_loop5 {α β γ δ ε : Type} (X : Wk Z own nm bytes ml ret R n0 p l e s m args below meth c T cells slots h) {H : Nat} (ms : α → β → γ → δ → ε → Nat) (I : α → β → γ → δ → ε → Heap → Prop) (L : α → β → γ → δ → ε → Array Slot) (S : α → β → γ → δ → ε → List Value) (a : α) (b : β) (u : γ) (w : δ) (z : ε) (i0 : I a b u w z h) (turn : ∀ a b u w z T' h', Wk Z own nm bytes ml ret R n0 p l e s m args below meth c T' cells slots h' → I a b u w z h' → (∀ a' b' u' w' z' T'' h'', Wk Z own nm bytes ml ret R n0 p l e s m args below meth c T'' cells slots h'' → I a' b' u' w' z' h'' → ms a' b' u' w' z' < ms a b u w z → Goes p e below s R n0 Q (T''.setTop (mkF m H (L a' b' u' w' z') (S a' b' u' w' z')))) → Goes p e below s R n0 Q (T'.setTop (mkF m H (L a b u w z) (S a b u w z)))) : Goes p e below s R n0 Q (T.setTop (mkF m H (L a b u w z) (S a b u w z))) := by
  induction hk : ms a b u w z using Nat.strongRecOn generalizing a b u w z T h with
  | _ k ih => exact turn a b u w z T h X i0 (fun a' b' u' w' z' T2 h2 X2 i2 lt => ih _ (hk ▸ lt) X2 a' b' u' w' z' i2 rfl)
end Walk
end Jvm.Own
namespace Jvm.Pilot.@@N@@
open Jvm Jvm.ClassFile Sem Op Lib Jvm.Free Jvm.Stand Jvm.LawKit Jvm.RoadKit Bundle Jvm.Own Jvm.Pilot.@@N@@.Jvm.D

theorem tw0 {Z : State} {a0 : Array Value} (hw : ∀ d ∈ tables_1, d.before a0 Z = true) : ((Jvm.Cond.constantLong "com/example/retention/retention/logging/LogThrottleDuePinLaw" (7 : Nat) (1152921504606846975 : Int64))).before a0 Z = true := hw _ (List.mem_of_getElem? (i := 0) rfl)
theorem tw1 {Z : State} {a0 : Array Value} (hw : ∀ d ∈ tables_1, d.before a0 Z = true) : ((Jvm.Cond.classLink "com/example/retention/retention/logging/LogThrottleDuePinLaw" (9 : Nat) "com/example/retention/retention/logging/LogThrottle")).before a0 Z = true := hw _ (List.mem_of_getElem? (i := 1) rfl)
theorem tw2 {Z : State} {a0 : Array Value} (hw : ∀ d ∈ tables_1, d.before a0 Z = true) : ((Jvm.Cond.instantiable "com/example/retention/retention/logging/LogThrottle" (3 : Nat))).before a0 Z = true := hw _ (List.mem_of_getElem? (i := 2) rfl)
theorem tw3 {Z : State} {a0 : Array Value} (hw : ∀ d ∈ tables_1, d.before a0 Z = true) : ((Jvm.Cond.initialized "com/example/retention/retention/logging/LogThrottle")).before a0 Z = true := hw _ (List.mem_of_getElem? (i := 3) rfl)
theorem tw4 {Z : State} {a0 : Array Value} (hw : ∀ d ∈ tables_1, d.before a0 Z = true) : ((Jvm.Cond.methodLink "com/example/retention/retention/logging/LogThrottleDuePinLaw" (11 : Nat) ({ cls := "com/example/retention/retention/logging/LogThrottle", name := "<init>", desc := "(J)V" } : Jvm.MethodName))).before a0 Z = true := hw _ (List.mem_of_getElem? (i := 4) rfl)
theorem tw5 {Z : State} {a0 : Array Value} (hw : ∀ d ∈ tables_1, d.before a0 Z = true) : ((Jvm.Cond.instanceMethod ({ cls := "com/example/retention/retention/logging/LogThrottle", name := "<init>", desc := "(J)V" } : Jvm.MethodName))).before a0 Z = true := hw _ (List.mem_of_getElem? (i := 5) rfl)
theorem tw6 {Z : State} {a0 : Array Value} (hw : ∀ d ∈ tables_1, d.before a0 Z = true) : ((Jvm.Cond.code ({ cls := "com/example/retention/retention/logging/LogThrottle", name := "<init>", desc := "(J)V" } : Jvm.MethodName) prog_58_method_1_code (3 : Nat) (Option.none : Option Jvm.ClassFile.FieldType))).before a0 Z = true := hw _ (List.mem_of_getElem? (i := 6) rfl)
theorem tw7 {Z : State} {a0 : Array Value} (hw : ∀ d ∈ tables_1, d.before a0 Z = true) : ((Jvm.Cond.methodLink "com/example/retention/retention/logging/LogThrottle" (1 : Nat) ({ cls := "java/lang/Object", name := "<init>", desc := "()V" } : Jvm.MethodName))).before a0 Z = true := hw _ (List.mem_of_getElem? (i := 7) rfl)
theorem tw8 {Z : State} {a0 : Array Value} (hw : ∀ d ∈ tables_1, d.before a0 Z = true) : ((Jvm.Cond.instanceMethod ({ cls := "java/lang/Object", name := "<init>", desc := "()V" } : Jvm.MethodName))).before a0 Z = true := hw _ (List.mem_of_getElem? (i := 8) rfl)
theorem tw9 {Z : State} {a0 : Array Value} (hw : ∀ d ∈ tables_1, d.before a0 Z = true) : ((Jvm.Cond.code ({ cls := "java/lang/Object", name := "<init>", desc := "()V" } : Jvm.MethodName) object_method_1_code (1 : Nat) (Option.none : Option Jvm.ClassFile.FieldType))).before a0 Z = true := hw _ (List.mem_of_getElem? (i := 9) rfl)
theorem tw10 {Z : State} {a0 : Array Value} (hw : ∀ d ∈ tables_1, d.before a0 Z = true) : ((Jvm.Cond.constantLong "com/example/retention/retention/logging/LogThrottle" (9 : Nat) (-9223372036854775808 : Int64))).before a0 Z = true := hw _ (List.mem_of_getElem? (i := 10) rfl)
theorem tw11 {Z : State} {a0 : Array Value} (hw : ∀ d ∈ tables_1, d.before a0 Z = true) : ((Jvm.Cond.fieldLink "com/example/retention/retention/logging/LogThrottle" (11 : Nat) "com/example/retention/retention/logging/LogThrottle" "nextLineMillis" "J")).before a0 Z = true := hw _ (List.mem_of_getElem? (i := 11) rfl)
theorem tw12 {Z : State} {a0 : Array Value} (hw : ∀ d ∈ tables_1, d.before a0 Z = true) : ((Jvm.Cond.lays "com/example/retention/retention/logging/LogThrottle" "com/example/retention/retention/logging/LogThrottle" "nextLineMillis" "J")).before a0 Z = true := hw _ (List.mem_of_getElem? (i := 12) rfl)
theorem tw13 {Z : State} {a0 : Array Value} (hw : ∀ d ∈ tables_1, d.before a0 Z = true) : ((Jvm.Cond.fieldLink "com/example/retention/retention/logging/LogThrottle" (17 : Nat) "com/example/retention/retention/logging/LogThrottle" "intervalMillis" "J")).before a0 Z = true := hw _ (List.mem_of_getElem? (i := 13) rfl)
theorem tw14 {Z : State} {a0 : Array Value} (hw : ∀ d ∈ tables_1, d.before a0 Z = true) : ((Jvm.Cond.laysFinal "com/example/retention/retention/logging/LogThrottle" "com/example/retention/retention/logging/LogThrottle" "intervalMillis" "J")).before a0 Z = true := hw _ (List.mem_of_getElem? (i := 14) rfl)
theorem tw15 {Z : State} {a0 : Array Value} (hw : ∀ d ∈ tables_1, d.before a0 Z = true) : ((Jvm.Cond.methodLink "com/example/retention/retention/logging/LogThrottleDuePinLaw" (14 : Nat) ({ cls := "com/example/retention/retention/logging/LogThrottle", name := "due", desc := "(J)J" } : Jvm.MethodName))).before a0 Z = true := hw _ (List.mem_of_getElem? (i := 15) rfl)
theorem tw16 {Z : State} {a0 : Array Value} (hw : ∀ d ∈ tables_1, d.before a0 Z = true) : ((Jvm.Cond.declares ({ cls := "com/example/retention/retention/logging/LogThrottle", name := "due", desc := "(J)J" } : Jvm.MethodName))).before a0 Z = true := hw _ (List.mem_of_getElem? (i := 16) rfl)
theorem tw17 {Z : State} {a0 : Array Value} (hw : ∀ d ∈ tables_1, d.before a0 Z = true) : ((Jvm.Cond.instanceMethod ({ cls := "com/example/retention/retention/logging/LogThrottle", name := "due", desc := "(J)J" } : Jvm.MethodName))).before a0 Z = true := hw _ (List.mem_of_getElem? (i := 17) rfl)
theorem tw18 {Z : State} {a0 : Array Value} (hw : ∀ d ∈ tables_1, d.before a0 Z = true) : ((Jvm.Cond.selects "com/example/retention/retention/logging/LogThrottle" ({ cls := "com/example/retention/retention/logging/LogThrottle", name := "due", desc := "(J)J" } : Jvm.MethodName) ({ cls := "com/example/retention/retention/logging/LogThrottle", name := "due", desc := "(J)J" } : Jvm.MethodName))).before a0 Z = true := hw _ (List.mem_of_getElem? (i := 18) rfl)
theorem tw19 {Z : State} {a0 : Array Value} (hw : ∀ d ∈ tables_1, d.before a0 Z = true) : ((Jvm.Cond.code ({ cls := "com/example/retention/retention/logging/LogThrottle", name := "due", desc := "(J)J" } : Jvm.MethodName) prog_58_method_3_code (5 : Nat) (Option.some Jvm.ClassFile.FieldType.long))).before a0 Z = true := hw _ (List.mem_of_getElem? (i := 19) rfl)
theorem tw20 {Z : State} {a0 : Array Value} (hw : ∀ d ∈ tables_1, d.before a0 Z = true) : ((Jvm.Cond.fieldLink "com/example/retention/retention/logging/LogThrottle" (20 : Nat) "com/example/retention/retention/logging/LogThrottle" "unreported" "J")).before a0 Z = true := hw _ (List.mem_of_getElem? (i := 20) rfl)
theorem tw21 {Z : State} {a0 : Array Value} (hw : ∀ d ∈ tables_1, d.before a0 Z = true) : ((Jvm.Cond.lays "com/example/retention/retention/logging/LogThrottle" "com/example/retention/retention/logging/LogThrottle" "unreported" "J")).before a0 Z = true := hw _ (List.mem_of_getElem? (i := 21) rfl)
theorem tw22 {Z : State} {a0 : Array Value} (hw : ∀ d ∈ tables_1, d.before a0 Z = true) : ((Jvm.Cond.methodLink "com/example/retention/retention/logging/LogThrottleDuePinLaw" (18 : Nat) ({ cls := "com/example/retention/retention/logging/LogThrottle", name := "note", desc := "(J)J" } : Jvm.MethodName))).before a0 Z = true := hw _ (List.mem_of_getElem? (i := 22) rfl)
theorem tw23 {Z : State} {a0 : Array Value} (hw : ∀ d ∈ tables_1, d.before a0 Z = true) : ((Jvm.Cond.declares ({ cls := "com/example/retention/retention/logging/LogThrottle", name := "note", desc := "(J)J" } : Jvm.MethodName))).before a0 Z = true := hw _ (List.mem_of_getElem? (i := 23) rfl)
theorem tw24 {Z : State} {a0 : Array Value} (hw : ∀ d ∈ tables_1, d.before a0 Z = true) : ((Jvm.Cond.instanceMethod ({ cls := "com/example/retention/retention/logging/LogThrottle", name := "note", desc := "(J)J" } : Jvm.MethodName))).before a0 Z = true := hw _ (List.mem_of_getElem? (i := 24) rfl)
theorem tw25 {Z : State} {a0 : Array Value} (hw : ∀ d ∈ tables_1, d.before a0 Z = true) : ((Jvm.Cond.selects "com/example/retention/retention/logging/LogThrottle" ({ cls := "com/example/retention/retention/logging/LogThrottle", name := "note", desc := "(J)J" } : Jvm.MethodName) ({ cls := "com/example/retention/retention/logging/LogThrottle", name := "note", desc := "(J)J" } : Jvm.MethodName))).before a0 Z = true := hw _ (List.mem_of_getElem? (i := 25) rfl)
theorem tw26 {Z : State} {a0 : Array Value} (hw : ∀ d ∈ tables_1, d.before a0 Z = true) : ((Jvm.Cond.code ({ cls := "com/example/retention/retention/logging/LogThrottle", name := "note", desc := "(J)J" } : Jvm.MethodName) prog_58_method_2_code (3 : Nat) (Option.some Jvm.ClassFile.FieldType.long))).before a0 Z = true := hw _ (List.mem_of_getElem? (i := 26) rfl)
theorem tw27 {Z : State} {a0 : Array Value} (hw : ∀ d ∈ tables_1, d.before a0 Z = true) : ((Jvm.Cond.methodLink "com/example/retention/retention/logging/LogThrottle" (23 : Nat) ({ cls := "com/example/retention/retention/logging/LogThrottle", name := "due", desc := "(J)J" } : Jvm.MethodName))).before a0 Z = true := hw _ (List.mem_of_getElem? (i := 27) rfl)
theorem tw28 {Z : State} {a0 : Array Value} (hw : ∀ d ∈ tables_1, d.before a0 Z = true) : ((Jvm.Cond.methodLink "com/example/retention/retention/logging/LogThrottleDuePinLaw" (21 : Nat) ({ cls := "com/example/retention/retention/logging/LogThrottle", name := "unreported", desc := "()J" } : Jvm.MethodName))).before a0 Z = true := hw _ (List.mem_of_getElem? (i := 28) rfl)
theorem tw29 {Z : State} {a0 : Array Value} (hw : ∀ d ∈ tables_1, d.before a0 Z = true) : ((Jvm.Cond.declares ({ cls := "com/example/retention/retention/logging/LogThrottle", name := "unreported", desc := "()J" } : Jvm.MethodName))).before a0 Z = true := hw _ (List.mem_of_getElem? (i := 29) rfl)
theorem tw30 {Z : State} {a0 : Array Value} (hw : ∀ d ∈ tables_1, d.before a0 Z = true) : ((Jvm.Cond.instanceMethod ({ cls := "com/example/retention/retention/logging/LogThrottle", name := "unreported", desc := "()J" } : Jvm.MethodName))).before a0 Z = true := hw _ (List.mem_of_getElem? (i := 30) rfl)
theorem tw31 {Z : State} {a0 : Array Value} (hw : ∀ d ∈ tables_1, d.before a0 Z = true) : ((Jvm.Cond.selects "com/example/retention/retention/logging/LogThrottle" ({ cls := "com/example/retention/retention/logging/LogThrottle", name := "unreported", desc := "()J" } : Jvm.MethodName) ({ cls := "com/example/retention/retention/logging/LogThrottle", name := "unreported", desc := "()J" } : Jvm.MethodName))).before a0 Z = true := hw _ (List.mem_of_getElem? (i := 31) rfl)
theorem tw32 {Z : State} {a0 : Array Value} (hw : ∀ d ∈ tables_1, d.before a0 Z = true) : ((Jvm.Cond.code ({ cls := "com/example/retention/retention/logging/LogThrottle", name := "unreported", desc := "()J" } : Jvm.MethodName) prog_58_method_4_code (3 : Nat) (Option.some Jvm.ClassFile.FieldType.long))).before a0 Z = true := hw _ (List.mem_of_getElem? (i := 32) rfl)
theorem tw33 {Z : State} {a0 : Array Value} (hw : ∀ d ∈ tables_1, d.before a0 Z = true) : ((Jvm.Cond.constantLong "com/example/retention/retention/logging/LogThrottleDuePinLaw" (25 : Nat) (2 : Int64))).before a0 Z = true := hw _ (List.mem_of_getElem? (i := 33) rfl)
theorem pd0 : parseMethodDescriptor "(J)J" = some ⟨[.long], some .long⟩ := by decide +kernel
theorem pd1 : parseMethodDescriptor "(J)V" = some ⟨[.long], none⟩ := by decide +kernel
theorem pd2 : parseMethodDescriptor "()J" = some ⟨[], some .long⟩ := by decide +kernel
theorem d1_0 : decode prog_58_method_1_code 0 = .ok (.aload_n 0, 1) := by decide +kernel
theorem d1_1 : decode prog_58_method_1_code 1 = .ok (.invokespecial 1, 3) := by decide +kernel
theorem d1_4 : decode prog_58_method_1_code 4 = .ok (.aload_n 0, 1) := by decide +kernel
theorem d1_5 : decode prog_58_method_1_code 5 = .ok (.ldc2_w 9, 3) := by decide +kernel
theorem d1_8 : decode prog_58_method_1_code 8 = .ok (.putfield 11, 3) := by decide +kernel
theorem d1_11 : decode prog_58_method_1_code 11 = .ok (.aload_n 0, 1) := by decide +kernel
theorem d1_12 : decode prog_58_method_1_code 12 = .ok (.lload_n 1, 1) := by decide +kernel
theorem d1_13 : decode prog_58_method_1_code 13 = .ok (.putfield 17, 3) := by decide +kernel
theorem d1_16 : decode prog_58_method_1_code 16 = .ok (.return_, 1) := by decide +kernel
theorem d3_0 : decode prog_58_method_3_code 0 = .ok (.lconst 0, 1) := by decide +kernel
theorem d3_1 : decode prog_58_method_3_code 1 = .ok (.lstore_n 3, 1) := by decide +kernel
theorem d3_2 : decode prog_58_method_3_code 2 = .ok (.aload_n 0, 1) := by decide +kernel
theorem d3_3 : decode prog_58_method_3_code 3 = .ok (.getfield 20, 3) := by decide +kernel
theorem d3_6 : decode prog_58_method_3_code 6 = .ok (.lconst 0, 1) := by decide +kernel
theorem d3_7 : decode prog_58_method_3_code 7 = .ok (.lcmp, 1) := by decide +kernel
theorem d3_8 : decode prog_58_method_3_code 8 = .ok (.ifCond .le 32, 3) := by decide +kernel
theorem d3_11 : decode prog_58_method_3_code 11 = .ok (.lload_n 1, 1) := by decide +kernel
theorem d3_12 : decode prog_58_method_3_code 12 = .ok (.aload_n 0, 1) := by decide +kernel
theorem d3_13 : decode prog_58_method_3_code 13 = .ok (.getfield 11, 3) := by decide +kernel
theorem d3_16 : decode prog_58_method_3_code 16 = .ok (.lcmp, 1) := by decide +kernel
theorem d3_17 : decode prog_58_method_3_code 17 = .ok (.ifCond .lt 23, 3) := by decide +kernel
theorem d3_20 : decode prog_58_method_3_code 20 = .ok (.aload_n 0, 1) := by decide +kernel
theorem d3_21 : decode prog_58_method_3_code 21 = .ok (.getfield 20, 3) := by decide +kernel
theorem d3_24 : decode prog_58_method_3_code 24 = .ok (.lstore_n 3, 1) := by decide +kernel
theorem d3_25 : decode prog_58_method_3_code 25 = .ok (.aload_n 0, 1) := by decide +kernel
theorem d3_26 : decode prog_58_method_3_code 26 = .ok (.lconst 0, 1) := by decide +kernel
theorem d3_27 : decode prog_58_method_3_code 27 = .ok (.putfield 20, 3) := by decide +kernel
theorem d3_30 : decode prog_58_method_3_code 30 = .ok (.aload_n 0, 1) := by decide +kernel
theorem d3_31 : decode prog_58_method_3_code 31 = .ok (.lload_n 1, 1) := by decide +kernel
theorem d3_32 : decode prog_58_method_3_code 32 = .ok (.aload_n 0, 1) := by decide +kernel
theorem d3_33 : decode prog_58_method_3_code 33 = .ok (.getfield 17, 3) := by decide +kernel
theorem d3_36 : decode prog_58_method_3_code 36 = .ok (.ladd, 1) := by decide +kernel
theorem d3_37 : decode prog_58_method_3_code 37 = .ok (.putfield 11, 3) := by decide +kernel
theorem d3_40 : decode prog_58_method_3_code 40 = .ok (.lload_n 3, 1) := by decide +kernel
theorem d3_41 : decode prog_58_method_3_code 41 = .ok (.lreturn, 1) := by decide +kernel
theorem d4_0 : decode prog_58_method_2_code 0 = .ok (.aload_n 0, 1) := by decide +kernel
theorem d4_1 : decode prog_58_method_2_code 1 = .ok (.dup, 1) := by decide +kernel
theorem d4_2 : decode prog_58_method_2_code 2 = .ok (.getfield 20, 3) := by decide +kernel
theorem d4_5 : decode prog_58_method_2_code 5 = .ok (.lconst 1, 1) := by decide +kernel
theorem d4_6 : decode prog_58_method_2_code 6 = .ok (.ladd, 1) := by decide +kernel
theorem d4_7 : decode prog_58_method_2_code 7 = .ok (.putfield 20, 3) := by decide +kernel
theorem d4_10 : decode prog_58_method_2_code 10 = .ok (.aload_n 0, 1) := by decide +kernel
theorem d4_11 : decode prog_58_method_2_code 11 = .ok (.lload_n 1, 1) := by decide +kernel
theorem d4_12 : decode prog_58_method_2_code 12 = .ok (.invokevirtual 23, 3) := by decide +kernel
theorem d4_15 : decode prog_58_method_2_code 15 = .ok (.lreturn, 1) := by decide +kernel
theorem d5_0 : decode prog_58_method_4_code 0 = .ok (.aload_n 0, 1) := by decide +kernel
theorem d5_1 : decode prog_58_method_4_code 1 = .ok (.getfield 20, 3) := by decide +kernel
theorem d5_4 : decode prog_58_method_4_code 4 = .ok (.lstore_n 1, 1) := by decide +kernel
theorem d5_5 : decode prog_58_method_4_code 5 = .ok (.aload_n 0, 1) := by decide +kernel
theorem d5_6 : decode prog_58_method_4_code 6 = .ok (.lconst 0, 1) := by decide +kernel
theorem d5_7 : decode prog_58_method_4_code 7 = .ok (.putfield 20, 3) := by decide +kernel
theorem d5_10 : decode prog_58_method_4_code 10 = .ok (.lload_n 1, 1) := by decide +kernel
theorem d5_11 : decode prog_58_method_4_code 11 = .ok (.lreturn, 1) := by decide +kernel
def O_LogThrottle (Z : State) (h : Heap) (a : Addr) (v0 v1 v2 : Value) : Prop := Exa Z h a "com/example/retention/retention/logging/LogThrottle" ∧ Fld Z h a "com/example/retention/retention/logging/LogThrottle" "nextLineMillis" "J" v0 ∧ Fld Z h a "com/example/retention/retention/logging/LogThrottle" "intervalMillis" "J" v1 ∧ Fld Z h a "com/example/retention/retention/logging/LogThrottle" "unreported" "J" v2
theorem O_LogThrottle.ext {Z : State} {h h' : Heap} {a : Addr} {v0 v1 v2 : Value} (O : O_LogThrottle Z h a v0 v1 v2) (E : Ext h h') : O_LogThrottle Z h' a v0 v1 v2 := ⟨O.1.ext E, O.2.1.ext E, O.2.2.1.ext E, O.2.2.2.ext E⟩
theorem O_LogThrottle.keep {Z : State} {h h' : Heap} {a : Addr} {ws : List Addr} {v0 v1 v2 : Value} (O : O_LogThrottle Z h a v0 v1 v2) (K : Keep h h' ws) (q : a ∉ ws) : O_LogThrottle Z h' a v0 v1 v2 := ⟨O.1.keep K, O.2.1.keep K q, O.2.2.1.keep K q, O.2.2.2.keep K q⟩
theorem O_LogThrottle.other {Z : State} {h h' : Heap} {a b : Addr} {sl : Nat} {w : Value} {v0 v1 v2 : Value} (O : O_LogThrottle Z h a v0 v1 v2) (W : Wr h h' b sl w) (q : a ≠ b) : O_LogThrottle Z h' a v0 v1 v2 := ⟨O.1.wr W, O.2.1.other W (Or.inl q), O.2.2.1.other W (Or.inl q), O.2.2.2.other W (Or.inl q)⟩
theorem O_LogThrottle.set0 {Z : State} {a0 : Array Value} {h h' : Heap} {a : Addr} {v0 v1 v2 : Value} {w : Value} (hw : ∀ d ∈ tables_1, d.before a0 Z = true) (W : Wr h h' a (Jvm.RoadKit.slotOf Z "com/example/retention/retention/logging/LogThrottle" "nextLineMillis" "J") w) (O : O_LogThrottle Z h a v0 v1 v2) : O_LogThrottle Z h' a w v1 v2 := ⟨O.1.wr W, O.2.1.same W, O.2.2.1.other W (Or.inr (slot_ne (a0 := a0) (C := "com/example/retention/retention/logging/LogThrottle") (Or.inr (tw14 hw)) (Or.inl (tw12 hw)) (by decide) (t := .long) (t' := .long) (by decide) (by decide))), O.2.2.2.other W (Or.inr (slot_ne (a0 := a0) (C := "com/example/retention/retention/logging/LogThrottle") (Or.inl (tw21 hw)) (Or.inl (tw12 hw)) (by decide) (t := .long) (t' := .long) (by decide) (by decide)))⟩
theorem O_LogThrottle.set1 {Z : State} {a0 : Array Value} {h h' : Heap} {a : Addr} {v0 v1 v2 : Value} {w : Value} (hw : ∀ d ∈ tables_1, d.before a0 Z = true) (W : Wr h h' a (Jvm.RoadKit.slotOf Z "com/example/retention/retention/logging/LogThrottle" "intervalMillis" "J") w) (O : O_LogThrottle Z h a v0 v1 v2) : O_LogThrottle Z h' a v0 w v2 := ⟨O.1.wr W, O.2.1.other W (Or.inr (slot_ne (a0 := a0) (C := "com/example/retention/retention/logging/LogThrottle") (Or.inl (tw12 hw)) (Or.inr (tw14 hw)) (by decide) (t := .long) (t' := .long) (by decide) (by decide))), O.2.2.1.same W, O.2.2.2.other W (Or.inr (slot_ne (a0 := a0) (C := "com/example/retention/retention/logging/LogThrottle") (Or.inl (tw21 hw)) (Or.inr (tw14 hw)) (by decide) (t := .long) (t' := .long) (by decide) (by decide)))⟩
theorem O_LogThrottle.set2 {Z : State} {a0 : Array Value} {h h' : Heap} {a : Addr} {v0 v1 v2 : Value} {w : Value} (hw : ∀ d ∈ tables_1, d.before a0 Z = true) (W : Wr h h' a (Jvm.RoadKit.slotOf Z "com/example/retention/retention/logging/LogThrottle" "unreported" "J") w) (O : O_LogThrottle Z h a v0 v1 v2) : O_LogThrottle Z h' a v0 v1 w := ⟨O.1.wr W, O.2.1.other W (Or.inr (slot_ne (a0 := a0) (C := "com/example/retention/retention/logging/LogThrottle") (Or.inl (tw12 hw)) (Or.inl (tw21 hw)) (by decide) (t := .long) (t' := .long) (by decide) (by decide))), O.2.2.1.other W (Or.inr (slot_ne (a0 := a0) (C := "com/example/retention/retention/logging/LogThrottle") (Or.inr (tw14 hw)) (Or.inl (tw21 hw)) (by decide) (t := .long) (t' := .long) (by decide) (by decide))), O.2.2.2.same W⟩
theorem pn1 : plainName "com/example/retention/retention/logging/LogThrottle" = true := by first | (simp [plainName, overriddenIn]; done) | decide +kernel
theorem ef1 (m : MethodId) (x0 : Addr) (x1 : Int64) : entryFrame m #[(.ref x0), (.long x1)] 3 = mkF m 0 #[.val (.ref x0), .val (.long x1), .second] [] := by first | (simp [entryFrame, mkF, argsToLocals, Value.category]; done) | rfl
set_option maxRecDepth 65536 in
set_option maxHeartbeats 40000000 in
theorem rm1 (l : Launch) (Z : State) (a0 : Array Value) (hw : ∀ d ∈ tables_1, d.before a0 Z = true) (ws : List Jvm.Cond) (a1 : Addr) (q2 : Int64) (h0 : Heap) (n0 : Nat) (Z0 : n0 ≤ h0.size) (O_a1 : O_LogThrottle Z h0 a1 (.long (0 : Int64)) (.long (0 : Int64)) (.long (0 : Int64))) (g_a1 : n0 ≤ a1) :
    Met l Z (⟨"com/example/retention/retention/logging/LogThrottle", "<init>", "(J)V"⟩ : MethodName) prog_58_method_1_code 3 none ({ frames := 1, cells := 0, slots := 0, locals := 12 } : Room) ws n0 #[(.ref a1), (.long q2)] h0 (fun v h' => v = none ∧ Keep h0 h' [a1] ∧ O_LogThrottle Z h' a1 (.long (-9223372036854775808 : Int64)) (.long q2) (.long (0 : Int64))) := by
  refine Met.intro (plainFor_of_name pn1) Z0 ?_
  intro p e s m below meth c T X
  refine g_cast (ef1 m a1 q2) ?_
  have K : Keep h0 h0 [a1] := Keep.refl h0 _
  refine g_aloadN X d1_0 rfl (q := 1) rfl rfl ?_
  refine g_initO X (tw7 hw) (tw8 hw) (tw9 hw) d1_1 (q := 4) rfl rfl (by decide) (W := 0) rfl (by decide) (fun T X => ?_)
  refine g_aloadN X d1_4 rfl (q := 5) rfl rfl ?_
  refine g_ldc2 X (tw10 hw) d1_5 (q := 8) rfl ?_
  refine g_putF X (tw11 hw) Via.refl O_a1.2.1 O_a1.1 (Or.inl (tw12 hw)) (tw2 hw) (ty := .long) (by decide) rfl rfl g_a1 d1_8 (q := 11) rfl (fun T h X W => ?_)
  have O_a1 := O_LogThrottle.set0 hw W O_a1
  have K := K.wr W (Or.inl (List.mem_of_getElem? (i := 0) rfl))
  refine g_aloadN X d1_11 rfl (q := 12) rfl rfl ?_
  refine g_lloadN X d1_12 rfl (q := 13) rfl ?_
  refine g_putF X (tw13 hw) Via.refl O_a1.2.2.1 O_a1.1 (Or.inr ⟨(tw14 hw), rfl, rfl⟩) (tw2 hw) (ty := .long) (by decide) rfl rfl g_a1 d1_13 (q := 16) rfl (fun T h X W => ?_)
  have O_a1 := O_LogThrottle.set1 hw W O_a1
  have K := K.wr W (Or.inl (List.mem_of_getElem? (i := 0) rfl))
  exact g_ret0 X d1_16 (by decide) (by decide) ⟨rfl, K, O_a1⟩
theorem pn3 : plainName "com/example/retention/retention/logging/LogThrottle" = true := by first | (simp [plainName, overriddenIn]; done) | decide +kernel
theorem ef3 (m : MethodId) (x0 : Addr) (x1 : Int64) : entryFrame m #[(.ref x0), (.long x1)] 5 = mkF m 0 #[.val (.ref x0), .val (.long x1), .second, .unset, .unset] [] := by first | (simp [entryFrame, mkF, argsToLocals, Value.category]; done) | rfl
set_option maxRecDepth 65536 in
set_option maxHeartbeats 40000000 in
theorem rm3 (l : Launch) (Z : State) (a0 : Array Value) (hw : ∀ d ∈ tables_1, d.before a0 Z = true) (ws : List Jvm.Cond) (a1 : Addr) (q2 : Int64) (s0 : Int64) (s1 : Int64) (s2 : Int64) (h0 : Heap) (n0 : Nat) (Z0 : n0 ≤ h0.size) (O_a1 : O_LogThrottle Z h0 a1 (.long s0) (.long s1) (.long s2)) (g_a1 : n0 ≤ a1) :
    Met l Z (⟨"com/example/retention/retention/logging/LogThrottle", "due", "(J)J"⟩ : MethodName) prog_58_method_3_code 5 (some .long) ({ frames := 0, cells := 0, slots := 0, locals := 0 } : Room) ws n0 #[(.ref a1), (.long q2)] h0 (fun v h' => v = some (.long (if (0 : Int64) < s2 then (if q2 < s0 then (0 : Int64) else s2) else (0 : Int64))) ∧ Keep h0 h' [a1] ∧ O_LogThrottle Z h' a1 (.long (if (0 : Int64) < s2 then (if q2 < s0 then s0 else (q2 + s1)) else s0)) (.long s1) (.long (if (0 : Int64) < s2 then (if q2 < s0 then s2 else (0 : Int64)) else s2))) := by
  refine Met.intro (plainFor_of_name pn3) Z0 ?_
  intro p e s m below meth c T X
  refine g_cast (ef3 m a1 q2) ?_
  have K : Keep h0 h0 [a1] := Keep.refl h0 _
  refine g_lconst X d3_0 rfl (q := 1) (v := 0) rfl ?_
  refine g_lstoreN X d3_1 rfl (q := 2) (L' := #[.val (.ref a1), .val (.long q2), .second, .val (.long (0 : Int64)), .second]) rfl ?_
  refine g_aloadN X d3_2 rfl (q := 3) rfl rfl ?_
  refine g_getF X (tw20 hw) Via.refl O_a1.2.2.2 d3_3 (q := 6) rfl (fun T X => ?_)
  refine g_lconst X d3_6 rfl (q := 7) (v := 0) rfl ?_
  refine g_lcmpB X d3_7 (q1 := 8) rfl d3_8 (Or.inr (Or.inl rfl)) (q := 11) rfl (by decide) (t := 40) rfl (fun (c1 : (0 : Int64) < s2) => ?_) (fun (c1 : ¬ ((0 : Int64) < s2)) => ?_)
  · skip
    have b_s2 : (1 : Int) ≤ s2.toInt ∧ s2.toInt ≤ 9223372036854775807 := by have z0 := c1; (try simp only [Int64.lt_iff_toInt_lt, Int32.lt_iff_toInt_lt, Int64.le_iff_toInt_le, Int32.le_iff_toInt_le, ← Int64.toInt_inj, ← Int32.toInt_inj, apply_ite Int64.toInt, apply_ite Int32.toInt, Int64.reduceToInt, Int32.reduceToInt, ne_eq] at z0); have z1 := rng64 s2; omega
    refine g_lloadN X d3_11 rfl (q := 12) rfl ?_
    refine g_aloadN X d3_12 rfl (q := 13) rfl rfl ?_
    refine g_getF X (tw11 hw) Via.refl O_a1.2.1 d3_13 (q := 16) rfl (fun T X => ?_)
    refine g_lcmpA X d3_16 (q1 := 17) rfl d3_17 (Or.inl rfl) (q := 20) rfl (by decide) (t := 40) rfl (fun (c2 : q2 < s0) => ?_) (fun (c2 : ¬ (q2 < s0)) => ?_)
    · skip
      refine g_lloadN X d3_40 rfl (q := 41) rfl ?_
      exact g_retJ X d3_41 (by decide) (by decide) ⟨congrArg (fun z => some (Value.long z)) (((if_pos c2).symm).trans (if_pos c1).symm), K, (by first | exact O_a1 | (simp only [if_pos c1, if_pos c2]; exact O_a1) | (simp only [bI, if_pos c1, if_pos c2]; simpa [c1, c2] using O_a1))⟩
    · skip
      refine g_aloadN X d3_20 rfl (q := 21) rfl rfl ?_
      refine g_getF X (tw20 hw) Via.refl O_a1.2.2.2 d3_21 (q := 24) rfl (fun T X => ?_)
      refine g_lstoreN X d3_24 rfl (q := 25) (L' := #[.val (.ref a1), .val (.long q2), .second, .val (.long s2), .second]) rfl ?_
      refine g_aloadN X d3_25 rfl (q := 26) rfl rfl ?_
      refine g_lconst X d3_26 rfl (q := 27) (v := 0) rfl ?_
      refine g_putF X (tw20 hw) Via.refl O_a1.2.2.2 O_a1.1 (Or.inl (tw21 hw)) (tw2 hw) (ty := .long) (by decide) rfl rfl g_a1 d3_27 (q := 30) rfl (fun T h X W => ?_)
      have O_a1 := O_LogThrottle.set2 hw W O_a1
      have K := K.wr W (Or.inl (List.mem_of_getElem? (i := 0) rfl))
      refine g_aloadN X d3_30 rfl (q := 31) rfl rfl ?_
      refine g_lloadN X d3_31 rfl (q := 32) rfl ?_
      refine g_aloadN X d3_32 rfl (q := 33) rfl rfl ?_
      refine g_getF X (tw13 hw) Via.refl O_a1.2.2.1 d3_33 (q := 36) rfl (fun T X => ?_)
      refine g_ladd X d3_36 rfl (q := 37) ?_
      refine g_putF X (tw11 hw) Via.refl O_a1.2.1 O_a1.1 (Or.inl (tw12 hw)) (tw2 hw) (ty := .long) (by decide) rfl rfl g_a1 d3_37 (q := 40) rfl (fun T h X W => ?_)
      have O_a1 := O_LogThrottle.set0 hw W O_a1
      have K := K.wr W (Or.inl (List.mem_of_getElem? (i := 0) rfl))
      refine g_lloadN X d3_40 rfl (q := 41) rfl ?_
      exact g_retJ X d3_41 (by decide) (by decide) ⟨congrArg (fun z => some (Value.long z)) (((if_neg c2).symm).trans (if_pos c1).symm), K, (by first | exact O_a1 | (simp only [if_pos c1, if_neg c2]; exact O_a1) | (simp only [bI, if_pos c1, if_neg c2]; simpa [c1, c2] using O_a1))⟩
  · skip
    have b_s2 : (-9223372036854775808 : Int) ≤ s2.toInt ∧ s2.toInt ≤ 0 := by have z0 := c1; (try simp only [Int64.lt_iff_toInt_lt, Int32.lt_iff_toInt_lt, Int64.le_iff_toInt_le, Int32.le_iff_toInt_le, ← Int64.toInt_inj, ← Int32.toInt_inj, apply_ite Int64.toInt, apply_ite Int32.toInt, Int64.reduceToInt, Int32.reduceToInt, ne_eq] at z0); have z1 := rng64 s2; omega
    refine g_lloadN X d3_40 rfl (q := 41) rfl ?_
    exact g_retJ X d3_41 (by decide) (by decide) ⟨congrArg (fun z => some (Value.long z)) ((if_neg c1).symm), K, (by first | exact O_a1 | (simp only [if_neg c1]; exact O_a1) | (simp only [bI, if_neg c1]; simpa [c1] using O_a1))⟩
theorem pn4 : plainName "com/example/retention/retention/logging/LogThrottle" = true := by first | (simp [plainName, overriddenIn]; done) | decide +kernel
theorem ef4 (m : MethodId) (x0 : Addr) (x1 : Int64) : entryFrame m #[(.ref x0), (.long x1)] 3 = mkF m 0 #[.val (.ref x0), .val (.long x1), .second] [] := by first | (simp [entryFrame, mkF, argsToLocals, Value.category]; done) | rfl
set_option maxRecDepth 65536 in
set_option maxHeartbeats 40000000 in
theorem rm4 (l : Launch) (Z : State) (a0 : Array Value) (hw : ∀ d ∈ tables_1, d.before a0 Z = true) (ws : List Jvm.Cond) (a1 : Addr) (q2 : Int64) (s0 : Int64) (s1 : Int64) (s2 : Int64) (h0 : Heap) (n0 : Nat) (Z0 : n0 ≤ h0.size) (O_a1 : O_LogThrottle Z h0 a1 (.long s0) (.long s1) (.long s2)) (g_a1 : n0 ≤ a1) :
    Met l Z (⟨"com/example/retention/retention/logging/LogThrottle", "note", "(J)J"⟩ : MethodName) prog_58_method_2_code 3 (some .long) ({ frames := 1, cells := 0, slots := 0, locals := 16 } : Room) ws n0 #[(.ref a1), (.long q2)] h0 (fun v h' => v = some (.long (if (0 : Int64) < (s2 + (1 : Int64)) then (if q2 < s0 then (0 : Int64) else (s2 + (1 : Int64))) else (0 : Int64))) ∧ Keep h0 h' [a1] ∧ O_LogThrottle Z h' a1 (.long (if (0 : Int64) < (s2 + (1 : Int64)) then (if q2 < s0 then s0 else (q2 + s1)) else s0)) (.long s1) (.long (if (0 : Int64) < (s2 + (1 : Int64)) then (if q2 < s0 then (s2 + (1 : Int64)) else (0 : Int64)) else (s2 + (1 : Int64))))) := by
  refine Met.intro (plainFor_of_name pn4) Z0 ?_
  intro p e s m below meth c T X
  refine g_cast (ef4 m a1 q2) ?_
  have K : Keep h0 h0 [a1] := Keep.refl h0 _
  refine g_aloadN X d4_0 rfl (q := 1) rfl rfl ?_
  refine g_dup X d4_1 rfl (q := 2) rfl ?_
  refine g_getF X (tw20 hw) Via.refl O_a1.2.2.2 d4_2 (q := 5) rfl (fun T X => ?_)
  refine g_lconst X d4_5 rfl (q := 6) (v := 1) rfl ?_
  refine g_ladd X d4_6 rfl (q := 7) ?_
  refine g_putF X (tw20 hw) Via.refl O_a1.2.2.2 O_a1.1 (Or.inl (tw21 hw)) (tw2 hw) (ty := .long) (by decide) rfl rfl g_a1 d4_7 (q := 10) rfl (fun T h X W => ?_)
  have O_a1 := O_LogThrottle.set2 hw W O_a1
  have K := K.wr W (Or.inl (List.mem_of_getElem? (i := 0) rfl))
  refine g_aloadN X d4_10 rfl (q := 11) rfl rfl ?_
  refine g_lloadN X d4_11 rfl (q := 12) rfl ?_
  refine g_callV X O_a1.1 [(.long q2)] [] (tw27 hw) (tw16 hw) (tw18 hw) (tw17 hw) (tw3 hw) (tw19 hw) (by decide) (rm3 l Z a0 hw [] a1 q2 s0 s1 (s2 + (1 : Int64)) _ n0 X.size O_a1 g_a1) pd0 rfl rfl rfl d4_12 (q := 15) rfl (W := 0) rfl (by decide) (by decide) (c2 := 0) (s2 := 0) rfl rfl (by decide) (by decide) (fun v T h' X hQ => ?_)
  obtain ⟨rfl, Kc, O_a1'⟩ := hQ
  have O_a1 := O_a1'
  have K := K.trans Kc (allS (Or.inl (List.mem_of_getElem? (i := 0) rfl)) all0)
  show Goes p e below s _ n0 _ (T.setTop (mkF m 15 #[.val (.ref a1), .val (.long q2), .second] [(.long (if (0 : Int64) < (s2 + (1 : Int64)) then (if q2 < s0 then (0 : Int64) else (s2 + (1 : Int64))) else (0 : Int64)))]))
  exact g_retJ X d4_15 (by decide) (by decide) ⟨rfl, K, O_a1⟩
theorem pn5 : plainName "com/example/retention/retention/logging/LogThrottle" = true := by first | (simp [plainName, overriddenIn]; done) | decide +kernel
theorem ef5 (m : MethodId) (x0 : Addr) : entryFrame m #[(.ref x0)] 3 = mkF m 0 #[.val (.ref x0), .unset, .unset] [] := by first | (simp [entryFrame, mkF, argsToLocals, Value.category]; done) | rfl
set_option maxRecDepth 65536 in
set_option maxHeartbeats 40000000 in
theorem rm5 (l : Launch) (Z : State) (a0 : Array Value) (hw : ∀ d ∈ tables_1, d.before a0 Z = true) (ws : List Jvm.Cond) (a1 : Addr) (s0 : Int64) (s1 : Int64) (s2 : Int64) (h0 : Heap) (n0 : Nat) (Z0 : n0 ≤ h0.size) (O_a1 : O_LogThrottle Z h0 a1 (.long s0) (.long s1) (.long s2)) (g_a1 : n0 ≤ a1) :
    Met l Z (⟨"com/example/retention/retention/logging/LogThrottle", "unreported", "()J"⟩ : MethodName) prog_58_method_4_code 3 (some .long) ({ frames := 0, cells := 0, slots := 0, locals := 0 } : Room) ws n0 #[(.ref a1)] h0 (fun v h' => v = some (.long s2) ∧ Keep h0 h' [a1] ∧ O_LogThrottle Z h' a1 (.long s0) (.long s1) (.long (0 : Int64))) := by
  refine Met.intro (plainFor_of_name pn5) Z0 ?_
  intro p e s m below meth c T X
  refine g_cast (ef5 m a1) ?_
  have K : Keep h0 h0 [a1] := Keep.refl h0 _
  refine g_aloadN X d5_0 rfl (q := 1) rfl rfl ?_
  refine g_getF X (tw20 hw) Via.refl O_a1.2.2.2 d5_1 (q := 4) rfl (fun T X => ?_)
  refine g_lstoreN X d5_4 rfl (q := 5) (L' := #[.val (.ref a1), .val (.long s2), .second]) rfl ?_
  refine g_aloadN X d5_5 rfl (q := 6) rfl rfl ?_
  refine g_lconst X d5_6 rfl (q := 7) (v := 0) rfl ?_
  refine g_putF X (tw20 hw) Via.refl O_a1.2.2.2 O_a1.1 (Or.inl (tw21 hw)) (tw2 hw) (ty := .long) (by decide) rfl rfl g_a1 d5_7 (q := 10) rfl (fun T h X W => ?_)
  have O_a1 := O_LogThrottle.set2 hw W O_a1
  have K := K.wr W (Or.inl (List.mem_of_getElem? (i := 0) rfl))
  refine g_lloadN X d5_10 rfl (q := 11) rfl ?_
  exact g_retJ X d5_11 (by decide) (by decide) ⟨rfl, K, O_a1⟩
theorem pn0 : plainName "com/example/retention/retention/logging/LogThrottleDuePinLaw" = true := by first | (simp [plainName, overriddenIn]; done) | decide +kernel
theorem ef0 (m : MethodId) (x0 : Int64) (x1 : Int64) (x2 : Int64) (x3 : Int64) : entryFrame m #[(.long x0), (.long x1), (.long x2), (.long x3)] maxLocals = mkF m 0 #[.val (.long x0), .second, .val (.long x1), .second, .val (.long x2), .second, .val (.long x3), .second, .unset, .unset, .unset, .unset, .unset, .unset, .unset, .unset, .unset, .unset, .unset, .unset, .unset, .unset, .unset, .unset, .unset, .unset, .unset, .unset, .unset, .unset, .unset, .unset, .unset, .unset, .unset, .unset, .unset, .unset, .unset, .unset, .unset, .unset] [] := by first | (simp [entryFrame, mkF, argsToLocals, Value.category, maxLocals]; done) | rfl
set_option maxRecDepth 65536 in
set_option maxHeartbeats 40000000 in
theorem rm0 (l : Launch) (Z : State) (a0 : Array Value) (hw : ∀ d ∈ tables_1, d.before a0 Z = true) (ws : List Jvm.Cond) (q1 : Int64) (q2 : Int64) (q3 : Int64) (q4 : Int64) (h0 : Heap) (n0 : Nat) (Z0 : n0 ≤ h0.size) :
    Met l Z x code maxLocals ret room_1 ws n0 #[(.long q1), (.long q2), (.long q3), (.long q4)] h0 (fun v h' => v = some (.int 1)) := by
  refine Met.intro (plainFor_of_name pn0) Z0 ?_
  intro p e s m below meth c T X
  refine g_cast (ef0 m q1 q2 q3 q4) ?_
  refine g_ldc2 X (tw0 hw) at_0 (q := 3) rfl ?_
  refine g_lstore X at_3 rfl (q := 5) (L' := #[.val (.long q1), .second, .val (.long q2), .second, .val (.long q3), .second, .val (.long q4), .second, .val (.long (1152921504606846975 : Int64)), .second, .unset, .unset, .unset, .unset, .unset, .unset, .unset, .unset, .unset, .unset, .unset, .unset, .unset, .unset, .unset, .unset, .unset, .unset, .unset, .unset, .unset, .unset, .unset, .unset, .unset, .unset, .unset, .unset, .unset, .unset, .unset, .unset]) rfl ?_
  refine g_lloadN X at_5 rfl (q := 6) rfl ?_
  refine g_lload X at_6 rfl (q := 8) rfl ?_
  refine g_land X at_8 rfl (q := 9) ?_
  refine g_letJ (fun x9 hx9 => ?_)
  have b_x9 : (0 : Int) ≤ x9.toInt ∧ x9.toInt ≤ 1152921504606846975 := by
    have z0 := hx9
    have f1 := rng64 q1
    obtain ⟨n1_, hn1_⟩ : ∃ z, z = (q1 &&& (1152921504606846975 : Int64)) := ⟨_, rfl⟩
    (try simp only [← hn1_] at z0)
    have f2 := own_mBL q1 (1152921504606846975 : Int64) 60 (by decide) (by decide) 1152921504606846975 (by decide)
    (try rw [← hn1_] at f2)
    have e0 := congrArg Int64.toInt z0
    (try simp only [Int64.lt_iff_toInt_lt, Int32.lt_iff_toInt_lt, Int64.le_iff_toInt_le, Int32.le_iff_toInt_le, ← Int64.toInt_inj, ← Int32.toInt_inj, apply_ite Int64.toInt, apply_ite Int32.toInt, Int64.reduceToInt, Int32.reduceToInt, ne_eq, true_and, and_true, false_or, or_false, iff_self, and_self, not_true_eq_false, not_false_eq_true] at e0)
    omega
  refine g_lstore X at_9 rfl (q := 11) (L' := #[.val (.long q1), .second, .val (.long q2), .second, .val (.long q3), .second, .val (.long q4), .second, .val (.long (1152921504606846975 : Int64)), .second, .val (.long x9), .second, .unset, .unset, .unset, .unset, .unset, .unset, .unset, .unset, .unset, .unset, .unset, .unset, .unset, .unset, .unset, .unset, .unset, .unset, .unset, .unset, .unset, .unset, .unset, .unset, .unset, .unset, .unset, .unset, .unset, .unset]) rfl ?_
  refine g_lloadN X at_11 rfl (q := 12) rfl ?_
  refine g_iconst X at_12 rfl (q := 13) (v := 3) rfl ?_
  refine g_lshr X at_13 rfl (q := 14) ?_
  refine g_letJ (fun x14 hx14 => ?_)
  have b_x14 : (-1152921504606846976 : Int) ≤ x14.toInt ∧ x14.toInt ≤ 1152921504606846975 := by
    have z0 := hx14
    have f1 := rng64 q2
    obtain ⟨n1_, hn1_⟩ : ∃ z, z = (q2 >>> ((3 : Int32) &&& 0x3f).toInt64) := ⟨_, rfl⟩
    (try simp only [← hn1_] at z0)
    have f2 := c_lshr q2 (3 : Int32) 3 (by decide)
    (try rw [← hn1_] at f2)
    (try simp only [Int64.reduceToInt, Int32.reduceToInt] at f2)
    have e0 := congrArg Int64.toInt z0
    (try simp only [Int64.lt_iff_toInt_lt, Int32.lt_iff_toInt_lt, Int64.le_iff_toInt_le, Int32.le_iff_toInt_le, ← Int64.toInt_inj, ← Int32.toInt_inj, apply_ite Int64.toInt, apply_ite Int32.toInt, Int64.reduceToInt, Int32.reduceToInt, ne_eq, true_and, and_true, false_or, or_false, iff_self, and_self, not_true_eq_false, not_false_eq_true] at e0)
    omega
  refine g_lstore X at_14 rfl (q := 16) (L' := #[.val (.long q1), .second, .val (.long q2), .second, .val (.long q3), .second, .val (.long q4), .second, .val (.long (1152921504606846975 : Int64)), .second, .val (.long x9), .second, .val (.long x14), .second, .unset, .unset, .unset, .unset, .unset, .unset, .unset, .unset, .unset, .unset, .unset, .unset, .unset, .unset, .unset, .unset, .unset, .unset, .unset, .unset, .unset, .unset, .unset, .unset, .unset, .unset, .unset, .unset]) rfl ?_
  refine g_lload X at_16 rfl (q := 18) rfl ?_
  refine g_lload X at_18 rfl (q := 20) rfl ?_
  refine g_land X at_20 rfl (q := 21) ?_
  refine g_letJ (fun x21 hx21 => ?_)
  have b_x21 : (0 : Int) ≤ x21.toInt ∧ x21.toInt ≤ 1152921504606846975 := by
    have z0 := hx21
    have f1 := rng64 q3
    obtain ⟨n1_, hn1_⟩ : ∃ z, z = (q3 &&& (1152921504606846975 : Int64)) := ⟨_, rfl⟩
    (try simp only [← hn1_] at z0)
    have f2 := own_mBL q3 (1152921504606846975 : Int64) 60 (by decide) (by decide) 1152921504606846975 (by decide)
    (try rw [← hn1_] at f2)
    have e0 := congrArg Int64.toInt z0
    (try simp only [Int64.lt_iff_toInt_lt, Int32.lt_iff_toInt_lt, Int64.le_iff_toInt_le, Int32.le_iff_toInt_le, ← Int64.toInt_inj, ← Int32.toInt_inj, apply_ite Int64.toInt, apply_ite Int32.toInt, Int64.reduceToInt, Int32.reduceToInt, ne_eq, true_and, and_true, false_or, or_false, iff_self, and_self, not_true_eq_false, not_false_eq_true] at e0)
    omega
  refine g_lstore X at_21 rfl (q := 23) (L' := #[.val (.long q1), .second, .val (.long q2), .second, .val (.long q3), .second, .val (.long q4), .second, .val (.long (1152921504606846975 : Int64)), .second, .val (.long x9), .second, .val (.long x14), .second, .val (.long x21), .second, .unset, .unset, .unset, .unset, .unset, .unset, .unset, .unset, .unset, .unset, .unset, .unset, .unset, .unset, .unset, .unset, .unset, .unset, .unset, .unset, .unset, .unset, .unset, .unset, .unset, .unset]) rfl ?_
  refine g_lload X at_23 rfl (q := 25) rfl ?_
  refine g_lload X at_25 rfl (q := 27) rfl ?_
  refine g_land X at_27 rfl (q := 28) ?_
  refine g_letJ (fun x28 hx28 => ?_)
  have b_x28 : (0 : Int) ≤ x28.toInt ∧ x28.toInt ≤ 1152921504606846975 := by
    have z0 := hx28
    have f1 := rng64 q4
    obtain ⟨n1_, hn1_⟩ : ∃ z, z = (q4 &&& (1152921504606846975 : Int64)) := ⟨_, rfl⟩
    (try simp only [← hn1_] at z0)
    have f2 := own_mBL q4 (1152921504606846975 : Int64) 60 (by decide) (by decide) 1152921504606846975 (by decide)
    (try rw [← hn1_] at f2)
    have e0 := congrArg Int64.toInt z0
    (try simp only [Int64.lt_iff_toInt_lt, Int32.lt_iff_toInt_lt, Int64.le_iff_toInt_le, Int32.le_iff_toInt_le, ← Int64.toInt_inj, ← Int32.toInt_inj, apply_ite Int64.toInt, apply_ite Int32.toInt, Int64.reduceToInt, Int32.reduceToInt, ne_eq, true_and, and_true, false_or, or_false, iff_self, and_self, not_true_eq_false, not_false_eq_true] at e0)
    omega
  refine g_lstore X at_28 rfl (q := 30) (L' := #[.val (.long q1), .second, .val (.long q2), .second, .val (.long q3), .second, .val (.long q4), .second, .val (.long (1152921504606846975 : Int64)), .second, .val (.long x9), .second, .val (.long x14), .second, .val (.long x21), .second, .val (.long x28), .second, .unset, .unset, .unset, .unset, .unset, .unset, .unset, .unset, .unset, .unset, .unset, .unset, .unset, .unset, .unset, .unset, .unset, .unset, .unset, .unset, .unset, .unset, .unset, .unset]) rfl ?_
  refine g_lload X at_30 rfl (q := 32) rfl ?_
  refine g_lload X at_32 rfl (q := 34) rfl ?_
  refine g_ladd X at_34 rfl (q := 35) ?_
  refine g_letJ (fun x35 hx35 => ?_)
  have b_x35 : (-1152921504606846976 : Int) ≤ x35.toInt ∧ x35.toInt ≤ 2305843009213693950 := by
    have z0 := hx35
    obtain ⟨n1_, hn1_⟩ : ∃ z, z = (x14 + x21) := ⟨_, rfl⟩
    (try simp only [← hn1_] at z0)
    have f1 := own_laddE x14 x21 (by (try simp only [Int64.reduceToInt, Int32.reduceToInt]); omega)
    (try rw [← hn1_] at f1)
    have e0 := congrArg Int64.toInt z0
    (try simp only [Int64.lt_iff_toInt_lt, Int32.lt_iff_toInt_lt, Int64.le_iff_toInt_le, Int32.le_iff_toInt_le, ← Int64.toInt_inj, ← Int32.toInt_inj, apply_ite Int64.toInt, apply_ite Int32.toInt, Int64.reduceToInt, Int32.reduceToInt, ne_eq, true_and, and_true, false_or, or_false, iff_self, and_self, not_true_eq_false, not_false_eq_true] at e0)
    omega
  refine g_lstore X at_35 rfl (q := 37) (L' := #[.val (.long q1), .second, .val (.long q2), .second, .val (.long q3), .second, .val (.long q4), .second, .val (.long (1152921504606846975 : Int64)), .second, .val (.long x9), .second, .val (.long x14), .second, .val (.long x21), .second, .val (.long x28), .second, .val (.long x35), .second, .unset, .unset, .unset, .unset, .unset, .unset, .unset, .unset, .unset, .unset, .unset, .unset, .unset, .unset, .unset, .unset, .unset, .unset, .unset, .unset, .unset, .unset]) rfl ?_
  refine g_lload X at_37 rfl (q := 39) rfl ?_
  refine g_lload X at_39 rfl (q := 41) rfl ?_
  refine g_ladd X at_41 rfl (q := 42) ?_
  refine g_letJ (fun x42 hx42 => ?_)
  have b_x42 : (-1152921504606846976 : Int) ≤ x42.toInt ∧ x42.toInt ≤ 3458764513820540925 := by
    have z0 := hx42
    obtain ⟨n1_, hn1_⟩ : ∃ z, z = (x35 + x28) := ⟨_, rfl⟩
    (try simp only [← hn1_] at z0)
    have f1 := own_laddE x35 x28 (by (try simp only [Int64.reduceToInt, Int32.reduceToInt]); omega)
    (try rw [← hn1_] at f1)
    have e0 := congrArg Int64.toInt z0
    (try simp only [Int64.lt_iff_toInt_lt, Int32.lt_iff_toInt_lt, Int64.le_iff_toInt_le, Int32.le_iff_toInt_le, ← Int64.toInt_inj, ← Int32.toInt_inj, apply_ite Int64.toInt, apply_ite Int32.toInt, Int64.reduceToInt, Int32.reduceToInt, ne_eq, true_and, and_true, false_or, or_false, iff_self, and_self, not_true_eq_false, not_false_eq_true] at e0)
    omega
  refine g_lstore X at_42 rfl (q := 44) (L' := #[.val (.long q1), .second, .val (.long q2), .second, .val (.long q3), .second, .val (.long q4), .second, .val (.long (1152921504606846975 : Int64)), .second, .val (.long x9), .second, .val (.long x14), .second, .val (.long x21), .second, .val (.long x28), .second, .val (.long x35), .second, .val (.long x42), .second, .unset, .unset, .unset, .unset, .unset, .unset, .unset, .unset, .unset, .unset, .unset, .unset, .unset, .unset, .unset, .unset, .unset, .unset, .unset, .unset]) rfl ?_
  refine g_new X (tw1 hw) (tw2 hw) (tw3 hw) at_44 (q := 47) rfl (c2 := 1) (s2 := 3) rfl rfl (by decide) (by decide) (fun T h' b1 X gz_b1 g_b1 E Ex D => ?_)
  have O_b1 : O_LogThrottle Z h' b1 (.long (0 : Int64)) (.long (0 : Int64)) (.long (0 : Int64)) := ⟨Ex, D (Or.inl (tw12 hw)) (ty := .long) (by decide), D (Or.inr (tw14 hw)) (ty := .long) (by decide), D (Or.inl (tw21 hw)) (ty := .long) (by decide)⟩
  refine g_dup X at_47 rfl (q := 48) rfl ?_
  refine g_lload X at_48 rfl (q := 50) rfl ?_
  refine g_callI X [(.long x9)] [(.ref b1)] rfl (tw4 hw) (tw5 hw) (tw3 hw) (tw6 hw) (by decide) (rm1 l Z a0 hw [] b1 x9 _ n0 X.size O_b1 g_b1) pd1 rfl rfl rfl at_50 (q := 53) rfl (W := 1) rfl (by decide) (by decide) (c2 := 1) (s2 := 3) rfl rfl (by decide) (by decide) (fun v T h' X hQ => ?_)
  obtain ⟨rfl, Kc, O_b1'⟩ := hQ
  have O_b1 := O_b1'
  show Goes p e below s _ n0 _ (T.setTop (mkF m 53 #[.val (.long q1), .second, .val (.long q2), .second, .val (.long q3), .second, .val (.long q4), .second, .val (.long (1152921504606846975 : Int64)), .second, .val (.long x9), .second, .val (.long x14), .second, .val (.long x21), .second, .val (.long x28), .second, .val (.long x35), .second, .val (.long x42), .second, .unset, .unset, .unset, .unset, .unset, .unset, .unset, .unset, .unset, .unset, .unset, .unset, .unset, .unset, .unset, .unset, .unset, .unset, .unset, .unset] [(.ref b1)]))
  refine g_astore X at_53 rfl (q := 55) (L' := #[.val (.long q1), .second, .val (.long q2), .second, .val (.long q3), .second, .val (.long q4), .second, .val (.long (1152921504606846975 : Int64)), .second, .val (.long x9), .second, .val (.long x14), .second, .val (.long x21), .second, .val (.long x28), .second, .val (.long x35), .second, .val (.long x42), .second, .val (.ref b1), .unset, .unset, .unset, .unset, .unset, .unset, .unset, .unset, .unset, .unset, .unset, .unset, .unset, .unset, .unset, .unset, .unset, .unset, .unset]) rfl rfl ?_
  refine g_aload X at_55 rfl (q := 57) rfl rfl ?_
  refine g_lload X at_57 rfl (q := 59) rfl ?_
  refine g_callV X O_b1.1 [(.long x14)] [] (tw15 hw) (tw16 hw) (tw18 hw) (tw17 hw) (tw3 hw) (tw19 hw) (by decide) (rm3 l Z a0 hw [] b1 x14 (-9223372036854775808 : Int64) x9 (0 : Int64) _ n0 X.size O_b1 g_b1) pd0 rfl rfl rfl at_59 (q := 62) rfl (W := 0) rfl (by decide) (by decide) (c2 := 1) (s2 := 3) rfl rfl (by decide) (by decide) (fun v T h' X hQ => ?_)
  obtain ⟨rfl, Kc, O_b1'⟩ := hQ
  have O_b1 := O_b1'
  show Goes p e below s _ n0 _ (T.setTop (mkF m 62 #[.val (.long q1), .second, .val (.long q2), .second, .val (.long q3), .second, .val (.long q4), .second, .val (.long (1152921504606846975 : Int64)), .second, .val (.long x9), .second, .val (.long x14), .second, .val (.long x21), .second, .val (.long x28), .second, .val (.long x35), .second, .val (.long x42), .second, .val (.ref b1), .unset, .unset, .unset, .unset, .unset, .unset, .unset, .unset, .unset, .unset, .unset, .unset, .unset, .unset, .unset, .unset, .unset, .unset, .unset] [(.long (if (0 : Int64) < (0 : Int64) then (if x14 < (-9223372036854775808 : Int64) then (0 : Int64) else (0 : Int64)) else (0 : Int64)))]))
  refine g_letJ (fun r59 hr59 => ?_)
  obtain ⟨b1_0_59, hb1_0_59⟩ : ∃ z, z = (if (0 : Int64) < (0 : Int64) then (if x14 < (-9223372036854775808 : Int64) then (-9223372036854775808 : Int64) else (x14 + x9)) else (-9223372036854775808 : Int64)) := ⟨_, rfl⟩
  obtain ⟨b1_2_59, hb1_2_59⟩ : ∃ z, z = (if (0 : Int64) < (0 : Int64) then (if x14 < (-9223372036854775808 : Int64) then (0 : Int64) else (0 : Int64)) else (0 : Int64)) := ⟨_, rfl⟩
  have O_b1 : O_LogThrottle Z h' b1 (.long b1_0_59) (.long x9) (.long b1_2_59) := by rw [hb1_0_59, hb1_2_59]; exact O_b1
  refine g_lconst X at_62 rfl (q := 63) (v := 0) rfl ?_
  refine g_jT1 X (J := 72) (P := fun (s0_72 : Int32) => s0_72 = (bI (r59 = (0 : Int64)))) (L := fun s0_72 => #[.val (.long q1), .second, .val (.long q2), .second, .val (.long q3), .second, .val (.long q4), .second, .val (.long (1152921504606846975 : Int64)), .second, .val (.long x9), .second, .val (.long x14), .second, .val (.long x21), .second, .val (.long x28), .second, .val (.long x35), .second, .val (.long x42), .second, .val (.ref b1), .unset, .unset, .unset, .unset, .unset, .unset, .unset, .unset, .unset, .unset, .unset, .unset, .unset, .unset, .unset, .unset, .unset, .unset, .unset]) (S := fun s0_72 => [(.int s0_72)]) ?_ ?_
  · intro T X s0_72 hs0_72
    replace hs0_72 : s0_72 = (bI (r59 = (0 : Int64))) := hs0_72
    subst hs0_72
    show Goes p e below s _ n0 _ (T.setTop (mkF m 72 #[.val (.long q1), .second, .val (.long q2), .second, .val (.long q3), .second, .val (.long q4), .second, .val (.long (1152921504606846975 : Int64)), .second, .val (.long x9), .second, .val (.long x14), .second, .val (.long x21), .second, .val (.long x28), .second, .val (.long x35), .second, .val (.long x42), .second, .val (.ref b1), .unset, .unset, .unset, .unset, .unset, .unset, .unset, .unset, .unset, .unset, .unset, .unset, .unset, .unset, .unset, .unset, .unset, .unset, .unset] [(.int (bI (r59 = (0 : Int64))))]))
    refine g_istore X at_72 rfl (q := 74) (L' := #[.val (.long q1), .second, .val (.long q2), .second, .val (.long q3), .second, .val (.long q4), .second, .val (.long (1152921504606846975 : Int64)), .second, .val (.long x9), .second, .val (.long x14), .second, .val (.long x21), .second, .val (.long x28), .second, .val (.long x35), .second, .val (.long x42), .second, .val (.ref b1), .val (.int (bI (r59 = (0 : Int64)))), .unset, .unset, .unset, .unset, .unset, .unset, .unset, .unset, .unset, .unset, .unset, .unset, .unset, .unset, .unset, .unset, .unset, .unset]) rfl ?_
    refine g_iload X at_74 rfl (q := 76) rfl ?_
    refine g_beq X at_76 (q := 79) rfl (by decide) (t := 95) rfl (fun (c1 : r59 = (0 : Int64)) => ?_) (fun (c1 : ¬ (r59 = (0 : Int64))) => ?_)
    · skip
      have b_r59 : (0 : Int) ≤ r59.toInt ∧ r59.toInt ≤ 0 := by have z0 := c1; (try simp only [Int64.lt_iff_toInt_lt, Int32.lt_iff_toInt_lt, Int64.le_iff_toInt_le, Int32.le_iff_toInt_le, ← Int64.toInt_inj, ← Int32.toInt_inj, apply_ite Int64.toInt, apply_ite Int32.toInt, Int64.reduceToInt, Int32.reduceToInt, ne_eq] at z0); have z1 := rng64 r59; omega
      refine g_aload X at_79 rfl (q := 81) rfl rfl ?_
      refine g_lload X at_81 rfl (q := 83) rfl ?_
      refine g_callV X O_b1.1 [(.long x14)] [] (tw22 hw) (tw23 hw) (tw25 hw) (tw24 hw) (tw3 hw) (tw26 hw) (by decide) (rm4 l Z a0 hw [] b1 x14 b1_0_59 x9 b1_2_59 _ n0 X.size O_b1 g_b1) pd0 rfl rfl rfl at_83 (q := 86) rfl (W := 0) rfl (by decide) (by decide) (c2 := 1) (s2 := 3) rfl rfl (by decide) (by decide) (fun v T h' X hQ => ?_)
      obtain ⟨rfl, Kc, O_b1'⟩ := hQ
      have O_b1 := O_b1'
      show Goes p e below s _ n0 _ (T.setTop (mkF m 86 #[.val (.long q1), .second, .val (.long q2), .second, .val (.long q3), .second, .val (.long q4), .second, .val (.long (1152921504606846975 : Int64)), .second, .val (.long x9), .second, .val (.long x14), .second, .val (.long x21), .second, .val (.long x28), .second, .val (.long x35), .second, .val (.long x42), .second, .val (.ref b1), .val (.int (bI (r59 = (0 : Int64)))), .unset, .unset, .unset, .unset, .unset, .unset, .unset, .unset, .unset, .unset, .unset, .unset, .unset, .unset, .unset, .unset, .unset, .unset] [(.long (if (0 : Int64) < (b1_2_59 + (1 : Int64)) then (if x14 < b1_0_59 then (0 : Int64) else (b1_2_59 + (1 : Int64))) else (0 : Int64)))]))
      refine g_letJ (fun r83 hr83 => ?_)
      obtain ⟨b1_0_83, hb1_0_83⟩ : ∃ z, z = (if (0 : Int64) < (b1_2_59 + (1 : Int64)) then (if x14 < b1_0_59 then b1_0_59 else (x14 + x9)) else b1_0_59) := ⟨_, rfl⟩
      obtain ⟨b1_2_83, hb1_2_83⟩ : ∃ z, z = (if (0 : Int64) < (b1_2_59 + (1 : Int64)) then (if x14 < b1_0_59 then (b1_2_59 + (1 : Int64)) else (0 : Int64)) else (b1_2_59 + (1 : Int64))) := ⟨_, rfl⟩
      have O_b1 : O_LogThrottle Z h' b1 (.long b1_0_83) (.long x9) (.long b1_2_83) := by rw [hb1_0_83, hb1_2_83]; exact O_b1
      refine g_lconst X at_86 rfl (q := 87) (v := 1) rfl ?_
      refine g_jT1 X (J := 96) (P := fun (s0_96 : Int32) => s0_96 = (bI (r83 = (1 : Int64)))) (L := fun s0_96 => #[.val (.long q1), .second, .val (.long q2), .second, .val (.long q3), .second, .val (.long q4), .second, .val (.long (1152921504606846975 : Int64)), .second, .val (.long x9), .second, .val (.long x14), .second, .val (.long x21), .second, .val (.long x28), .second, .val (.long x35), .second, .val (.long x42), .second, .val (.ref b1), .val (.int (bI (r59 = (0 : Int64)))), .unset, .unset, .unset, .unset, .unset, .unset, .unset, .unset, .unset, .unset, .unset, .unset, .unset, .unset, .unset, .unset, .unset, .unset]) (S := fun s0_96 => [(.int s0_96)]) ?_ ?_
      · intro T X s0_96 hs0_96
        replace hs0_96 : s0_96 = (bI (r83 = (1 : Int64))) := hs0_96
        subst hs0_96
        show Goes p e below s _ n0 _ (T.setTop (mkF m 96 #[.val (.long q1), .second, .val (.long q2), .second, .val (.long q3), .second, .val (.long q4), .second, .val (.long (1152921504606846975 : Int64)), .second, .val (.long x9), .second, .val (.long x14), .second, .val (.long x21), .second, .val (.long x28), .second, .val (.long x35), .second, .val (.long x42), .second, .val (.ref b1), .val (.int (bI (r59 = (0 : Int64)))), .unset, .unset, .unset, .unset, .unset, .unset, .unset, .unset, .unset, .unset, .unset, .unset, .unset, .unset, .unset, .unset, .unset, .unset] [(.int (bI (r83 = (1 : Int64))))]))
        refine g_istore X at_96 rfl (q := 98) (L' := #[.val (.long q1), .second, .val (.long q2), .second, .val (.long q3), .second, .val (.long q4), .second, .val (.long (1152921504606846975 : Int64)), .second, .val (.long x9), .second, .val (.long x14), .second, .val (.long x21), .second, .val (.long x28), .second, .val (.long x35), .second, .val (.long x42), .second, .val (.ref b1), .val (.int (bI (r83 = (1 : Int64)))), .unset, .unset, .unset, .unset, .unset, .unset, .unset, .unset, .unset, .unset, .unset, .unset, .unset, .unset, .unset, .unset, .unset, .unset]) rfl ?_
        refine g_aload X at_98 rfl (q := 100) rfl rfl ?_
        refine g_lload X at_100 rfl (q := 102) rfl ?_
        refine g_callV X O_b1.1 [(.long x35)] [] (tw22 hw) (tw23 hw) (tw25 hw) (tw24 hw) (tw3 hw) (tw26 hw) (by decide) (rm4 l Z a0 hw [] b1 x35 b1_0_83 x9 b1_2_83 _ n0 X.size O_b1 g_b1) pd0 rfl rfl rfl at_102 (q := 105) rfl (W := 0) rfl (by decide) (by decide) (c2 := 1) (s2 := 3) rfl rfl (by decide) (by decide) (fun v T h' X hQ => ?_)
        obtain ⟨rfl, Kc, O_b1'⟩ := hQ
        have O_b1 := O_b1'
        show Goes p e below s _ n0 _ (T.setTop (mkF m 105 #[.val (.long q1), .second, .val (.long q2), .second, .val (.long q3), .second, .val (.long q4), .second, .val (.long (1152921504606846975 : Int64)), .second, .val (.long x9), .second, .val (.long x14), .second, .val (.long x21), .second, .val (.long x28), .second, .val (.long x35), .second, .val (.long x42), .second, .val (.ref b1), .val (.int (bI (r83 = (1 : Int64)))), .unset, .unset, .unset, .unset, .unset, .unset, .unset, .unset, .unset, .unset, .unset, .unset, .unset, .unset, .unset, .unset, .unset, .unset] [(.long (if (0 : Int64) < (b1_2_83 + (1 : Int64)) then (if x35 < b1_0_83 then (0 : Int64) else (b1_2_83 + (1 : Int64))) else (0 : Int64)))]))
        refine g_letJ (fun r102 hr102 => ?_)
        obtain ⟨b1_0_102, hb1_0_102⟩ : ∃ z, z = (if (0 : Int64) < (b1_2_83 + (1 : Int64)) then (if x35 < b1_0_83 then b1_0_83 else (x35 + x9)) else b1_0_83) := ⟨_, rfl⟩
        obtain ⟨b1_2_102, hb1_2_102⟩ : ∃ z, z = (if (0 : Int64) < (b1_2_83 + (1 : Int64)) then (if x35 < b1_0_83 then (b1_2_83 + (1 : Int64)) else (0 : Int64)) else (b1_2_83 + (1 : Int64))) := ⟨_, rfl⟩
        have O_b1 : O_LogThrottle Z h' b1 (.long b1_0_102) (.long x9) (.long b1_2_102) := by rw [hb1_0_102, hb1_2_102]; exact O_b1
        refine g_lstore X at_105 rfl (q := 107) (L' := #[.val (.long q1), .second, .val (.long q2), .second, .val (.long q3), .second, .val (.long q4), .second, .val (.long (1152921504606846975 : Int64)), .second, .val (.long x9), .second, .val (.long x14), .second, .val (.long x21), .second, .val (.long x28), .second, .val (.long x35), .second, .val (.long x42), .second, .val (.ref b1), .val (.int (bI (r83 = (1 : Int64)))), .val (.long r102), .second, .unset, .unset, .unset, .unset, .unset, .unset, .unset, .unset, .unset, .unset, .unset, .unset, .unset, .unset, .unset, .unset]) rfl ?_
        refine g_aload X at_107 rfl (q := 109) rfl rfl ?_
        refine g_lload X at_109 rfl (q := 111) rfl ?_
        refine g_callV X O_b1.1 [(.long x35)] [] (tw22 hw) (tw23 hw) (tw25 hw) (tw24 hw) (tw3 hw) (tw26 hw) (by decide) (rm4 l Z a0 hw [] b1 x35 b1_0_102 x9 b1_2_102 _ n0 X.size O_b1 g_b1) pd0 rfl rfl rfl at_111 (q := 114) rfl (W := 0) rfl (by decide) (by decide) (c2 := 1) (s2 := 3) rfl rfl (by decide) (by decide) (fun v T h' X hQ => ?_)
        obtain ⟨rfl, Kc, O_b1'⟩ := hQ
        have O_b1 := O_b1'
        show Goes p e below s _ n0 _ (T.setTop (mkF m 114 #[.val (.long q1), .second, .val (.long q2), .second, .val (.long q3), .second, .val (.long q4), .second, .val (.long (1152921504606846975 : Int64)), .second, .val (.long x9), .second, .val (.long x14), .second, .val (.long x21), .second, .val (.long x28), .second, .val (.long x35), .second, .val (.long x42), .second, .val (.ref b1), .val (.int (bI (r83 = (1 : Int64)))), .val (.long r102), .second, .unset, .unset, .unset, .unset, .unset, .unset, .unset, .unset, .unset, .unset, .unset, .unset, .unset, .unset, .unset, .unset] [(.long (if (0 : Int64) < (b1_2_102 + (1 : Int64)) then (if x35 < b1_0_102 then (0 : Int64) else (b1_2_102 + (1 : Int64))) else (0 : Int64)))]))
        refine g_letJ (fun r111 hr111 => ?_)
        obtain ⟨b1_0_111, hb1_0_111⟩ : ∃ z, z = (if (0 : Int64) < (b1_2_102 + (1 : Int64)) then (if x35 < b1_0_102 then b1_0_102 else (x35 + x9)) else b1_0_102) := ⟨_, rfl⟩
        obtain ⟨b1_2_111, hb1_2_111⟩ : ∃ z, z = (if (0 : Int64) < (b1_2_102 + (1 : Int64)) then (if x35 < b1_0_102 then (b1_2_102 + (1 : Int64)) else (0 : Int64)) else (b1_2_102 + (1 : Int64))) := ⟨_, rfl⟩
        have O_b1 : O_LogThrottle Z h' b1 (.long b1_0_111) (.long x9) (.long b1_2_111) := by rw [hb1_0_111, hb1_2_111]; exact O_b1
        refine g_lstore X at_114 rfl (q := 116) (L' := #[.val (.long q1), .second, .val (.long q2), .second, .val (.long q3), .second, .val (.long q4), .second, .val (.long (1152921504606846975 : Int64)), .second, .val (.long x9), .second, .val (.long x14), .second, .val (.long x21), .second, .val (.long x28), .second, .val (.long x35), .second, .val (.long x42), .second, .val (.ref b1), .val (.int (bI (r83 = (1 : Int64)))), .val (.long r102), .second, .val (.long r111), .second, .unset, .unset, .unset, .unset, .unset, .unset, .unset, .unset, .unset, .unset, .unset, .unset, .unset, .unset]) rfl ?_
        refine g_aload X at_116 rfl (q := 118) rfl rfl ?_
        refine g_lload X at_118 rfl (q := 120) rfl ?_
        refine g_callV X O_b1.1 [(.long x42)] [] (tw15 hw) (tw16 hw) (tw18 hw) (tw17 hw) (tw3 hw) (tw19 hw) (by decide) (rm3 l Z a0 hw [] b1 x42 b1_0_111 x9 b1_2_111 _ n0 X.size O_b1 g_b1) pd0 rfl rfl rfl at_120 (q := 123) rfl (W := 0) rfl (by decide) (by decide) (c2 := 1) (s2 := 3) rfl rfl (by decide) (by decide) (fun v T h' X hQ => ?_)
        obtain ⟨rfl, Kc, O_b1'⟩ := hQ
        have O_b1 := O_b1'
        show Goes p e below s _ n0 _ (T.setTop (mkF m 123 #[.val (.long q1), .second, .val (.long q2), .second, .val (.long q3), .second, .val (.long q4), .second, .val (.long (1152921504606846975 : Int64)), .second, .val (.long x9), .second, .val (.long x14), .second, .val (.long x21), .second, .val (.long x28), .second, .val (.long x35), .second, .val (.long x42), .second, .val (.ref b1), .val (.int (bI (r83 = (1 : Int64)))), .val (.long r102), .second, .val (.long r111), .second, .unset, .unset, .unset, .unset, .unset, .unset, .unset, .unset, .unset, .unset, .unset, .unset, .unset, .unset] [(.long (if (0 : Int64) < b1_2_111 then (if x42 < b1_0_111 then (0 : Int64) else b1_2_111) else (0 : Int64)))]))
        refine g_letJ (fun r120 hr120 => ?_)
        obtain ⟨b1_0_120, hb1_0_120⟩ : ∃ z, z = (if (0 : Int64) < b1_2_111 then (if x42 < b1_0_111 then b1_0_111 else (x42 + x9)) else b1_0_111) := ⟨_, rfl⟩
        obtain ⟨b1_2_120, hb1_2_120⟩ : ∃ z, z = (if (0 : Int64) < b1_2_111 then (if x42 < b1_0_111 then b1_2_111 else (0 : Int64)) else b1_2_111) := ⟨_, rfl⟩
        have O_b1 : O_LogThrottle Z h' b1 (.long b1_0_120) (.long x9) (.long b1_2_120) := by rw [hb1_0_120, hb1_2_120]; exact O_b1
        refine g_lstore X at_123 rfl (q := 125) (L' := #[.val (.long q1), .second, .val (.long q2), .second, .val (.long q3), .second, .val (.long q4), .second, .val (.long (1152921504606846975 : Int64)), .second, .val (.long x9), .second, .val (.long x14), .second, .val (.long x21), .second, .val (.long x28), .second, .val (.long x35), .second, .val (.long x42), .second, .val (.ref b1), .val (.int (bI (r83 = (1 : Int64)))), .val (.long r102), .second, .val (.long r111), .second, .val (.long r120), .second, .unset, .unset, .unset, .unset, .unset, .unset, .unset, .unset, .unset, .unset, .unset, .unset]) rfl ?_
        refine g_aload X at_125 rfl (q := 127) rfl rfl ?_
        refine g_lload X at_127 rfl (q := 129) rfl ?_
        refine g_callV X O_b1.1 [(.long x42)] [] (tw15 hw) (tw16 hw) (tw18 hw) (tw17 hw) (tw3 hw) (tw19 hw) (by decide) (rm3 l Z a0 hw [] b1 x42 b1_0_120 x9 b1_2_120 _ n0 X.size O_b1 g_b1) pd0 rfl rfl rfl at_129 (q := 132) rfl (W := 0) rfl (by decide) (by decide) (c2 := 1) (s2 := 3) rfl rfl (by decide) (by decide) (fun v T h' X hQ => ?_)
        obtain ⟨rfl, Kc, O_b1'⟩ := hQ
        have O_b1 := O_b1'
        show Goes p e below s _ n0 _ (T.setTop (mkF m 132 #[.val (.long q1), .second, .val (.long q2), .second, .val (.long q3), .second, .val (.long q4), .second, .val (.long (1152921504606846975 : Int64)), .second, .val (.long x9), .second, .val (.long x14), .second, .val (.long x21), .second, .val (.long x28), .second, .val (.long x35), .second, .val (.long x42), .second, .val (.ref b1), .val (.int (bI (r83 = (1 : Int64)))), .val (.long r102), .second, .val (.long r111), .second, .val (.long r120), .second, .unset, .unset, .unset, .unset, .unset, .unset, .unset, .unset, .unset, .unset, .unset, .unset] [(.long (if (0 : Int64) < b1_2_120 then (if x42 < b1_0_120 then (0 : Int64) else b1_2_120) else (0 : Int64)))]))
        refine g_letJ (fun r129 hr129 => ?_)
        obtain ⟨b1_0_129, hb1_0_129⟩ : ∃ z, z = (if (0 : Int64) < b1_2_120 then (if x42 < b1_0_120 then b1_0_120 else (x42 + x9)) else b1_0_120) := ⟨_, rfl⟩
        obtain ⟨b1_2_129, hb1_2_129⟩ : ∃ z, z = (if (0 : Int64) < b1_2_120 then (if x42 < b1_0_120 then b1_2_120 else (0 : Int64)) else b1_2_120) := ⟨_, rfl⟩
        have O_b1 : O_LogThrottle Z h' b1 (.long b1_0_129) (.long x9) (.long b1_2_129) := by rw [hb1_0_129, hb1_2_129]; exact O_b1
        refine g_lstore X at_132 rfl (q := 134) (L' := #[.val (.long q1), .second, .val (.long q2), .second, .val (.long q3), .second, .val (.long q4), .second, .val (.long (1152921504606846975 : Int64)), .second, .val (.long x9), .second, .val (.long x14), .second, .val (.long x21), .second, .val (.long x28), .second, .val (.long x35), .second, .val (.long x42), .second, .val (.ref b1), .val (.int (bI (r83 = (1 : Int64)))), .val (.long r102), .second, .val (.long r111), .second, .val (.long r120), .second, .val (.long r129), .second, .unset, .unset, .unset, .unset, .unset, .unset, .unset, .unset, .unset, .unset]) rfl ?_
        refine g_aload X at_134 rfl (q := 136) rfl rfl ?_
        refine g_callV X O_b1.1 [] [] (tw28 hw) (tw29 hw) (tw31 hw) (tw30 hw) (tw3 hw) (tw32 hw) (by decide) (rm5 l Z a0 hw [] b1 b1_0_129 x9 b1_2_129 _ n0 X.size O_b1 g_b1) pd2 rfl rfl rfl at_136 (q := 139) rfl (W := 0) rfl (by decide) (by decide) (c2 := 1) (s2 := 3) rfl rfl (by decide) (by decide) (fun v T h' X hQ => ?_)
        obtain ⟨rfl, Kc, O_b1'⟩ := hQ
        have O_b1 := O_b1'
        show Goes p e below s _ n0 _ (T.setTop (mkF m 139 #[.val (.long q1), .second, .val (.long q2), .second, .val (.long q3), .second, .val (.long q4), .second, .val (.long (1152921504606846975 : Int64)), .second, .val (.long x9), .second, .val (.long x14), .second, .val (.long x21), .second, .val (.long x28), .second, .val (.long x35), .second, .val (.long x42), .second, .val (.ref b1), .val (.int (bI (r83 = (1 : Int64)))), .val (.long r102), .second, .val (.long r111), .second, .val (.long r120), .second, .val (.long r129), .second, .unset, .unset, .unset, .unset, .unset, .unset, .unset, .unset, .unset, .unset] [(.long b1_2_129)]))
        refine g_lstore X at_139 rfl (q := 141) (L' := #[.val (.long q1), .second, .val (.long q2), .second, .val (.long q3), .second, .val (.long q4), .second, .val (.long (1152921504606846975 : Int64)), .second, .val (.long x9), .second, .val (.long x14), .second, .val (.long x21), .second, .val (.long x28), .second, .val (.long x35), .second, .val (.long x42), .second, .val (.ref b1), .val (.int (bI (r83 = (1 : Int64)))), .val (.long r102), .second, .val (.long r111), .second, .val (.long r120), .second, .val (.long r129), .second, .val (.long b1_2_129), .second, .unset, .unset, .unset, .unset, .unset, .unset, .unset, .unset]) rfl ?_
        refine g_lload X at_141 rfl (q := 143) rfl ?_
        refine g_lload X at_143 rfl (q := 145) rfl ?_
        refine g_jT4 X (J := 236) (P := fun (l34_236 : Int64) (l36_236 : Int64) (l38_236 : Int64) (l40_236 : Int64) => l34_236 = (if x21 < x9 then (0 : Int64) else (1 : Int64)) ∧ l36_236 = (if x21 < x9 then (0 : Int64) else (if x9 = (0 : Int64) then (1 : Int64) else (0 : Int64))) ∧ l38_236 = (if x21 < x9 then (if (x21 + x28) < x9 then (0 : Int64) else (2 : Int64)) else (if x9 = (0 : Int64) then (0 : Int64) else (if x28 < x9 then (0 : Int64) else (1 : Int64)))) ∧ l40_236 = (if x21 < x9 then (if (x21 + x28) < x9 then (2 : Int64) else (0 : Int64)) else (if x9 = (0 : Int64) then (0 : Int64) else (if x28 < x9 then (1 : Int64) else (0 : Int64))))) (L := fun l34_236 l36_236 l38_236 l40_236 => #[.val (.long q1), .second, .val (.long q2), .second, .val (.long q3), .second, .val (.long q4), .second, .val (.long (1152921504606846975 : Int64)), .second, .val (.long x9), .second, .val (.long x14), .second, .val (.long x21), .second, .val (.long x28), .second, .val (.long x35), .second, .val (.long x42), .second, .val (.ref b1), .val (.int (bI (r83 = (1 : Int64)))), .val (.long r102), .second, .val (.long r111), .second, .val (.long r120), .second, .val (.long r129), .second, .val (.long b1_2_129), .second, .val (.long l34_236), .second, .val (.long l36_236), .second, .val (.long l38_236), .second, .val (.long l40_236), .second]) (S := fun l34_236 l36_236 l38_236 l40_236 => []) ?_ ?_
        · intro T X l34_236 l36_236 l38_236 l40_236 ⟨hl34_236, hl36_236, hl38_236, hl40_236⟩
          replace hl34_236 : l34_236 = (if x21 < x9 then (0 : Int64) else (1 : Int64)) := hl34_236
          replace hl36_236 : l36_236 = (if x21 < x9 then (0 : Int64) else (if x9 = (0 : Int64) then (1 : Int64) else (0 : Int64))) := hl36_236
          replace hl38_236 : l38_236 = (if x21 < x9 then (if (x21 + x28) < x9 then (0 : Int64) else (2 : Int64)) else (if x9 = (0 : Int64) then (0 : Int64) else (if x28 < x9 then (0 : Int64) else (1 : Int64)))) := hl38_236
          replace hl40_236 : l40_236 = (if x21 < x9 then (if (x21 + x28) < x9 then (2 : Int64) else (0 : Int64)) else (if x9 = (0 : Int64) then (0 : Int64) else (if x28 < x9 then (1 : Int64) else (0 : Int64)))) := hl40_236
          show Goes p e below s _ n0 _ (T.setTop (mkF m 236 #[.val (.long q1), .second, .val (.long q2), .second, .val (.long q3), .second, .val (.long q4), .second, .val (.long (1152921504606846975 : Int64)), .second, .val (.long x9), .second, .val (.long x14), .second, .val (.long x21), .second, .val (.long x28), .second, .val (.long x35), .second, .val (.long x42), .second, .val (.ref b1), .val (.int (bI (r83 = (1 : Int64)))), .val (.long r102), .second, .val (.long r111), .second, .val (.long r120), .second, .val (.long r129), .second, .val (.long b1_2_129), .second, .val (.long l34_236), .second, .val (.long l36_236), .second, .val (.long l38_236), .second, .val (.long l40_236), .second] []))
          refine g_iload X at_236 rfl (q := 238) rfl ?_
          refine g_jT1 X (J := 285) (P := fun (s0_285 : Int32) => s0_285 = (bI ((r83 = (1 : Int64)) ∧ ((r102 = l34_236) ∧ ((r111 = l36_236) ∧ ((r120 = l38_236) ∧ ((r129 = (0 : Int64)) ∧ (b1_2_129 = l40_236)))))))) (L := fun s0_285 => #[.val (.long q1), .second, .val (.long q2), .second, .val (.long q3), .second, .val (.long q4), .second, .val (.long (1152921504606846975 : Int64)), .second, .val (.long x9), .second, .val (.long x14), .second, .val (.long x21), .second, .val (.long x28), .second, .val (.long x35), .second, .val (.long x42), .second, .val (.ref b1), .val (.int (bI (r83 = (1 : Int64)))), .val (.long r102), .second, .val (.long r111), .second, .val (.long r120), .second, .val (.long r129), .second, .val (.long b1_2_129), .second, .val (.long l34_236), .second, .val (.long l36_236), .second, .val (.long l38_236), .second, .val (.long l40_236), .second]) (S := fun s0_285 => [(.int s0_285)]) ?_ ?_
          · intro T X s0_285 hs0_285
            replace hs0_285 : s0_285 = (bI ((r83 = (1 : Int64)) ∧ ((r102 = l34_236) ∧ ((r111 = l36_236) ∧ ((r120 = l38_236) ∧ ((r129 = (0 : Int64)) ∧ (b1_2_129 = l40_236))))))) := hs0_285
            subst hs0_285
            show Goes p e below s _ n0 _ (T.setTop (mkF m 285 #[.val (.long q1), .second, .val (.long q2), .second, .val (.long q3), .second, .val (.long q4), .second, .val (.long (1152921504606846975 : Int64)), .second, .val (.long x9), .second, .val (.long x14), .second, .val (.long x21), .second, .val (.long x28), .second, .val (.long x35), .second, .val (.long x42), .second, .val (.ref b1), .val (.int (bI (r83 = (1 : Int64)))), .val (.long r102), .second, .val (.long r111), .second, .val (.long r120), .second, .val (.long r129), .second, .val (.long b1_2_129), .second, .val (.long l34_236), .second, .val (.long l36_236), .second, .val (.long l38_236), .second, .val (.long l40_236), .second] [(.int (bI ((r83 = (1 : Int64)) ∧ ((r102 = l34_236) ∧ ((r111 = l36_236) ∧ ((r120 = l38_236) ∧ ((r129 = (0 : Int64)) ∧ (b1_2_129 = l40_236))))))))]))
            refine g_retZ X at_285 (by decide) (by decide) (bI_01 _) (own_fin ?_)
            show (r83 = (1 : Int64)) ∧ ((r102 = l34_236) ∧ ((r111 = l36_236) ∧ ((r120 = l38_236) ∧ ((r129 = (0 : Int64)) ∧ (b1_2_129 = l40_236)))))
            have k1 : (x35 < (x14 + x9)) ↔ (x21 < x9) := by
              obtain ⟨n1_, hn1_⟩ : ∃ z, z = (x14 + x21) := ⟨_, rfl⟩
              (try simp only [← hn1_] at hx35 hx42 ⊢)
              have f1 := own_laddE x14 x21 (by (try simp only [Int64.reduceToInt, Int32.reduceToInt]); omega)
              (try rw [← hn1_] at f1)
              have e_hx35 := congrArg Int64.toInt hx35
              (try simp only [Int64.lt_iff_toInt_lt, Int32.lt_iff_toInt_lt, Int64.le_iff_toInt_le, Int32.le_iff_toInt_le, ← Int64.toInt_inj, ← Int32.toInt_inj, apply_ite Int64.toInt, apply_ite Int32.toInt, Int64.reduceToInt, Int32.reduceToInt, ne_eq, true_and, and_true, false_or, or_false, iff_self, and_self, not_true_eq_false, not_false_eq_true] at e_hx35)
              obtain ⟨n2_, hn2_⟩ : ∃ z, z = (x35 + x28) := ⟨_, rfl⟩
              (try simp only [← hn2_] at hx35 hx42 ⊢)
              have f2 := own_laddE x35 x28 (by (try simp only [Int64.reduceToInt, Int32.reduceToInt]); omega)
              (try rw [← hn2_] at f2)
              have e_hx42 := congrArg Int64.toInt hx42
              (try simp only [Int64.lt_iff_toInt_lt, Int32.lt_iff_toInt_lt, Int64.le_iff_toInt_le, Int32.le_iff_toInt_le, ← Int64.toInt_inj, ← Int32.toInt_inj, apply_ite Int64.toInt, apply_ite Int32.toInt, Int64.reduceToInt, Int32.reduceToInt, ne_eq, true_and, and_true, false_or, or_false, iff_self, and_self, not_true_eq_false, not_false_eq_true] at e_hx42)
              obtain ⟨n3_, hn3_⟩ : ∃ z, z = (x14 + x9) := ⟨_, rfl⟩
              (try simp only [← hn3_] at hx35 hx42 ⊢)
              have f3 := own_laddE x14 x9 (by (try simp only [Int64.reduceToInt, Int32.reduceToInt]); omega)
              (try rw [← hn3_] at f3)
              (try simp only [Int64.lt_iff_toInt_lt, Int32.lt_iff_toInt_lt, Int64.le_iff_toInt_le, Int32.le_iff_toInt_le, ← Int64.toInt_inj, ← Int32.toInt_inj, apply_ite Int64.toInt, apply_ite Int32.toInt, Int64.reduceToInt, Int32.reduceToInt, ne_eq, true_and, and_true, false_or, or_false, iff_self, and_self, not_true_eq_false, not_false_eq_true]) <;> omega
            have k2 : (x42 < (x14 + x9)) ↔ ((x21 + x28) < x9) := by
              obtain ⟨n1_, hn1_⟩ : ∃ z, z = (x14 + x21) := ⟨_, rfl⟩
              (try simp only [← hn1_] at hx35 hx42 ⊢)
              have f1 := own_laddE x14 x21 (by (try simp only [Int64.reduceToInt, Int32.reduceToInt]); omega)
              (try rw [← hn1_] at f1)
              have e_hx35 := congrArg Int64.toInt hx35
              (try simp only [Int64.lt_iff_toInt_lt, Int32.lt_iff_toInt_lt, Int64.le_iff_toInt_le, Int32.le_iff_toInt_le, ← Int64.toInt_inj, ← Int32.toInt_inj, apply_ite Int64.toInt, apply_ite Int32.toInt, Int64.reduceToInt, Int32.reduceToInt, ne_eq, true_and, and_true, false_or, or_false, iff_self, and_self, not_true_eq_false, not_false_eq_true] at e_hx35)
              obtain ⟨n2_, hn2_⟩ : ∃ z, z = (x35 + x28) := ⟨_, rfl⟩
              (try simp only [← hn2_] at hx35 hx42 ⊢)
              have f2 := own_laddE x35 x28 (by (try simp only [Int64.reduceToInt, Int32.reduceToInt]); omega)
              (try rw [← hn2_] at f2)
              have e_hx42 := congrArg Int64.toInt hx42
              (try simp only [Int64.lt_iff_toInt_lt, Int32.lt_iff_toInt_lt, Int64.le_iff_toInt_le, Int32.le_iff_toInt_le, ← Int64.toInt_inj, ← Int32.toInt_inj, apply_ite Int64.toInt, apply_ite Int32.toInt, Int64.reduceToInt, Int32.reduceToInt, ne_eq, true_and, and_true, false_or, or_false, iff_self, and_self, not_true_eq_false, not_false_eq_true] at e_hx42)
              obtain ⟨n3_, hn3_⟩ : ∃ z, z = (x14 + x9) := ⟨_, rfl⟩
              (try simp only [← hn3_] at hx35 hx42 ⊢)
              have f3 := own_laddE x14 x9 (by (try simp only [Int64.reduceToInt, Int32.reduceToInt]); omega)
              (try rw [← hn3_] at f3)
              obtain ⟨n4_, hn4_⟩ : ∃ z, z = (x21 + x28) := ⟨_, rfl⟩
              (try simp only [← hn4_] at hx35 hx42 ⊢)
              have f4 := own_laddE x21 x28 (by (try simp only [Int64.reduceToInt, Int32.reduceToInt]); omega)
              (try rw [← hn4_] at f4)
              (try simp only [Int64.lt_iff_toInt_lt, Int32.lt_iff_toInt_lt, Int64.le_iff_toInt_le, Int32.le_iff_toInt_le, ← Int64.toInt_inj, ← Int32.toInt_inj, apply_ite Int64.toInt, apply_ite Int32.toInt, Int64.reduceToInt, Int32.reduceToInt, ne_eq, true_and, and_true, false_or, or_false, iff_self, and_self, not_true_eq_false, not_false_eq_true]) <;> omega
            have k3 : (x35 < (x35 + x9)) ↔ (¬ (x9 = (0 : Int64))) := by
              obtain ⟨n1_, hn1_⟩ : ∃ z, z = (x14 + x21) := ⟨_, rfl⟩
              (try simp only [← hn1_] at hx35 hx42 ⊢)
              have f1 := own_laddE x14 x21 (by (try simp only [Int64.reduceToInt, Int32.reduceToInt]); omega)
              (try rw [← hn1_] at f1)
              have e_hx35 := congrArg Int64.toInt hx35
              (try simp only [Int64.lt_iff_toInt_lt, Int32.lt_iff_toInt_lt, Int64.le_iff_toInt_le, Int32.le_iff_toInt_le, ← Int64.toInt_inj, ← Int32.toInt_inj, apply_ite Int64.toInt, apply_ite Int32.toInt, Int64.reduceToInt, Int32.reduceToInt, ne_eq, true_and, and_true, false_or, or_false, iff_self, and_self, not_true_eq_false, not_false_eq_true] at e_hx35)
              obtain ⟨n2_, hn2_⟩ : ∃ z, z = (x35 + x28) := ⟨_, rfl⟩
              (try simp only [← hn2_] at hx35 hx42 ⊢)
              have f2 := own_laddE x35 x28 (by (try simp only [Int64.reduceToInt, Int32.reduceToInt]); omega)
              (try rw [← hn2_] at f2)
              have e_hx42 := congrArg Int64.toInt hx42
              (try simp only [Int64.lt_iff_toInt_lt, Int32.lt_iff_toInt_lt, Int64.le_iff_toInt_le, Int32.le_iff_toInt_le, ← Int64.toInt_inj, ← Int32.toInt_inj, apply_ite Int64.toInt, apply_ite Int32.toInt, Int64.reduceToInt, Int32.reduceToInt, ne_eq, true_and, and_true, false_or, or_false, iff_self, and_self, not_true_eq_false, not_false_eq_true] at e_hx42)
              obtain ⟨n3_, hn3_⟩ : ∃ z, z = (x35 + x9) := ⟨_, rfl⟩
              (try simp only [← hn3_] at hx35 hx42 ⊢)
              have f3 := own_laddE x35 x9 (by (try simp only [Int64.reduceToInt, Int32.reduceToInt]); omega)
              (try rw [← hn3_] at f3)
              (try simp only [Int64.lt_iff_toInt_lt, Int32.lt_iff_toInt_lt, Int64.le_iff_toInt_le, Int32.le_iff_toInt_le, ← Int64.toInt_inj, ← Int32.toInt_inj, apply_ite Int64.toInt, apply_ite Int32.toInt, Int64.reduceToInt, Int32.reduceToInt, ne_eq, true_and, and_true, false_or, or_false, iff_self, and_self, not_true_eq_false, not_false_eq_true]) <;> omega
            have k4 : (x42 < (x35 + x9)) ↔ (x28 < x9) := by
              obtain ⟨n1_, hn1_⟩ : ∃ z, z = (x14 + x21) := ⟨_, rfl⟩
              (try simp only [← hn1_] at hx35 hx42 ⊢)
              have f1 := own_laddE x14 x21 (by (try simp only [Int64.reduceToInt, Int32.reduceToInt]); omega)
              (try rw [← hn1_] at f1)
              have e_hx35 := congrArg Int64.toInt hx35
              (try simp only [Int64.lt_iff_toInt_lt, Int32.lt_iff_toInt_lt, Int64.le_iff_toInt_le, Int32.le_iff_toInt_le, ← Int64.toInt_inj, ← Int32.toInt_inj, apply_ite Int64.toInt, apply_ite Int32.toInt, Int64.reduceToInt, Int32.reduceToInt, ne_eq, true_and, and_true, false_or, or_false, iff_self, and_self, not_true_eq_false, not_false_eq_true] at e_hx35)
              obtain ⟨n2_, hn2_⟩ : ∃ z, z = (x35 + x28) := ⟨_, rfl⟩
              (try simp only [← hn2_] at hx35 hx42 ⊢)
              have f2 := own_laddE x35 x28 (by (try simp only [Int64.reduceToInt, Int32.reduceToInt]); omega)
              (try rw [← hn2_] at f2)
              have e_hx42 := congrArg Int64.toInt hx42
              (try simp only [Int64.lt_iff_toInt_lt, Int32.lt_iff_toInt_lt, Int64.le_iff_toInt_le, Int32.le_iff_toInt_le, ← Int64.toInt_inj, ← Int32.toInt_inj, apply_ite Int64.toInt, apply_ite Int32.toInt, Int64.reduceToInt, Int32.reduceToInt, ne_eq, true_and, and_true, false_or, or_false, iff_self, and_self, not_true_eq_false, not_false_eq_true] at e_hx42)
              obtain ⟨n3_, hn3_⟩ : ∃ z, z = (x35 + x9) := ⟨_, rfl⟩
              (try simp only [← hn3_] at hx35 hx42 ⊢)
              have f3 := own_laddE x35 x9 (by (try simp only [Int64.reduceToInt, Int32.reduceToInt]); omega)
              (try rw [← hn3_] at f3)
              (try simp only [Int64.lt_iff_toInt_lt, Int32.lt_iff_toInt_lt, Int64.le_iff_toInt_le, Int32.le_iff_toInt_le, ← Int64.toInt_inj, ← Int32.toInt_inj, apply_ite Int64.toInt, apply_ite Int32.toInt, Int64.reduceToInt, Int32.reduceToInt, ne_eq, true_and, and_true, false_or, or_false, iff_self, and_self, not_true_eq_false, not_false_eq_true]) <;> omega
            have k5 : ¬ (x14 < (-9223372036854775808 : Int64)) := by
              (try simp only [Int64.lt_iff_toInt_lt, Int32.lt_iff_toInt_lt, Int64.le_iff_toInt_le, Int32.le_iff_toInt_le, ← Int64.toInt_inj, ← Int32.toInt_inj, apply_ite Int64.toInt, apply_ite Int32.toInt, Int64.reduceToInt, Int32.reduceToInt, ne_eq, true_and, and_true, false_or, or_false, iff_self, and_self, not_true_eq_false, not_false_eq_true]) <;> omega
            have e1 : b1_0_59 = (-9223372036854775808 : Int64) := hb1_0_59.trans (if_neg (by decide))
            have e2 : b1_2_59 = (0 : Int64) := hb1_2_59.trans (if_neg (by decide))
            have t1 : (0 : Int64) + 1 = 1 := by decide
            have t2 : (1 : Int64) + 1 = 2 := by decide
            have p1 : (0 : Int64) < 1 := by decide
            have p2 : (0 : Int64) < 2 := by decide
            have p0 : ¬ ((0 : Int64) < 0) := by decide
            rw [e1, e2, t1] at hr83 hb1_0_83 hb1_2_83
            rw [if_pos p1, if_neg k5] at hr83 hb1_0_83 hb1_2_83
            rw [hb1_0_83, hb1_2_83, t1] at hr102 hb1_0_102 hb1_2_102
            rw [if_pos p1] at hr102 hb1_0_102 hb1_2_102
            by_cases u : x21 < x9
            · rw [if_pos (k1.mpr u)] at hr102 hb1_0_102 hb1_2_102
              rw [hb1_0_102, hb1_2_102, t2, if_pos p2, if_pos (k1.mpr u)] at hr111 hb1_0_111 hb1_2_111
              rw [hb1_0_111, hb1_2_111, if_pos p2] at hr120 hb1_0_120 hb1_2_120
              by_cases v : (x21 + x28) < x9
              · rw [if_pos (k2.mpr v)] at hr120 hb1_0_120 hb1_2_120
                rw [hb1_0_120, hb1_2_120, if_pos p2, if_pos (k2.mpr v)] at hr129 hb1_0_129 hb1_2_129
                simp [hr83, hr102, hr111, hr120, hr129, hb1_2_129, hl34_236, hl36_236, hl38_236, hl40_236, u, v]
              · rw [if_neg (fun z => v (k2.mp z))] at hr120 hb1_0_120 hb1_2_120
                rw [hb1_2_120, if_neg p0] at hr129 hb1_0_129 hb1_2_129
                simp [hr83, hr102, hr111, hr120, hr129, hb1_2_129, hl34_236, hl36_236, hl38_236, hl40_236, u, v]
            · rw [if_neg (fun z => u (k1.mp z))] at hr102 hb1_0_102 hb1_2_102
              rw [hb1_0_102, hb1_2_102, t1, if_pos p1] at hr111 hb1_0_111 hb1_2_111
              by_cases w : x9 = (0 : Int64)
              · rw [if_neg (fun z => k3.mp z w)] at hr111 hb1_0_111 hb1_2_111
                rw [hb1_2_111, if_neg p0] at hr120 hb1_0_120 hb1_2_120
                rw [hb1_2_120, if_neg p0] at hr129 hb1_0_129 hb1_2_129
                rw [if_neg u] at hl34_236 hl36_236 hl38_236 hl40_236
                rw [if_pos w] at hl36_236 hl38_236 hl40_236
                simp [hr83, hr102, hr111, hr120, hr129, hb1_2_129, hl34_236, hl36_236, hl38_236, hl40_236]
              · rw [if_pos (k3.mpr w)] at hr111 hb1_0_111 hb1_2_111
                rw [hb1_0_111, hb1_2_111, if_pos p1] at hr120 hb1_0_120 hb1_2_120
                by_cases y : x28 < x9
                · rw [if_pos (k4.mpr y)] at hr120 hb1_0_120 hb1_2_120
                  rw [hb1_0_120, hb1_2_120, if_pos p1, if_pos (k4.mpr y)] at hr129 hb1_0_129 hb1_2_129
                  simp [hr83, hr102, hr111, hr120, hr129, hb1_2_129, hl34_236, hl36_236, hl38_236, hl40_236, u, w, y]
                · rw [if_neg (fun z => y (k4.mp z))] at hr120 hb1_0_120 hb1_2_120
                  rw [hb1_2_120, if_neg p0] at hr129 hb1_0_129 hb1_2_129
                  simp [hr83, hr102, hr111, hr120, hr129, hb1_2_129, hl34_236, hl36_236, hl38_236, hl40_236, u, w, y]
          · intro J285_1
            refine g_beq X at_238 (q := 241) rfl (by decide) (t := 284) rfl (fun (c2 : r83 = (1 : Int64)) => ?_) (fun (c2 : ¬ (r83 = (1 : Int64))) => ?_)
            · skip
              have b_r83 : (1 : Int) ≤ r83.toInt ∧ r83.toInt ≤ 1 := by have z0 := c2; (try simp only [Int64.lt_iff_toInt_lt, Int32.lt_iff_toInt_lt, Int64.le_iff_toInt_le, Int32.le_iff_toInt_le, ← Int64.toInt_inj, ← Int32.toInt_inj, apply_ite Int64.toInt, apply_ite Int32.toInt, Int64.reduceToInt, Int32.reduceToInt, ne_eq] at z0); have z1 := rng64 r83; omega
              refine g_lload X at_241 rfl (q := 243) rfl ?_
              refine g_lload X at_243 rfl (q := 245) rfl ?_
              refine g_lcmpB X at_245 (q1 := 246) rfl at_246 (Or.inr (Or.inr rfl)) (q := 249) rfl (by decide) (t := 284) rfl (fun (c3 : r102 = l34_236) => ?_) (fun (c3 : ¬ (r102 = l34_236)) => ?_)
              · skip
                refine g_lload X at_249 rfl (q := 251) rfl ?_
                refine g_lload X at_251 rfl (q := 253) rfl ?_
                refine g_lcmpB X at_253 (q1 := 254) rfl at_254 (Or.inr (Or.inr rfl)) (q := 257) rfl (by decide) (t := 284) rfl (fun (c4 : r111 = l36_236) => ?_) (fun (c4 : ¬ (r111 = l36_236)) => ?_)
                · skip
                  refine g_lload X at_257 rfl (q := 259) rfl ?_
                  refine g_lload X at_259 rfl (q := 261) rfl ?_
                  refine g_lcmpB X at_261 (q1 := 262) rfl at_262 (Or.inr (Or.inr rfl)) (q := 265) rfl (by decide) (t := 284) rfl (fun (c5 : r120 = l38_236) => ?_) (fun (c5 : ¬ (r120 = l38_236)) => ?_)
                  · skip
                    refine g_lload X at_265 rfl (q := 267) rfl ?_
                    refine g_lconst X at_267 rfl (q := 268) (v := 0) rfl ?_
                    refine g_lcmpB X at_268 (q1 := 269) rfl at_269 (Or.inr (Or.inr rfl)) (q := 272) rfl (by decide) (t := 284) rfl (fun (c6 : r129 = (0 : Int64)) => ?_) (fun (c6 : ¬ (r129 = (0 : Int64))) => ?_)
                    · skip
                      have b_r129 : (0 : Int) ≤ r129.toInt ∧ r129.toInt ≤ 0 := by have z0 := c6; (try simp only [Int64.lt_iff_toInt_lt, Int32.lt_iff_toInt_lt, Int64.le_iff_toInt_le, Int32.le_iff_toInt_le, ← Int64.toInt_inj, ← Int32.toInt_inj, apply_ite Int64.toInt, apply_ite Int32.toInt, Int64.reduceToInt, Int32.reduceToInt, ne_eq] at z0); have z1 := rng64 r129; omega
                      refine g_lload X at_272 rfl (q := 274) rfl ?_
                      refine g_lload X at_274 rfl (q := 276) rfl ?_
                      refine g_lcmpB X at_276 (q1 := 277) rfl at_277 (Or.inr (Or.inr rfl)) (q := 280) rfl (by decide) (t := 284) rfl (fun (c7 : b1_2_129 = l40_236) => ?_) (fun (c7 : ¬ (b1_2_129 = l40_236)) => ?_)
                      · skip
                        refine g_iconst X at_280 rfl (q := 281) (v := 1) rfl ?_
                        refine g_goto X at_281 (by decide) (q := 285) rfl ?_
                        exact J285_1 T X _ (bI_t ⟨c2, ⟨c3, ⟨c4, ⟨c5, ⟨c6, c7⟩⟩⟩⟩⟩)
                      · skip
                        refine g_iconst X at_284 rfl (q := 285) (v := 0) rfl ?_
                        exact J285_1 T X _ (bI_f (fun z => (fun z => (fun z => (fun z => (fun z => c7 z.2) z.2) z.2) z.2) z.2))
                    · skip
                      refine g_iconst X at_284 rfl (q := 285) (v := 0) rfl ?_
                      exact J285_1 T X _ (bI_f (fun z => (fun z => (fun z => (fun z => (fun z => c6 z.1) z.2) z.2) z.2) z.2))
                  · skip
                    refine g_iconst X at_284 rfl (q := 285) (v := 0) rfl ?_
                    exact J285_1 T X _ (bI_f (fun z => (fun z => (fun z => (fun z => c5 z.1) z.2) z.2) z.2))
                · skip
                  refine g_iconst X at_284 rfl (q := 285) (v := 0) rfl ?_
                  exact J285_1 T X _ (bI_f (fun z => (fun z => (fun z => c4 z.1) z.2) z.2))
              · skip
                refine g_iconst X at_284 rfl (q := 285) (v := 0) rfl ?_
                exact J285_1 T X _ (bI_f (fun z => (fun z => c3 z.1) z.2))
            · skip
              refine g_iconst X at_284 rfl (q := 285) (v := 0) rfl ?_
              exact J285_1 T X _ (bI_f (fun z => c2 z.1))
        · intro J236_7
          refine g_lcmpA X at_145 (q1 := 146) rfl at_146 (Or.inl rfl) (q := 149) rfl (by decide) (t := 200) rfl (fun (c8 : x21 < x9) => ?_) (fun (c8 : ¬ (x21 < x9)) => ?_)
          · skip
            refine g_lconst X at_200 rfl (q := 201) (v := 0) rfl ?_
            refine g_lstore X at_201 rfl (q := 203) (L' := #[.val (.long q1), .second, .val (.long q2), .second, .val (.long q3), .second, .val (.long q4), .second, .val (.long (1152921504606846975 : Int64)), .second, .val (.long x9), .second, .val (.long x14), .second, .val (.long x21), .second, .val (.long x28), .second, .val (.long x35), .second, .val (.long x42), .second, .val (.ref b1), .val (.int (bI (r83 = (1 : Int64)))), .val (.long r102), .second, .val (.long r111), .second, .val (.long r120), .second, .val (.long r129), .second, .val (.long b1_2_129), .second, .val (.long (0 : Int64)), .second, .unset, .unset, .unset, .unset, .unset, .unset]) rfl ?_
            refine g_lconst X at_203 rfl (q := 204) (v := 0) rfl ?_
            refine g_lstore X at_204 rfl (q := 206) (L' := #[.val (.long q1), .second, .val (.long q2), .second, .val (.long q3), .second, .val (.long q4), .second, .val (.long (1152921504606846975 : Int64)), .second, .val (.long x9), .second, .val (.long x14), .second, .val (.long x21), .second, .val (.long x28), .second, .val (.long x35), .second, .val (.long x42), .second, .val (.ref b1), .val (.int (bI (r83 = (1 : Int64)))), .val (.long r102), .second, .val (.long r111), .second, .val (.long r120), .second, .val (.long r129), .second, .val (.long b1_2_129), .second, .val (.long (0 : Int64)), .second, .val (.long (0 : Int64)), .second, .unset, .unset, .unset, .unset]) rfl ?_
            refine g_lload X at_206 rfl (q := 208) rfl ?_
            refine g_lload X at_208 rfl (q := 210) rfl ?_
            refine g_ladd X at_210 rfl (q := 211) ?_
            refine g_lload X at_211 rfl (q := 213) rfl ?_
            refine g_lcmpA X at_213 (q1 := 214) rfl at_214 (Or.inl rfl) (q := 217) rfl (by decide) (t := 228) rfl (fun (c9 : (x21 + x28) < x9) => ?_) (fun (c9 : ¬ ((x21 + x28) < x9)) => ?_)
            · skip
              refine g_lconst X at_228 rfl (q := 229) (v := 0) rfl ?_
              refine g_lstore X at_229 rfl (q := 231) (L' := #[.val (.long q1), .second, .val (.long q2), .second, .val (.long q3), .second, .val (.long q4), .second, .val (.long (1152921504606846975 : Int64)), .second, .val (.long x9), .second, .val (.long x14), .second, .val (.long x21), .second, .val (.long x28), .second, .val (.long x35), .second, .val (.long x42), .second, .val (.ref b1), .val (.int (bI (r83 = (1 : Int64)))), .val (.long r102), .second, .val (.long r111), .second, .val (.long r120), .second, .val (.long r129), .second, .val (.long b1_2_129), .second, .val (.long (0 : Int64)), .second, .val (.long (0 : Int64)), .second, .val (.long (0 : Int64)), .second, .unset, .unset]) rfl ?_
              refine g_ldc2 X (tw33 hw) at_231 (q := 234) rfl ?_
              refine g_lstore X at_234 rfl (q := 236) (L' := #[.val (.long q1), .second, .val (.long q2), .second, .val (.long q3), .second, .val (.long q4), .second, .val (.long (1152921504606846975 : Int64)), .second, .val (.long x9), .second, .val (.long x14), .second, .val (.long x21), .second, .val (.long x28), .second, .val (.long x35), .second, .val (.long x42), .second, .val (.ref b1), .val (.int (bI (r83 = (1 : Int64)))), .val (.long r102), .second, .val (.long r111), .second, .val (.long r120), .second, .val (.long r129), .second, .val (.long b1_2_129), .second, .val (.long (0 : Int64)), .second, .val (.long (0 : Int64)), .second, .val (.long (0 : Int64)), .second, .val (.long (2 : Int64)), .second]) rfl ?_
              exact J236_7 T X _ _ _ _  ⟨((if_pos c8).symm), ((if_pos c8).symm), (((if_pos c9).symm).trans (if_pos c8).symm), (((if_pos c9).symm).trans (if_pos c8).symm)⟩
            · skip
              refine g_ldc2 X (tw33 hw) at_217 (q := 220) rfl ?_
              refine g_lstore X at_220 rfl (q := 222) (L' := #[.val (.long q1), .second, .val (.long q2), .second, .val (.long q3), .second, .val (.long q4), .second, .val (.long (1152921504606846975 : Int64)), .second, .val (.long x9), .second, .val (.long x14), .second, .val (.long x21), .second, .val (.long x28), .second, .val (.long x35), .second, .val (.long x42), .second, .val (.ref b1), .val (.int (bI (r83 = (1 : Int64)))), .val (.long r102), .second, .val (.long r111), .second, .val (.long r120), .second, .val (.long r129), .second, .val (.long b1_2_129), .second, .val (.long (0 : Int64)), .second, .val (.long (0 : Int64)), .second, .val (.long (2 : Int64)), .second, .unset, .unset]) rfl ?_
              refine g_lconst X at_222 rfl (q := 223) (v := 0) rfl ?_
              refine g_lstore X at_223 rfl (q := 225) (L' := #[.val (.long q1), .second, .val (.long q2), .second, .val (.long q3), .second, .val (.long q4), .second, .val (.long (1152921504606846975 : Int64)), .second, .val (.long x9), .second, .val (.long x14), .second, .val (.long x21), .second, .val (.long x28), .second, .val (.long x35), .second, .val (.long x42), .second, .val (.ref b1), .val (.int (bI (r83 = (1 : Int64)))), .val (.long r102), .second, .val (.long r111), .second, .val (.long r120), .second, .val (.long r129), .second, .val (.long b1_2_129), .second, .val (.long (0 : Int64)), .second, .val (.long (0 : Int64)), .second, .val (.long (2 : Int64)), .second, .val (.long (0 : Int64)), .second]) rfl ?_
              refine g_goto X at_225 (by decide) (q := 236) rfl ?_
              exact J236_7 T X _ _ _ _  ⟨((if_pos c8).symm), ((if_pos c8).symm), (((if_neg c9).symm).trans (if_pos c8).symm), (((if_neg c9).symm).trans (if_pos c8).symm)⟩
          · skip
            refine g_lconst X at_149 rfl (q := 150) (v := 1) rfl ?_
            refine g_lstore X at_150 rfl (q := 152) (L' := #[.val (.long q1), .second, .val (.long q2), .second, .val (.long q3), .second, .val (.long q4), .second, .val (.long (1152921504606846975 : Int64)), .second, .val (.long x9), .second, .val (.long x14), .second, .val (.long x21), .second, .val (.long x28), .second, .val (.long x35), .second, .val (.long x42), .second, .val (.ref b1), .val (.int (bI (r83 = (1 : Int64)))), .val (.long r102), .second, .val (.long r111), .second, .val (.long r120), .second, .val (.long r129), .second, .val (.long b1_2_129), .second, .val (.long (1 : Int64)), .second, .unset, .unset, .unset, .unset, .unset, .unset]) rfl ?_
            refine g_lload X at_152 rfl (q := 154) rfl ?_
            refine g_lconst X at_154 rfl (q := 155) (v := 0) rfl ?_
            refine g_lcmpB X at_155 (q1 := 156) rfl at_156 (Or.inr (Or.inr rfl)) (q := 159) rfl (by decide) (t := 171) rfl (fun (c10 : x9 = (0 : Int64)) => ?_) (fun (c10 : ¬ (x9 = (0 : Int64))) => ?_)
            · skip
              have b_x9 : (0 : Int) ≤ x9.toInt ∧ x9.toInt ≤ 0 := by have z0 := c10; (try simp only [Int64.lt_iff_toInt_lt, Int32.lt_iff_toInt_lt, Int64.le_iff_toInt_le, Int32.le_iff_toInt_le, ← Int64.toInt_inj, ← Int32.toInt_inj, apply_ite Int64.toInt, apply_ite Int32.toInt, Int64.reduceToInt, Int32.reduceToInt, ne_eq] at z0); have z1 := rng64 x9; omega
              refine g_lconst X at_159 rfl (q := 160) (v := 1) rfl ?_
              refine g_lstore X at_160 rfl (q := 162) (L' := #[.val (.long q1), .second, .val (.long q2), .second, .val (.long q3), .second, .val (.long q4), .second, .val (.long (1152921504606846975 : Int64)), .second, .val (.long x9), .second, .val (.long x14), .second, .val (.long x21), .second, .val (.long x28), .second, .val (.long x35), .second, .val (.long x42), .second, .val (.ref b1), .val (.int (bI (r83 = (1 : Int64)))), .val (.long r102), .second, .val (.long r111), .second, .val (.long r120), .second, .val (.long r129), .second, .val (.long b1_2_129), .second, .val (.long (1 : Int64)), .second, .val (.long (1 : Int64)), .second, .unset, .unset, .unset, .unset]) rfl ?_
              refine g_lconst X at_162 rfl (q := 163) (v := 0) rfl ?_
              refine g_lstore X at_163 rfl (q := 165) (L' := #[.val (.long q1), .second, .val (.long q2), .second, .val (.long q3), .second, .val (.long q4), .second, .val (.long (1152921504606846975 : Int64)), .second, .val (.long x9), .second, .val (.long x14), .second, .val (.long x21), .second, .val (.long x28), .second, .val (.long x35), .second, .val (.long x42), .second, .val (.ref b1), .val (.int (bI (r83 = (1 : Int64)))), .val (.long r102), .second, .val (.long r111), .second, .val (.long r120), .second, .val (.long r129), .second, .val (.long b1_2_129), .second, .val (.long (1 : Int64)), .second, .val (.long (1 : Int64)), .second, .val (.long (0 : Int64)), .second, .unset, .unset]) rfl ?_
              refine g_lconst X at_165 rfl (q := 166) (v := 0) rfl ?_
              refine g_lstore X at_166 rfl (q := 168) (L' := #[.val (.long q1), .second, .val (.long q2), .second, .val (.long q3), .second, .val (.long q4), .second, .val (.long (1152921504606846975 : Int64)), .second, .val (.long x9), .second, .val (.long x14), .second, .val (.long x21), .second, .val (.long x28), .second, .val (.long x35), .second, .val (.long x42), .second, .val (.ref b1), .val (.int (bI (r83 = (1 : Int64)))), .val (.long r102), .second, .val (.long r111), .second, .val (.long r120), .second, .val (.long r129), .second, .val (.long b1_2_129), .second, .val (.long (1 : Int64)), .second, .val (.long (1 : Int64)), .second, .val (.long (0 : Int64)), .second, .val (.long (0 : Int64)), .second]) rfl ?_
              refine g_goto X at_168 (by decide) (q := 236) rfl ?_
              exact J236_7 T X _ _ _ _  ⟨((if_neg c8).symm), (((if_pos c10).symm).trans (if_neg c8).symm), (((if_pos c10).symm).trans (if_neg c8).symm), (((if_pos c10).symm).trans (if_neg c8).symm)⟩
            · skip
              refine g_lconst X at_171 rfl (q := 172) (v := 0) rfl ?_
              refine g_lstore X at_172 rfl (q := 174) (L' := #[.val (.long q1), .second, .val (.long q2), .second, .val (.long q3), .second, .val (.long q4), .second, .val (.long (1152921504606846975 : Int64)), .second, .val (.long x9), .second, .val (.long x14), .second, .val (.long x21), .second, .val (.long x28), .second, .val (.long x35), .second, .val (.long x42), .second, .val (.ref b1), .val (.int (bI (r83 = (1 : Int64)))), .val (.long r102), .second, .val (.long r111), .second, .val (.long r120), .second, .val (.long r129), .second, .val (.long b1_2_129), .second, .val (.long (1 : Int64)), .second, .val (.long (0 : Int64)), .second, .unset, .unset, .unset, .unset]) rfl ?_
              refine g_lload X at_174 rfl (q := 176) rfl ?_
              refine g_lload X at_176 rfl (q := 178) rfl ?_
              refine g_lcmpA X at_178 (q1 := 179) rfl at_179 (Or.inl rfl) (q := 182) rfl (by decide) (t := 191) rfl (fun (c11 : x28 < x9) => ?_) (fun (c11 : ¬ (x28 < x9)) => ?_)
              · skip
                refine g_lconst X at_191 rfl (q := 192) (v := 0) rfl ?_
                refine g_lstore X at_192 rfl (q := 194) (L' := #[.val (.long q1), .second, .val (.long q2), .second, .val (.long q3), .second, .val (.long q4), .second, .val (.long (1152921504606846975 : Int64)), .second, .val (.long x9), .second, .val (.long x14), .second, .val (.long x21), .second, .val (.long x28), .second, .val (.long x35), .second, .val (.long x42), .second, .val (.ref b1), .val (.int (bI (r83 = (1 : Int64)))), .val (.long r102), .second, .val (.long r111), .second, .val (.long r120), .second, .val (.long r129), .second, .val (.long b1_2_129), .second, .val (.long (1 : Int64)), .second, .val (.long (0 : Int64)), .second, .val (.long (0 : Int64)), .second, .unset, .unset]) rfl ?_
                refine g_lconst X at_194 rfl (q := 195) (v := 1) rfl ?_
                refine g_lstore X at_195 rfl (q := 197) (L' := #[.val (.long q1), .second, .val (.long q2), .second, .val (.long q3), .second, .val (.long q4), .second, .val (.long (1152921504606846975 : Int64)), .second, .val (.long x9), .second, .val (.long x14), .second, .val (.long x21), .second, .val (.long x28), .second, .val (.long x35), .second, .val (.long x42), .second, .val (.ref b1), .val (.int (bI (r83 = (1 : Int64)))), .val (.long r102), .second, .val (.long r111), .second, .val (.long r120), .second, .val (.long r129), .second, .val (.long b1_2_129), .second, .val (.long (1 : Int64)), .second, .val (.long (0 : Int64)), .second, .val (.long (0 : Int64)), .second, .val (.long (1 : Int64)), .second]) rfl ?_
                refine g_goto X at_197 (by decide) (q := 236) rfl ?_
                exact J236_7 T X _ _ _ _  ⟨((if_neg c8).symm), (((if_neg c10).symm).trans (if_neg c8).symm), ((((if_pos c11).symm).trans (if_neg c10).symm).trans (if_neg c8).symm), ((((if_pos c11).symm).trans (if_neg c10).symm).trans (if_neg c8).symm)⟩
              · skip
                refine g_lconst X at_182 rfl (q := 183) (v := 1) rfl ?_
                refine g_lstore X at_183 rfl (q := 185) (L' := #[.val (.long q1), .second, .val (.long q2), .second, .val (.long q3), .second, .val (.long q4), .second, .val (.long (1152921504606846975 : Int64)), .second, .val (.long x9), .second, .val (.long x14), .second, .val (.long x21), .second, .val (.long x28), .second, .val (.long x35), .second, .val (.long x42), .second, .val (.ref b1), .val (.int (bI (r83 = (1 : Int64)))), .val (.long r102), .second, .val (.long r111), .second, .val (.long r120), .second, .val (.long r129), .second, .val (.long b1_2_129), .second, .val (.long (1 : Int64)), .second, .val (.long (0 : Int64)), .second, .val (.long (1 : Int64)), .second, .unset, .unset]) rfl ?_
                refine g_lconst X at_185 rfl (q := 186) (v := 0) rfl ?_
                refine g_lstore X at_186 rfl (q := 188) (L' := #[.val (.long q1), .second, .val (.long q2), .second, .val (.long q3), .second, .val (.long q4), .second, .val (.long (1152921504606846975 : Int64)), .second, .val (.long x9), .second, .val (.long x14), .second, .val (.long x21), .second, .val (.long x28), .second, .val (.long x35), .second, .val (.long x42), .second, .val (.ref b1), .val (.int (bI (r83 = (1 : Int64)))), .val (.long r102), .second, .val (.long r111), .second, .val (.long r120), .second, .val (.long r129), .second, .val (.long b1_2_129), .second, .val (.long (1 : Int64)), .second, .val (.long (0 : Int64)), .second, .val (.long (1 : Int64)), .second, .val (.long (0 : Int64)), .second]) rfl ?_
                refine g_goto X at_188 (by decide) (q := 236) rfl ?_
                exact J236_7 T X _ _ _ _  ⟨((if_neg c8).symm), (((if_neg c10).symm).trans (if_neg c8).symm), ((((if_neg c11).symm).trans (if_neg c10).symm).trans (if_neg c8).symm), ((((if_neg c11).symm).trans (if_neg c10).symm).trans (if_neg c8).symm)⟩
      · intro J96_11
        refine g_lcmpB X at_87 (q1 := 88) rfl at_88 (Or.inr (Or.inr rfl)) (q := 91) rfl (by decide) (t := 95) rfl (fun (c12 : r83 = (1 : Int64)) => ?_) (fun (c12 : ¬ (r83 = (1 : Int64))) => ?_)
        · skip
          have b_r83 : (1 : Int) ≤ r83.toInt ∧ r83.toInt ≤ 1 := by have z0 := c12; (try simp only [Int64.lt_iff_toInt_lt, Int32.lt_iff_toInt_lt, Int64.le_iff_toInt_le, Int32.le_iff_toInt_le, ← Int64.toInt_inj, ← Int32.toInt_inj, apply_ite Int64.toInt, apply_ite Int32.toInt, Int64.reduceToInt, Int32.reduceToInt, ne_eq] at z0); have z1 := rng64 r83; omega
          refine g_iconst X at_91 rfl (q := 92) (v := 1) rfl ?_
          refine g_goto X at_92 (by decide) (q := 96) rfl ?_
          exact J96_11 T X _ (bI_t c12)
        · skip
          refine g_iconst X at_95 rfl (q := 96) (v := 0) rfl ?_
          exact J96_11 T X _ (bI_f c12)
    · skip
      refine g_iconst X at_95 rfl (q := 96) (v := 0) rfl ?_
      refine g_istore X at_96 rfl (q := 98) (L' := #[.val (.long q1), .second, .val (.long q2), .second, .val (.long q3), .second, .val (.long q4), .second, .val (.long (1152921504606846975 : Int64)), .second, .val (.long x9), .second, .val (.long x14), .second, .val (.long x21), .second, .val (.long x28), .second, .val (.long x35), .second, .val (.long x42), .second, .val (.ref b1), .val (.int (0 : Int32)), .unset, .unset, .unset, .unset, .unset, .unset, .unset, .unset, .unset, .unset, .unset, .unset, .unset, .unset, .unset, .unset, .unset, .unset]) rfl ?_
      refine g_aload X at_98 rfl (q := 100) rfl rfl ?_
      refine g_lload X at_100 rfl (q := 102) rfl ?_
      refine g_callV X O_b1.1 [(.long x35)] [] (tw22 hw) (tw23 hw) (tw25 hw) (tw24 hw) (tw3 hw) (tw26 hw) (by decide) (rm4 l Z a0 hw [] b1 x35 b1_0_59 x9 b1_2_59 _ n0 X.size O_b1 g_b1) pd0 rfl rfl rfl at_102 (q := 105) rfl (W := 0) rfl (by decide) (by decide) (c2 := 1) (s2 := 3) rfl rfl (by decide) (by decide) (fun v T h' X hQ => ?_)
      obtain ⟨rfl, Kc, O_b1'⟩ := hQ
      have O_b1 := O_b1'
      show Goes p e below s _ n0 _ (T.setTop (mkF m 105 #[.val (.long q1), .second, .val (.long q2), .second, .val (.long q3), .second, .val (.long q4), .second, .val (.long (1152921504606846975 : Int64)), .second, .val (.long x9), .second, .val (.long x14), .second, .val (.long x21), .second, .val (.long x28), .second, .val (.long x35), .second, .val (.long x42), .second, .val (.ref b1), .val (.int (0 : Int32)), .unset, .unset, .unset, .unset, .unset, .unset, .unset, .unset, .unset, .unset, .unset, .unset, .unset, .unset, .unset, .unset, .unset, .unset] [(.long (if (0 : Int64) < (b1_2_59 + (1 : Int64)) then (if x35 < b1_0_59 then (0 : Int64) else (b1_2_59 + (1 : Int64))) else (0 : Int64)))]))
      refine g_letJ (fun r102 hr102 => ?_)
      obtain ⟨b1_0_102, hb1_0_102⟩ : ∃ z, z = (if (0 : Int64) < (b1_2_59 + (1 : Int64)) then (if x35 < b1_0_59 then b1_0_59 else (x35 + x9)) else b1_0_59) := ⟨_, rfl⟩
      obtain ⟨b1_2_102, hb1_2_102⟩ : ∃ z, z = (if (0 : Int64) < (b1_2_59 + (1 : Int64)) then (if x35 < b1_0_59 then (b1_2_59 + (1 : Int64)) else (0 : Int64)) else (b1_2_59 + (1 : Int64))) := ⟨_, rfl⟩
      have O_b1 : O_LogThrottle Z h' b1 (.long b1_0_102) (.long x9) (.long b1_2_102) := by rw [hb1_0_102, hb1_2_102]; exact O_b1
      refine g_lstore X at_105 rfl (q := 107) (L' := #[.val (.long q1), .second, .val (.long q2), .second, .val (.long q3), .second, .val (.long q4), .second, .val (.long (1152921504606846975 : Int64)), .second, .val (.long x9), .second, .val (.long x14), .second, .val (.long x21), .second, .val (.long x28), .second, .val (.long x35), .second, .val (.long x42), .second, .val (.ref b1), .val (.int (0 : Int32)), .val (.long r102), .second, .unset, .unset, .unset, .unset, .unset, .unset, .unset, .unset, .unset, .unset, .unset, .unset, .unset, .unset, .unset, .unset]) rfl ?_
      refine g_aload X at_107 rfl (q := 109) rfl rfl ?_
      refine g_lload X at_109 rfl (q := 111) rfl ?_
      refine g_callV X O_b1.1 [(.long x35)] [] (tw22 hw) (tw23 hw) (tw25 hw) (tw24 hw) (tw3 hw) (tw26 hw) (by decide) (rm4 l Z a0 hw [] b1 x35 b1_0_102 x9 b1_2_102 _ n0 X.size O_b1 g_b1) pd0 rfl rfl rfl at_111 (q := 114) rfl (W := 0) rfl (by decide) (by decide) (c2 := 1) (s2 := 3) rfl rfl (by decide) (by decide) (fun v T h' X hQ => ?_)
      obtain ⟨rfl, Kc, O_b1'⟩ := hQ
      have O_b1 := O_b1'
      show Goes p e below s _ n0 _ (T.setTop (mkF m 114 #[.val (.long q1), .second, .val (.long q2), .second, .val (.long q3), .second, .val (.long q4), .second, .val (.long (1152921504606846975 : Int64)), .second, .val (.long x9), .second, .val (.long x14), .second, .val (.long x21), .second, .val (.long x28), .second, .val (.long x35), .second, .val (.long x42), .second, .val (.ref b1), .val (.int (0 : Int32)), .val (.long r102), .second, .unset, .unset, .unset, .unset, .unset, .unset, .unset, .unset, .unset, .unset, .unset, .unset, .unset, .unset, .unset, .unset] [(.long (if (0 : Int64) < (b1_2_102 + (1 : Int64)) then (if x35 < b1_0_102 then (0 : Int64) else (b1_2_102 + (1 : Int64))) else (0 : Int64)))]))
      refine g_letJ (fun r111 hr111 => ?_)
      obtain ⟨b1_0_111, hb1_0_111⟩ : ∃ z, z = (if (0 : Int64) < (b1_2_102 + (1 : Int64)) then (if x35 < b1_0_102 then b1_0_102 else (x35 + x9)) else b1_0_102) := ⟨_, rfl⟩
      obtain ⟨b1_2_111, hb1_2_111⟩ : ∃ z, z = (if (0 : Int64) < (b1_2_102 + (1 : Int64)) then (if x35 < b1_0_102 then (b1_2_102 + (1 : Int64)) else (0 : Int64)) else (b1_2_102 + (1 : Int64))) := ⟨_, rfl⟩
      have O_b1 : O_LogThrottle Z h' b1 (.long b1_0_111) (.long x9) (.long b1_2_111) := by rw [hb1_0_111, hb1_2_111]; exact O_b1
      refine g_lstore X at_114 rfl (q := 116) (L' := #[.val (.long q1), .second, .val (.long q2), .second, .val (.long q3), .second, .val (.long q4), .second, .val (.long (1152921504606846975 : Int64)), .second, .val (.long x9), .second, .val (.long x14), .second, .val (.long x21), .second, .val (.long x28), .second, .val (.long x35), .second, .val (.long x42), .second, .val (.ref b1), .val (.int (0 : Int32)), .val (.long r102), .second, .val (.long r111), .second, .unset, .unset, .unset, .unset, .unset, .unset, .unset, .unset, .unset, .unset, .unset, .unset, .unset, .unset]) rfl ?_
      refine g_aload X at_116 rfl (q := 118) rfl rfl ?_
      refine g_lload X at_118 rfl (q := 120) rfl ?_
      refine g_callV X O_b1.1 [(.long x42)] [] (tw15 hw) (tw16 hw) (tw18 hw) (tw17 hw) (tw3 hw) (tw19 hw) (by decide) (rm3 l Z a0 hw [] b1 x42 b1_0_111 x9 b1_2_111 _ n0 X.size O_b1 g_b1) pd0 rfl rfl rfl at_120 (q := 123) rfl (W := 0) rfl (by decide) (by decide) (c2 := 1) (s2 := 3) rfl rfl (by decide) (by decide) (fun v T h' X hQ => ?_)
      obtain ⟨rfl, Kc, O_b1'⟩ := hQ
      have O_b1 := O_b1'
      show Goes p e below s _ n0 _ (T.setTop (mkF m 123 #[.val (.long q1), .second, .val (.long q2), .second, .val (.long q3), .second, .val (.long q4), .second, .val (.long (1152921504606846975 : Int64)), .second, .val (.long x9), .second, .val (.long x14), .second, .val (.long x21), .second, .val (.long x28), .second, .val (.long x35), .second, .val (.long x42), .second, .val (.ref b1), .val (.int (0 : Int32)), .val (.long r102), .second, .val (.long r111), .second, .unset, .unset, .unset, .unset, .unset, .unset, .unset, .unset, .unset, .unset, .unset, .unset, .unset, .unset] [(.long (if (0 : Int64) < b1_2_111 then (if x42 < b1_0_111 then (0 : Int64) else b1_2_111) else (0 : Int64)))]))
      refine g_letJ (fun r120 hr120 => ?_)
      obtain ⟨b1_0_120, hb1_0_120⟩ : ∃ z, z = (if (0 : Int64) < b1_2_111 then (if x42 < b1_0_111 then b1_0_111 else (x42 + x9)) else b1_0_111) := ⟨_, rfl⟩
      obtain ⟨b1_2_120, hb1_2_120⟩ : ∃ z, z = (if (0 : Int64) < b1_2_111 then (if x42 < b1_0_111 then b1_2_111 else (0 : Int64)) else b1_2_111) := ⟨_, rfl⟩
      have O_b1 : O_LogThrottle Z h' b1 (.long b1_0_120) (.long x9) (.long b1_2_120) := by rw [hb1_0_120, hb1_2_120]; exact O_b1
      refine g_lstore X at_123 rfl (q := 125) (L' := #[.val (.long q1), .second, .val (.long q2), .second, .val (.long q3), .second, .val (.long q4), .second, .val (.long (1152921504606846975 : Int64)), .second, .val (.long x9), .second, .val (.long x14), .second, .val (.long x21), .second, .val (.long x28), .second, .val (.long x35), .second, .val (.long x42), .second, .val (.ref b1), .val (.int (0 : Int32)), .val (.long r102), .second, .val (.long r111), .second, .val (.long r120), .second, .unset, .unset, .unset, .unset, .unset, .unset, .unset, .unset, .unset, .unset, .unset, .unset]) rfl ?_
      refine g_aload X at_125 rfl (q := 127) rfl rfl ?_
      refine g_lload X at_127 rfl (q := 129) rfl ?_
      refine g_callV X O_b1.1 [(.long x42)] [] (tw15 hw) (tw16 hw) (tw18 hw) (tw17 hw) (tw3 hw) (tw19 hw) (by decide) (rm3 l Z a0 hw [] b1 x42 b1_0_120 x9 b1_2_120 _ n0 X.size O_b1 g_b1) pd0 rfl rfl rfl at_129 (q := 132) rfl (W := 0) rfl (by decide) (by decide) (c2 := 1) (s2 := 3) rfl rfl (by decide) (by decide) (fun v T h' X hQ => ?_)
      obtain ⟨rfl, Kc, O_b1'⟩ := hQ
      have O_b1 := O_b1'
      show Goes p e below s _ n0 _ (T.setTop (mkF m 132 #[.val (.long q1), .second, .val (.long q2), .second, .val (.long q3), .second, .val (.long q4), .second, .val (.long (1152921504606846975 : Int64)), .second, .val (.long x9), .second, .val (.long x14), .second, .val (.long x21), .second, .val (.long x28), .second, .val (.long x35), .second, .val (.long x42), .second, .val (.ref b1), .val (.int (0 : Int32)), .val (.long r102), .second, .val (.long r111), .second, .val (.long r120), .second, .unset, .unset, .unset, .unset, .unset, .unset, .unset, .unset, .unset, .unset, .unset, .unset] [(.long (if (0 : Int64) < b1_2_120 then (if x42 < b1_0_120 then (0 : Int64) else b1_2_120) else (0 : Int64)))]))
      refine g_letJ (fun r129 hr129 => ?_)
      obtain ⟨b1_0_129, hb1_0_129⟩ : ∃ z, z = (if (0 : Int64) < b1_2_120 then (if x42 < b1_0_120 then b1_0_120 else (x42 + x9)) else b1_0_120) := ⟨_, rfl⟩
      obtain ⟨b1_2_129, hb1_2_129⟩ : ∃ z, z = (if (0 : Int64) < b1_2_120 then (if x42 < b1_0_120 then b1_2_120 else (0 : Int64)) else b1_2_120) := ⟨_, rfl⟩
      have O_b1 : O_LogThrottle Z h' b1 (.long b1_0_129) (.long x9) (.long b1_2_129) := by rw [hb1_0_129, hb1_2_129]; exact O_b1
      refine g_lstore X at_132 rfl (q := 134) (L' := #[.val (.long q1), .second, .val (.long q2), .second, .val (.long q3), .second, .val (.long q4), .second, .val (.long (1152921504606846975 : Int64)), .second, .val (.long x9), .second, .val (.long x14), .second, .val (.long x21), .second, .val (.long x28), .second, .val (.long x35), .second, .val (.long x42), .second, .val (.ref b1), .val (.int (0 : Int32)), .val (.long r102), .second, .val (.long r111), .second, .val (.long r120), .second, .val (.long r129), .second, .unset, .unset, .unset, .unset, .unset, .unset, .unset, .unset, .unset, .unset]) rfl ?_
      refine g_aload X at_134 rfl (q := 136) rfl rfl ?_
      refine g_callV X O_b1.1 [] [] (tw28 hw) (tw29 hw) (tw31 hw) (tw30 hw) (tw3 hw) (tw32 hw) (by decide) (rm5 l Z a0 hw [] b1 b1_0_129 x9 b1_2_129 _ n0 X.size O_b1 g_b1) pd2 rfl rfl rfl at_136 (q := 139) rfl (W := 0) rfl (by decide) (by decide) (c2 := 1) (s2 := 3) rfl rfl (by decide) (by decide) (fun v T h' X hQ => ?_)
      obtain ⟨rfl, Kc, O_b1'⟩ := hQ
      have O_b1 := O_b1'
      show Goes p e below s _ n0 _ (T.setTop (mkF m 139 #[.val (.long q1), .second, .val (.long q2), .second, .val (.long q3), .second, .val (.long q4), .second, .val (.long (1152921504606846975 : Int64)), .second, .val (.long x9), .second, .val (.long x14), .second, .val (.long x21), .second, .val (.long x28), .second, .val (.long x35), .second, .val (.long x42), .second, .val (.ref b1), .val (.int (0 : Int32)), .val (.long r102), .second, .val (.long r111), .second, .val (.long r120), .second, .val (.long r129), .second, .unset, .unset, .unset, .unset, .unset, .unset, .unset, .unset, .unset, .unset] [(.long b1_2_129)]))
      refine g_lstore X at_139 rfl (q := 141) (L' := #[.val (.long q1), .second, .val (.long q2), .second, .val (.long q3), .second, .val (.long q4), .second, .val (.long (1152921504606846975 : Int64)), .second, .val (.long x9), .second, .val (.long x14), .second, .val (.long x21), .second, .val (.long x28), .second, .val (.long x35), .second, .val (.long x42), .second, .val (.ref b1), .val (.int (0 : Int32)), .val (.long r102), .second, .val (.long r111), .second, .val (.long r120), .second, .val (.long r129), .second, .val (.long b1_2_129), .second, .unset, .unset, .unset, .unset, .unset, .unset, .unset, .unset]) rfl ?_
      refine g_lload X at_141 rfl (q := 143) rfl ?_
      refine g_lload X at_143 rfl (q := 145) rfl ?_
      refine g_jT4 X (J := 236) (P := fun (l34_236 : Int64) (l36_236 : Int64) (l38_236 : Int64) (l40_236 : Int64) => l34_236 = (if x21 < x9 then (0 : Int64) else (1 : Int64)) ∧ l36_236 = (if x21 < x9 then (0 : Int64) else (if x9 = (0 : Int64) then (1 : Int64) else (0 : Int64))) ∧ l38_236 = (if x21 < x9 then (if (x21 + x28) < x9 then (0 : Int64) else (2 : Int64)) else (if x9 = (0 : Int64) then (0 : Int64) else (if x28 < x9 then (0 : Int64) else (1 : Int64)))) ∧ l40_236 = (if x21 < x9 then (if (x21 + x28) < x9 then (2 : Int64) else (0 : Int64)) else (if x9 = (0 : Int64) then (0 : Int64) else (if x28 < x9 then (1 : Int64) else (0 : Int64))))) (L := fun l34_236 l36_236 l38_236 l40_236 => #[.val (.long q1), .second, .val (.long q2), .second, .val (.long q3), .second, .val (.long q4), .second, .val (.long (1152921504606846975 : Int64)), .second, .val (.long x9), .second, .val (.long x14), .second, .val (.long x21), .second, .val (.long x28), .second, .val (.long x35), .second, .val (.long x42), .second, .val (.ref b1), .val (.int (0 : Int32)), .val (.long r102), .second, .val (.long r111), .second, .val (.long r120), .second, .val (.long r129), .second, .val (.long b1_2_129), .second, .val (.long l34_236), .second, .val (.long l36_236), .second, .val (.long l38_236), .second, .val (.long l40_236), .second]) (S := fun l34_236 l36_236 l38_236 l40_236 => []) ?_ ?_
      · intro T X l34_236 l36_236 l38_236 l40_236 ⟨hl34_236, hl36_236, hl38_236, hl40_236⟩
        replace hl34_236 : l34_236 = (if x21 < x9 then (0 : Int64) else (1 : Int64)) := hl34_236
        replace hl36_236 : l36_236 = (if x21 < x9 then (0 : Int64) else (if x9 = (0 : Int64) then (1 : Int64) else (0 : Int64))) := hl36_236
        replace hl38_236 : l38_236 = (if x21 < x9 then (if (x21 + x28) < x9 then (0 : Int64) else (2 : Int64)) else (if x9 = (0 : Int64) then (0 : Int64) else (if x28 < x9 then (0 : Int64) else (1 : Int64)))) := hl38_236
        replace hl40_236 : l40_236 = (if x21 < x9 then (if (x21 + x28) < x9 then (2 : Int64) else (0 : Int64)) else (if x9 = (0 : Int64) then (0 : Int64) else (if x28 < x9 then (1 : Int64) else (0 : Int64)))) := hl40_236
        show Goes p e below s _ n0 _ (T.setTop (mkF m 236 #[.val (.long q1), .second, .val (.long q2), .second, .val (.long q3), .second, .val (.long q4), .second, .val (.long (1152921504606846975 : Int64)), .second, .val (.long x9), .second, .val (.long x14), .second, .val (.long x21), .second, .val (.long x28), .second, .val (.long x35), .second, .val (.long x42), .second, .val (.ref b1), .val (.int (0 : Int32)), .val (.long r102), .second, .val (.long r111), .second, .val (.long r120), .second, .val (.long r129), .second, .val (.long b1_2_129), .second, .val (.long l34_236), .second, .val (.long l36_236), .second, .val (.long l38_236), .second, .val (.long l40_236), .second] []))
        refine g_iload X at_236 rfl (q := 238) rfl ?_
        refine g_jT0 X (J := 285) (L := #[.val (.long q1), .second, .val (.long q2), .second, .val (.long q3), .second, .val (.long q4), .second, .val (.long (1152921504606846975 : Int64)), .second, .val (.long x9), .second, .val (.long x14), .second, .val (.long x21), .second, .val (.long x28), .second, .val (.long x35), .second, .val (.long x42), .second, .val (.ref b1), .val (.int (0 : Int32)), .val (.long r102), .second, .val (.long r111), .second, .val (.long r120), .second, .val (.long r129), .second, .val (.long b1_2_129), .second, .val (.long l34_236), .second, .val (.long l36_236), .second, .val (.long l38_236), .second, .val (.long l40_236), .second]) (S := [(.int (0 : Int32))]) ?_ ?_
        · intro T X
          exfalso
          exact c1 (hr59.trans (if_neg (by decide)))
        · intro J285_12
          refine g_ifA X at_238 (Or.inr (Or.inr rfl)) (q := 241) rfl (by decide) (t := 284) rfl (fun (c13 : (0 : Int32) = (0 : Int32)) => ?_) (fun (c13 : ¬ ((0 : Int32) = (0 : Int32))) => ?_)
          · skip
            refine g_iconst X at_284 rfl (q := 285) (v := 0) rfl ?_
            exact J285_12 T X
          · skip
            exact absurd c13 (by decide)
      · intro J236_13
        refine g_lcmpA X at_145 (q1 := 146) rfl at_146 (Or.inl rfl) (q := 149) rfl (by decide) (t := 200) rfl (fun (c14 : x21 < x9) => ?_) (fun (c14 : ¬ (x21 < x9)) => ?_)
        · skip
          refine g_lconst X at_200 rfl (q := 201) (v := 0) rfl ?_
          refine g_lstore X at_201 rfl (q := 203) (L' := #[.val (.long q1), .second, .val (.long q2), .second, .val (.long q3), .second, .val (.long q4), .second, .val (.long (1152921504606846975 : Int64)), .second, .val (.long x9), .second, .val (.long x14), .second, .val (.long x21), .second, .val (.long x28), .second, .val (.long x35), .second, .val (.long x42), .second, .val (.ref b1), .val (.int (0 : Int32)), .val (.long r102), .second, .val (.long r111), .second, .val (.long r120), .second, .val (.long r129), .second, .val (.long b1_2_129), .second, .val (.long (0 : Int64)), .second, .unset, .unset, .unset, .unset, .unset, .unset]) rfl ?_
          refine g_lconst X at_203 rfl (q := 204) (v := 0) rfl ?_
          refine g_lstore X at_204 rfl (q := 206) (L' := #[.val (.long q1), .second, .val (.long q2), .second, .val (.long q3), .second, .val (.long q4), .second, .val (.long (1152921504606846975 : Int64)), .second, .val (.long x9), .second, .val (.long x14), .second, .val (.long x21), .second, .val (.long x28), .second, .val (.long x35), .second, .val (.long x42), .second, .val (.ref b1), .val (.int (0 : Int32)), .val (.long r102), .second, .val (.long r111), .second, .val (.long r120), .second, .val (.long r129), .second, .val (.long b1_2_129), .second, .val (.long (0 : Int64)), .second, .val (.long (0 : Int64)), .second, .unset, .unset, .unset, .unset]) rfl ?_
          refine g_lload X at_206 rfl (q := 208) rfl ?_
          refine g_lload X at_208 rfl (q := 210) rfl ?_
          refine g_ladd X at_210 rfl (q := 211) ?_
          refine g_lload X at_211 rfl (q := 213) rfl ?_
          refine g_lcmpA X at_213 (q1 := 214) rfl at_214 (Or.inl rfl) (q := 217) rfl (by decide) (t := 228) rfl (fun (c15 : (x21 + x28) < x9) => ?_) (fun (c15 : ¬ ((x21 + x28) < x9)) => ?_)
          · skip
            refine g_lconst X at_228 rfl (q := 229) (v := 0) rfl ?_
            refine g_lstore X at_229 rfl (q := 231) (L' := #[.val (.long q1), .second, .val (.long q2), .second, .val (.long q3), .second, .val (.long q4), .second, .val (.long (1152921504606846975 : Int64)), .second, .val (.long x9), .second, .val (.long x14), .second, .val (.long x21), .second, .val (.long x28), .second, .val (.long x35), .second, .val (.long x42), .second, .val (.ref b1), .val (.int (0 : Int32)), .val (.long r102), .second, .val (.long r111), .second, .val (.long r120), .second, .val (.long r129), .second, .val (.long b1_2_129), .second, .val (.long (0 : Int64)), .second, .val (.long (0 : Int64)), .second, .val (.long (0 : Int64)), .second, .unset, .unset]) rfl ?_
            refine g_ldc2 X (tw33 hw) at_231 (q := 234) rfl ?_
            refine g_lstore X at_234 rfl (q := 236) (L' := #[.val (.long q1), .second, .val (.long q2), .second, .val (.long q3), .second, .val (.long q4), .second, .val (.long (1152921504606846975 : Int64)), .second, .val (.long x9), .second, .val (.long x14), .second, .val (.long x21), .second, .val (.long x28), .second, .val (.long x35), .second, .val (.long x42), .second, .val (.ref b1), .val (.int (0 : Int32)), .val (.long r102), .second, .val (.long r111), .second, .val (.long r120), .second, .val (.long r129), .second, .val (.long b1_2_129), .second, .val (.long (0 : Int64)), .second, .val (.long (0 : Int64)), .second, .val (.long (0 : Int64)), .second, .val (.long (2 : Int64)), .second]) rfl ?_
            exact J236_13 T X _ _ _ _  ⟨((if_pos c14).symm), ((if_pos c14).symm), (((if_pos c15).symm).trans (if_pos c14).symm), (((if_pos c15).symm).trans (if_pos c14).symm)⟩
          · skip
            refine g_ldc2 X (tw33 hw) at_217 (q := 220) rfl ?_
            refine g_lstore X at_220 rfl (q := 222) (L' := #[.val (.long q1), .second, .val (.long q2), .second, .val (.long q3), .second, .val (.long q4), .second, .val (.long (1152921504606846975 : Int64)), .second, .val (.long x9), .second, .val (.long x14), .second, .val (.long x21), .second, .val (.long x28), .second, .val (.long x35), .second, .val (.long x42), .second, .val (.ref b1), .val (.int (0 : Int32)), .val (.long r102), .second, .val (.long r111), .second, .val (.long r120), .second, .val (.long r129), .second, .val (.long b1_2_129), .second, .val (.long (0 : Int64)), .second, .val (.long (0 : Int64)), .second, .val (.long (2 : Int64)), .second, .unset, .unset]) rfl ?_
            refine g_lconst X at_222 rfl (q := 223) (v := 0) rfl ?_
            refine g_lstore X at_223 rfl (q := 225) (L' := #[.val (.long q1), .second, .val (.long q2), .second, .val (.long q3), .second, .val (.long q4), .second, .val (.long (1152921504606846975 : Int64)), .second, .val (.long x9), .second, .val (.long x14), .second, .val (.long x21), .second, .val (.long x28), .second, .val (.long x35), .second, .val (.long x42), .second, .val (.ref b1), .val (.int (0 : Int32)), .val (.long r102), .second, .val (.long r111), .second, .val (.long r120), .second, .val (.long r129), .second, .val (.long b1_2_129), .second, .val (.long (0 : Int64)), .second, .val (.long (0 : Int64)), .second, .val (.long (2 : Int64)), .second, .val (.long (0 : Int64)), .second]) rfl ?_
            refine g_goto X at_225 (by decide) (q := 236) rfl ?_
            exact J236_13 T X _ _ _ _  ⟨((if_pos c14).symm), ((if_pos c14).symm), (((if_neg c15).symm).trans (if_pos c14).symm), (((if_neg c15).symm).trans (if_pos c14).symm)⟩
        · skip
          refine g_lconst X at_149 rfl (q := 150) (v := 1) rfl ?_
          refine g_lstore X at_150 rfl (q := 152) (L' := #[.val (.long q1), .second, .val (.long q2), .second, .val (.long q3), .second, .val (.long q4), .second, .val (.long (1152921504606846975 : Int64)), .second, .val (.long x9), .second, .val (.long x14), .second, .val (.long x21), .second, .val (.long x28), .second, .val (.long x35), .second, .val (.long x42), .second, .val (.ref b1), .val (.int (0 : Int32)), .val (.long r102), .second, .val (.long r111), .second, .val (.long r120), .second, .val (.long r129), .second, .val (.long b1_2_129), .second, .val (.long (1 : Int64)), .second, .unset, .unset, .unset, .unset, .unset, .unset]) rfl ?_
          refine g_lload X at_152 rfl (q := 154) rfl ?_
          refine g_lconst X at_154 rfl (q := 155) (v := 0) rfl ?_
          refine g_lcmpB X at_155 (q1 := 156) rfl at_156 (Or.inr (Or.inr rfl)) (q := 159) rfl (by decide) (t := 171) rfl (fun (c16 : x9 = (0 : Int64)) => ?_) (fun (c16 : ¬ (x9 = (0 : Int64))) => ?_)
          · skip
            have b_x9 : (0 : Int) ≤ x9.toInt ∧ x9.toInt ≤ 0 := by have z0 := c16; (try simp only [Int64.lt_iff_toInt_lt, Int32.lt_iff_toInt_lt, Int64.le_iff_toInt_le, Int32.le_iff_toInt_le, ← Int64.toInt_inj, ← Int32.toInt_inj, apply_ite Int64.toInt, apply_ite Int32.toInt, Int64.reduceToInt, Int32.reduceToInt, ne_eq] at z0); have z1 := rng64 x9; omega
            refine g_lconst X at_159 rfl (q := 160) (v := 1) rfl ?_
            refine g_lstore X at_160 rfl (q := 162) (L' := #[.val (.long q1), .second, .val (.long q2), .second, .val (.long q3), .second, .val (.long q4), .second, .val (.long (1152921504606846975 : Int64)), .second, .val (.long x9), .second, .val (.long x14), .second, .val (.long x21), .second, .val (.long x28), .second, .val (.long x35), .second, .val (.long x42), .second, .val (.ref b1), .val (.int (0 : Int32)), .val (.long r102), .second, .val (.long r111), .second, .val (.long r120), .second, .val (.long r129), .second, .val (.long b1_2_129), .second, .val (.long (1 : Int64)), .second, .val (.long (1 : Int64)), .second, .unset, .unset, .unset, .unset]) rfl ?_
            refine g_lconst X at_162 rfl (q := 163) (v := 0) rfl ?_
            refine g_lstore X at_163 rfl (q := 165) (L' := #[.val (.long q1), .second, .val (.long q2), .second, .val (.long q3), .second, .val (.long q4), .second, .val (.long (1152921504606846975 : Int64)), .second, .val (.long x9), .second, .val (.long x14), .second, .val (.long x21), .second, .val (.long x28), .second, .val (.long x35), .second, .val (.long x42), .second, .val (.ref b1), .val (.int (0 : Int32)), .val (.long r102), .second, .val (.long r111), .second, .val (.long r120), .second, .val (.long r129), .second, .val (.long b1_2_129), .second, .val (.long (1 : Int64)), .second, .val (.long (1 : Int64)), .second, .val (.long (0 : Int64)), .second, .unset, .unset]) rfl ?_
            refine g_lconst X at_165 rfl (q := 166) (v := 0) rfl ?_
            refine g_lstore X at_166 rfl (q := 168) (L' := #[.val (.long q1), .second, .val (.long q2), .second, .val (.long q3), .second, .val (.long q4), .second, .val (.long (1152921504606846975 : Int64)), .second, .val (.long x9), .second, .val (.long x14), .second, .val (.long x21), .second, .val (.long x28), .second, .val (.long x35), .second, .val (.long x42), .second, .val (.ref b1), .val (.int (0 : Int32)), .val (.long r102), .second, .val (.long r111), .second, .val (.long r120), .second, .val (.long r129), .second, .val (.long b1_2_129), .second, .val (.long (1 : Int64)), .second, .val (.long (1 : Int64)), .second, .val (.long (0 : Int64)), .second, .val (.long (0 : Int64)), .second]) rfl ?_
            refine g_goto X at_168 (by decide) (q := 236) rfl ?_
            exact J236_13 T X _ _ _ _  ⟨((if_neg c14).symm), (((if_pos c16).symm).trans (if_neg c14).symm), (((if_pos c16).symm).trans (if_neg c14).symm), (((if_pos c16).symm).trans (if_neg c14).symm)⟩
          · skip
            refine g_lconst X at_171 rfl (q := 172) (v := 0) rfl ?_
            refine g_lstore X at_172 rfl (q := 174) (L' := #[.val (.long q1), .second, .val (.long q2), .second, .val (.long q3), .second, .val (.long q4), .second, .val (.long (1152921504606846975 : Int64)), .second, .val (.long x9), .second, .val (.long x14), .second, .val (.long x21), .second, .val (.long x28), .second, .val (.long x35), .second, .val (.long x42), .second, .val (.ref b1), .val (.int (0 : Int32)), .val (.long r102), .second, .val (.long r111), .second, .val (.long r120), .second, .val (.long r129), .second, .val (.long b1_2_129), .second, .val (.long (1 : Int64)), .second, .val (.long (0 : Int64)), .second, .unset, .unset, .unset, .unset]) rfl ?_
            refine g_lload X at_174 rfl (q := 176) rfl ?_
            refine g_lload X at_176 rfl (q := 178) rfl ?_
            refine g_lcmpA X at_178 (q1 := 179) rfl at_179 (Or.inl rfl) (q := 182) rfl (by decide) (t := 191) rfl (fun (c17 : x28 < x9) => ?_) (fun (c17 : ¬ (x28 < x9)) => ?_)
            · skip
              refine g_lconst X at_191 rfl (q := 192) (v := 0) rfl ?_
              refine g_lstore X at_192 rfl (q := 194) (L' := #[.val (.long q1), .second, .val (.long q2), .second, .val (.long q3), .second, .val (.long q4), .second, .val (.long (1152921504606846975 : Int64)), .second, .val (.long x9), .second, .val (.long x14), .second, .val (.long x21), .second, .val (.long x28), .second, .val (.long x35), .second, .val (.long x42), .second, .val (.ref b1), .val (.int (0 : Int32)), .val (.long r102), .second, .val (.long r111), .second, .val (.long r120), .second, .val (.long r129), .second, .val (.long b1_2_129), .second, .val (.long (1 : Int64)), .second, .val (.long (0 : Int64)), .second, .val (.long (0 : Int64)), .second, .unset, .unset]) rfl ?_
              refine g_lconst X at_194 rfl (q := 195) (v := 1) rfl ?_
              refine g_lstore X at_195 rfl (q := 197) (L' := #[.val (.long q1), .second, .val (.long q2), .second, .val (.long q3), .second, .val (.long q4), .second, .val (.long (1152921504606846975 : Int64)), .second, .val (.long x9), .second, .val (.long x14), .second, .val (.long x21), .second, .val (.long x28), .second, .val (.long x35), .second, .val (.long x42), .second, .val (.ref b1), .val (.int (0 : Int32)), .val (.long r102), .second, .val (.long r111), .second, .val (.long r120), .second, .val (.long r129), .second, .val (.long b1_2_129), .second, .val (.long (1 : Int64)), .second, .val (.long (0 : Int64)), .second, .val (.long (0 : Int64)), .second, .val (.long (1 : Int64)), .second]) rfl ?_
              refine g_goto X at_197 (by decide) (q := 236) rfl ?_
              exact J236_13 T X _ _ _ _  ⟨((if_neg c14).symm), (((if_neg c16).symm).trans (if_neg c14).symm), ((((if_pos c17).symm).trans (if_neg c16).symm).trans (if_neg c14).symm), ((((if_pos c17).symm).trans (if_neg c16).symm).trans (if_neg c14).symm)⟩
            · skip
              refine g_lconst X at_182 rfl (q := 183) (v := 1) rfl ?_
              refine g_lstore X at_183 rfl (q := 185) (L' := #[.val (.long q1), .second, .val (.long q2), .second, .val (.long q3), .second, .val (.long q4), .second, .val (.long (1152921504606846975 : Int64)), .second, .val (.long x9), .second, .val (.long x14), .second, .val (.long x21), .second, .val (.long x28), .second, .val (.long x35), .second, .val (.long x42), .second, .val (.ref b1), .val (.int (0 : Int32)), .val (.long r102), .second, .val (.long r111), .second, .val (.long r120), .second, .val (.long r129), .second, .val (.long b1_2_129), .second, .val (.long (1 : Int64)), .second, .val (.long (0 : Int64)), .second, .val (.long (1 : Int64)), .second, .unset, .unset]) rfl ?_
              refine g_lconst X at_185 rfl (q := 186) (v := 0) rfl ?_
              refine g_lstore X at_186 rfl (q := 188) (L' := #[.val (.long q1), .second, .val (.long q2), .second, .val (.long q3), .second, .val (.long q4), .second, .val (.long (1152921504606846975 : Int64)), .second, .val (.long x9), .second, .val (.long x14), .second, .val (.long x21), .second, .val (.long x28), .second, .val (.long x35), .second, .val (.long x42), .second, .val (.ref b1), .val (.int (0 : Int32)), .val (.long r102), .second, .val (.long r111), .second, .val (.long r120), .second, .val (.long r129), .second, .val (.long b1_2_129), .second, .val (.long (1 : Int64)), .second, .val (.long (0 : Int64)), .second, .val (.long (1 : Int64)), .second, .val (.long (0 : Int64)), .second]) rfl ?_
              refine g_goto X at_188 (by decide) (q := 236) rfl ?_
              exact J236_13 T X _ _ _ _  ⟨((if_neg c14).symm), (((if_neg c16).symm).trans (if_neg c14).symm), ((((if_neg c17).symm).trans (if_neg c16).symm).trans (if_neg c14).symm), ((((if_neg c17).symm).trans (if_neg c16).symm).trans (if_neg c14).symm)⟩
  · intro J72_17
    refine g_lcmpB X at_63 (q1 := 64) rfl at_64 (Or.inr (Or.inr rfl)) (q := 67) rfl (by decide) (t := 71) rfl (fun (c18 : r59 = (0 : Int64)) => ?_) (fun (c18 : ¬ (r59 = (0 : Int64))) => ?_)
    · skip
      have b_r59 : (0 : Int) ≤ r59.toInt ∧ r59.toInt ≤ 0 := by have z0 := c18; (try simp only [Int64.lt_iff_toInt_lt, Int32.lt_iff_toInt_lt, Int64.le_iff_toInt_le, Int32.le_iff_toInt_le, ← Int64.toInt_inj, ← Int32.toInt_inj, apply_ite Int64.toInt, apply_ite Int32.toInt, Int64.reduceToInt, Int32.reduceToInt, ne_eq] at z0); have z1 := rng64 r59; omega
      refine g_iconst X at_67 rfl (q := 68) (v := 1) rfl ?_
      refine g_goto X at_68 (by decide) (q := 72) rfl ?_
      exact J72_17 T X _ (bI_t c18)
    · skip
      refine g_iconst X at_71 rfl (q := 72) (v := 0) rfl ?_
      exact J72_17 T X _ (bI_f c18)
set_option maxRecDepth 65536 in
set_option maxHeartbeats 40000000 in
theorem comes_1 {Post : Tables → Env → Array Value → State → Outcome → State → Prop} (hpost : ∀ tb e args s v u, (limb_1_1.after args s (.returned v) u = true ∧ limb_1_2.after args s (.returned v) u = true ∧ True) → FrameEnd s (.returned v) u (Jvm.fieldLocs frame_1_writes args s ++ Jvm.arrayLocs frame_1_arrays args s ++ Jvm.staticLocs frame_1_statics s) 16 128 → Post tb e args s (.returned v) u) :
    ArmFor flags0 classFile x code maxLocals ret World_1 tables_1 room_1 Calls_1 rest_1 Pre_1 Post := by
  intro l hfl _ _ p e ha hc hk s m args below hf hA hF happ hP
  obtain ⟨hcalls, hrest, hpre⟩ := hP
  obtain ⟨-, -, -, hnamed, -, -, -, hat⟩ := (Spec.applies_iff hf).mp happ
  obtain ⟨hg, hn⟩ := and_e (Cond.before_iff.mp (show (Jvm.Cond.and given_1 narrow_1).before args s = true from hpre))
  obtain ⟨u1, w1⟩ := and_e hg
  obtain ⟨u2, w2⟩ := and_e w1
  obtain ⟨u3, w3⟩ := and_e w2
  obtain ⟨u4, w4⟩ := and_e w3
  obtain ⟨z0, z1, z2, z3, rfl⟩ : ∃ z0 z1 z2 z3 : Value, args = #[z0, z1, z2, z3] := by
    have hs : args.size = 4 := by simpa [Cond.value, given_1] using u1
    obtain ⟨L⟩ := args
    match L, hs with
    | [z0, z1, z2, z3], _ => exact ⟨z0, z1, z2, z3, rfl⟩
  have hw := fun d (hd : d ∈ tables_1) => atoms_spec (ws := Jvm.Cond.code x code maxLocals ret :: tables_1) hat d (List.mem_cons_of_mem _ hd)
  obtain ⟨i0, ei0⟩ := isL_v u2
  obtain rfl : z0 = (.long i0) := Option.some.inj ei0
  obtain ⟨i1, ei1⟩ := isL_v u3
  obtain rfl : z1 = (.long i1) := Option.some.inj ei1
  obtain ⟨i2, ei2⟩ := isL_v u4
  obtain rfl : z2 = (.long i2) := Option.some.inj ei2
  obtain ⟨i3, ei3⟩ := isL_v w4
  obtain rfl : z3 = (.long i3) := Option.some.inj ei3
  obtain ⟨n, o, h1, h2, h3, _, L, rfl, ⟨N, rfl⟩, hq⟩ := rm0 l s _ hw tables_1 i0 i1 i2 i3 s.heap s.heap.size (Nat.le_refl _) p e ha hc hk s m _ below hf ((Spec.applies_iff_loose hf).mp happ).1 ⟨rfl, State.Warmed39.refl s, rfl⟩ trivial
  refine ⟨n, _, h1, h2, h3, hpost _ _ _ _ _ _ ⟨Cond.after_iff.mpr rfl, Cond.after_iff.mpr (eq_i res_at (Term.int_eval (1)) rfl), trivial⟩ ⟨hq.1, hq.2.1, (hq.2.2.sift fun y hy => Or.inr (N y hy)).mono (by decide) (by decide)⟩⟩
theorem main_1_1 : Claimed_1_1 := comes_1 fun _ _ _ _ _ _ h hF => ⟨h.1, hF⟩
theorem main_1_2 : Claimed_1_2 := comes_1 fun _ _ _ _ _ _ h hF => ⟨h.2.1, hF⟩
end Jvm.Pilot.@@N@@
namespace Jvm.Pilot.@@N@@
open Jvm Jvm.ClassFile Sem Op Lib Jvm.Free Jvm.Stand Jvm.Pilot.@@N@@.Jvm.D
/-! MADE BY PROGRAM (witnessworld.py) out of the Statement's table words and the real class files: 9 classes; the members and pool entries that the words name. The judged class is class 1, her method 1. -/
namespace start1
open Jvm.ClassFile
def u (s : String) : CpInfo := .utf8 (stringToUtf16 s)
/-- a pool by its gaps: so many unusable entries, then the entry; so many at the end -/
def gap : Nat → List CpInfo → List CpInfo
  | 0, r => r
  | n + 1, r => .unusable :: gap n r
def poolList (es : List (Nat × CpInfo)) (last : Nat) : List CpInfo := es.foldr (fun e r => gap e.1 (e.2 :: r)) (gap last [])
def pool (es : List (Nat × CpInfo)) (last : Nat) : Array CpInfo := ⟨poolList es last⟩
def fileOf (pool : Array CpInfo) (this : Nat) (attrs : Array Attribute := #[]) (ms : Array MethodInfo := #[]) (fl : Nat := 33) (sup : Nat := 0) (ifs : Array Nat := #[]) (fds : Array FieldInfo := #[]) : ClassFile where
  minorVersion := 0
  majorVersion := 65
  constantPool := pool
  accessFlags := fl
  thisClass := this
  superClass := sup
  interfaces := ifs
  fields := fds
  methods := ms
  attributes := attrs
def plain (name : String) (sup : Option ClassId) : Class where
  name := name
  kind := .ordinary
  loader := none
  accessFlags := 33
  super := sup
  interfaces := #[]
  cf := none
  fields := #[]
  methods := #[]
  instanceTypes := #[]
  staticTypes := #[]
  resolved := #[]
  callSites := []
  init := .initialized
  statics := none
  mirror := none

def pool0 : Array CpInfo := pool [(5, u "<init>"), (0, u "()V"), (1, .class_ 10), (1, u "java/lang/Object")] 113

def k0c0 : Code := { maxStack := 0, maxLocals := 1, code := object_method_1_code, exceptionTable := #[], attributes := #[] }
def k0m0 : Method := { name := "<init>", desc := "()V", sig := { parameters := [], returnType := none }, accessFlags := 1, code := some k0c0 }
/-- java/lang/Object -/
def k0 : Class := { plain "java/lang/Object" none with
  accessFlags := 33
  interfaces := #[]
  cf := some (fileOf pool0 8 #[] #[{ accessFlags := 1, nameIndex := 5, descriptorIndex := 6, attributes := #[] }] 33 0 #[] #[])
  fields := #[]
  methods := #[k0m0]
  instanceTypes := #[]
  staticTypes := #[]
  resolved := Array.replicate 124 none
  statics := none }

def pool1 : Array CpInfo := pool [(2, .class_ 4), (1, u "java/lang/Object"), (0, u "<init>"), (0, u "()V"), (0, .long 1152921504606846975), (1, .class_ 10), (0, u "com/example/retention/retention/logging/LogThrottle"), (0, .methodref 9 12), (0, .nameAndType 5 13), (0, u "(J)V"), (0, .methodref 9 15), (0, .nameAndType 16 17), (0, u "due"), (0, u "(J)J"), (0, .methodref 9 19), (0, .nameAndType 20 17), (0, u "note"), (0, .methodref 9 22), (0, .nameAndType 23 24), (0, u "unreported"), (0, u "()J"), (0, .long 2), (1, .class_ 28), (0, u "com/example/retention/retention/logging/LogThrottleDuePinLaw"), (2, u "law"), (0, u "(JJJJ)Z")] 3

def k1m0 : Method := { name := "<init>", desc := "()V", sig := { parameters := [], returnType := none }, accessFlags := 1, code := none }
def k1c1 : Code := { maxStack := 4, maxLocals := 42, code := code, exceptionTable := #[], attributes := #[] }
def k1m1 : Method := { name := "law", desc := "(JJJJ)Z", sig := { parameters := [.long, .long, .long, .long], returnType := some .boolean }, accessFlags := 9, code := some k1c1 }
/-- com/example/retention/retention/logging/LogThrottleDuePinLaw -/
def k1 : Class := { plain "com/example/retention/retention/logging/LogThrottleDuePinLaw" (some 0) with
  accessFlags := 49
  interfaces := #[]
  cf := some (fileOf pool1 27 #[] #[{ accessFlags := 1, nameIndex := 5, descriptorIndex := 6, attributes := #[] }, { accessFlags := 9, nameIndex := 31, descriptorIndex := 32, attributes := #[] }] 49 2 #[] #[])
  fields := #[]
  methods := #[k1m0, k1m1]
  instanceTypes := #[]
  staticTypes := #[]
  resolved := Array.replicate 36 none
  statics := none }

def pool2 : Array CpInfo := pool [(1, .methodref 2 3), (0, .class_ 4), (0, .nameAndType 5 6), (0, u "java/lang/Object"), (0, u "<init>"), (0, u "()V"), (2, .long 9223372036854775808), (1, .fieldref 12 13), (0, .class_ 14), (0, .nameAndType 15 16), (0, u "com/example/retention/retention/logging/LogThrottle"), (0, u "nextLineMillis"), (0, u "J"), (0, .fieldref 12 18), (0, .nameAndType 19 16), (0, u "intervalMillis"), (0, .fieldref 12 21), (0, .nameAndType 22 16), (0, u "unreported"), (0, .methodref 12 24), (0, .nameAndType 25 26), (0, u "due"), (0, u "(J)J"), (0, u "(J)V"), (2, u "note"), (1, u "()J")] 2

def k2c0 : Code := { maxStack := 3, maxLocals := 3, code := prog_58_method_1_code, exceptionTable := #[], attributes := #[] }
def k2m0 : Method := { name := "<init>", desc := "(J)V", sig := { parameters := [.long], returnType := none }, accessFlags := 1, code := some k2c0 }
def k2c1 : Code := { maxStack := 5, maxLocals := 3, code := prog_58_method_2_code, exceptionTable := #[], attributes := #[] }
def k2m1 : Method := { name := "note", desc := "(J)J", sig := { parameters := [.long], returnType := some .long }, accessFlags := 1, code := some k2c1 }
def k2c2 : Code := { maxStack := 5, maxLocals := 5, code := prog_58_method_3_code, exceptionTable := #[], attributes := #[] }
def k2m2 : Method := { name := "due", desc := "(J)J", sig := { parameters := [.long], returnType := some .long }, accessFlags := 1, code := some k2c2 }
def k2c3 : Code := { maxStack := 3, maxLocals := 3, code := prog_58_method_4_code, exceptionTable := #[], attributes := #[] }
def k2m3 : Method := { name := "unreported", desc := "()J", sig := { parameters := [], returnType := some .long }, accessFlags := 1, code := some k2c3 }
/-- com/example/retention/retention/logging/LogThrottle -/
def k2 : Class := { plain "com/example/retention/retention/logging/LogThrottle" (some 0) with
  accessFlags := 49
  interfaces := #[]
  cf := some (fileOf pool2 12 #[] #[{ accessFlags := 1, nameIndex := 5, descriptorIndex := 27, attributes := #[] }, { accessFlags := 1, nameIndex := 30, descriptorIndex := 26, attributes := #[] }, { accessFlags := 1, nameIndex := 25, descriptorIndex := 26, attributes := #[] }, { accessFlags := 1, nameIndex := 22, descriptorIndex := 32, attributes := #[] }] 49 2 #[] #[{ accessFlags := 18, nameIndex := 19, descriptorIndex := 16, attributes := #[] }, { accessFlags := 2, nameIndex := 22, descriptorIndex := 16, attributes := #[] }, { accessFlags := 2, nameIndex := 15, descriptorIndex := 16, attributes := #[] }])
  fields := #[{ name := "intervalMillis", type := .long, accessFlags := 18, slot := 0, constantValue := 0 }, { name := "unreported", type := .long, accessFlags := 2, slot := 1, constantValue := 0 }, { name := "nextLineMillis", type := .long, accessFlags := 2, slot := 2, constantValue := 0 }]
  methods := #[k2m0, k2m1, k2m2, k2m3]
  instanceTypes := #[.long, .long, .long]
  staticTypes := #[]
  resolved := Array.replicate 35 none
  statics := none }

def pool3 : Array CpInfo := pool [(1, u "java/lang/Cloneable"), (0, .class_ 1), (0, u "java/lang/Object"), (0, .class_ 3)] 3

/-- java/lang/Cloneable -/
def k3 : Class := { plain "java/lang/Cloneable" (some 0) with
  accessFlags := 1537
  interfaces := #[]
  cf := some (fileOf pool3 2 #[] #[] 1537 4 #[] #[])
  fields := #[]
  methods := #[]
  instanceTypes := #[]
  staticTypes := #[]
  resolved := Array.replicate 8 none
  statics := none }

def pool4 : Array CpInfo := pool [(1, u "java/io/Serializable"), (0, .class_ 1), (0, u "java/lang/Object"), (0, .class_ 3)] 3

/-- java/io/Serializable -/
def k4 : Class := { plain "java/io/Serializable" (some 0) with
  accessFlags := 1537
  interfaces := #[]
  cf := some (fileOf pool4 2 #[] #[] 1537 4 #[] #[])
  fields := #[]
  methods := #[]
  instanceTypes := #[]
  staticTypes := #[]
  resolved := Array.replicate 8 none
  statics := none }

/-- the primitive byte -/
def k5 : Class := { plain "byte" none with kind := .primitive 'B', accessFlags := 0x411 }
/-- [B -/
def k6 : Class := { plain "[B" (some 0) with kind := .array 5 .byte, interfaces := #[3, 4], accessFlags := 1041 }

/-- the primitive int -/
def k7 : Class := { plain "int" none with kind := .primitive 'I', accessFlags := 0x411 }
/-- [I -/
def k8 : Class := { plain "[I" (some 0) with kind := .array 7 .int, interfaces := #[3, 4], accessFlags := 1041 }

def heap : Heap := #[]
def classes : Array Class := #[k0, k1, k2, k3, k4, k5, k6, k7, k8]
def interned : List (Array UInt16 × Addr) := []
def slotsUsed : Nat := 0
def theMethod : MethodId := ⟨1, 1⟩
def args0 : Array Value := #[.long 5, .long 7, .long 9, .long 10]
def aboutOver (below : List Frame) : State where
  vm := { classes := classes, interned := interned.toArray }
  heap := heap
  slotsUsed := slotsUsed
  threads := #[{ frames := .invoking theMethod args0 :: below }]
def below0 : List Frame := [.native { method := ⟨0, 0⟩, args := #[] }]
def about1 : State := aboutOver below0
def p0 : Program := .bare "" "" ""
def e0 : Env := launch0.env 0 0 0
theorem w_frames : about1.frames = Frame.invoking theMethod args0 :: below0 := rfl
set_option maxRecDepth 65536 in
theorem w_args : argsFit about1.vm theMethod args0 = true := by decide +kernel
set_option maxRecDepth 65536 in
theorem w_heap : heapFits about1 = true := by decide +kernel
set_option maxRecDepth 65536 in
theorem w_runnable : about1.curStatus? = some .runnable := by decide +kernel
set_option maxRecDepth 65536 in
theorem w_alone : about1.alone = true := by decide +kernel
set_option maxRecDepth 65536 in
theorem w_named : about1.methodNamed? x = some theMethod := by decide +kernel
set_option maxRecDepth 65536 in
theorem w_hears : about1.hears theMethod below0 = true := by decide +kernel
set_option maxRecDepth 65536 in
theorem w_ripe : about1.ripe theMethod args0 below0 = true := by decide +kernel
theorem w_running : about1.status = .running := rfl
set_option maxRecDepth 65536 in
theorem w_room : about1.hasRoom e0.platform room_1 = true :=
  launch0.hasRoom_least _ room_1 (by decide +kernel) (by decide +kernel) (by decide +kernel) (by decide +kernel) (by decide +kernel) (by decide +kernel)
theorem allAtoms_all (ts : List Jvm.Cond) (a : Array Jvm.Value) (st : Jvm.State) : (allAtoms ts).before a st = ts.all (fun c => c.before a st) := by
  induction ts with
  | nil => rfl
  | cons c t ih =>
    show (Jvm.Cond.and c (allAtoms t)).before a st = _
    rw [Jvm.Cond.before_and, ih, List.all_cons]
def words1 : List Jvm.Cond := Jvm.Cond.code x code maxLocals ret :: tables_1
/-- a 'code' word, met by the world's own term for the bytes: nothing is compared byte by byte -/
theorem code_word {y : MethodName} {bytes : ByteArray} {mx : Nat} {rt : Option FieldType} {a : Array Value} {s : State} {m : MethodId} {meth : Method} {c : Code} (h1 : s.methodNamed? y = some m) (h2 : s.vm.method? m = some meth) (h3 : meth.code = some c) (h4 : c.code = bytes)
    (h5 : (c.maxLocals == mx && c.exceptionTable.isEmpty && decide (c.maxStack ≤ mostOperands) && decide (meth.sig.returnType = rt) && !meth.locks && decide (parseMethodDescriptor y.desc = some meth.sig)) = true) : (Jvm.Cond.code y bytes mx rt).before a s = true := by
  simp only [Bool.and_eq_true, beq_iff_eq, Bool.not_eq_true', decide_eq_true_eq] at h5
  obtain ⟨⟨⟨⟨⟨g1, g2⟩, g3⟩, g4⟩, g5⟩, g6⟩ := h5
  simp [Cond.before, Cond.holds, Cond.value, h1, h2, h3, h4, g1, g2, g3, g4, g5, g6]
def isCode : Jvm.Cond → Bool
  | .code _ _ _ _ => true
  | _ => false
theorem all_split {L : List Jvm.Cond} {P : Jvm.Cond → Bool} (h1 : L.all (fun c => isCode c || P c) = true) (h2 : ∀ c ∈ L.filter isCode, P c = true) : L.all P = true := by
  refine List.all_eq_true.mpr fun c hc => ?_
  have h := List.all_eq_true.mp h1 c hc
  rcases Bool.eq_false_or_eq_true (isCode c) with hi | hi
  · exact h2 c (List.mem_filter.mpr ⟨hc, hi⟩)
  · simpa [hi] using h
set_option maxRecDepth 65536 in
theorem w_c0 : (Jvm.Cond.code x code maxLocals ret).before args0 about1 = true := code_word (m := ⟨1, 1⟩) (meth := k1m1) (c := k1c1) (by decide +kernel) rfl rfl rfl (by decide +kernel)
set_option maxRecDepth 65536 in
theorem w_c1 : (Jvm.Cond.code ({ cls := "com/example/retention/retention/logging/LogThrottle", name := "<init>", desc := "(J)V" } : Jvm.MethodName) prog_58_method_1_code (3 : Nat) (Option.none : Option Jvm.ClassFile.FieldType)).before args0 about1 = true := code_word (m := ⟨2, 0⟩) (meth := k2m0) (c := k2c0) (by decide +kernel) rfl rfl rfl (by decide +kernel)
set_option maxRecDepth 65536 in
theorem w_c2 : (Jvm.Cond.code ({ cls := "java/lang/Object", name := "<init>", desc := "()V" } : Jvm.MethodName) object_method_1_code (1 : Nat) (Option.none : Option Jvm.ClassFile.FieldType)).before args0 about1 = true := code_word (m := ⟨0, 0⟩) (meth := k0m0) (c := k0c0) (by decide +kernel) rfl rfl rfl (by decide +kernel)
set_option maxRecDepth 65536 in
theorem w_c3 : (Jvm.Cond.code ({ cls := "com/example/retention/retention/logging/LogThrottle", name := "due", desc := "(J)J" } : Jvm.MethodName) prog_58_method_3_code (5 : Nat) (Option.some Jvm.ClassFile.FieldType.long)).before args0 about1 = true := code_word (m := ⟨2, 2⟩) (meth := k2m2) (c := k2c2) (by decide +kernel) rfl rfl rfl (by decide +kernel)
set_option maxRecDepth 65536 in
theorem w_c4 : (Jvm.Cond.code ({ cls := "com/example/retention/retention/logging/LogThrottle", name := "note", desc := "(J)J" } : Jvm.MethodName) prog_58_method_2_code (3 : Nat) (Option.some Jvm.ClassFile.FieldType.long)).before args0 about1 = true := code_word (m := ⟨2, 1⟩) (meth := k2m1) (c := k2c1) (by decide +kernel) rfl rfl rfl (by decide +kernel)
set_option maxRecDepth 65536 in
theorem w_c5 : (Jvm.Cond.code ({ cls := "com/example/retention/retention/logging/LogThrottle", name := "unreported", desc := "()J" } : Jvm.MethodName) prog_58_method_4_code (3 : Nat) (Option.some Jvm.ClassFile.FieldType.long)).before args0 about1 = true := code_word (m := ⟨2, 3⟩) (meth := k2m3) (c := k2c3) (by decide +kernel) rfl rfl rfl (by decide +kernel)
def codes1 : List Jvm.Cond := [Jvm.Cond.code x code maxLocals ret, Jvm.Cond.code ({ cls := "com/example/retention/retention/logging/LogThrottle", name := "<init>", desc := "(J)V" } : Jvm.MethodName) prog_58_method_1_code (3 : Nat) (Option.none : Option Jvm.ClassFile.FieldType), Jvm.Cond.code ({ cls := "java/lang/Object", name := "<init>", desc := "()V" } : Jvm.MethodName) object_method_1_code (1 : Nat) (Option.none : Option Jvm.ClassFile.FieldType), Jvm.Cond.code ({ cls := "com/example/retention/retention/logging/LogThrottle", name := "due", desc := "(J)J" } : Jvm.MethodName) prog_58_method_3_code (5 : Nat) (Option.some Jvm.ClassFile.FieldType.long), Jvm.Cond.code ({ cls := "com/example/retention/retention/logging/LogThrottle", name := "note", desc := "(J)J" } : Jvm.MethodName) prog_58_method_2_code (3 : Nat) (Option.some Jvm.ClassFile.FieldType.long), Jvm.Cond.code ({ cls := "com/example/retention/retention/logging/LogThrottle", name := "unreported", desc := "()J" } : Jvm.MethodName) prog_58_method_4_code (3 : Nat) (Option.some Jvm.ClassFile.FieldType.long)]
set_option maxRecDepth 65536 in
theorem codes_eq : words1.filter isCode = codes1 := rfl
theorem w_codes : ∀ c ∈ words1.filter isCode, c.before args0 about1 = true := by
  rw [codes_eq]
  intro c hc
  simp only [codes1, List.mem_cons, List.not_mem_nil, or_false] at hc
  rcases hc with rfl | rfl | rfl | rfl | rfl | rfl
  · exact w_c0
  · exact w_c1
  · exact w_c2
  · exact w_c3
  · exact w_c4
  · exact w_c5
set_option maxRecDepth 65536 in
theorem w_t1 : (words1.take 24).all (fun c => isCode c || c.before args0 about1) = true := by decide +kernel
set_option maxRecDepth 65536 in
theorem w_t2 : (words1.drop 24).all (fun c => isCode c || c.before args0 about1) = true := by decide +kernel
theorem w_tables : (allAtoms (Jvm.Cond.code x code maxLocals ret :: tables_1)).before args0 about1 = true := by
  rw [allAtoms_all]
  show words1.all (fun c => c.before args0 about1) = true
  refine all_split ?_ w_codes
  rw [← List.take_append_drop 24 words1, List.all_append, w_t1, w_t2]
  rfl
set_option maxRecDepth 65536 in
theorem w_case : (Jvm.Cond.and given_1 narrow_1).before args0 about1 = true := by decide +kernel
theorem w_applies : (headSpec (Jvm.Cond.code x code maxLocals ret :: tables_1) room_1).applies x e0.platform about1 = true :=
  (Spec.applies_iff w_frames).mpr ⟨w_running, w_runnable, w_alone, w_named, w_hears, w_ripe, w_room, w_tables⟩
theorem atStart : AtStart classFile x code maxLocals ret World_1 tables_1 room_1 Calls_1 rest_1 Pre_1 launch0 p0 e0 about1 theMethod args0 below0 :=
  ⟨lists_1, trivial, launch0.admits_env _ _ _, launch0.least_env, fairChoices_fair.cas, fairChoices_fair.clock, w_frames, w_args, w_heap, w_applies, trivial, trivial, w_case⟩
end start1
theorem witness_1 : WitnessClaimed_1 := ⟨start1.p0, start1.e0, start1.about1, start1.theMethod, start1.args0, start1.below0, start1.atStart⟩
end Jvm.Pilot.@@N@@
