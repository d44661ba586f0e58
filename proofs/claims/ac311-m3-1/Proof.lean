import JvmDerived
import JvmDerived.Pilot.@@N@@Statement
import JvmDerived.Pilot.@@N@@Code
set_option linter.unusedVariables false
set_option linter.unusedSimpArgs false
namespace Jvm.Own
open Jvm Jvm.ClassFile Sem Op Lib Jvm.Free Jvm.Stand Jvm.LawKit Jvm.RoadKit Bundle

/-! a calculus of walks, over the library's step laws -/
def Wk (Z : State) (own nm : String) (bytes : ByteArray) (ml : Nat) (ret : Option FieldType) (R : Room) (n0 : Nat) (p : Program) (l : Launch) (e : Env) (s : State) (m : MethodId) (args : Array Value) (below : List Frame) (meth : Method) (c : Code) (T : State) (cells slots : Nat) (h : Heap) : Prop :=
  ∃ locs, Stand p l e R s m args below meth c T locs cells slots ∧ Fr n0 locs ∧ T.heap = h ∧ n0 ≤ s.heap.size ∧ p.tables.exec = Jvm.exec ∧ Z.Warmed39 s.vm ∧ c.code = bytes ∧ c.maxLocals = ml ∧ s.vm.findClass own = some m.cls ∧ meth.name = nm ∧ meth.sig.returnType = ret ∧ meth.locks = false
def Goes (p : Program) (e : Env) (below : List Frame) (s : State) (R : Room) (n0 : Nat) (Q : Option Value → Heap → Prop) (t : State) : Prop :=
  ∃ s₂ o, Steps p.tables e below t s₂ ∧ s₂.status = .running ∧ Ended s₂ below o ∧ ∃ v L, o = .returned v ∧ (Fr n0 L ∧ Q v s₂.heap) ∧ FrameEnd s o s₂ L R.cells R.slots
def Met (l : Launch) (Z : State) (y : MethodName) (bytes : ByteArray) (ml : Nat) (ret : Option FieldType) (R : Room) (ws : List Jvm.Cond) (n0 : Nat) (as : Array Value) (h0 : Heap) (Q : Option Value → Heap → Prop) : Prop :=
  MetFree l y (head1 (Jvm.Cond.code y bytes ml ret :: ws) R) (fun a U => a = as ∧ Z.Warmed39 U.vm ∧ U.heap = h0) (fun _ _ _ _ _ => True) (fun _ U o U' => ∃ v L, o = .returned v ∧ (Fr n0 L ∧ Q v U'.heap) ∧ FrameEnd U o U' L R.cells R.slots)
def bI (c : Prop) [Decidable c] : Int32 := if c then 1 else 0
theorem bI_t {c : Prop} [Decidable c] (h : c) : (1 : Int32) = bI c := (if_pos h).symm
theorem bI_f {c : Prop} [Decidable c] (h : ¬ c) : (0 : Int32) = bI c := (if_neg h).symm
theorem bI_01 (c : Prop) [Decidable c] : bI c = 0 ∨ bI c = 1 := by unfold bI; split <;> simp
theorem bI_eq0 (c : Prop) [Decidable c] : bI c = 0 ↔ ¬ c := by unfold bI; split <;> simp_all
theorem bI_eq1 (c : Prop) [Decidable c] : bI c = 1 ↔ c := by unfold bI; split <;> simp_all
theorem bI_inj (c d : Prop) [Decidable c] [Decidable d] : bI c = bI d ↔ (c ↔ d) := by unfold bI; split <;> split <;> simp_all
theorem bI_cong {c d : Prop} [Decidable c] [Decidable d] (h : c ↔ d) : bI c = bI d := (bI_inj c d).mpr h
def pcI (cd : ClassFile.Cond) (x y : Int32) : Prop := match cd with
  | .lt | .ge => x < y
  | .gt | .le => y < x
  | .eq | .ne => x = y
def pcJ (cd : ClassFile.Cond) (x y : Int64) : Prop := match cd with
  | .lt | .ge => x < y
  | .gt | .le => y < x
  | .eq | .ne => x = y

theorem own_bI01 (c : Prop) [Decidable c] : (c ∧ (bI c).toInt = 1) ∨ (¬ c ∧ (bI c).toInt = 0) := by unfold bI; split <;> simp_all
theorem own_mask' (m x : Int32) (k : Nat) (hk : k ≤ 31) (hm : m.toBitVec.toNat = 2 ^ k - 1) : (m &&& x).toInt = x.toInt % (2 ^ k : Nat) := by rw [Int32.and_comm]; exact c_mask x m k hk hm
theorem own_maskL' (m x : Int64) (k : Nat) (hk : k ≤ 63) (hm : m.toBitVec.toNat = 2 ^ k - 1) : (m &&& x).toInt = x.toInt % (2 ^ k : Nat) := by rw [Int64.and_comm]; exact c_maskL x m k hk hm
theorem own_mB (x m : Int32) (k : Nat) (hk : k ≤ 31) (hm : m.toBitVec.toNat = 2 ^ k - 1) (M : Nat) (hM : M + 1 = 2 ^ k) : 0 ≤ (x &&& m).toInt ∧ (x &&& m).toInt ≤ M := by
  rw [c_mask x m k hk hm, ← hM]; have a := Int.emod_nonneg x.toInt (b := ((M + 1 : Nat) : Int)) (by omega); have b := Int.emod_lt_of_pos x.toInt (b := ((M + 1 : Nat) : Int)) (by omega); omega
theorem own_mBL (x m : Int64) (k : Nat) (hk : k ≤ 63) (hm : m.toBitVec.toNat = 2 ^ k - 1) (M : Nat) (hM : M + 1 = 2 ^ k) : 0 ≤ (x &&& m).toInt ∧ (x &&& m).toInt ≤ M := by
  rw [c_maskL x m k hk hm, ← hM]; have a := Int.emod_nonneg x.toInt (b := ((M + 1 : Nat) : Int)) (by omega); have b := Int.emod_lt_of_pos x.toInt (b := ((M + 1 : Nat) : Int)) (by omega); omega
theorem own_mB' (m x : Int32) (k : Nat) (hk : k ≤ 31) (hm : m.toBitVec.toNat = 2 ^ k - 1) (M : Nat) (hM : M + 1 = 2 ^ k) : 0 ≤ (m &&& x).toInt ∧ (m &&& x).toInt ≤ M := by rw [Int32.and_comm]; exact own_mB x m k hk hm M hM
theorem own_mBL' (m x : Int64) (k : Nat) (hk : k ≤ 63) (hm : m.toBitVec.toNat = 2 ^ k - 1) (M : Nat) (hM : M + 1 = 2 ^ k) : 0 ≤ (m &&& x).toInt ∧ (m &&& x).toInt ≤ M := by rw [Int64.and_comm]; exact own_mBL x m k hk hm M hM
theorem own_iaddE (x y : Int32) (h : -2147483648 ≤ x.toInt + y.toInt ∧ x.toInt + y.toInt < 2147483648) : (x + y).toInt = x.toInt + y.toInt := by
  have a := c_iadd x y; have b := rng32 (x + y); omega
theorem own_isubE (x y : Int32) (h : -2147483648 ≤ x.toInt - y.toInt ∧ x.toInt - y.toInt < 2147483648) : (x - y).toInt = x.toInt - y.toInt := by
  have a := c_isub x y; have b := rng32 (x - y); omega
theorem own_imulE (x y : Int32) (h : -2147483648 ≤ x.toInt * y.toInt ∧ x.toInt * y.toInt < 2147483648) : (x * y).toInt = x.toInt * y.toInt := by
  have a := c_imul x y; have b := rng32 (x * y); omega
theorem own_inegE (x : Int32) (h : -2147483648 ≤ -x.toInt ∧ -x.toInt < 2147483648) : (-x).toInt = -x.toInt := by
  have a := c_ineg x; have b := rng32 (-x); omega
theorem own_laddE (x y : Int64) (h : -9223372036854775808 ≤ x.toInt + y.toInt ∧ x.toInt + y.toInt < 9223372036854775808) : (x + y).toInt = x.toInt + y.toInt := by
  have a := c_ladd x y; have b := rng64 (x + y); omega
theorem own_lsubE (x y : Int64) (h : -9223372036854775808 ≤ x.toInt - y.toInt ∧ x.toInt - y.toInt < 9223372036854775808) : (x - y).toInt = x.toInt - y.toInt := by
  have a := c_lsub x y; have b := rng64 (x - y); omega
theorem own_lmulE (x y : Int64) (h : -9223372036854775808 ≤ x.toInt * y.toInt ∧ x.toInt * y.toInt < 9223372036854775808) : (x * y).toInt = x.toInt * y.toInt := by
  have a := c_lmul x y; have b := rng64 (x * y); omega
theorem own_lnegE (x : Int64) (h : -9223372036854775808 ≤ -x.toInt ∧ -x.toInt < 9223372036854775808) : (-x).toInt = -x.toInt := by
  have a := c_lneg x; have b := rng64 (-x); omega
theorem own_l2iE (x : Int64) (h : -2147483648 ≤ x.toInt ∧ x.toInt < 2147483648) : x.toInt32.toInt = x.toInt := by
  have a := c_l2i x; have b := rng32 x.toInt32; omega
theorem own_ushB (x q : Int32) (k : Nat) (hk : q.toBitVec.toNat % 32 = k) (h0 : 0 < k) (M : Nat) (hM : M * 2 ^ k = 4294967296) : 0 ≤ ((x.toUInt32 >>> (q &&& 31).toUInt32).toInt32).toInt ∧ ((x.toUInt32 >>> (q &&& 31).toUInt32).toInt32).toInt < M := by
  rw [c_iushr x q k hk h0]
  have h2 : (0 : Int) < ((2 ^ k : Nat) : Int) := Int.natCast_pos.mpr (Nat.pow_pos (by decide))
  refine ⟨Int.ediv_nonneg (by omega) (Int.le_of_lt h2), Int.ediv_lt_of_lt_mul h2 ?_⟩
  have q : ((M : Int)) * ((2 ^ k : Nat) : Int) = 4294967296 := by rw [← Int.natCast_mul, hM]; rfl
  omega
theorem own_irem (x y : Int32) (d : Int) (hy : y.toInt = d) : (0 ≤ x.toInt → (x % y).toInt = x.toInt % d) ∧ (x.toInt < 0 → (x % y).toInt = -((-x.toInt) % d)) := c_irem x y d hy
theorem own_lrem (x y : Int64) (d : Int) (hy : y.toInt = d) : (0 ≤ x.toInt → (x % y).toInt = x.toInt % d) ∧ (x.toInt < 0 → (x % y).toInt = -((-x.toInt) % d)) := by rw [← lrem_mod]; exact c_lrem x y d hy
theorem own_iremV (x y : Int32) : (0 ≤ x.toInt → 0 < y.toInt → 0 ≤ (x % y).toInt ∧ (x % y).toInt < y.toInt ∧ (x % y).toInt ≤ x.toInt) := fun h1 h2 => ⟨((c_iremV x y).1 h1 h2).1, ((c_iremV x y).1 h1 h2).2.1, ((c_iremV x y).1 h1 h2).2.2.1⟩
theorem own_emod_le {a b : Int} (h1 : 0 ≤ a) (h2 : 0 < b) : a % b ≤ a := by
  have q := Int.emod_add_mul_ediv a b; have z : 0 ≤ b * (a / b) := Int.mul_nonneg (Int.le_of_lt h2) (Int.ediv_nonneg h1 (Int.le_of_lt h2)); omega
theorem own_lremV (x y : Int64) : (0 ≤ x.toInt → 0 < y.toInt → 0 ≤ (x % y).toInt ∧ (x % y).toInt < y.toInt ∧ (x % y).toInt ≤ x.toInt) := fun h1 h2 => by
  rw [Int64.toInt_mod, Int.tmod_eq_emod_of_nonneg h1]
  exact ⟨Int.emod_nonneg _ (by omega), Int.emod_lt_of_pos _ h2, own_emod_le h1 h2⟩
theorem own_iremP (x y : Int32) (d : Int) (hy : y.toInt = d) (h0 : 0 ≤ x.toInt) : (x % y).toInt = x.toInt % d := (own_irem x y d hy).1 h0
theorem own_iremB (x y : Int32) (d : Int) (hy : y.toInt = d) (hd : 0 < d) (h0 : 0 ≤ x.toInt) : 0 ≤ (x % y).toInt ∧ (x % y).toInt < d ∧ (x % y).toInt ≤ x.toInt := by
  rw [own_iremP x y d hy h0]; exact ⟨Int.emod_nonneg _ (by omega), Int.emod_lt_of_pos _ hd, own_emod_le h0 hd⟩
theorem own_iremM (x y : Int32) (d : Int) (hy : y.toInt = d) (hd : 0 < d) : -d < (x % y).toInt ∧ (x % y).toInt < d := by
  rcases Int.lt_or_le x.toInt 0 with h | h
  · rw [(own_irem x y d hy).2 h]; have a := Int.emod_nonneg (-x.toInt) (b := d) (by omega); have b := Int.emod_lt_of_pos (-x.toInt) hd; omega
  · have q := own_iremB x y d hy hd h; omega
theorem own_lremP (x y : Int64) (d : Int) (hy : y.toInt = d) (h0 : 0 ≤ x.toInt) : (x % y).toInt = x.toInt % d := (own_lrem x y d hy).1 h0
theorem own_lremB (x y : Int64) (d : Int) (hy : y.toInt = d) (hd : 0 < d) (h0 : 0 ≤ x.toInt) : 0 ≤ (x % y).toInt ∧ (x % y).toInt < d ∧ (x % y).toInt ≤ x.toInt := by
  rw [own_lremP x y d hy h0]; exact ⟨Int.emod_nonneg _ (by omega), Int.emod_lt_of_pos _ hd, own_emod_le h0 hd⟩
theorem own_lremM (x y : Int64) (d : Int) (hy : y.toInt = d) (hd : 0 < d) : -d < (x % y).toInt ∧ (x % y).toInt < d := by
  rcases Int.lt_or_le x.toInt 0 with h | h
  · rw [(own_lrem x y d hy).2 h]; have a := Int.emod_nonneg (-x.toInt) (b := d) (by omega); have b := Int.emod_lt_of_pos (-x.toInt) hd; omega
  · have q := own_lremB x y d hy hd h; omega
theorem own_bor (A B : Prop) [Decidable A] [Decidable B] : bI A ||| bI B = bI (A ∨ B) := by unfold bI; by_cases a : A <;> by_cases b : B <;> simp [a, b] <;> decide
theorem own_band (A B : Prop) [Decidable A] [Decidable B] : bI A &&& bI B = bI (A ∧ B) := by unfold bI; by_cases a : A <;> by_cases b : B <;> simp [a, b] <;> decide
def Apart (a b : Addr) : Prop := a ≠ b
theorem own_apS {a b : Addr} (h : Apart a b) : Apart b a := Ne.symm h
theorem own_new {h : Heap} {a b : Addr} (hb : b = h.size) (ha : a < h.size) : Apart a b := by subst hb; exact Nat.ne_of_lt ha
theorem own_sz {h0 h : Heap} {b : Addr} {ws : List Addr} (hb : b = h.size) (K : Keep h0 h ws) : h0.size ≤ b := by subst hb; exact K.1
theorem own_far {h : Heap} {a b : Addr} (ha : a < h.size) (hb : h.size ≤ b) : Apart a b := Nat.ne_of_lt (Nat.lt_of_lt_of_le ha hb)
theorem own_narZ {z : Int32} (hz : z = 0 ∨ z = 1) : narrow .boolean (.int z) = .int z := by rcases hz with rfl | rfl <;> rfl
theorem own_fitZ {z : Int32} (hz : z = 0 ∨ z = 1) : fits .boolean (.int z) = true := by rcases hz with rfl | rfl <;> rfl
theorem own_narZ' {z : Int32} (hz : z = 0 ∨ z = 1) : nar .boolean z = z := by rcases hz with rfl | rfl <;> rfl
theorem own_fin {c : Prop} [Decidable c] (h : c) : (some (Value.int (bI c))) = some (Value.int 1) := by rw [← bI_t h]
def own_up {α : Type} (f : Nat → α) (i : Nat) (x : α) : Nat → α := fun k => if k = i then x else f k
def AI (Z : State) (h : Heap) (a : Addr) (ty : FieldType) (n : Nat) (f : Nat → Int32) : Prop := n < 2 ^ 31 ∧ ∃ c : Cell, Arr Z h a c ty ∧ c.slots.size = n ∧ ∀ j, j < n → c.slots[j]? = some (.int (f j))
def AJ (Z : State) (h : Heap) (a : Addr) (n : Nat) (f : Nat → Int64) : Prop := n < 2 ^ 31 ∧ ∃ c : Cell, Arr Z h a c .long ∧ c.slots.size = n ∧ ∀ j, j < n → c.slots[j]? = some (.long (f j))
theorem AI.lt {Z : State} {h : Heap} {a : Addr} {ty : FieldType} {n : Nat} {f : Nat → Int32} (A : AI Z h a ty n f) : a < h.size := by obtain ⟨_, c, A, _⟩ := A; exact A.lt
theorem AI.ext {Z : State} {h h' : Heap} {a : Addr} {ty : FieldType} {n : Nat} {f : Nat → Int32} (A : AI Z h a ty n f) (E : Ext h h') : AI Z h' a ty n f := by obtain ⟨q, c, A, r⟩ := A; exact ⟨q, c, A.ext E, r⟩
theorem AI.keep {Z : State} {h h' : Heap} {a : Addr} {ws : List Addr} {ty : FieldType} {n : Nat} {f : Nat → Int32} (A : AI Z h a ty n f) (K : Keep h h' ws) (q : a ∉ ws) : AI Z h' a ty n f := by obtain ⟨z, c, A, r⟩ := A; exact ⟨z, c, ⟨K.2.1 a c A.1 q, A.2⟩, r⟩
theorem AI.other {Z : State} {h h' : Heap} {a b : Addr} {sl : Nat} {w : Value} {ty : FieldType} {n : Nat} {f : Nat → Int32} (A : AI Z h a ty n f) (W : Wr h h' b sl w) (q : a ≠ b) : AI Z h' a ty n f := by obtain ⟨z, c, A, r⟩ := A; exact ⟨z, c, A.other W q, r⟩
theorem AI.set {Z : State} {h h' : Heap} {a : Addr} {i : Nat} {x : Int32} {ty : FieldType} {n : Nat} {f : Nat → Int32} (A : AI Z h a ty n f) (W : Wr h h' a i (.int x)) : AI Z h' a ty n (own_up f i x) := by
  obtain ⟨z, c, A, r1, r2⟩ := A
  refine ⟨z, _, A.same W, by rw [sz_set]; exact r1, fun j hj => ?_⟩
  by_cases q : j = i
  · subst q; simp [Cell.setSlot, own_up, r1, hj]
  · simp only [Cell.setSlot, own_up, if_neg q]; rw [Array.getElem?_setIfInBounds_ne (Ne.symm q)]; exact r2 j hj
theorem AI.to {Z : State} {h : Heap} {a : Addr} {ty : FieldType} {n : Nat} {f g : Nat → Int32} (A : AI Z h a ty n f) (q : ∀ j, j < n → f j = g j) : AI Z h a ty n g := by obtain ⟨z, c, A, r1, r2⟩ := A; exact ⟨z, c, A, r1, fun j hj => by rw [← q j hj]; exact r2 j hj⟩
theorem AJ.lt {Z : State} {h : Heap} {a : Addr} {n : Nat} {f : Nat → Int64} (A : AJ Z h a n f) : a < h.size := by obtain ⟨_, c, A, _⟩ := A; exact A.lt
theorem AJ.ext {Z : State} {h h' : Heap} {a : Addr} {n : Nat} {f : Nat → Int64} (A : AJ Z h a n f) (E : Ext h h') : AJ Z h' a n f := by obtain ⟨q, c, A, r⟩ := A; exact ⟨q, c, A.ext E, r⟩
theorem AJ.keep {Z : State} {h h' : Heap} {a : Addr} {ws : List Addr} {n : Nat} {f : Nat → Int64} (A : AJ Z h a n f) (K : Keep h h' ws) (q : a ∉ ws) : AJ Z h' a n f := by obtain ⟨z, c, A, r⟩ := A; exact ⟨z, c, ⟨K.2.1 a c A.1 q, A.2⟩, r⟩
theorem AJ.other {Z : State} {h h' : Heap} {a b : Addr} {sl : Nat} {w : Value} {n : Nat} {f : Nat → Int64} (A : AJ Z h a n f) (W : Wr h h' b sl w) (q : a ≠ b) : AJ Z h' a n f := by obtain ⟨z, c, A, r⟩ := A; exact ⟨z, c, A.other W q, r⟩
theorem AJ.set {Z : State} {h h' : Heap} {a : Addr} {i : Nat} {x : Int64} {n : Nat} {f : Nat → Int64} (A : AJ Z h a n f) (W : Wr h h' a i (.long x)) : AJ Z h' a n (own_up f i x) := by
  obtain ⟨z, c, A, r1, r2⟩ := A
  refine ⟨z, _, A.same W, by rw [sz_set]; exact r1, fun j hj => ?_⟩
  by_cases q : j = i
  · subst q; simp [Cell.setSlot, own_up, r1, hj]
  · simp only [Cell.setSlot, own_up, if_neg q]; rw [Array.getElem?_setIfInBounds_ne (Ne.symm q)]; exact r2 j hj
theorem AJ.to {Z : State} {h : Heap} {a : Addr} {n : Nat} {f g : Nat → Int64} (A : AJ Z h a n f) (q : ∀ j, j < n → f j = g j) : AJ Z h a n g := by obtain ⟨z, c, A, r1, r2⟩ := A; exact ⟨z, c, A, r1, fun j hj => by rw [← q j hj]; exact r2 j hj⟩
theorem own_ix {j : Int32} {n k : Nat} (hk : k = n) (q : 0 ≤ j.toInt ∧ j.toInt < n) : ¬ (j < 0 ∨ k ≤ j.toNatClampNeg) := by
  simp only [Int32.lt_iff_toInt_lt, Int32.toNatClampNeg, Int32.reduceToInt]; omega
theorem own_ixn {j : Int32} {n : Nat} (q : 0 ≤ j.toInt ∧ j.toInt < n) : j.toNatClampNeg < n := by simp only [Int32.toNatClampNeg]; omega
section Walk
variable {Z : State} {a0 : Array Value} {own nm : String} {bytes : ByteArray} {ml : Nat} {ret : Option FieldType} {R : Room} {n0 : Nat} {p : Program} {l : Launch} {e : Env} {s : State} {m : MethodId} {args : Array Value} {below : List Frame} {meth : Method} {c : Code} {T : State} {cells slots : Nat} {h : Heap} {Q : Option Value → Heap → Prop}
theorem Met.intro {y : MethodName} {as : Array Value} {h0 : Heap} {ws : List Jvm.Cond} (hp : plainFor y = true) (hn : n0 ≤ h0.size)
    (body : ∀ p e s m below meth c T, Wk Z y.cls y.name bytes ml ret R n0 p l e s m as below meth c T 0 0 h0 → Goes p e below s R n0 Q (T.setTop (entryFrame m as ml))) : Met l Z y bytes ml ret R ws n0 as h0 Q := by
  refine MetFree.of_bodySF hp hisR ?_
  intro p e s m args below meth c s₁ Bd hml0 hP hK
  obtain ⟨rfl, hZ, hh⟩ := hP
  have e0 : s₁.heap = h0 := by rw [← hh, Bd.state]; rfl
  exact body p e s m below meth c s₁ ⟨[], Stand.of_body Bd, Fr.nil n0, e0, by rw [hh]; exact hn, Bd.exec, hZ, Bd.bytes, hml0, findClass_of_methodNamed Bd.named, (name_of_methodNamed Bd.named Bd.method).1, Bd.returns, Bd.notSynchronized⟩
theorem g_of {A B : State} (hs : ∀ t, Steps p.tables e below A t → Steps p.tables e below B t) (k : Goes p e below s R n0 Q A) : Goes p e below s R n0 Q B := by
  obtain ⟨s2, o, h1, h2⟩ := k
  exact ⟨s2, o, hs _ h1, h2⟩
theorem g_cast {g g' : JFrame} (q : g = g') (k : Goes p e below s R n0 Q (T.setTop g')) : Goes p e below s R n0 Q (T.setTop g) := q ▸ k
theorem g_eqI {pc : Nat} {Ls : Array Slot} {x y : Int32} {rest : List Value} (q : x = y) (k : Goes p e below s R n0 Q (T.setTop (mkF m pc Ls (.int y :: rest)))) : Goes p e below s R n0 Q (T.setTop (mkF m pc Ls (.int x :: rest))) := q ▸ k
theorem g_eqJ {pc : Nat} {Ls : Array Slot} {x y : Int64} {rest : List Value} (q : x = y) (k : Goes p e below s R n0 Q (T.setTop (mkF m pc Ls (.long y :: rest)))) : Goes p e below s R n0 Q (T.setTop (mkF m pc Ls (.long x :: rest))) := q ▸ k
theorem g_letJ {pc : Nat} {Ls : Array Slot} {x : Int64} {rest : List Value} (k : ∀ y, y = x → Goes p e below s R n0 Q (T.setTop (mkF m pc Ls (.long y :: rest)))) : Goes p e below s R n0 Q (T.setTop (mkF m pc Ls (.long x :: rest))) := k x rfl
theorem g_letI {pc : Nat} {Ls : Array Slot} {x : Int32} {rest : List Value} (k : ∀ y, y = x → Goes p e below s R n0 Q (T.setTop (mkF m pc Ls (.int y :: rest)))) : Goes p e below s R n0 Q (T.setTop (mkF m pc Ls (.int x :: rest))) := k x rfl
theorem Wk.size (X : Wk Z own nm bytes ml ret R n0 p l e s m args below meth c T cells slots h) : n0 ≤ h.size := by
  obtain ⟨locs, X, N, eh, hn, hx, hZ, hby, hml, hown, hnm, hret, hlk⟩ := X
  have q : s.heap.size ≤ T.heap.size := X.same.2.1
  rw [eh] at q
  exact Nat.le_trans hn q
theorem Wk.mono (X : Wk Z own nm bytes ml ret R n0 p l e s m args below meth c T cells slots h) {cells' slots' : Nat} (hc : cells ≤ cells') (hs : slots ≤ slots') : Wk Z own nm bytes ml ret R n0 p l e s m args below meth c T cells' slots' h := by
  obtain ⟨locs, X, N, eh, hn, hx, hZ, hby, hml, hown, hnm, hret, hlk⟩ := X
  exact ⟨locs, X.mono hc hs, N, eh, hn, hx, hZ, hby, hml, hown, hnm, hret, hlk⟩
theorem g_out (X : Wk Z own nm bytes ml ret R n0 p l e s m args below meth c T cells slots h) {g : JFrame} {v : Option Value} (hv : ret = none → v = none) (hc : cells ≤ R.cells) (hs : slots ≤ R.slots)
    (st : ∀ locs, Stand p l e R s m args below meth c T locs cells slots → p.tables.exec = Jvm.exec → meth.sig.returnType = ret → c.code = bytes → ∀ fs, (∀ (f : JFrame) (acts : List Action), f.method = m → f.locked = none → f.entered = [] → (doReturn e (T.setTop f) acts v).1 = T.setFrames fs) → Steps p.tables e below (T.setTop g) (T.setFrames fs))
    (hQ : Q v h) : Goes p e below s R n0 Q (T.setTop g) := by
  obtain ⟨locs, X, N, eh, hn, hx, hZ, hby, hml, hown, hnm, hret, hlk⟩ := X
  obtain ⟨fs, hr, hrun, hended, hW, hsame⟩ := X.leave (v := v) (fun q => hv (hret ▸ q)) hlk
  exact ⟨_, _, st _ X hx hret hby fs hr, hrun, hended, _, _, rfl, ⟨N, by rw [show (T.setFrames fs).heap = T.heap from rfl, eh]; exact hQ⟩, ⟨_, rfl⟩, hW, hsame.mono hc hs⟩
theorem g_retI (X : Wk Z own nm bytes ml (some .int) R n0 p l e s m args below meth c T cells slots h) {pc : Nat} {Ls : Array Slot} {z : Int32} {rest : List Value} (hd : decode bytes pc = .ok (.ireturn, 1)) (hc : cells ≤ R.cells) (hs : slots ≤ R.slots) (hQ : Q (some (.int z)) h) : Goes p e below s R n0 Q (T.setTop (mkF m pc Ls (.int z :: rest))) :=
  g_out X nofun hc hs (fun _ Y hx hr hb fs hl => retOut Y hx hr rfl (Or.inl ⟨rfl, Or.inl rfl, _, rfl⟩) (hb ▸ hd) hl) hQ
theorem g_retZ (X : Wk Z own nm bytes ml (some .boolean) R n0 p l e s m args below meth c T cells slots h) {pc : Nat} {Ls : Array Slot} {z : Int32} {rest : List Value} (hd : decode bytes pc = .ok (.ireturn, 1)) (hc : cells ≤ R.cells) (hs : slots ≤ R.slots) (hz : z = 0 ∨ z = 1) (hQ : Q (some (.int z)) h) : Goes p e below s R n0 Q (T.setTop (mkF m pc Ls (.int z :: rest))) :=
  g_out X nofun hc hs (fun _ Y hx hr hb fs hl => retOut Y hx hr (by rcases hz with rfl | rfl <;> rfl) (Or.inl ⟨rfl, Or.inr (Or.inl rfl), _, rfl⟩) (hb ▸ hd) hl) hQ
theorem g_retJ (X : Wk Z own nm bytes ml (some .long) R n0 p l e s m args below meth c T cells slots h) {pc : Nat} {Ls : Array Slot} {z : Int64} {rest : List Value} (hd : decode bytes pc = .ok (.lreturn, 1)) (hc : cells ≤ R.cells) (hs : slots ≤ R.slots) (hQ : Q (some (.long z)) h) : Goes p e below s R n0 Q (T.setTop (mkF m pc Ls (.long z :: rest))) :=
  g_out X nofun hc hs (fun _ Y hx hr hb fs hl => retOut Y hx hr rfl (Or.inr (Or.inl ⟨rfl, rfl, _, rfl⟩)) (hb ▸ hd) hl) hQ
theorem g_retA {t : FieldType} (X : Wk Z own nm bytes ml (some t) R n0 p l e s m args below meth c T cells slots h) (ht : t.isReference = true) {pc : Nat} {Ls : Array Slot} {w : Value} (hw : w.isRef = true) {rest : List Value} (hd : decode bytes pc = .ok (.areturn, 1)) (hc : cells ≤ R.cells) (hs : slots ≤ R.slots) (hQ : Q (some w) h) : Goes p e below s R n0 Q (T.setTop (mkF m pc Ls (w :: rest))) :=
  g_out X nofun hc hs (fun _ Y hx hr hb fs hl => retOut Y hx hr (by cases t <;> simp_all [narrow, FieldType.isReference]) (Or.inr (Or.inr (Or.inr (Or.inr ⟨rfl, ht, hw⟩)))) (hb ▸ hd) hl) hQ
theorem g_ret0 (X : Wk Z own nm bytes ml none R n0 p l e s m args below meth c T cells slots h) {pc : Nat} {Ls : Array Slot} (hd : decode bytes pc = .ok (.return_, 1)) (hc : cells ≤ R.cells) (hs : slots ≤ R.slots) (hQ : Q none h) : Goes p e below s R n0 Q (T.setTop (mkF m pc Ls [])) :=
  g_out X (fun _ => rfl) hc hs (fun _ Y hx hr hb fs hl => Y.returnOut hx hr (hb ▸ hd) hl) hQ
theorem g_lcmp (X : Wk Z own nm bytes ml ret R n0 p l e s m args below meth c T cells slots h) {pc q : Nat} {Ls : Array Slot} {rest : List Value} {x y : Int64} (hd : decode bytes pc = .ok (.lcmp, 1)) (hq : pc + 1 = q) (k : Goes p e below s R n0 Q (T.setTop (mkF m q Ls (.int (lcmpW x y) :: rest)))) : Goes p e below s R n0 Q (T.setTop (mkF m pc Ls (.long y :: .long x :: rest))) := by
  obtain ⟨locs, X, N, eh, hn, hx, hZ, hby, hml, hown, hnm, hret, hlk⟩ := X
  subst hby hq
  exact g_of (fun t r => XS.lcmp X.here hx rfl hd rfl r) k
theorem g_iadd (X : Wk Z own nm bytes ml ret R n0 p l e s m args below meth c T cells slots h) {pc q : Nat} {Ls : Array Slot} {rest : List Value} {x y : Int32} (hd : decode bytes pc = .ok (.iadd, 1)) (hq : pc + 1 = q) (k : Goes p e below s R n0 Q (T.setTop (mkF m q Ls (.int (x + y) :: rest)))) : Goes p e below s R n0 Q (T.setTop (mkF m pc Ls (.int y :: .int x :: rest))) := by
  obtain ⟨locs, X, N, eh, hn, hx, hZ, hby, hml, hown, hnm, hret, hlk⟩ := X
  subst hby hq
  exact g_of (fun t r => XS.iadd X.here hx rfl hd rfl r) k
theorem g_isub (X : Wk Z own nm bytes ml ret R n0 p l e s m args below meth c T cells slots h) {pc q : Nat} {Ls : Array Slot} {rest : List Value} {x y : Int32} (hd : decode bytes pc = .ok (.isub, 1)) (hq : pc + 1 = q) (k : Goes p e below s R n0 Q (T.setTop (mkF m q Ls (.int (x - y) :: rest)))) : Goes p e below s R n0 Q (T.setTop (mkF m pc Ls (.int y :: .int x :: rest))) := by
  obtain ⟨locs, X, N, eh, hn, hx, hZ, hby, hml, hown, hnm, hret, hlk⟩ := X
  subst hby hq
  exact g_of (fun t r => XS.isub X.here hx rfl hd rfl r) k
theorem g_imul (X : Wk Z own nm bytes ml ret R n0 p l e s m args below meth c T cells slots h) {pc q : Nat} {Ls : Array Slot} {rest : List Value} {x y : Int32} (hd : decode bytes pc = .ok (.imul, 1)) (hq : pc + 1 = q) (k : Goes p e below s R n0 Q (T.setTop (mkF m q Ls (.int (x * y) :: rest)))) : Goes p e below s R n0 Q (T.setTop (mkF m pc Ls (.int y :: .int x :: rest))) := by
  obtain ⟨locs, X, N, eh, hn, hx, hZ, hby, hml, hown, hnm, hret, hlk⟩ := X
  subst hby hq
  exact g_of (fun t r => XS.imul X.here hx rfl hd rfl r) k
theorem g_iand (X : Wk Z own nm bytes ml ret R n0 p l e s m args below meth c T cells slots h) {pc q : Nat} {Ls : Array Slot} {rest : List Value} {x y : Int32} (hd : decode bytes pc = .ok (.iand, 1)) (hq : pc + 1 = q) (k : Goes p e below s R n0 Q (T.setTop (mkF m q Ls (.int (x &&& y) :: rest)))) : Goes p e below s R n0 Q (T.setTop (mkF m pc Ls (.int y :: .int x :: rest))) := by
  obtain ⟨locs, X, N, eh, hn, hx, hZ, hby, hml, hown, hnm, hret, hlk⟩ := X
  subst hby hq
  exact g_of (fun t r => XS.iand X.here hx rfl hd rfl r) k
theorem g_ior (X : Wk Z own nm bytes ml ret R n0 p l e s m args below meth c T cells slots h) {pc q : Nat} {Ls : Array Slot} {rest : List Value} {x y : Int32} (hd : decode bytes pc = .ok (.ior, 1)) (hq : pc + 1 = q) (k : Goes p e below s R n0 Q (T.setTop (mkF m q Ls (.int (x ||| y) :: rest)))) : Goes p e below s R n0 Q (T.setTop (mkF m pc Ls (.int y :: .int x :: rest))) := by
  obtain ⟨locs, X, N, eh, hn, hx, hZ, hby, hml, hown, hnm, hret, hlk⟩ := X
  subst hby hq
  exact g_of (fun t r => XS.ior X.here hx rfl hd rfl r) k
theorem g_ixor (X : Wk Z own nm bytes ml ret R n0 p l e s m args below meth c T cells slots h) {pc q : Nat} {Ls : Array Slot} {rest : List Value} {x y : Int32} (hd : decode bytes pc = .ok (.ixor, 1)) (hq : pc + 1 = q) (k : Goes p e below s R n0 Q (T.setTop (mkF m q Ls (.int (x ^^^ y) :: rest)))) : Goes p e below s R n0 Q (T.setTop (mkF m pc Ls (.int y :: .int x :: rest))) := by
  obtain ⟨locs, X, N, eh, hn, hx, hZ, hby, hml, hown, hnm, hret, hlk⟩ := X
  subst hby hq
  exact g_of (fun t r => XS.ixor X.here hx rfl hd rfl r) k
theorem g_ladd (X : Wk Z own nm bytes ml ret R n0 p l e s m args below meth c T cells slots h) {pc q : Nat} {Ls : Array Slot} {rest : List Value} {x y : Int64} (hd : decode bytes pc = .ok (.ladd, 1)) (hq : pc + 1 = q) (k : Goes p e below s R n0 Q (T.setTop (mkF m q Ls (.long (x + y) :: rest)))) : Goes p e below s R n0 Q (T.setTop (mkF m pc Ls (.long y :: .long x :: rest))) := by
  obtain ⟨locs, X, N, eh, hn, hx, hZ, hby, hml, hown, hnm, hret, hlk⟩ := X
  subst hby hq
  exact g_of (fun t r => XS.ladd X.here hx rfl hd rfl r) k
theorem g_lsub (X : Wk Z own nm bytes ml ret R n0 p l e s m args below meth c T cells slots h) {pc q : Nat} {Ls : Array Slot} {rest : List Value} {x y : Int64} (hd : decode bytes pc = .ok (.lsub, 1)) (hq : pc + 1 = q) (k : Goes p e below s R n0 Q (T.setTop (mkF m q Ls (.long (x - y) :: rest)))) : Goes p e below s R n0 Q (T.setTop (mkF m pc Ls (.long y :: .long x :: rest))) := by
  obtain ⟨locs, X, N, eh, hn, hx, hZ, hby, hml, hown, hnm, hret, hlk⟩ := X
  subst hby hq
  exact g_of (fun t r => XS.lsub X.here hx rfl hd rfl r) k
theorem g_lmul (X : Wk Z own nm bytes ml ret R n0 p l e s m args below meth c T cells slots h) {pc q : Nat} {Ls : Array Slot} {rest : List Value} {x y : Int64} (hd : decode bytes pc = .ok (.lmul, 1)) (hq : pc + 1 = q) (k : Goes p e below s R n0 Q (T.setTop (mkF m q Ls (.long (x * y) :: rest)))) : Goes p e below s R n0 Q (T.setTop (mkF m pc Ls (.long y :: .long x :: rest))) := by
  obtain ⟨locs, X, N, eh, hn, hx, hZ, hby, hml, hown, hnm, hret, hlk⟩ := X
  subst hby hq
  exact g_of (fun t r => XS.lmul X.here hx rfl hd rfl r) k
theorem g_land (X : Wk Z own nm bytes ml ret R n0 p l e s m args below meth c T cells slots h) {pc q : Nat} {Ls : Array Slot} {rest : List Value} {x y : Int64} (hd : decode bytes pc = .ok (.land, 1)) (hq : pc + 1 = q) (k : Goes p e below s R n0 Q (T.setTop (mkF m q Ls (.long (x &&& y) :: rest)))) : Goes p e below s R n0 Q (T.setTop (mkF m pc Ls (.long y :: .long x :: rest))) := by
  obtain ⟨locs, X, N, eh, hn, hx, hZ, hby, hml, hown, hnm, hret, hlk⟩ := X
  subst hby hq
  exact g_of (fun t r => XS.land X.here hx rfl hd rfl r) k
theorem g_lor (X : Wk Z own nm bytes ml ret R n0 p l e s m args below meth c T cells slots h) {pc q : Nat} {Ls : Array Slot} {rest : List Value} {x y : Int64} (hd : decode bytes pc = .ok (.lor, 1)) (hq : pc + 1 = q) (k : Goes p e below s R n0 Q (T.setTop (mkF m q Ls (.long (x ||| y) :: rest)))) : Goes p e below s R n0 Q (T.setTop (mkF m pc Ls (.long y :: .long x :: rest))) := by
  obtain ⟨locs, X, N, eh, hn, hx, hZ, hby, hml, hown, hnm, hret, hlk⟩ := X
  subst hby hq
  exact g_of (fun t r => XS.lor X.here hx rfl hd rfl r) k
theorem g_lxor (X : Wk Z own nm bytes ml ret R n0 p l e s m args below meth c T cells slots h) {pc q : Nat} {Ls : Array Slot} {rest : List Value} {x y : Int64} (hd : decode bytes pc = .ok (.lxor, 1)) (hq : pc + 1 = q) (k : Goes p e below s R n0 Q (T.setTop (mkF m q Ls (.long (x ^^^ y) :: rest)))) : Goes p e below s R n0 Q (T.setTop (mkF m pc Ls (.long y :: .long x :: rest))) := by
  obtain ⟨locs, X, N, eh, hn, hx, hZ, hby, hml, hown, hnm, hret, hlk⟩ := X
  subst hby hq
  exact g_of (fun t r => XS.lxor X.here hx rfl hd rfl r) k
theorem g_idiv (X : Wk Z own nm bytes ml ret R n0 p l e s m args below meth c T cells slots h) {pc q : Nat} {Ls : Array Slot} {rest : List Value} {x y : Int32} (hd : decode bytes pc = .ok (.idiv, 1)) (hq : pc + 1 = q) (hy : y ≠ 0) (k : Goes p e below s R n0 Q (T.setTop (mkF m q Ls (.int (x / y) :: rest)))) : Goes p e below s R n0 Q (T.setTop (mkF m pc Ls (.int y :: .int x :: rest))) := by
  obtain ⟨locs, X, N, eh, hn, hx, hZ, hby, hml, hown, hnm, hret, hlk⟩ := X
  subst hby hq
  exact g_of (fun t r => XS.idiv X.here hx rfl hd rfl hy r) k
theorem g_irem (X : Wk Z own nm bytes ml ret R n0 p l e s m args below meth c T cells slots h) {pc q : Nat} {Ls : Array Slot} {rest : List Value} {x y : Int32} (hd : decode bytes pc = .ok (.irem, 1)) (hq : pc + 1 = q) (hy : y ≠ 0) (k : Goes p e below s R n0 Q (T.setTop (mkF m q Ls (.int (x % y) :: rest)))) : Goes p e below s R n0 Q (T.setTop (mkF m pc Ls (.int y :: .int x :: rest))) := by
  obtain ⟨locs, X, N, eh, hn, hx, hZ, hby, hml, hown, hnm, hret, hlk⟩ := X
  subst hby hq
  exact g_of (fun t r => XS.irem X.here hx rfl hd rfl hy (by rw [irem_eq_mod x y]; exact r)) k
theorem g_ldiv (X : Wk Z own nm bytes ml ret R n0 p l e s m args below meth c T cells slots h) {pc q : Nat} {Ls : Array Slot} {rest : List Value} {x y : Int64} (hd : decode bytes pc = .ok (.ldiv, 1)) (hq : pc + 1 = q) (hy : y ≠ 0) (k : Goes p e below s R n0 Q (T.setTop (mkF m q Ls (.long (x / y) :: rest)))) : Goes p e below s R n0 Q (T.setTop (mkF m pc Ls (.long y :: .long x :: rest))) := by
  obtain ⟨locs, X, N, eh, hn, hx, hZ, hby, hml, hown, hnm, hret, hlk⟩ := X
  subst hby hq
  exact g_of (fun t r => XS.ldiv X.here hx rfl hd rfl hy r) k
theorem g_lrem (X : Wk Z own nm bytes ml ret R n0 p l e s m args below meth c T cells slots h) {pc q : Nat} {Ls : Array Slot} {rest : List Value} {x y : Int64} (hd : decode bytes pc = .ok (.lrem, 1)) (hq : pc + 1 = q) (hy : y ≠ 0) (k : Goes p e below s R n0 Q (T.setTop (mkF m q Ls (.long (x % y) :: rest)))) : Goes p e below s R n0 Q (T.setTop (mkF m pc Ls (.long y :: .long x :: rest))) := by
  obtain ⟨locs, X, N, eh, hn, hx, hZ, hby, hml, hown, hnm, hret, hlk⟩ := X
  subst hby hq
  exact g_of (fun t r => XS.lrem X.here hx rfl hd rfl hy (by rw [lrem_mod x y]; exact r)) k
theorem g_ineg (X : Wk Z own nm bytes ml ret R n0 p l e s m args below meth c T cells slots h) {pc q : Nat} {Ls : Array Slot} {rest : List Value} {x : Int32} (hd : decode bytes pc = .ok (.ineg, 1)) (hq : pc + 1 = q) (k : Goes p e below s R n0 Q (T.setTop (mkF m q Ls (.int (-x) :: rest)))) : Goes p e below s R n0 Q (T.setTop (mkF m pc Ls (.int x :: rest))) := by
  obtain ⟨locs, X, N, eh, hn, hx, hZ, hby, hml, hown, hnm, hret, hlk⟩ := X
  subst hby hq
  exact g_of (fun t r => XS.ineg X.here hx rfl hd rfl r) k
theorem g_lneg (X : Wk Z own nm bytes ml ret R n0 p l e s m args below meth c T cells slots h) {pc q : Nat} {Ls : Array Slot} {rest : List Value} {x : Int64} (hd : decode bytes pc = .ok (.lneg, 1)) (hq : pc + 1 = q) (k : Goes p e below s R n0 Q (T.setTop (mkF m q Ls (.long (-x) :: rest)))) : Goes p e below s R n0 Q (T.setTop (mkF m pc Ls (.long x :: rest))) := by
  obtain ⟨locs, X, N, eh, hn, hx, hZ, hby, hml, hown, hnm, hret, hlk⟩ := X
  subst hby hq
  exact g_of (fun t r => XS.lneg X.here hx rfl hd rfl r) k
theorem g_i2l (X : Wk Z own nm bytes ml ret R n0 p l e s m args below meth c T cells slots h) {pc q : Nat} {Ls : Array Slot} {rest : List Value} {x : Int32} (hd : decode bytes pc = .ok (.i2l, 1)) (hq : pc + 1 = q) (k : Goes p e below s R n0 Q (T.setTop (mkF m q Ls (.long x.toInt64 :: rest)))) : Goes p e below s R n0 Q (T.setTop (mkF m pc Ls (.int x :: rest))) := by
  obtain ⟨locs, X, N, eh, hn, hx, hZ, hby, hml, hown, hnm, hret, hlk⟩ := X
  subst hby hq
  exact g_of (fun t r => XS.i2l X.here hx rfl hd rfl r) k
theorem g_l2i (X : Wk Z own nm bytes ml ret R n0 p l e s m args below meth c T cells slots h) {pc q : Nat} {Ls : Array Slot} {rest : List Value} {x : Int64} (hd : decode bytes pc = .ok (.l2i, 1)) (hq : pc + 1 = q) (k : Goes p e below s R n0 Q (T.setTop (mkF m q Ls (.int x.toInt32 :: rest)))) : Goes p e below s R n0 Q (T.setTop (mkF m pc Ls (.long x :: rest))) := by
  obtain ⟨locs, X, N, eh, hn, hx, hZ, hby, hml, hown, hnm, hret, hlk⟩ := X
  subst hby hq
  exact g_of (fun t r => XS.l2i X.here hx rfl hd rfl r) k
theorem g_i2b (X : Wk Z own nm bytes ml ret R n0 p l e s m args below meth c T cells slots h) {pc q : Nat} {Ls : Array Slot} {rest : List Value} {x : Int32} (hd : decode bytes pc = .ok (.i2b, 1)) (hq : pc + 1 = q) (k : Goes p e below s R n0 Q (T.setTop (mkF m q Ls (.int x.toInt8.toInt32 :: rest)))) : Goes p e below s R n0 Q (T.setTop (mkF m pc Ls (.int x :: rest))) := by
  obtain ⟨locs, X, N, eh, hn, hx, hZ, hby, hml, hown, hnm, hret, hlk⟩ := X
  subst hby hq
  exact g_of (fun t r => XS.i2b X.here hx rfl hd rfl r) k
theorem g_ishl (X : Wk Z own nm bytes ml ret R n0 p l e s m args below meth c T cells slots h) {pc q : Nat} {Ls : Array Slot} {rest : List Value} {x y : Int32} (hd : decode bytes pc = .ok (.ishl, 1)) (hq : pc + 1 = q) (k : Goes p e below s R n0 Q (T.setTop (mkF m q Ls (.int (x <<< (y &&& 31)) :: rest)))) : Goes p e below s R n0 Q (T.setTop (mkF m pc Ls (.int y :: .int x :: rest))) := by
  obtain ⟨locs, X, N, eh, hn, hx, hZ, hby, hml, hown, hnm, hret, hlk⟩ := X
  subst hby hq
  exact g_of (fun t r => XS.ishl X.here hx rfl hd rfl r) k
theorem g_ishr (X : Wk Z own nm bytes ml ret R n0 p l e s m args below meth c T cells slots h) {pc q : Nat} {Ls : Array Slot} {rest : List Value} {x y : Int32} (hd : decode bytes pc = .ok (.ishr, 1)) (hq : pc + 1 = q) (k : Goes p e below s R n0 Q (T.setTop (mkF m q Ls (.int (x >>> (y &&& 31)) :: rest)))) : Goes p e below s R n0 Q (T.setTop (mkF m pc Ls (.int y :: .int x :: rest))) := by
  obtain ⟨locs, X, N, eh, hn, hx, hZ, hby, hml, hown, hnm, hret, hlk⟩ := X
  subst hby hq
  exact g_of (fun t r => XS.ishr X.here hx rfl hd rfl r) k
theorem g_iushr (X : Wk Z own nm bytes ml ret R n0 p l e s m args below meth c T cells slots h) {pc q : Nat} {Ls : Array Slot} {rest : List Value} {x y : Int32} (hd : decode bytes pc = .ok (.iushr, 1)) (hq : pc + 1 = q) (k : Goes p e below s R n0 Q (T.setTop (mkF m q Ls (.int ((x.toUInt32 >>> (y &&& 31).toUInt32).toInt32) :: rest)))) : Goes p e below s R n0 Q (T.setTop (mkF m pc Ls (.int y :: .int x :: rest))) := by
  obtain ⟨locs, X, N, eh, hn, hx, hZ, hby, hml, hown, hnm, hret, hlk⟩ := X
  subst hby hq
  exact g_of (fun t r => XS.iushr X.here hx rfl hd rfl r) k
theorem g_lshl (X : Wk Z own nm bytes ml ret R n0 p l e s m args below meth c T cells slots h) {pc q : Nat} {Ls : Array Slot} {rest : List Value} {x : Int64} {y : Int32} (hd : decode bytes pc = .ok (.lshl, 1)) (hq : pc + 1 = q) (k : Goes p e below s R n0 Q (T.setTop (mkF m q Ls (.long (x <<< (y &&& 0x3f).toInt64) :: rest)))) : Goes p e below s R n0 Q (T.setTop (mkF m pc Ls (.int y :: .long x :: rest))) := by
  obtain ⟨locs, X, N, eh, hn, hx, hZ, hby, hml, hown, hnm, hret, hlk⟩ := X
  subst hby hq
  exact g_of (fun t r => XS.lshl X.here hx rfl hd rfl r) k
theorem g_lshr (X : Wk Z own nm bytes ml ret R n0 p l e s m args below meth c T cells slots h) {pc q : Nat} {Ls : Array Slot} {rest : List Value} {x : Int64} {y : Int32} (hd : decode bytes pc = .ok (.lshr, 1)) (hq : pc + 1 = q) (k : Goes p e below s R n0 Q (T.setTop (mkF m q Ls (.long (x >>> (y &&& 0x3f).toInt64) :: rest)))) : Goes p e below s R n0 Q (T.setTop (mkF m pc Ls (.int y :: .long x :: rest))) := by
  obtain ⟨locs, X, N, eh, hn, hx, hZ, hby, hml, hown, hnm, hret, hlk⟩ := X
  subst hby hq
  exact g_of (fun t r => XS.lshr X.here hx rfl hd rfl r) k
theorem g_lushr (X : Wk Z own nm bytes ml ret R n0 p l e s m args below meth c T cells slots h) {pc q : Nat} {Ls : Array Slot} {rest : List Value} {x : Int64} {y : Int32} (hd : decode bytes pc = .ok (.lushr, 1)) (hq : pc + 1 = q) (k : Goes p e below s R n0 Q (T.setTop (mkF m q Ls (.long ((x.toUInt64 >>> (y &&& 0x3f).toInt64.toUInt64).toInt64) :: rest)))) : Goes p e below s R n0 Q (T.setTop (mkF m pc Ls (.int y :: .long x :: rest))) := by
  obtain ⟨locs, X, N, eh, hn, hx, hZ, hby, hml, hown, hnm, hret, hlk⟩ := X
  subst hby hq
  exact g_of (fun t r => XS.lushr X.here hx rfl hd rfl r) k
theorem g_iload (X : Wk Z own nm bytes ml ret R n0 p l e s m args below meth c T cells slots h) {pc q : Nat} {Ls : Array Slot} {st : List Value} {i : Nat} {v : Int32} (hd : decode bytes pc = .ok (.iload i, 2)) (hq : pc + 2 = q) (hl : Ls[i]? = some (.val (.int v))) (k : Goes p e below s R n0 Q (T.setTop (mkF m q Ls (.int v :: st)))) : Goes p e below s R n0 Q (T.setTop (mkF m pc Ls st)) := by
  obtain ⟨locs, X, N, eh, hn, hx, hZ, hby, hml, hown, hnm, hret, hlk⟩ := X
  subst hby hq
  exact g_of (fun t r => XS.iload X.here hx rfl hd hl r) k
theorem g_iloadN (X : Wk Z own nm bytes ml ret R n0 p l e s m args below meth c T cells slots h) {pc q : Nat} {Ls : Array Slot} {st : List Value} {i : Fin 4} {v : Int32} (hd : decode bytes pc = .ok (.iload_n i, 1)) (hq : pc + 1 = q) (hl : Ls[i.val]? = some (.val (.int v))) (k : Goes p e below s R n0 Q (T.setTop (mkF m q Ls (.int v :: st)))) : Goes p e below s R n0 Q (T.setTop (mkF m pc Ls st)) := by
  obtain ⟨locs, X, N, eh, hn, hx, hZ, hby, hml, hown, hnm, hret, hlk⟩ := X
  subst hby hq
  exact g_of (fun t r => XS.iloadN X.here hx rfl hd hl r) k
theorem g_lload (X : Wk Z own nm bytes ml ret R n0 p l e s m args below meth c T cells slots h) {pc q : Nat} {Ls : Array Slot} {st : List Value} {i : Nat} {v : Int64} (hd : decode bytes pc = .ok (.lload i, 2)) (hq : pc + 2 = q) (hl : Ls[i]? = some (.val (.long v))) (k : Goes p e below s R n0 Q (T.setTop (mkF m q Ls (.long v :: st)))) : Goes p e below s R n0 Q (T.setTop (mkF m pc Ls st)) := by
  obtain ⟨locs, X, N, eh, hn, hx, hZ, hby, hml, hown, hnm, hret, hlk⟩ := X
  subst hby hq
  exact g_of (fun t r => XS.lload X.here hx rfl hd hl r) k
theorem g_lloadN (X : Wk Z own nm bytes ml ret R n0 p l e s m args below meth c T cells slots h) {pc q : Nat} {Ls : Array Slot} {st : List Value} {i : Fin 4} {v : Int64} (hd : decode bytes pc = .ok (.lload_n i, 1)) (hq : pc + 1 = q) (hl : Ls[i.val]? = some (.val (.long v))) (k : Goes p e below s R n0 Q (T.setTop (mkF m q Ls (.long v :: st)))) : Goes p e below s R n0 Q (T.setTop (mkF m pc Ls st)) := by
  obtain ⟨locs, X, N, eh, hn, hx, hZ, hby, hml, hown, hnm, hret, hlk⟩ := X
  subst hby hq
  exact g_of (fun t r => XS.lloadN X.here hx rfl hd hl r) k
theorem g_aload (X : Wk Z own nm bytes ml ret R n0 p l e s m args below meth c T cells slots h) {pc q : Nat} {Ls : Array Slot} {st : List Value} {i : Nat} {v : Value} (hd : decode bytes pc = .ok (.aload i, 2)) (hq : pc + 2 = q) (hl : Ls[i]? = some (.val v)) (hv : v.isRef = true) (k : Goes p e below s R n0 Q (T.setTop (mkF m q Ls (v :: st)))) : Goes p e below s R n0 Q (T.setTop (mkF m pc Ls st)) := by
  obtain ⟨locs, X, N, eh, hn, hx, hZ, hby, hml, hown, hnm, hret, hlk⟩ := X
  subst hby hq
  exact g_of (fun t r => XS.aload X.here hx rfl hd hl hv r) k
theorem g_aloadN (X : Wk Z own nm bytes ml ret R n0 p l e s m args below meth c T cells slots h) {pc q : Nat} {Ls : Array Slot} {st : List Value} {i : Fin 4} {v : Value} (hd : decode bytes pc = .ok (.aload_n i, 1)) (hq : pc + 1 = q) (hl : Ls[i.val]? = some (.val v)) (hv : v.isRef = true) (k : Goes p e below s R n0 Q (T.setTop (mkF m q Ls (v :: st)))) : Goes p e below s R n0 Q (T.setTop (mkF m pc Ls st)) := by
  obtain ⟨locs, X, N, eh, hn, hx, hZ, hby, hml, hown, hnm, hret, hlk⟩ := X
  subst hby hq
  exact g_of (fun t r => XS.aloadN X.here hx rfl hd hl hv r) k
theorem g_istore (X : Wk Z own nm bytes ml ret R n0 p l e s m args below meth c T cells slots h) {pc q : Nat} {Ls : Array Slot} {rest : List Value} {i : Nat} {v : Int32} {L' : Array Slot} (hd : decode bytes pc = .ok (.istore i, 2)) (hq : pc + 2 = q) (hl : storeLocals Ls i (.int v) = some L') (k : Goes p e below s R n0 Q (T.setTop (mkF m q L' rest))) : Goes p e below s R n0 Q (T.setTop (mkF m pc Ls (.int v :: rest))) := by
  obtain ⟨locs, X, N, eh, hn, hx, hZ, hby, hml, hown, hnm, hret, hlk⟩ := X
  subst hby hq
  exact g_of (fun t r => XS.istore X.here hx rfl hd rfl hl r) k
theorem g_istoreN (X : Wk Z own nm bytes ml ret R n0 p l e s m args below meth c T cells slots h) {pc q : Nat} {Ls : Array Slot} {rest : List Value} {i : Fin 4} {v : Int32} {L' : Array Slot} (hd : decode bytes pc = .ok (.istore_n i, 1)) (hq : pc + 1 = q) (hl : storeLocals Ls i.val (.int v) = some L') (k : Goes p e below s R n0 Q (T.setTop (mkF m q L' rest))) : Goes p e below s R n0 Q (T.setTop (mkF m pc Ls (.int v :: rest))) := by
  obtain ⟨locs, X, N, eh, hn, hx, hZ, hby, hml, hown, hnm, hret, hlk⟩ := X
  subst hby hq
  exact g_of (fun t r => XS.istoreN X.here hx rfl hd rfl hl r) k
theorem g_lstore (X : Wk Z own nm bytes ml ret R n0 p l e s m args below meth c T cells slots h) {pc q : Nat} {Ls : Array Slot} {rest : List Value} {i : Nat} {v : Int64} {L' : Array Slot} (hd : decode bytes pc = .ok (.lstore i, 2)) (hq : pc + 2 = q) (hl : storeLocals Ls i (.long v) = some L') (k : Goes p e below s R n0 Q (T.setTop (mkF m q L' rest))) : Goes p e below s R n0 Q (T.setTop (mkF m pc Ls (.long v :: rest))) := by
  obtain ⟨locs, X, N, eh, hn, hx, hZ, hby, hml, hown, hnm, hret, hlk⟩ := X
  subst hby hq
  exact g_of (fun t r => XS.lstore X.here hx rfl hd rfl hl r) k
theorem g_lstoreN (X : Wk Z own nm bytes ml ret R n0 p l e s m args below meth c T cells slots h) {pc q : Nat} {Ls : Array Slot} {rest : List Value} {i : Fin 4} {v : Int64} {L' : Array Slot} (hd : decode bytes pc = .ok (.lstore_n i, 1)) (hq : pc + 1 = q) (hl : storeLocals Ls i.val (.long v) = some L') (k : Goes p e below s R n0 Q (T.setTop (mkF m q L' rest))) : Goes p e below s R n0 Q (T.setTop (mkF m pc Ls (.long v :: rest))) := by
  obtain ⟨locs, X, N, eh, hn, hx, hZ, hby, hml, hown, hnm, hret, hlk⟩ := X
  subst hby hq
  exact g_of (fun t r => XS.lstoreN X.here hx rfl hd rfl hl r) k
theorem g_astore (X : Wk Z own nm bytes ml ret R n0 p l e s m args below meth c T cells slots h) {pc q : Nat} {Ls : Array Slot} {rest : List Value} {i : Nat} {v : Value} {L' : Array Slot} (hd : decode bytes pc = .ok (.astore i, 2)) (hq : pc + 2 = q) (hv : v.isRef = true) (hl : storeLocals Ls i v = some L') (k : Goes p e below s R n0 Q (T.setTop (mkF m q L' rest))) : Goes p e below s R n0 Q (T.setTop (mkF m pc Ls (v :: rest))) := by
  obtain ⟨locs, X, N, eh, hn, hx, hZ, hby, hml, hown, hnm, hret, hlk⟩ := X
  subst hby hq
  exact g_of (fun t r => XS.astore X.here hx rfl hd rfl hv hl r) k
theorem g_astoreN (X : Wk Z own nm bytes ml ret R n0 p l e s m args below meth c T cells slots h) {pc q : Nat} {Ls : Array Slot} {rest : List Value} {i : Fin 4} {v : Value} {L' : Array Slot} (hd : decode bytes pc = .ok (.astore_n i, 1)) (hq : pc + 1 = q) (hv : v.isRef = true) (hl : storeLocals Ls i.val v = some L') (k : Goes p e below s R n0 Q (T.setTop (mkF m q L' rest))) : Goes p e below s R n0 Q (T.setTop (mkF m pc Ls (v :: rest))) := by
  obtain ⟨locs, X, N, eh, hn, hx, hZ, hby, hml, hown, hnm, hret, hlk⟩ := X
  subst hby hq
  exact g_of (fun t r => XS.astoreN X.here hx rfl hd rfl hv hl r) k
theorem g_iconst (X : Wk Z own nm bytes ml ret R n0 p l e s m args below meth c T cells slots h) {pc q : Nat} {Ls : Array Slot} {st : List Value} {i : Int} {v : Int32} (hd : decode bytes pc = .ok (.iconst i, 1)) (hq : pc + 1 = q) (hv : Int32.ofInt i = v) (k : Goes p e below s R n0 Q (T.setTop (mkF m q Ls (.int v :: st)))) : Goes p e below s R n0 Q (T.setTop (mkF m pc Ls st)) := by
  obtain ⟨locs, X, N, eh, hn, hx, hZ, hby, hml, hown, hnm, hret, hlk⟩ := X
  subst hby hq
  exact g_of (fun t r => XS.iconst X.here hx rfl hd (by rw [hv]; exact r)) k
theorem g_bipush (X : Wk Z own nm bytes ml ret R n0 p l e s m args below meth c T cells slots h) {pc q : Nat} {Ls : Array Slot} {st : List Value} {i : Int} {v : Int32} (hd : decode bytes pc = .ok (.bipush i, 2)) (hq : pc + 2 = q) (hv : (Int8.ofInt i).toInt32 = v) (k : Goes p e below s R n0 Q (T.setTop (mkF m q Ls (.int v :: st)))) : Goes p e below s R n0 Q (T.setTop (mkF m pc Ls st)) := by
  obtain ⟨locs, X, N, eh, hn, hx, hZ, hby, hml, hown, hnm, hret, hlk⟩ := X
  subst hby hq
  exact g_of (fun t r => XS.bipush X.here hx rfl hd (by rw [hv]; exact r)) k
theorem g_sipush (X : Wk Z own nm bytes ml ret R n0 p l e s m args below meth c T cells slots h) {pc q : Nat} {Ls : Array Slot} {st : List Value} {i : Int} {v : Int32} (hd : decode bytes pc = .ok (.sipush i, 3)) (hq : pc + 3 = q) (hv : (Int16.ofInt i).toInt32 = v) (k : Goes p e below s R n0 Q (T.setTop (mkF m q Ls (.int v :: st)))) : Goes p e below s R n0 Q (T.setTop (mkF m pc Ls st)) := by
  obtain ⟨locs, X, N, eh, hn, hx, hZ, hby, hml, hown, hnm, hret, hlk⟩ := X
  subst hby hq
  exact g_of (fun t r => XS.sipush X.here hx rfl hd (by rw [hv]; exact r)) k
theorem g_lconst (X : Wk Z own nm bytes ml ret R n0 p l e s m args below meth c T cells slots h) {pc q : Nat} {Ls : Array Slot} {st : List Value} {i : Fin 2} {v : Int64} (hd : decode bytes pc = .ok (.lconst i, 1)) (hq : pc + 1 = q) (hv : Int64.ofNat i = v) (k : Goes p e below s R n0 Q (T.setTop (mkF m q Ls (.long v :: st)))) : Goes p e below s R n0 Q (T.setTop (mkF m pc Ls st)) := by
  obtain ⟨locs, X, N, eh, hn, hx, hZ, hby, hml, hown, hnm, hret, hlk⟩ := X
  subst hby hq
  exact g_of (fun t r => XS.lconst X.here hx rfl hd (by rw [hv]; exact r)) k
theorem g_aconst_null (X : Wk Z own nm bytes ml ret R n0 p l e s m args below meth c T cells slots h) {pc q : Nat} {Ls : Array Slot} {st : List Value} (hd : decode bytes pc = .ok (.aconst_null, 1)) (hq : pc + 1 = q) (k : Goes p e below s R n0 Q (T.setTop (mkF m q Ls (.null :: st)))) : Goes p e below s R n0 Q (T.setTop (mkF m pc Ls st)) := by
  obtain ⟨locs, X, N, eh, hn, hx, hZ, hby, hml, hown, hnm, hret, hlk⟩ := X
  subst hby hq
  exact g_of (fun t r => XS.aconstNull X.here hx rfl hd r) k
theorem g_dup (X : Wk Z own nm bytes ml ret R n0 p l e s m args below meth c T cells slots h) {pc q : Nat} {Ls : Array Slot} {rest : List Value} {v : Value} (hd : decode bytes pc = .ok (.dup, 1)) (hq : pc + 1 = q) (hv : v.category = 1) (k : Goes p e below s R n0 Q (T.setTop (mkF m q Ls (v :: v :: rest)))) : Goes p e below s R n0 Q (T.setTop (mkF m pc Ls (v :: rest))) := by
  obtain ⟨locs, X, N, eh, hn, hx, hZ, hby, hml, hown, hnm, hret, hlk⟩ := X
  subst hby hq
  exact g_of (fun t r => XS.dup X.here hx rfl hd rfl hv r) k
theorem g_dup_x1 (X : Wk Z own nm bytes ml ret R n0 p l e s m args below meth c T cells slots h) {pc q : Nat} {Ls : Array Slot} {rest : List Value} {v w : Value} (hd : decode bytes pc = .ok (.dup_x1, 1)) (hq : pc + 1 = q) (hv : v.category = 1) (hw : w.category = 1) (k : Goes p e below s R n0 Q (T.setTop (mkF m q Ls (v :: w :: v :: rest)))) : Goes p e below s R n0 Q (T.setTop (mkF m pc Ls (v :: w :: rest))) := by
  obtain ⟨locs, X, N, eh, hn, hx, hZ, hby, hml, hown, hnm, hret, hlk⟩ := X
  subst hby hq
  exact g_of (fun t r => XS.dupX1 X.here hx rfl hd rfl hv hw r) k
theorem g_dup2 (X : Wk Z own nm bytes ml ret R n0 p l e s m args below meth c T cells slots h) {pc q : Nat} {Ls : Array Slot} {rest : List Value} {v w : Value} (hd : decode bytes pc = .ok (.dup2, 1)) (hq : pc + 1 = q) (hv : v.category = 1) (hw : w.category = 1) (k : Goes p e below s R n0 Q (T.setTop (mkF m q Ls (v :: w :: v :: w :: rest)))) : Goes p e below s R n0 Q (T.setTop (mkF m pc Ls (v :: w :: rest))) := by
  obtain ⟨locs, X, N, eh, hn, hx, hZ, hby, hml, hown, hnm, hret, hlk⟩ := X
  subst hby hq
  exact g_of (fun t r => Jvm.Free.XT.dup2 X.here hx rfl hd rfl hv hw r) k
theorem g_dup2L (X : Wk Z own nm bytes ml ret R n0 p l e s m args below meth c T cells slots h) {pc q : Nat} {Ls : Array Slot} {rest : List Value} {x : Int64} (hd : decode bytes pc = .ok (.dup2, 1)) (hq : pc + 1 = q) (k : Goes p e below s R n0 Q (T.setTop (mkF m q Ls (.long x :: .long x :: rest)))) : Goes p e below s R n0 Q (T.setTop (mkF m pc Ls (.long x :: rest))) := by
  obtain ⟨locs, X, N, eh, hn, hx, hZ, hby, hml, hown, hnm, hret, hlk⟩ := X
  subst hby hq
  exact g_of (fun t r => Jvm.Free.XT.dup2L X.here hx rfl hd rfl r) k
theorem g_pop (X : Wk Z own nm bytes ml ret R n0 p l e s m args below meth c T cells slots h) {pc q : Nat} {Ls : Array Slot} {rest : List Value} {v : Value} (hd : decode bytes pc = .ok (.pop, 1)) (hq : pc + 1 = q) (hv : v.category = 1) (k : Goes p e below s R n0 Q (T.setTop (mkF m q Ls rest))) : Goes p e below s R n0 Q (T.setTop (mkF m pc Ls (v :: rest))) := by
  obtain ⟨locs, X, N, eh, hn, hx, hZ, hby, hml, hown, hnm, hret, hlk⟩ := X
  subst hby hq
  exact g_of (fun t r => XS.pop X.here hx rfl hd rfl hv r) k
theorem g_iinc (X : Wk Z own nm bytes ml ret R n0 p l e s m args below meth c T cells slots h) {pc q : Nat} {Ls L' : Array Slot} {st : List Value} {i : Nat} {cst : Int} {x d : Int32} (hd : decode bytes pc = .ok (.iinc i cst, 3)) (hq : pc + 3 = q) (hl : Ls[i]? = some (.val (.int x))) (hc : Int32.ofInt cst = d) (hl' : storeLocals Ls i (.int (x + d)) = some L') (k : Goes p e below s R n0 Q (T.setTop (mkF m q L' st))) : Goes p e below s R n0 Q (T.setTop (mkF m pc Ls st)) := by
  obtain ⟨locs, X, N, eh, hn, hx, hZ, hby, hml, hown, hnm, hret, hlk⟩ := X
  subst hby hq hc
  exact g_of (fun t r => XS.iinc X.here hx rfl hd hl hl' r) k
theorem g_goto (X : Wk Z own nm bytes ml ret R n0 p l e s m args below meth c T cells slots h) {pc q : Nat} {Ls : Array Slot} {st : List Value} {o : Int} (hd : decode bytes pc = .ok (.goto o, 3)) (ho : 0 ≤ (pc : Int) + o) (hq : ((pc : Int) + o).toNat = q) (k : Goes p e below s R n0 Q (T.setTop (mkF m q Ls st))) : Goes p e below s R n0 Q (T.setTop (mkF m pc Ls st)) := by
  obtain ⟨locs, X, N, eh, hn, hx, hZ, hby, hml, hown, hnm, hret, hlk⟩ := X
  subst hby
  exact g_of (fun t r => XS.goto X.here hx rfl (pc0 := pc) rfl hd ho hq r) k
theorem g_bor (X : Wk Z own nm bytes ml ret R n0 p l e s m args below meth c T cells slots h) {pc q : Nat} {Ls : Array Slot} {rest : List Value} {A B : Prop} [Decidable A] [Decidable B] (hd : decode bytes pc = .ok (.ior, 1)) (hq : pc + 1 = q) (k : Goes p e below s R n0 Q (T.setTop (mkF m q Ls (.int (bI (A ∨ B)) :: rest)))) : Goes p e below s R n0 Q (T.setTop (mkF m pc Ls (.int (bI B) :: .int (bI A) :: rest))) :=
  g_ior X hd hq (by rw [show bI A ||| bI B = bI (A ∨ B) from own_bor A B]; exact k)
theorem g_band (X : Wk Z own nm bytes ml ret R n0 p l e s m args below meth c T cells slots h) {pc q : Nat} {Ls : Array Slot} {rest : List Value} {A B : Prop} [Decidable A] [Decidable B] (hd : decode bytes pc = .ok (.iand, 1)) (hq : pc + 1 = q) (k : Goes p e below s R n0 Q (T.setTop (mkF m q Ls (.int (bI (A ∧ B)) :: rest)))) : Goes p e below s R n0 Q (T.setTop (mkF m pc Ls (.int (bI B) :: .int (bI A) :: rest))) :=
  g_iand X hd hq (by rw [show bI A &&& bI B = bI (A ∧ B) from own_band A B]; exact k)
theorem hI {cd : ClassFile.Cond} {x y : Int32} (hcd : cd = .lt ∨ cd = .gt ∨ cd = .eq) : (pcI cd x y → if_icmp.holds cd x y = true) ∧ (¬ pcI cd x y → if_icmp.holds cd x y = false) := by
  rcases hcd with rfl | rfl | rfl
  · exact ⟨fun q => (tlt q).1, fun q => (flt q).1⟩
  · exact ⟨fun q => (tlt q).2.2.1, fun q => (flt q).2.2.1⟩
  · exact ⟨fun q => (teq q).1, fun q => (feq q).1⟩
theorem hN {cd : ClassFile.Cond} {x y : Int32} (hcd : cd = .ge ∨ cd = .le ∨ cd = .ne) : (pcI cd x y → if_icmp.holds cd x y = false) ∧ (¬ pcI cd x y → if_icmp.holds cd x y = true) := by
  rcases hcd with rfl | rfl | rfl
  · exact ⟨fun q => (tlt q).2.1, fun q => (flt q).2.1⟩
  · exact ⟨fun q => (tlt q).2.2.2, fun q => (flt q).2.2.2⟩
  · exact ⟨fun q => (teq q).2, fun q => (feq q).2⟩
theorem pcL {cd : ClassFile.Cond} {x y : Int64} : pcI cd (lcmpW x y) 0 ↔ pcJ cd x y := by
  cases cd
  · exact lw_eq x y
  · exact lw_eq x y
  · exact lw_lt x y
  · exact lw_lt x y
  · exact lw_gt x y
  · exact lw_gt x y
instance pcI_dec (cd : ClassFile.Cond) (x y : Int32) : Decidable (pcI cd x y) := by cases cd <;> (unfold pcI; infer_instance)
theorem g_icmpA (X : Wk Z own nm bytes ml ret R n0 p l e s m args below meth c T cells slots h) {pc q t : Nat} {Ls : Array Slot} {rest : List Value} {o : Int} {cd : ClassFile.Cond} {x y : Int32} (hd : decode bytes pc = .ok (.if_icmp cd o, 3)) (hcd : cd = .lt ∨ cd = .gt ∨ cd = .eq) (hq : pc + 3 = q) (ho : 0 ≤ (pc : Int) + o) (ht : ((pc : Int) + o).toNat = t) (kP : pcI cd x y → Goes p e below s R n0 Q (T.setTop (mkF m t Ls rest))) (kN : ¬ pcI cd x y → Goes p e below s R n0 Q (T.setTop (mkF m q Ls rest))) : Goes p e below s R n0 Q (T.setTop (mkF m pc Ls (.int y :: .int x :: rest))) := by
  obtain ⟨locs, X, N, eh, hn, hx, hZ, hby, hml, hown, hnm, hret, hlk⟩ := X
  subst hby hq
  by_cases hP : pcI cd x y
  · exact g_of (fun _ r => XS.icmpYes X.here hx rfl (pc0 := pc) rfl hd rfl ((hI hcd).1 hP) ho ht r) (kP hP)
  · exact g_of (fun _ r => XS.icmpNo X.here hx rfl hd rfl ((hI hcd).2 hP) r) (kN hP)
theorem g_ifA (X : Wk Z own nm bytes ml ret R n0 p l e s m args below meth c T cells slots h) {pc q t : Nat} {Ls : Array Slot} {rest : List Value} {o : Int} {cd : ClassFile.Cond} {x : Int32} (hd : decode bytes pc = .ok (.ifCond cd o, 3)) (hcd : cd = .lt ∨ cd = .gt ∨ cd = .eq) (hq : pc + 3 = q) (ho : 0 ≤ (pc : Int) + o) (ht : ((pc : Int) + o).toNat = t) (kP : pcI cd x 0 → Goes p e below s R n0 Q (T.setTop (mkF m t Ls rest))) (kN : ¬ pcI cd x 0 → Goes p e below s R n0 Q (T.setTop (mkF m q Ls rest))) : Goes p e below s R n0 Q (T.setTop (mkF m pc Ls (.int x :: rest))) := by
  obtain ⟨locs, X, N, eh, hn, hx, hZ, hby, hml, hown, hnm, hret, hlk⟩ := X
  subst hby hq
  by_cases hP : pcI cd x 0
  · exact g_of (fun _ r => XS.ifYes X.here hx rfl (pc0 := pc) rfl hd rfl ((if0 _ _).trans ((hI hcd).1 hP)) ho ht r) (kP hP)
  · exact g_of (fun _ r => XS.ifNo X.here hx rfl hd rfl ((if0 _ _).trans ((hI hcd).2 hP)) r) (kN hP)
theorem g_lcmpA (X : Wk Z own nm bytes ml ret R n0 p l e s m args below meth c T cells slots h) {pc q t : Nat} {Ls : Array Slot} {rest : List Value} {o : Int} {cd : ClassFile.Cond} {x y : Int64} {q1 : Nat} (hd0 : decode bytes pc = .ok (.lcmp, 1)) (hq1 : pc + 1 = q1) (hd : decode bytes q1 = .ok (.ifCond cd o, 3)) (hcd : cd = .lt ∨ cd = .gt ∨ cd = .eq) (hq : q1 + 3 = q) (ho : 0 ≤ (q1 : Int) + o) (ht : ((q1 : Int) + o).toNat = t) (kP : pcJ cd x y → Goes p e below s R n0 Q (T.setTop (mkF m t Ls rest))) (kN : ¬ pcJ cd x y → Goes p e below s R n0 Q (T.setTop (mkF m q Ls rest))) : Goes p e below s R n0 Q (T.setTop (mkF m pc Ls (.long y :: .long x :: rest))) := by
  refine g_lcmp X hd0 hq1 (g_ifA X hd hcd hq ho ht (fun z => kP (pcL.mp z)) (fun z => kN (fun w => z (pcL.mpr w))))
theorem g_icmpB (X : Wk Z own nm bytes ml ret R n0 p l e s m args below meth c T cells slots h) {pc q t : Nat} {Ls : Array Slot} {rest : List Value} {o : Int} {cd : ClassFile.Cond} {x y : Int32} (hd : decode bytes pc = .ok (.if_icmp cd o, 3)) (hcd : cd = .ge ∨ cd = .le ∨ cd = .ne) (hq : pc + 3 = q) (ho : 0 ≤ (pc : Int) + o) (ht : ((pc : Int) + o).toNat = t) (kP : pcI cd x y → Goes p e below s R n0 Q (T.setTop (mkF m q Ls rest))) (kN : ¬ pcI cd x y → Goes p e below s R n0 Q (T.setTop (mkF m t Ls rest))) : Goes p e below s R n0 Q (T.setTop (mkF m pc Ls (.int y :: .int x :: rest))) := by
  obtain ⟨locs, X, N, eh, hn, hx, hZ, hby, hml, hown, hnm, hret, hlk⟩ := X
  subst hby hq
  by_cases hP : pcI cd x y
  · exact g_of (fun _ r => XS.icmpNo X.here hx rfl hd rfl ((hN hcd).1 hP) r) (kP hP)
  · exact g_of (fun _ r => XS.icmpYes X.here hx rfl (pc0 := pc) rfl hd rfl ((hN hcd).2 hP) ho ht r) (kN hP)
theorem g_ifB (X : Wk Z own nm bytes ml ret R n0 p l e s m args below meth c T cells slots h) {pc q t : Nat} {Ls : Array Slot} {rest : List Value} {o : Int} {cd : ClassFile.Cond} {x : Int32} (hd : decode bytes pc = .ok (.ifCond cd o, 3)) (hcd : cd = .ge ∨ cd = .le ∨ cd = .ne) (hq : pc + 3 = q) (ho : 0 ≤ (pc : Int) + o) (ht : ((pc : Int) + o).toNat = t) (kP : pcI cd x 0 → Goes p e below s R n0 Q (T.setTop (mkF m q Ls rest))) (kN : ¬ pcI cd x 0 → Goes p e below s R n0 Q (T.setTop (mkF m t Ls rest))) : Goes p e below s R n0 Q (T.setTop (mkF m pc Ls (.int x :: rest))) := by
  obtain ⟨locs, X, N, eh, hn, hx, hZ, hby, hml, hown, hnm, hret, hlk⟩ := X
  subst hby hq
  by_cases hP : pcI cd x 0
  · exact g_of (fun _ r => XS.ifNo X.here hx rfl hd rfl ((if0 _ _).trans ((hN hcd).1 hP)) r) (kP hP)
  · exact g_of (fun _ r => XS.ifYes X.here hx rfl (pc0 := pc) rfl hd rfl ((if0 _ _).trans ((hN hcd).2 hP)) ho ht r) (kN hP)
theorem g_lcmpB (X : Wk Z own nm bytes ml ret R n0 p l e s m args below meth c T cells slots h) {pc q t : Nat} {Ls : Array Slot} {rest : List Value} {o : Int} {cd : ClassFile.Cond} {x y : Int64} {q1 : Nat} (hd0 : decode bytes pc = .ok (.lcmp, 1)) (hq1 : pc + 1 = q1) (hd : decode bytes q1 = .ok (.ifCond cd o, 3)) (hcd : cd = .ge ∨ cd = .le ∨ cd = .ne) (hq : q1 + 3 = q) (ho : 0 ≤ (q1 : Int) + o) (ht : ((q1 : Int) + o).toNat = t) (kP : pcJ cd x y → Goes p e below s R n0 Q (T.setTop (mkF m q Ls rest))) (kN : ¬ pcJ cd x y → Goes p e below s R n0 Q (T.setTop (mkF m t Ls rest))) : Goes p e below s R n0 Q (T.setTop (mkF m pc Ls (.long y :: .long x :: rest))) := by
  refine g_lcmp X hd0 hq1 (g_ifB X hd hcd hq ho ht (fun z => kP (pcL.mp z)) (fun z => kN (fun w => z (pcL.mpr w))))
theorem g_bne (X : Wk Z own nm bytes ml ret R n0 p l e s m args below meth c T cells slots h) {pc q t : Nat} {Ls : Array Slot} {rest : List Value} {o : Int} {c' : Prop} [Decidable c'] (hd : decode bytes pc = .ok (.ifCond .ne o, 3)) (hq : pc + 3 = q) (ho : 0 ≤ (pc : Int) + o) (ht : ((pc : Int) + o).toNat = t) (kP : c' → Goes p e below s R n0 Q (T.setTop (mkF m t Ls rest))) (kN : ¬ c' → Goes p e below s R n0 Q (T.setTop (mkF m q Ls rest))) : Goes p e below s R n0 Q (T.setTop (mkF m pc Ls (.int (bI c') :: rest))) :=
  g_ifB X hd (Or.inr (Or.inr rfl)) hq ho ht (fun z => kN ((bI_eq0 c').mp z)) (fun z => kP (Decidable.of_not_not fun w => z ((bI_eq0 c').mpr w)))
theorem g_beq (X : Wk Z own nm bytes ml ret R n0 p l e s m args below meth c T cells slots h) {pc q t : Nat} {Ls : Array Slot} {rest : List Value} {o : Int} {c' : Prop} [Decidable c'] (hd : decode bytes pc = .ok (.ifCond .eq o, 3)) (hq : pc + 3 = q) (ho : 0 ≤ (pc : Int) + o) (ht : ((pc : Int) + o).toNat = t) (kP : c' → Goes p e below s R n0 Q (T.setTop (mkF m q Ls rest))) (kN : ¬ c' → Goes p e below s R n0 Q (T.setTop (mkF m t Ls rest))) : Goes p e below s R n0 Q (T.setTop (mkF m pc Ls (.int (bI c') :: rest))) :=
  g_ifA X hd (Or.inr (Or.inr rfl)) hq ho ht (fun z => kN ((bI_eq0 c').mp z)) (fun z => kP (Decidable.of_not_not fun w => z ((bI_eq0 c').mpr w)))
theorem g_ifnullY (X : Wk Z own nm bytes ml ret R n0 p l e s m args below meth c T cells slots h) {pc q : Nat} {Ls : Array Slot} {rest : List Value} {o : Int} (hd : decode bytes pc = .ok (.ifnull o, 3)) (ho : 0 ≤ (pc : Int) + o) (hq : ((pc : Int) + o).toNat = q) (k : Goes p e below s R n0 Q (T.setTop (mkF m q Ls rest))) : Goes p e below s R n0 Q (T.setTop (mkF m pc Ls (.null :: rest))) := by
  obtain ⟨locs, X, N, eh, hn, hx, hZ, hby, hml, hown, hnm, hret, hlk⟩ := X
  subst hby
  exact g_of (fun t r => XS.ifnullYes X.here hx rfl (pc0 := pc) rfl hd rfl ho hq r) k
theorem g_ifnullN (X : Wk Z own nm bytes ml ret R n0 p l e s m args below meth c T cells slots h) {pc q : Nat} {Ls : Array Slot} {rest : List Value} {o : Int} {b : Addr} (hd : decode bytes pc = .ok (.ifnull o, 3)) (hq : pc + 3 = q) (k : Goes p e below s R n0 Q (T.setTop (mkF m q Ls rest))) : Goes p e below s R n0 Q (T.setTop (mkF m pc Ls (.ref b :: rest))) := by
  obtain ⟨locs, X, N, eh, hn, hx, hZ, hby, hml, hown, hnm, hret, hlk⟩ := X
  subst hby hq
  exact g_of (fun t r => XS.ifnullNo X.here hx rfl hd rfl r) k
theorem g_ifnonnullY (X : Wk Z own nm bytes ml ret R n0 p l e s m args below meth c T cells slots h) {pc q : Nat} {Ls : Array Slot} {rest : List Value} {o : Int} {b : Addr} (hd : decode bytes pc = .ok (.ifnonnull o, 3)) (ho : 0 ≤ (pc : Int) + o) (hq : ((pc : Int) + o).toNat = q) (k : Goes p e below s R n0 Q (T.setTop (mkF m q Ls rest))) : Goes p e below s R n0 Q (T.setTop (mkF m pc Ls (.ref b :: rest))) := by
  obtain ⟨locs, X, N, eh, hn, hx, hZ, hby, hml, hown, hnm, hret, hlk⟩ := X
  subst hby
  exact g_of (fun t r => XS.ifnonnullYes X.here hx rfl (pc0 := pc) rfl hd rfl ho hq r) k
theorem g_ifnonnullN (X : Wk Z own nm bytes ml ret R n0 p l e s m args below meth c T cells slots h) {pc q : Nat} {Ls : Array Slot} {rest : List Value} {o : Int} (hd : decode bytes pc = .ok (.ifnonnull o, 3)) (hq : pc + 3 = q) (k : Goes p e below s R n0 Q (T.setTop (mkF m q Ls rest))) : Goes p e below s R n0 Q (T.setTop (mkF m pc Ls (.null :: rest))) := by
  obtain ⟨locs, X, N, eh, hn, hx, hZ, hby, hml, hown, hnm, hret, hlk⟩ := X
  subst hby hq
  exact g_of (fun t r => XS.ifnonnullNo X.here hx rfl hd rfl r) k
theorem g_acmp (X : Wk Z own nm bytes ml ret R n0 p l e s m args below meth c T cells slots h) {pc q : Nat} {Ls : Array Slot} {rest : List Value} {o : Int} {cd : ACond} {x y : Value} {same : Bool} (hd : decode bytes pc = .ok (.if_acmp cd o, 3)) (h1 : x.isRef = true) (h2 : y.isRef = true) (hs : decide (x = y) = same) (ho : 0 ≤ (pc : Int) + o) (hq : q = if acV cd same = true then ((pc : Int) + o).toNat else pc + 3) (k : Goes p e below s R n0 Q (T.setTop (mkF m q Ls rest))) : Goes p e below s R n0 Q (T.setTop (mkF m pc Ls (y :: x :: rest))) := by
  obtain ⟨locs, X, N, eh, hn, hx, hZ, hby, hml, hown, hnm, hret, hlk⟩ := X
  subst hby
  exact g_of (fun t r => Jvm.RoadKit.acmp (g := mkF m pc Ls (y :: x :: rest)) X hx rfl h1 h2 (pc0 := pc) rfl hd rfl hs ho hq r) k

theorem g_ldc2 (X : Wk Z own nm bytes ml ret R n0 p l e s m args below meth c T cells slots h) {index : Nat} {v : Int64} (w : (Jvm.Cond.constantLong own index v).before a0 Z = true) {pc q : Nat} {Ls : Array Slot} {st : List Value} (hd : decode bytes pc = .ok (.ldc2_w index, 3)) (hq : pc + 3 = q) (k : Goes p e below s R n0 Q (T.setTop (mkF m q Ls (.long v :: st)))) : Goes p e below s R n0 Q (T.setTop (mkF m pc Ls st)) := by
  obtain ⟨locs, X, N, eh, hn, hx, hZ, hby, hml, hown, hnm, hret, hlk⟩ := X
  subst hby hq
  exact g_of (fun t r => X.ldc2Long hx hown (mvT hZ w) (g := mkF m pc Ls st) rfl hd t r) k
theorem g_ldc (X : Wk Z own nm bytes ml ret R n0 p l e s m args below meth c T cells slots h) {index : Nat} {v : Int32} (w : (Jvm.Cond.constant own index v).before a0 Z = true) {pc q : Nat} {Ls : Array Slot} {st : List Value} (hd : decode bytes pc = .ok (.ldc index, 2)) (hq : pc + 2 = q) (k : Goes p e below s R n0 Q (T.setTop (mkF m q Ls (.int v :: st)))) : Goes p e below s R n0 Q (T.setTop (mkF m pc Ls st)) := by
  obtain ⟨locs, X, N, eh, hn, hx, hZ, hby, hml, hown, hnm, hret, hlk⟩ := X
  subst hby hq
  exact g_of (fun t r => X.ldcInt hx hown (mvT hZ w) (g := mkF m pc Ls st) rfl hd t r) k
theorem g_getF (X : Wk Z own nm bytes ml ret R n0 p l e s m args below meth c T cells slots h) {index : Nat} {R0 O n d : String} (w : (Jvm.Cond.fieldLink own index R0 n d).before a0 Z = true) (via : Via Z R0 O n d) {a : Addr} {v : Value} (F : Fld Z h a O n d v) {pc q : Nat} {Ls : Array Slot} {rest : List Value} (hd : decode bytes pc = .ok (.getfield index, 3)) (hq : pc + 3 = q)
    (k : ∀ T', Wk Z own nm bytes ml ret R n0 p l e s m args below meth c T' cells slots h → Goes p e below s R n0 Q (T'.setTop (mkF m q Ls (v :: rest)))) : Goes p e below s R n0 Q (T.setTop (mkF m pc Ls (.ref a :: rest))) := by
  obtain ⟨locs, X, N, eh, hn, hx, hZ, hby, hml, hown, hnm, hret, hlk⟩ := X
  subst hby hq
  obtain ⟨T', X', e', st⟩ := getF X hx hZ hown (host := "") (Or.inl w) via eh F (g := mkF m pc Ls (.ref a :: rest)) rfl rfl hd
  exact g_of st (k T' ⟨locs, X', N, e', hn, hx, hZ, rfl, hml, hown, hnm, hret, hlk⟩)
theorem g_putF (X : Wk Z own nm bytes ml ret R n0 p l e s m args below meth c T cells slots h) {index kk : Nat} {R0 O n d C : String} {ty : FieldType} (w : (Jvm.Cond.fieldLink own index R0 n d).before a0 Z = true) (via : Via Z R0 O n d) {a : Addr} {v old : Value} (F : Fld Z h a O n d old) (E : Exa Z h a C) (L : (Jvm.Cond.lays C O n d).before a0 Z = true ∨ ((Jvm.Cond.laysFinal C O n d).before a0 Z = true ∧ own = O ∧ nm = "<init>")) (wi : (Jvm.Cond.instantiable C kk).before a0 Z = true) (hty : parseFieldDescriptor d = some ty) (hnr : narrow ty v = v) (hf : fits ty v = true) (ga : n0 ≤ a) {pc q : Nat} {Ls : Array Slot} {rest : List Value} (hd : decode bytes pc = .ok (.putfield index, 3)) (hq : pc + 3 = q)
    (k : ∀ T' h', Wk Z own nm bytes ml ret R n0 p l e s m args below meth c T' cells slots h' → Wr h h' a (Jvm.RoadKit.slotOf Z O n d) v → Goes p e below s R n0 Q (T'.setTop (mkF m q Ls rest))) : Goes p e below s R n0 Q (T.setTop (mkF m pc Ls (v :: .ref a :: rest))) := by
  obtain ⟨locs, X, N, eh, hn, hx, hZ, hby, hml, hown, hnm, hret, hlk⟩ := X
  subst hby hq
  obtain ⟨T', h', X', e', W', st⟩ := putF X hx hZ hown (host := "") (Or.inl w) via eh F E (L.imp id fun z => ⟨z.1, z.2.1, hnm.trans z.2.2⟩) wi hty hnr hf (g := mkF m pc Ls (v :: .ref a :: rest)) rfl rfl hd
  exact g_of st (k T' h' ⟨_, X', Fr.snoc X' N ga, e', hn, hx, hZ, rfl, hml, hown, hnm, hret, hlk⟩ W')
theorem g_new (X : Wk Z own nm bytes ml ret R n0 p l e s m args below meth c T cells slots h) {index n : Nat} {C : String} (w : (Jvm.Cond.classLink own index C).before a0 Z = true) (wi : (Jvm.Cond.instantiable C n).before a0 Z = true) (wz : (Jvm.Cond.initialized C).before a0 Z = true) {pc q c2 s2 : Nat} {Ls : Array Slot} {st : List Value} (hd : decode bytes pc = .ok (.new index, 3)) (hq : pc + 3 = q) (hc : cells + 1 = c2) (hs : slots + n = s2) (hcR : c2 ≤ R.cells) (hsR : s2 ≤ R.slots)
    (k : ∀ T' h' b, Wk Z own nm bytes ml ret R n0 p l e s m args below meth c T' c2 s2 h' → b = h.size → n0 ≤ b → Ext h h' → Exa Z h' b C → (∀ {O nm d : String} {ty : FieldType}, Laid Z a0 C O nm d → parseFieldDescriptor d = some ty → Fld Z h' b O nm d (defaultValue ty)) → Goes p e below s R n0 Q (T'.setTop (mkF m q Ls (.ref b :: st)))) : Goes p e below s R n0 Q (T.setTop (mkF m pc Ls st)) := by
  obtain ⟨locs, X, N, eh, hn, hx, hZ, hby, hml, hown, hnm, hret, hlk⟩ := X
  subst hby hq hc hs
  obtain ⟨T', h', X', e', E', A', D', -, stp⟩ := newO X hx hZ hown w wi wz eh (g := mkF m pc Ls st) rfl hd hcR hsR
  exact g_of stp (k T' h' _ ⟨locs, X', N, e', hn, hx, hZ, rfl, hml, hown, hnm, hret, hlk⟩ rfl (Wk.size ⟨locs, X, N, eh, hn, hx, hZ, rfl, hml, hown, hnm, hret, hlk⟩) E' A' D')
theorem g_initO (X : Wk Z own nm bytes ml ret R n0 p l e s m args below meth c T cells slots h) {index : Nat} (w1 : (Jvm.Cond.methodLink own index Lib.objectInit).before a0 Z = true) (w2 : (Jvm.Cond.instanceMethod Lib.objectInit).before a0 Z = true) (w3 : (Jvm.Cond.code Lib.objectInit ⟨#[0xb1]⟩ 1 none).before a0 Z = true) {a : Addr} {pc q W : Nat} {Ls : Array Slot} {rest : List Value} (hd : decode bytes pc = .ok (.invokespecial index, 3)) (hq : pc + 3 = q) (hLs : Ls.size = ml) (hf : 1 ≤ R.frames) (hW : (rest.map fun v => v.category).sum = W) (hl : W + 12 ≤ R.locals)
    (k : ∀ T', Wk Z own nm bytes ml ret R n0 p l e s m args below meth c T' cells slots h → Goes p e below s R n0 Q (T'.setTop (mkF m q Ls rest))) : Goes p e below s R n0 Q (T.setTop (mkF m pc Ls (.ref a :: rest))) := by
  obtain ⟨locs, X, N, eh, hn, hx, hZ, hby, hml, hown, hnm, hret, hlk⟩ := X
  subst hby hq
  obtain ⟨T', X', e', st⟩ := initO X hx hZ hown w1 w2 w3 eh (g := mkF m pc Ls (.ref a :: rest)) rfl (hLs.trans hml.symm) rfl hd hf (W := W) (by show 2 * 0 + _ ≤ _; omega) hl
  exact g_of st (k T' ⟨locs, X', N, e', hn, hx, hZ, rfl, hml, hown, hnm, hret, hlk⟩)
theorem own_back {index W : Nat} {y : MethodName} {yb : ByteArray} {yml : Nat} {yret : Option FieldType} {Ry : Room} {as' : Array Value} {len : Nat} {Qy : Option Value → Heap → Prop} (hZ : Z.Warmed39 s.vm) (w3 : (Jvm.Cond.initialized y.cls).before a0 Z = true) (w4 : (Jvm.Cond.code y yb yml yret).before a0 Z = true) (hM : Met l Z y yb yml yret Ry [] n0 as' h Qy) (hf : Ry.frames + 1 ≤ R.frames) (hlc : W + (yml + 11) + Ry.locals ≤ R.locals) :
    Back l R p e below s args y len W (fun A a => a = as' ∧ A.U.heap = h ∧ A.cells + Ry.cells ≤ R.cells ∧ A.slots + Ry.slots ≤ R.slots)
      (fun A _ v B => ∃ L, (Fr n0 L ∧ Qy v B.U.heap) ∧ B.locs = A.locs ++ L ∧ B.cells = A.cells + Ry.cells ∧ B.slots = A.slots + Ry.slots) :=
  backOf (Q := fun v h L => Fr n0 L ∧ Qy v h) hM hZ w4 w3 hf hlc
theorem g_callS (X : Wk Z own nm bytes ml ret R n0 p l e s m args below meth c T cells slots h) {index : Nat} {y : MethodName} {yb : ByteArray} {yml : Nat} {yret : Option FieldType} {Ry : Room} {Qy : Option Value → Heap → Prop} {ps : List FieldType} {r : Option FieldType} (as rest : List Value) (w1 : (Jvm.Cond.methodLink own index y).before a0 Z = true) (w2 : (Jvm.Cond.static y).before a0 Z = true) (w3 : (Jvm.Cond.initialized y.cls).before a0 Z = true) (w4 : (Jvm.Cond.code y yb yml yret).before a0 Z = true) (hy : y.cls ≠ "java/lang/invoke/MethodHandle" ∧ y.cls ≠ "java/lang/invoke/VarHandle") (hM : Met l Z y yb yml yret Ry [] n0 as.toArray h Qy) (hp : parseMethodDescriptor y.desc = some ⟨ps, r⟩) (hl : as.length = ps.length)
    {pc q c2 s2 W : Nat} {Ls : Array Slot} {st : List Value} (hst : st = as.reverse ++ rest) (hLs : Ls.size = ml) (hd : decode bytes pc = .ok (.invokestatic index, 3)) (hq : pc + 3 = q) (hW : (rest.map fun v => v.category).sum = W) (hf : Ry.frames + 1 ≤ R.frames) (hlc : W + (yml + 11) + Ry.locals ≤ R.locals) (hc : cells + Ry.cells = c2) (hs : slots + Ry.slots = s2) (hcR : c2 ≤ R.cells) (hsR : s2 ≤ R.slots)
    (k : ∀ v T' h', Wk Z own nm bytes ml ret R n0 p l e s m args below meth c T' c2 s2 h' → Qy v h' → Goes p e below s R n0 Q (T'.setTop (mkF m q Ls (v.toList ++ rest)))) : Goes p e below s R n0 Q (T.setTop (mkF m pc Ls st)) := by
  obtain ⟨locs, X, N, eh, hn, hx, hZ, hby, hml, hown, hnm, hret, hlk⟩ := X
  subst hby hq hc hs hst
  obtain ⟨v, _, ⟨T', L', k', n'⟩, -, X', ⟨Lc, ⟨hF, hQy⟩, l', y', z'⟩, stp⟩ := Jvm.LawKit.callS X hx (y := y) hown (mvT hZ w1) (mvT hZ w2) (mvT hZ w3) (mvT hZ w4) hy (own_back (index := index) (W := W) hZ w3 w4 hM hf hlc) (g := mkF m pc Ls (as.reverse ++ rest)) rfl (hLs.trans hml.symm) (argsL := as) (rest := rest) (lenOf hp hl) rfl (by show 2 * 0 + _ ≤ _; omega) hd (fun _ _ => ⟨rfl, eh, hcR, hsR⟩)
  dsimp only [Pt.U, Pt.locs, Pt.cells, Pt.slots] at X' l' y' z' stp hQy
  subst l' y' z'
  exact g_of stp (k v T' _ ⟨_, X', Fr.app N hF, rfl, hn, hx, hZ, rfl, hml, hown, hnm, hret, hlk⟩ hQy)
theorem g_callI (X : Wk Z own nm bytes ml ret R n0 p l e s m args below meth c T cells slots h) {index : Nat} {y : MethodName} {yb : ByteArray} {yml : Nat} {Ry : Room} {Qy : Option Value → Heap → Prop} {ps : List FieldType} {r : Option FieldType} {a : Addr} (as rest : List Value) (hy1 : y.name = "<init>") (w1 : (Jvm.Cond.methodLink own index y).before a0 Z = true) (w2 : (Jvm.Cond.instanceMethod y).before a0 Z = true) (w3 : (Jvm.Cond.initialized y.cls).before a0 Z = true) (w4 : (Jvm.Cond.code y yb yml none).before a0 Z = true) (hy : y.cls ≠ "java/lang/invoke/MethodHandle" ∧ y.cls ≠ "java/lang/invoke/VarHandle") (hM : Met l Z y yb yml none Ry [] n0 (.ref a :: as).toArray h Qy) (hp : parseMethodDescriptor y.desc = some ⟨ps, r⟩) (hl : as.length = ps.length)
    {pc q c2 s2 W : Nat} {Ls : Array Slot} {st : List Value} (hst : st = as.reverse ++ .ref a :: rest) (hLs : Ls.size = ml) (hd : decode bytes pc = .ok (.invokespecial index, 3)) (hq : pc + 3 = q) (hW : (rest.map fun v => v.category).sum = W) (hf : Ry.frames + 1 ≤ R.frames) (hlc : W + (yml + 11) + Ry.locals ≤ R.locals) (hc : cells + Ry.cells = c2) (hs : slots + Ry.slots = s2) (hcR : c2 ≤ R.cells) (hsR : s2 ≤ R.slots)
    (k : ∀ v T' h', Wk Z own nm bytes ml ret R n0 p l e s m args below meth c T' c2 s2 h' → Qy v h' → Goes p e below s R n0 Q (T'.setTop (mkF m q Ls (v.toList ++ rest)))) : Goes p e below s R n0 Q (T.setTop (mkF m pc Ls st)) := by
  obtain ⟨locs, X, N, eh, hn, hx, hZ, hby, hml, hown, hnm, hret, hlk⟩ := X
  subst hby hq hc hs hst
  obtain ⟨v, _, ⟨T', L', k', n'⟩, -, X', ⟨Lc, ⟨hF, hQy⟩, l', y', z'⟩, stp⟩ := X.specialBack hx (y := y) hy1 hown (mvT hZ w1) (mvT hZ w2) (mvT hZ w4) hy (own_back (index := index) (W := W) hZ w3 w4 hM hf hlc) (g := mkF m pc Ls (as.reverse ++ .ref a :: rest)) rfl (hLs.trans hml.symm) (Steps.refl _) (a := a) (argsL := as) (rest := rest) (lenOf hp hl) rfl (by show 2 * 0 + _ ≤ _; omega) hd (fun _ _ => ⟨rfl, eh, hcR, hsR⟩)
  dsimp only [Pt.U, Pt.locs, Pt.cells, Pt.slots] at X' l' y' z' stp hQy
  subst l' y' z'
  exact g_of (fun _ r => stp.trans r) (k v T' _ ⟨_, X', Fr.app N hF, rfl, hn, hx, hZ, rfl, hml, hown, hnm, hret, hlk⟩ hQy)
theorem g_callV (X : Wk Z own nm bytes ml ret R n0 p l e s m args below meth c T cells slots h) {index : Nat} {y : MethodName} {yb : ByteArray} {yml : Nat} {yret : Option FieldType} {Ry : Room} {Qy : Option Value → Heap → Prop} {ps : List FieldType} {r : Option FieldType} {a : Addr} {C : String} (E : Exa Z h a C) (as rest : List Value) (w1 : (Jvm.Cond.methodLink own index y).before a0 Z = true) (w2 : (Jvm.Cond.declares y).before a0 Z = true) (w5 : (Jvm.Cond.selects C y y).before a0 Z = true) (w6 : (Jvm.Cond.instanceMethod y).before a0 Z = true) (w3 : (Jvm.Cond.initialized y.cls).before a0 Z = true) (w4 : (Jvm.Cond.code y yb yml yret).before a0 Z = true) (hy : y.cls ≠ "java/lang/invoke/MethodHandle" ∧ y.cls ≠ "java/lang/invoke/VarHandle") (hM : Met l Z y yb yml yret Ry [] n0 (.ref a :: as).toArray h Qy) (hp : parseMethodDescriptor y.desc = some ⟨ps, r⟩) (hl : as.length = ps.length)
    {pc q c2 s2 W : Nat} {Ls : Array Slot} {st : List Value} (hst : st = as.reverse ++ .ref a :: rest) (hLs : Ls.size = ml) (hd : decode bytes pc = .ok (.invokevirtual index, 3)) (hq : pc + 3 = q) (hW : (rest.map fun v => v.category).sum = W) (hf : Ry.frames + 1 ≤ R.frames) (hlc : W + (yml + 11) + Ry.locals ≤ R.locals) (hc : cells + Ry.cells = c2) (hs : slots + Ry.slots = s2) (hcR : c2 ≤ R.cells) (hsR : s2 ≤ R.slots)
    (k : ∀ v T' h', Wk Z own nm bytes ml ret R n0 p l e s m args below meth c T' c2 s2 h' → Qy v h' → Goes p e below s R n0 Q (T'.setTop (mkF m q Ls (v.toList ++ rest)))) : Goes p e below s R n0 Q (T.setTop (mkF m pc Ls st)) := by
  obtain ⟨locs, X, N, eh, hn, hx, hZ, hby, hml, hown, hnm, hret, hlk⟩ := X
  subst hby hq hc hs hst
  obtain ⟨cq, kq, qa, qb, qc⟩ := isOf hZ eh E
  obtain ⟨v, _, ⟨T', L', k', n'⟩, -, X', ⟨Lc, ⟨hF, hQy⟩, l', y', z'⟩, stp⟩ := X.virtualBack hx (y := y) (z := y) hown (mvT hZ w1) (mvT hZ w2) (notFace_of_selects (args := #[]) (mvT hZ w5)) (mvT hZ w5) (mvT hZ w6) hy (own_back (index := index) (W := W) hZ w3 w4 hM hf hlc) qa qc (g := mkF m pc Ls (as.reverse ++ .ref a :: rest)) rfl (hLs.trans hml.symm) (Steps.refl _) (argsL := as) (rest := rest) (lenOf hp hl) rfl (by show 2 * 0 + _ ≤ _; omega) hd (fun _ _ => ⟨rfl, eh, hcR, hsR⟩)
  dsimp only [Pt.U, Pt.locs, Pt.cells, Pt.slots] at X' l' y' z' stp hQy
  subst l' y' z'
  exact g_of (fun _ r => stp.trans r) (k v T' _ ⟨_, X', Fr.app N hF, rfl, hn, hx, hZ, rfl, hml, hown, hnm, hret, hlk⟩ hQy)
theorem g_callP (X : Wk Z own nm bytes ml ret R n0 p l e s m args below meth c T cells slots h) {index : Nat} {y : MethodName} {yb : ByteArray} {yml : Nat} {yret : Option FieldType} {Ry : Room} {Qy : Option Value → Heap → Prop} {ps : List FieldType} {r : Option FieldType} {a : Addr} {C : String} (E : Exa Z h a C) (as rest : List Value) (w1 : (Jvm.Cond.methodLink own index y).before a0 Z = true) (w5 : (Jvm.Cond.selects y.cls y y).before a0 Z = true) (w6 : (Jvm.Cond.instanceMethod y).before a0 Z = true) (w7 : (Jvm.Cond.privateMethod y).before a0 Z = true) (w3 : (Jvm.Cond.initialized y.cls).before a0 Z = true) (w4 : (Jvm.Cond.code y yb yml yret).before a0 Z = true) (hy : y.cls ≠ "java/lang/invoke/MethodHandle" ∧ y.cls ≠ "java/lang/invoke/VarHandle") (hM : Met l Z y yb yml yret Ry [] n0 (.ref a :: as).toArray h Qy) (hp : parseMethodDescriptor y.desc = some ⟨ps, r⟩) (hl : as.length = ps.length)
    {pc q c2 s2 W : Nat} {Ls : Array Slot} {st : List Value} (hst : st = as.reverse ++ .ref a :: rest) (hLs : Ls.size = ml) (hd : decode bytes pc = .ok (.invokevirtual index, 3)) (hq : pc + 3 = q) (hW : (rest.map fun v => v.category).sum = W) (hf : Ry.frames + 1 ≤ R.frames) (hlc : W + (yml + 11) + Ry.locals ≤ R.locals) (hc : cells + Ry.cells = c2) (hs : slots + Ry.slots = s2) (hcR : c2 ≤ R.cells) (hsR : s2 ≤ R.slots)
    (k : ∀ v T' h', Wk Z own nm bytes ml ret R n0 p l e s m args below meth c T' c2 s2 h' → Qy v h' → Goes p e below s R n0 Q (T'.setTop (mkF m q Ls (v.toList ++ rest)))) : Goes p e below s R n0 Q (T.setTop (mkF m pc Ls st)) := by
  obtain ⟨locs, X, N, eh, hn, hx, hZ, hby, hml, hown, hnm, hret, hlk⟩ := X
  subst hby hq hc hs hst
  obtain ⟨cq, q1, q2⟩ := E.cell
  obtain ⟨v, _, ⟨T', L', k', n'⟩, -, X', ⟨Lc, ⟨hF, hQy⟩, l', y', z'⟩, stp⟩ := X.privateBack hx (y := y) hown (mvT hZ w1) (mvT hZ w6) (mvT hZ w5) (Cond.privateMethod_at (mvP hZ w7 (args := #[]))) (mvT hZ w4) hy (own_back (index := index) (W := W) hZ w3 w4 hM hf hlc) (g := mkF m pc Ls (as.reverse ++ .ref a :: rest)) rfl (hLs.trans hml.symm) (Steps.refl _) (a := a) (by rw [eh]; exact q1) q2 (argsL := as) (rest := rest) (lenOf hp hl) rfl (by show 2 * 0 + _ ≤ _; omega) hd (fun _ _ => ⟨rfl, eh, hcR, hsR⟩)
  dsimp only [Pt.U, Pt.locs, Pt.cells, Pt.slots] at X' l' y' z' stp hQy
  subst l' y' z'
  exact g_of (fun _ r => stp.trans r) (k v T' _ ⟨_, X', Fr.app N hF, rfl, hn, hx, hZ, rfl, hml, hown, hnm, hret, hlk⟩ hQy)

theorem g_alenI (X : Wk Z own nm bytes ml ret R n0 p l e s m args below meth c T cells slots h) {a : Addr} {ty : FieldType} {n : Nat} {f : Nat → Int32} (A : AI Z h a ty n f) {pc q : Nat} {Ls : Array Slot} {rest : List Value} (hd : decode bytes pc = .ok (.arraylength, 1)) (hq : pc + 1 = q) (k : Goes p e below s R n0 Q (T.setTop (mkF m q Ls (.int n.toInt32 :: rest)))) : Goes p e below s R n0 Q (T.setTop (mkF m pc Ls (.ref a :: rest))) := by
  obtain ⟨locs, X, N, eh, hn, hx, hZ, hby, hml, hown, hnm, hret, hlk⟩ := X
  obtain ⟨z, cl, A, r1, r2⟩ := A
  subst hby hq r1
  exact g_of (fun t r => X.arraylength hx (by rw [eh]; exact A.1) (State.isArrayOf_alike hZ.alike A.2.1) (g := mkF m pc Ls (.ref a :: rest)) rfl rfl hd t r) k
theorem g_alenJ (X : Wk Z own nm bytes ml ret R n0 p l e s m args below meth c T cells slots h) {a : Addr} {n : Nat} {f : Nat → Int64} (A : AJ Z h a n f) {pc q : Nat} {Ls : Array Slot} {rest : List Value} (hd : decode bytes pc = .ok (.arraylength, 1)) (hq : pc + 1 = q) (k : Goes p e below s R n0 Q (T.setTop (mkF m q Ls (.int n.toInt32 :: rest)))) : Goes p e below s R n0 Q (T.setTop (mkF m pc Ls (.ref a :: rest))) := by
  obtain ⟨locs, X, N, eh, hn, hx, hZ, hby, hml, hown, hnm, hret, hlk⟩ := X
  obtain ⟨z, cl, A, r1, r2⟩ := A
  subst hby hq r1
  exact g_of (fun t r => X.arraylength hx (by rw [eh]; exact A.1) (State.isArrayOf_alike hZ.alike A.2.1) (g := mkF m pc Ls (.ref a :: rest)) rfl rfl hd t r) k
theorem g_iaload (X : Wk Z own nm bytes ml ret R n0 p l e s m args below meth c T cells slots h) {a : Addr} {n : Nat} {f : Nat → Int32} (A : AI Z h a .int n f) {j : Int32} (hj : 0 ≤ j.toInt ∧ j.toInt < n) {pc q : Nat} {Ls : Array Slot} {rest : List Value} (hd : decode bytes pc = .ok (.iaload, 1)) (hq : pc + 1 = q) (k : Goes p e below s R n0 Q (T.setTop (mkF m q Ls (.int (f j.toNatClampNeg) :: rest)))) : Goes p e below s R n0 Q (T.setTop (mkF m pc Ls (.int j :: .ref a :: rest))) := by
  obtain ⟨locs, X, N, eh, hn, hx, hZ, hby, hml, hown, hnm, hret, hlk⟩ := X
  obtain ⟨z, cl, A, r1, r2⟩ := A
  subst hby hq
  exact g_of (fun t r => X.iaload hx (j := j) (by rw [eh]; exact A.1) (State.isArrayOf_alike hZ.alike A.2.1) A.2.2 (own_ix r1 hj) (r2 _ (own_ixn hj)) (g := mkF m pc Ls (.int j :: .ref a :: rest)) rfl rfl hd t r) k
theorem g_laload (X : Wk Z own nm bytes ml ret R n0 p l e s m args below meth c T cells slots h) {a : Addr} {n : Nat} {f : Nat → Int64} (A : AJ Z h a n f) {j : Int32} (hj : 0 ≤ j.toInt ∧ j.toInt < n) {pc q : Nat} {Ls : Array Slot} {rest : List Value} (hd : decode bytes pc = .ok (.laload, 1)) (hq : pc + 1 = q) (k : Goes p e below s R n0 Q (T.setTop (mkF m q Ls (.long (f j.toNatClampNeg) :: rest)))) : Goes p e below s R n0 Q (T.setTop (mkF m pc Ls (.int j :: .ref a :: rest))) := by
  obtain ⟨locs, X, N, eh, hn, hx, hZ, hby, hml, hown, hnm, hret, hlk⟩ := X
  obtain ⟨z, cl, A, r1, r2⟩ := A
  subst hby hq
  exact g_of (fun t r => X.laload hx (j := j) (by rw [eh]; exact A.1) (State.isArrayOf_alike hZ.alike A.2.1) A.2.2 (own_ix r1 hj) (r2 _ (own_ixn hj)) (g := mkF m pc Ls (.int j :: .ref a :: rest)) rfl rfl hd t r) k
theorem g_baload (X : Wk Z own nm bytes ml ret R n0 p l e s m args below meth c T cells slots h) {a : Addr} {n : Nat} {f : Nat → Int32} (A : AI Z h a .byte n f) {j : Int32} (hj : 0 ≤ j.toInt ∧ j.toInt < n) {pc q : Nat} {Ls : Array Slot} {rest : List Value} (hd : decode bytes pc = .ok (.baload, 1)) (hq : pc + 1 = q) (k : Goes p e below s R n0 Q (T.setTop (mkF m q Ls (.int (f j.toNatClampNeg) :: rest)))) : Goes p e below s R n0 Q (T.setTop (mkF m pc Ls (.int j :: .ref a :: rest))) := by
  obtain ⟨locs, X, N, eh, hn, hx, hZ, hby, hml, hown, hnm, hret, hlk⟩ := X
  obtain ⟨z, cl, A, r1, r2⟩ := A
  subst hby hq
  exact g_of (fun t r => X.baloadBytes hx (j := j) (by rw [eh]; exact A.1) (State.isArrayOf_alike hZ.alike A.2.1) A.2.2 (own_ix r1 hj) (r2 _ (own_ixn hj)) (g := mkF m pc Ls (.int j :: .ref a :: rest)) rfl rfl hd t r) k
theorem g_zaload (X : Wk Z own nm bytes ml ret R n0 p l e s m args below meth c T cells slots h) {a : Addr} {n : Nat} {f : Nat → Int32} (A : AI Z h a .boolean n f) {j : Int32} (hj : 0 ≤ j.toInt ∧ j.toInt < n) {pc q : Nat} {Ls : Array Slot} {rest : List Value} (hd : decode bytes pc = .ok (.baload, 1)) (hq : pc + 1 = q) (k : Goes p e below s R n0 Q (T.setTop (mkF m q Ls (.int (f j.toNatClampNeg) :: rest)))) : Goes p e below s R n0 Q (T.setTop (mkF m pc Ls (.int j :: .ref a :: rest))) := by
  obtain ⟨locs, X, N, eh, hn, hx, hZ, hby, hml, hown, hnm, hret, hlk⟩ := X
  obtain ⟨z, cl, A, r1, r2⟩ := A
  subst hby hq
  exact g_of (fun t r => X.baloadBooleans hx (j := j) (by rw [eh]; exact A.1) (State.isArrayOf_alike hZ.alike A.2.1) A.2.2 (own_ix r1 hj) (r2 _ (own_ixn hj)) (g := mkF m pc Ls (.int j :: .ref a :: rest)) rfl rfl hd t r) k
theorem g_iastore (X : Wk Z own nm bytes ml ret R n0 p l e s m args below meth c T cells slots h) {a : Addr} {n : Nat} {f : Nat → Int32} (A : AI Z h a .int n f) {j : Int32} {x : Int32} (hj : 0 ≤ j.toInt ∧ j.toInt < n) (ga : n0 ≤ a) {pc q : Nat} {Ls : Array Slot} {rest : List Value} (hd : decode bytes pc = .ok (.iastore, 1)) (hq : pc + 1 = q) (k : ∀ T' h', Wk Z own nm bytes ml ret R n0 p l e s m args below meth c T' cells slots h' → Wr h h' a j.toNatClampNeg (.int x) → Goes p e below s R n0 Q (T'.setTop (mkF m q Ls rest))) : Goes p e below s R n0 Q (T.setTop (mkF m pc Ls (.int x :: .int j :: .ref a :: rest))) := by
  obtain ⟨locs, X, N, eh, hn, hx, hZ, hby, hml, hown, hnm, hret, hlk⟩ := X
  obtain ⟨z, cl, A, r1, r2⟩ := A
  subst hby hq
  obtain ⟨T', h', X', e', W', st⟩ := stI X hx hZ eh A (j := j) (own_ix r1 hj) (g := mkF m pc Ls (.int x :: .int j :: .ref a :: rest)) rfl rfl hd
  exact g_of st (k T' h' ⟨_, X', Fr.snoc X' N ga, e', hn, hx, hZ, rfl, hml, hown, hnm, hret, hlk⟩ W')
theorem g_lastore (X : Wk Z own nm bytes ml ret R n0 p l e s m args below meth c T cells slots h) {a : Addr} {n : Nat} {f : Nat → Int64} (A : AJ Z h a n f) {j : Int32} {x : Int64} (hj : 0 ≤ j.toInt ∧ j.toInt < n) (ga : n0 ≤ a) {pc q : Nat} {Ls : Array Slot} {rest : List Value} (hd : decode bytes pc = .ok (.lastore, 1)) (hq : pc + 1 = q) (k : ∀ T' h', Wk Z own nm bytes ml ret R n0 p l e s m args below meth c T' cells slots h' → Wr h h' a j.toNatClampNeg (.long x) → Goes p e below s R n0 Q (T'.setTop (mkF m q Ls rest))) : Goes p e below s R n0 Q (T.setTop (mkF m pc Ls (.long x :: .int j :: .ref a :: rest))) := by
  obtain ⟨locs, X, N, eh, hn, hx, hZ, hby, hml, hown, hnm, hret, hlk⟩ := X
  obtain ⟨z, cl, A, r1, r2⟩ := A
  subst hby hq
  obtain ⟨T', h', X', e', W', st⟩ := stJ X hx hZ eh A (j := j) (own_ix r1 hj) (g := mkF m pc Ls (.long x :: .int j :: .ref a :: rest)) rfl rfl hd
  exact g_of st (k T' h' ⟨_, X', Fr.snoc X' N ga, e', hn, hx, hZ, rfl, hml, hown, hnm, hret, hlk⟩ W')
theorem g_bastore (X : Wk Z own nm bytes ml ret R n0 p l e s m args below meth c T cells slots h) {a : Addr} {n : Nat} {f : Nat → Int32} (A : AI Z h a .byte n f) {j : Int32} {x : Int32} (hj : 0 ≤ j.toInt ∧ j.toInt < n) (ga : n0 ≤ a) {pc q : Nat} {Ls : Array Slot} {rest : List Value} (hd : decode bytes pc = .ok (.bastore, 1)) (hq : pc + 1 = q) (k : ∀ T' h', Wk Z own nm bytes ml ret R n0 p l e s m args below meth c T' cells slots h' → Wr h h' a j.toNatClampNeg (.int (nar .byte x)) → Goes p e below s R n0 Q (T'.setTop (mkF m q Ls rest))) : Goes p e below s R n0 Q (T.setTop (mkF m pc Ls (.int x :: .int j :: .ref a :: rest))) := by
  obtain ⟨locs, X, N, eh, hn, hx, hZ, hby, hml, hown, hnm, hret, hlk⟩ := X
  obtain ⟨z, cl, A, r1, r2⟩ := A
  subst hby hq
  obtain ⟨T', h', X', e', W', st⟩ := stB X hx hZ eh A (j := j) (own_ix r1 hj) (g := mkF m pc Ls (.int x :: .int j :: .ref a :: rest)) rfl rfl hd
  exact g_of st (k T' h' ⟨_, X', Fr.snoc X' N ga, e', hn, hx, hZ, rfl, hml, hown, hnm, hret, hlk⟩ W')
theorem g_zastore (X : Wk Z own nm bytes ml ret R n0 p l e s m args below meth c T cells slots h) {a : Addr} {n : Nat} {f : Nat → Int32} (A : AI Z h a .boolean n f) {j : Int32} {x : Int32} (hj : 0 ≤ j.toInt ∧ j.toInt < n) (ga : n0 ≤ a) {pc q : Nat} {Ls : Array Slot} {rest : List Value} (hd : decode bytes pc = .ok (.bastore, 1)) (hq : pc + 1 = q) (hz : x = 0 ∨ x = 1) (k : ∀ T' h', Wk Z own nm bytes ml ret R n0 p l e s m args below meth c T' cells slots h' → Wr h h' a j.toNatClampNeg (.int x) → Goes p e below s R n0 Q (T'.setTop (mkF m q Ls rest))) : Goes p e below s R n0 Q (T.setTop (mkF m pc Ls (.int x :: .int j :: .ref a :: rest))) := by
  obtain ⟨locs, X, N, eh, hn, hx, hZ, hby, hml, hown, hnm, hret, hlk⟩ := X
  obtain ⟨z, cl, A, r1, r2⟩ := A
  subst hby hq
  obtain ⟨T', h', X', e', W', st⟩ := stZ X hx hZ eh A (j := j) (own_ix r1 hj) (g := mkF m pc Ls (.int x :: .int j :: .ref a :: rest)) rfl rfl hd
  rw [own_narZ' hz] at W'
  exact g_of st (k T' h' ⟨_, X', Fr.snoc X' N ga, e', hn, hx, hZ, rfl, hml, hown, hnm, hret, hlk⟩ W')
theorem g_newarrI (X : Wk Z own nm bytes ml ret R n0 p l e s m args below meth c T cells slots h) {aty : ArrayType} (ht : defaultValue (newarray.typeOf aty) = .int 0) (w : (Jvm.Cond.arrayClass (newarray.typeOf aty)).before a0 Z = true) {n : Int32} {pc q c2 s2 cap : Nat} {Ls : Array Slot} {rest : List Value} (hd : decode bytes pc = .ok (.newarray aty, 2)) (hq : pc + 2 = q) (h0n : ¬ n < 0) (hcap : n.toNatClampNeg ≤ cap) (hbig : cap * 8 ≤ 536870912) (hc : cells + 1 = c2) (hs : slots + cap = s2) (hcR : c2 ≤ R.cells) (hsR : s2 ≤ R.slots)
    (k : ∀ T' h' b, Wk Z own nm bytes ml ret R n0 p l e s m args below meth c T' c2 s2 h' → b = h.size → n0 ≤ b → Ext h h' → AI Z h' b (newarray.typeOf aty) n.toNatClampNeg (fun _ => 0) → Goes p e below s R n0 Q (T'.setTop (mkF m q Ls (.ref b :: rest)))) : Goes p e below s R n0 Q (T.setTop (mkF m pc Ls (.int n :: rest))) := by
  obtain ⟨locs, X, N, eh, hn, hx, hZ, hby, hml, hown, hnm, hret, hlk⟩ := X
  subst hby hq hc hs
  obtain ⟨T', h', cA, X', e', E', A', stp⟩ := newP X hx hZ (aty := aty) w eh (g := mkF m pc Ls (.int n :: rest)) rfl hd rfl h0n hcap hbig hcR hsR
  refine g_of stp (k T' h' _ ⟨locs, X', N, e', hn, hx, hZ, rfl, hml, hown, hnm, hret, hlk⟩ rfl (Wk.size ⟨locs, X, N, eh, hn, hx, hZ, rfl, hml, hown, hnm, hret, hlk⟩) E' ⟨(back32 h0n).2, _, A', sz_new _ _ _, fun j hj => ?_⟩)
  simp only [newA, Array.getElem?_replicate, hj, if_true]
  rw [ht]
theorem g_newarrJ (X : Wk Z own nm bytes ml ret R n0 p l e s m args below meth c T cells slots h)  (w : (Jvm.Cond.arrayClass .long).before a0 Z = true) {n : Int32} {pc q c2 s2 cap : Nat} {Ls : Array Slot} {rest : List Value} (hd : decode bytes pc = .ok (.newarray .long, 2)) (hq : pc + 2 = q) (h0n : ¬ n < 0) (hcap : n.toNatClampNeg ≤ cap) (hbig : cap * 8 ≤ 536870912) (hc : cells + 1 = c2) (hs : slots + cap = s2) (hcR : c2 ≤ R.cells) (hsR : s2 ≤ R.slots)
    (k : ∀ T' h' b, Wk Z own nm bytes ml ret R n0 p l e s m args below meth c T' c2 s2 h' → b = h.size → n0 ≤ b → Ext h h' → AJ Z h' b n.toNatClampNeg (fun _ => 0) → Goes p e below s R n0 Q (T'.setTop (mkF m q Ls (.ref b :: rest)))) : Goes p e below s R n0 Q (T.setTop (mkF m pc Ls (.int n :: rest))) := by
  obtain ⟨locs, X, N, eh, hn, hx, hZ, hby, hml, hown, hnm, hret, hlk⟩ := X
  subst hby hq hc hs
  obtain ⟨T', h', cA, X', e', E', A', stp⟩ := newP X hx hZ (aty := .long) w eh (g := mkF m pc Ls (.int n :: rest)) rfl hd rfl h0n hcap hbig hcR hsR
  refine g_of stp (k T' h' _ ⟨locs, X', N, e', hn, hx, hZ, rfl, hml, hown, hnm, hret, hlk⟩ rfl (Wk.size ⟨locs, X, N, eh, hn, hx, hZ, rfl, hml, hown, hnm, hret, hlk⟩) E' ⟨(back32 h0n).2, _, A', sz_new _ _ _, fun j hj => ?_⟩)
  simp only [newA, Array.getElem?_replicate, hj, if_true]
  rfl
theorem g_jT0 (X : Wk Z own nm bytes ml ret R n0 p l e s m args below meth c T cells slots h) {J : Nat} {g : JFrame} (L : Array Slot) (S : List Value) (rest : ∀ T', Wk Z own nm bytes ml ret R n0 p l e s m args below meth c T' cells slots h → Goes p e below s R n0 Q (T'.setTop (mkF m J (L) (S)))) (here : (∀ T', Wk Z own nm bytes ml ret R n0 p l e s m args below meth c T' cells slots h → Goes p e below s R n0 Q (T'.setTop (mkF m J (L) (S)))) → Goes p e below s R n0 Q (T.setTop g)) : Goes p e below s R n0 Q (T.setTop g) := here rest
theorem g_jT1 {α : Type} (X : Wk Z own nm bytes ml ret R n0 p l e s m args below meth c T cells slots h) {J : Nat} {g : JFrame} (P : α → Prop) (L : α → Array Slot) (S : α → List Value) (rest : ∀ T', Wk Z own nm bytes ml ret R n0 p l e s m args below meth c T' cells slots h → ∀ a, P a → Goes p e below s R n0 Q (T'.setTop (mkF m J (L a) (S a)))) (here : (∀ T', Wk Z own nm bytes ml ret R n0 p l e s m args below meth c T' cells slots h → ∀ a, P a → Goes p e below s R n0 Q (T'.setTop (mkF m J (L a) (S a)))) → Goes p e below s R n0 Q (T.setTop g)) : Goes p e below s R n0 Q (T.setTop g) := here rest
theorem g_jT2 {α β : Type} (X : Wk Z own nm bytes ml ret R n0 p l e s m args below meth c T cells slots h) {J : Nat} {g : JFrame} (P : α → β → Prop) (L : α → β → Array Slot) (S : α → β → List Value) (rest : ∀ T', Wk Z own nm bytes ml ret R n0 p l e s m args below meth c T' cells slots h → ∀ a b, P a b → Goes p e below s R n0 Q (T'.setTop (mkF m J (L a b) (S a b)))) (here : (∀ T', Wk Z own nm bytes ml ret R n0 p l e s m args below meth c T' cells slots h → ∀ a b, P a b → Goes p e below s R n0 Q (T'.setTop (mkF m J (L a b) (S a b)))) → Goes p e below s R n0 Q (T.setTop g)) : Goes p e below s R n0 Q (T.setTop g) := here rest
theorem g_jT3 {α β γ : Type} (X : Wk Z own nm bytes ml ret R n0 p l e s m args below meth c T cells slots h) {J : Nat} {g : JFrame} (P : α → β → γ → Prop) (L : α → β → γ → Array Slot) (S : α → β → γ → List Value) (rest : ∀ T', Wk Z own nm bytes ml ret R n0 p l e s m args below meth c T' cells slots h → ∀ a b c', P a b c' → Goes p e below s R n0 Q (T'.setTop (mkF m J (L a b c') (S a b c')))) (here : (∀ T', Wk Z own nm bytes ml ret R n0 p l e s m args below meth c T' cells slots h → ∀ a b c', P a b c' → Goes p e below s R n0 Q (T'.setTop (mkF m J (L a b c') (S a b c')))) → Goes p e below s R n0 Q (T.setTop g)) : Goes p e below s R n0 Q (T.setTop g) := here rest
theorem g_jT4 {α β γ δ : Type} (X : Wk Z own nm bytes ml ret R n0 p l e s m args below meth c T cells slots h) {J : Nat} {g : JFrame} (P : α → β → γ → δ → Prop) (L : α → β → γ → δ → Array Slot) (S : α → β → γ → δ → List Value) (rest : ∀ T', Wk Z own nm bytes ml ret R n0 p l e s m args below meth c T' cells slots h → ∀ a b c' d, P a b c' d → Goes p e below s R n0 Q (T'.setTop (mkF m J (L a b c' d) (S a b c' d)))) (here : (∀ T', Wk Z own nm bytes ml ret R n0 p l e s m args below meth c T' cells slots h → ∀ a b c' d, P a b c' d → Goes p e below s R n0 Q (T'.setTop (mkF m J (L a b c' d) (S a b c' d)))) → Goes p e below s R n0 Q (T.setTop g)) : Goes p e below s R n0 Q (T.setTop g) := here rest
theorem g_loop1 {α : Type} (X : Wk Z own nm bytes ml ret R n0 p l e s m args below meth c T cells slots h) {H : Nat} (ms : α → Nat) (I : α → Heap → Prop) (L : α → Array Slot) (S : α → List Value) (a : α) (i0 : I a h) (turn : ∀ a T' h', Wk Z own nm bytes ml ret R n0 p l e s m args below meth c T' cells slots h' → I a h' → (∀ a' T'' h'', Wk Z own nm bytes ml ret R n0 p l e s m args below meth c T'' cells slots h'' → I a' h'' → ms a' < ms a → Goes p e below s R n0 Q (T''.setTop (mkF m H (L a') (S a')))) → Goes p e below s R n0 Q (T'.setTop (mkF m H (L a) (S a)))) : Goes p e below s R n0 Q (T.setTop (mkF m H (L a) (S a))) := by
  induction hk : ms a using Nat.strongRecOn generalizing a T h with
  | _ k ih => exact turn a T h X i0 (fun a' T2 h2 X2 i2 lt => ih _ (hk ▸ lt) X2 a' i2 rfl)
theorem g_loop2 {α β : Type} (X : Wk Z own nm bytes ml ret R n0 p l e s m args below meth c T cells slots h) {H : Nat} (ms : α → β → Nat) (I : α → β → Heap → Prop) (L : α → β → Array Slot) (S : α → β → List Value) (a : α) (b : β) (i0 : I a b h) (turn : ∀ a b T' h', Wk Z own nm bytes ml ret R n0 p l e s m args below meth c T' cells slots h' → I a b h' → (∀ a' b' T'' h'', Wk Z own nm bytes ml ret R n0 p l e s m args below meth c T'' cells slots h'' → I a' b' h'' → ms a' b' < ms a b → Goes p e below s R n0 Q (T''.setTop (mkF m H (L a' b') (S a' b')))) → Goes p e below s R n0 Q (T'.setTop (mkF m H (L a b) (S a b)))) : Goes p e below s R n0 Q (T.setTop (mkF m H (L a b) (S a b))) := by
  induction hk : ms a b using Nat.strongRecOn generalizing a b T h with
  | _ k ih => exact turn a b T h X i0 (fun a' b' T2 h2 X2 i2 lt => ih _ (hk ▸ lt) X2 a' b' i2 rfl)
theorem g_loop3 {α β γ : Type} (X : Wk Z own nm bytes ml ret R n0 p l e s m args below meth c T cells slots h) {H : Nat} (ms : α → β → γ → Nat) (I : α → β → γ → Heap → Prop) (L : α → β → γ → Array Slot) (S : α → β → γ → List Value) (a : α) (b : β) (u : γ) (i0 : I a b u h) (turn : ∀ a b u T' h', Wk Z own nm bytes ml ret R n0 p l e s m args below meth c T' cells slots h' → I a b u h' → (∀ a' b' u' T'' h'', Wk Z own nm bytes ml ret R n0 p l e s m args below meth c T'' cells slots h'' → I a' b' u' h'' → ms a' b' u' < ms a b u → Goes p e below s R n0 Q (T''.setTop (mkF m H (L a' b' u') (S a' b' u')))) → Goes p e below s R n0 Q (T'.setTop (mkF m H (L a b u) (S a b u)))) : Goes p e below s R n0 Q (T.setTop (mkF m H (L a b u) (S a b u))) := by
  induction hk : ms a b u using Nat.strongRecOn generalizing a b u T h with
  | _ k ih => exact turn a b u T h X i0 (fun a' b' u' T2 h2 X2 i2 lt => ih _ (hk ▸ lt) X2 a' b' u' i2 rfl)
theorem g_loop4 {α β γ δ : Type} (X : Wk Z own nm bytes ml ret R n0 p l e s m args below meth c T cells slots h) {H : Nat} (ms : α → β → γ → δ → Nat) (I : α → β → γ → δ → Heap → Prop) (L : α → β → γ → δ → Array Slot) (S : α → β → γ → δ → List Value) (a : α) (b : β) (u : γ) (w : δ) (i0 : I a b u w h) (turn : ∀ a b u w T' h', Wk Z own nm bytes ml ret R n0 p l e s m args below meth c T' cells slots h' → I a b u w h' → (∀ a' b' u' w' T'' h'', Wk Z own nm bytes ml ret R n0 p l e s m args below meth c T'' cells slots h'' → I a' b' u' w' h'' → ms a' b' u' w' < ms a b u w → Goes p e below s R n0 Q (T''.setTop (mkF m H (L a' b' u' w') (S a' b' u' w')))) → Goes p e below s R n0 Q (T'.setTop (mkF m H (L a b u w) (S a b u w)))) : Goes p e below s R n0 Q (T.setTop (mkF m H (L a b u w) (S a b u w))) := by
  induction hk : ms a b u w using Nat.strongRecOn generalizing a b u w T h with
  | _ k ih => exact turn a b u w T h X i0 (fun a' b' u' w' T2 h2 X2 i2 lt => ih _ (hk ▸ lt) X2 a' b' u' w' i2 rfl)
theorem g_loop5 {α β γ δ ε : Type} (X : Wk Z own nm bytes ml ret R n0 p l e s m args below meth c T cells slots h) {H : Nat} (ms : α → β → γ → δ → ε → Nat) (I : α → β → γ → δ → ε → Heap → Prop) (L : α → β → γ → δ → ε → Array Slot) (S : α → β → γ → δ → ε → List Value) (a : α) (b : β) (u : γ) (w : δ) (z : ε) (i0 : I a b u w z h) (turn : ∀ a b u w z T' h', Wk Z own nm bytes ml ret R n0 p l e s m args below meth c T' cells slots h' → I a b u w z h' → (∀ a' b' u' w' z' T'' h'', Wk Z own nm bytes ml ret R n0 p l e s m args below meth c T'' cells slots h'' → I a' b' u' w' z' h'' → ms a' b' u' w' z' < ms a b u w z → Goes p e below s R n0 Q (T''.setTop (mkF m H (L a' b' u' w' z') (S a' b' u' w' z')))) → Goes p e below s R n0 Q (T'.setTop (mkF m H (L a b u w z) (S a b u w z)))) : Goes p e below s R n0 Q (T.setTop (mkF m H (L a b u w z) (S a b u w z))) := by
  induction hk : ms a b u w z using Nat.strongRecOn generalizing a b u w z T h with
  | _ k ih => exact turn a b u w z T h X i0 (fun a' b' u' w' z' T2 h2 X2 i2 lt => ih _ (hk ▸ lt) X2 a' b' u' w' z' i2 rfl)
end Walk
end Jvm.Own
namespace Jvm.Pilot.@@N@@
open Jvm Jvm.ClassFile Sem Op Lib Jvm.Free Jvm.Stand Jvm.LawKit Jvm.RoadKit Bundle Jvm.Own Jvm.Pilot.@@N@@.Jvm.D

theorem tw0 {Z : State} {a0 : Array Value} (hw : ∀ d ∈ tables_1, d.before a0 Z = true) : ((Jvm.Cond.methodLink "com/example/masked_merge/maskedmerge/core/ShareCompareToPinLaw" (8 : Nat) ({ cls := "com/example/masked_merge/maskedmerge/core/ShareCompareToPinLaw", name := "size", desc := "(I)I" } : Jvm.MethodName))).before a0 Z = true := hw _ (List.mem_of_getElem? (i := 0) rfl)
theorem tw1 {Z : State} {a0 : Array Value} (hw : ∀ d ∈ tables_1, d.before a0 Z = true) : ((Jvm.Cond.static ({ cls := "com/example/masked_merge/maskedmerge/core/ShareCompareToPinLaw", name := "size", desc := "(I)I" } : Jvm.MethodName))).before a0 Z = true := hw _ (List.mem_of_getElem? (i := 1) rfl)
theorem tw2 {Z : State} {a0 : Array Value} (hw : ∀ d ∈ tables_1, d.before a0 Z = true) : ((Jvm.Cond.initialized "com/example/masked_merge/maskedmerge/core/ShareCompareToPinLaw")).before a0 Z = true := hw _ (List.mem_of_getElem? (i := 2) rfl)
theorem tw3 {Z : State} {a0 : Array Value} (hw : ∀ d ∈ tables_1, d.before a0 Z = true) : ((Jvm.Cond.code ({ cls := "com/example/masked_merge/maskedmerge/core/ShareCompareToPinLaw", name := "size", desc := "(I)I" } : Jvm.MethodName) method_2_code (2 : Nat) (Option.some Jvm.ClassFile.FieldType.int))).before a0 Z = true := hw _ (List.mem_of_getElem? (i := 3) rfl)
theorem tw4 {Z : State} {a0 : Array Value} (hw : ∀ d ∈ tables_1, d.before a0 Z = true) : ((Jvm.Cond.constant "com/example/masked_merge/maskedmerge/core/ShareCompareToPinLaw" (7 : Nat) (2147483647 : Int32))).before a0 Z = true := hw _ (List.mem_of_getElem? (i := 4) rfl)
theorem tw5 {Z : State} {a0 : Array Value} (hw : ∀ d ∈ tables_1, d.before a0 Z = true) : ((Jvm.Cond.methodLink "com/example/masked_merge/maskedmerge/core/ShareCompareToPinLaw" (14 : Nat) ({ cls := "com/example/masked_merge/maskedmerge/core/ShareCompareToPinLaw", name := "cnt", desc := "(II)I" } : Jvm.MethodName))).before a0 Z = true := hw _ (List.mem_of_getElem? (i := 5) rfl)
theorem tw6 {Z : State} {a0 : Array Value} (hw : ∀ d ∈ tables_1, d.before a0 Z = true) : ((Jvm.Cond.static ({ cls := "com/example/masked_merge/maskedmerge/core/ShareCompareToPinLaw", name := "cnt", desc := "(II)I" } : Jvm.MethodName))).before a0 Z = true := hw _ (List.mem_of_getElem? (i := 6) rfl)
theorem tw7 {Z : State} {a0 : Array Value} (hw : ∀ d ∈ tables_1, d.before a0 Z = true) : ((Jvm.Cond.code ({ cls := "com/example/masked_merge/maskedmerge/core/ShareCompareToPinLaw", name := "cnt", desc := "(II)I" } : Jvm.MethodName) method_3_code (2 : Nat) (Option.some Jvm.ClassFile.FieldType.int))).before a0 Z = true := hw _ (List.mem_of_getElem? (i := 7) rfl)
theorem tw8 {Z : State} {a0 : Array Value} (hw : ∀ d ∈ tables_1, d.before a0 Z = true) : ((Jvm.Cond.constantLong "com/example/masked_merge/maskedmerge/core/ShareCompareToPinLaw" (20 : Nat) (2147483647 : Int64))).before a0 Z = true := hw _ (List.mem_of_getElem? (i := 8) rfl)
theorem tw9 {Z : State} {a0 : Array Value} (hw : ∀ d ∈ tables_1, d.before a0 Z = true) : ((Jvm.Cond.methodLink "com/example/masked_merge/maskedmerge/core/ShareCompareToPinLaw" (22 : Nat) ({ cls := "java/lang/Math", name := "max", desc := "(II)I" } : Jvm.MethodName))).before a0 Z = true := hw _ (List.mem_of_getElem? (i := 9) rfl)
theorem tw10 {Z : State} {a0 : Array Value} (hw : ∀ d ∈ tables_1, d.before a0 Z = true) : ((Jvm.Cond.static ({ cls := "java/lang/Math", name := "max", desc := "(II)I" } : Jvm.MethodName))).before a0 Z = true := hw _ (List.mem_of_getElem? (i := 10) rfl)
theorem tw11 {Z : State} {a0 : Array Value} (hw : ∀ d ∈ tables_1, d.before a0 Z = true) : ((Jvm.Cond.initialized "java/lang/Math")).before a0 Z = true := hw _ (List.mem_of_getElem? (i := 11) rfl)
theorem tw12 {Z : State} {a0 : Array Value} (hw : ∀ d ∈ tables_1, d.before a0 Z = true) : ((Jvm.Cond.code ({ cls := "java/lang/Math", name := "max", desc := "(II)I" } : Jvm.MethodName) jdk_29_method_65_code (2 : Nat) (Option.some Jvm.ClassFile.FieldType.int))).before a0 Z = true := hw _ (List.mem_of_getElem? (i := 12) rfl)
theorem tw13 {Z : State} {a0 : Array Value} (hw : ∀ d ∈ tables_1, d.before a0 Z = true) : ((Jvm.Cond.classLink "com/example/masked_merge/maskedmerge/core/ShareCompareToPinLaw" (27 : Nat) "com/example/masked_merge/maskedmerge/core/Share")).before a0 Z = true := hw _ (List.mem_of_getElem? (i := 13) rfl)
theorem tw14 {Z : State} {a0 : Array Value} (hw : ∀ d ∈ tables_1, d.before a0 Z = true) : ((Jvm.Cond.instantiable "com/example/masked_merge/maskedmerge/core/Share" (2 : Nat))).before a0 Z = true := hw _ (List.mem_of_getElem? (i := 14) rfl)
theorem tw15 {Z : State} {a0 : Array Value} (hw : ∀ d ∈ tables_1, d.before a0 Z = true) : ((Jvm.Cond.initialized "com/example/masked_merge/maskedmerge/core/Share")).before a0 Z = true := hw _ (List.mem_of_getElem? (i := 15) rfl)
theorem tw16 {Z : State} {a0 : Array Value} (hw : ∀ d ∈ tables_1, d.before a0 Z = true) : ((Jvm.Cond.methodLink "com/example/masked_merge/maskedmerge/core/ShareCompareToPinLaw" (29 : Nat) ({ cls := "com/example/masked_merge/maskedmerge/core/Share", name := "<init>", desc := "(II)V" } : Jvm.MethodName))).before a0 Z = true := hw _ (List.mem_of_getElem? (i := 16) rfl)
theorem tw17 {Z : State} {a0 : Array Value} (hw : ∀ d ∈ tables_1, d.before a0 Z = true) : ((Jvm.Cond.instanceMethod ({ cls := "com/example/masked_merge/maskedmerge/core/Share", name := "<init>", desc := "(II)V" } : Jvm.MethodName))).before a0 Z = true := hw _ (List.mem_of_getElem? (i := 17) rfl)
theorem tw18 {Z : State} {a0 : Array Value} (hw : ∀ d ∈ tables_1, d.before a0 Z = true) : ((Jvm.Cond.code ({ cls := "com/example/masked_merge/maskedmerge/core/Share", name := "<init>", desc := "(II)V" } : Jvm.MethodName) prog_21_method_1_code (3 : Nat) (Option.none : Option Jvm.ClassFile.FieldType))).before a0 Z = true := hw _ (List.mem_of_getElem? (i := 18) rfl)
theorem tw19 {Z : State} {a0 : Array Value} (hw : ∀ d ∈ tables_1, d.before a0 Z = true) : ((Jvm.Cond.methodLink "com/example/masked_merge/maskedmerge/core/Share" (1 : Nat) ({ cls := "java/lang/Record", name := "<init>", desc := "()V" } : Jvm.MethodName))).before a0 Z = true := hw _ (List.mem_of_getElem? (i := 19) rfl)
theorem tw20 {Z : State} {a0 : Array Value} (hw : ∀ d ∈ tables_1, d.before a0 Z = true) : ((Jvm.Cond.instanceMethod ({ cls := "java/lang/Record", name := "<init>", desc := "()V" } : Jvm.MethodName))).before a0 Z = true := hw _ (List.mem_of_getElem? (i := 20) rfl)
theorem tw22 {Z : State} {a0 : Array Value} (hw : ∀ d ∈ tables_1, d.before a0 Z = true) : ((Jvm.Cond.initialized "java/lang/Record")).before a0 Z = true := hw _ (List.mem_of_getElem? (i := 22) rfl)
theorem tw23 {Z : State} {a0 : Array Value} (hw : ∀ d ∈ tables_1, d.before a0 Z = true) : ((Jvm.Cond.code ({ cls := "java/lang/Record", name := "<init>", desc := "()V" } : Jvm.MethodName) jdk_30_method_1_code (1 : Nat) (Option.none : Option Jvm.ClassFile.FieldType))).before a0 Z = true := hw _ (List.mem_of_getElem? (i := 23) rfl)
theorem tw24 {Z : State} {a0 : Array Value} (hw : ∀ d ∈ tables_1, d.before a0 Z = true) : ((Jvm.Cond.methodLink "java/lang/Record" (1 : Nat) ({ cls := "java/lang/Object", name := "<init>", desc := "()V" } : Jvm.MethodName))).before a0 Z = true := hw _ (List.mem_of_getElem? (i := 24) rfl)
theorem tw25 {Z : State} {a0 : Array Value} (hw : ∀ d ∈ tables_1, d.before a0 Z = true) : ((Jvm.Cond.instanceMethod ({ cls := "java/lang/Object", name := "<init>", desc := "()V" } : Jvm.MethodName))).before a0 Z = true := hw _ (List.mem_of_getElem? (i := 25) rfl)
theorem tw26 {Z : State} {a0 : Array Value} (hw : ∀ d ∈ tables_1, d.before a0 Z = true) : ((Jvm.Cond.code ({ cls := "java/lang/Object", name := "<init>", desc := "()V" } : Jvm.MethodName) object_method_1_code (1 : Nat) (Option.none : Option Jvm.ClassFile.FieldType))).before a0 Z = true := hw _ (List.mem_of_getElem? (i := 26) rfl)
theorem tw27 {Z : State} {a0 : Array Value} (hw : ∀ d ∈ tables_1, d.before a0 Z = true) : ((Jvm.Cond.fieldLink "com/example/masked_merge/maskedmerge/core/Share" (16 : Nat) "com/example/masked_merge/maskedmerge/core/Share" "count" "I")).before a0 Z = true := hw _ (List.mem_of_getElem? (i := 27) rfl)
theorem tw28 {Z : State} {a0 : Array Value} (hw : ∀ d ∈ tables_1, d.before a0 Z = true) : ((Jvm.Cond.laysFinal "com/example/masked_merge/maskedmerge/core/Share" "com/example/masked_merge/maskedmerge/core/Share" "count" "I")).before a0 Z = true := hw _ (List.mem_of_getElem? (i := 28) rfl)
theorem tw29 {Z : State} {a0 : Array Value} (hw : ∀ d ∈ tables_1, d.before a0 Z = true) : ((Jvm.Cond.fieldLink "com/example/masked_merge/maskedmerge/core/Share" (22 : Nat) "com/example/masked_merge/maskedmerge/core/Share" "size" "I")).before a0 Z = true := hw _ (List.mem_of_getElem? (i := 29) rfl)
theorem tw30 {Z : State} {a0 : Array Value} (hw : ∀ d ∈ tables_1, d.before a0 Z = true) : ((Jvm.Cond.laysFinal "com/example/masked_merge/maskedmerge/core/Share" "com/example/masked_merge/maskedmerge/core/Share" "size" "I")).before a0 Z = true := hw _ (List.mem_of_getElem? (i := 30) rfl)
theorem tw31 {Z : State} {a0 : Array Value} (hw : ∀ d ∈ tables_1, d.before a0 Z = true) : ((Jvm.Cond.methodLink "com/example/masked_merge/maskedmerge/core/ShareCompareToPinLaw" (32 : Nat) ({ cls := "com/example/masked_merge/maskedmerge/core/Share", name := "compareTo", desc := "(Lcom/example/masked_merge/maskedmerge/core/Share;)I" } : Jvm.MethodName))).before a0 Z = true := hw _ (List.mem_of_getElem? (i := 31) rfl)
theorem tw32 {Z : State} {a0 : Array Value} (hw : ∀ d ∈ tables_1, d.before a0 Z = true) : ((Jvm.Cond.declares ({ cls := "com/example/masked_merge/maskedmerge/core/Share", name := "compareTo", desc := "(Lcom/example/masked_merge/maskedmerge/core/Share;)I" } : Jvm.MethodName))).before a0 Z = true := hw _ (List.mem_of_getElem? (i := 32) rfl)
theorem tw33 {Z : State} {a0 : Array Value} (hw : ∀ d ∈ tables_1, d.before a0 Z = true) : ((Jvm.Cond.instanceMethod ({ cls := "com/example/masked_merge/maskedmerge/core/Share", name := "compareTo", desc := "(Lcom/example/masked_merge/maskedmerge/core/Share;)I" } : Jvm.MethodName))).before a0 Z = true := hw _ (List.mem_of_getElem? (i := 33) rfl)
theorem tw34 {Z : State} {a0 : Array Value} (hw : ∀ d ∈ tables_1, d.before a0 Z = true) : ((Jvm.Cond.selects "com/example/masked_merge/maskedmerge/core/Share" ({ cls := "com/example/masked_merge/maskedmerge/core/Share", name := "compareTo", desc := "(Lcom/example/masked_merge/maskedmerge/core/Share;)I" } : Jvm.MethodName) ({ cls := "com/example/masked_merge/maskedmerge/core/Share", name := "compareTo", desc := "(Lcom/example/masked_merge/maskedmerge/core/Share;)I" } : Jvm.MethodName))).before a0 Z = true := hw _ (List.mem_of_getElem? (i := 34) rfl)
theorem tw35 {Z : State} {a0 : Array Value} (hw : ∀ d ∈ tables_1, d.before a0 Z = true) : ((Jvm.Cond.code ({ cls := "com/example/masked_merge/maskedmerge/core/Share", name := "compareTo", desc := "(Lcom/example/masked_merge/maskedmerge/core/Share;)I" } : Jvm.MethodName) prog_21_method_2_code (2 : Nat) (Option.some Jvm.ClassFile.FieldType.int))).before a0 Z = true := hw _ (List.mem_of_getElem? (i := 35) rfl)
theorem tw36 {Z : State} {a0 : Array Value} (hw : ∀ d ∈ tables_1, d.before a0 Z = true) : ((Jvm.Cond.methodLink "com/example/masked_merge/maskedmerge/core/Share" (25 : Nat) ({ cls := "java/lang/Long", name := "compare", desc := "(JJ)I" } : Jvm.MethodName))).before a0 Z = true := hw _ (List.mem_of_getElem? (i := 36) rfl)
theorem tw37 {Z : State} {a0 : Array Value} (hw : ∀ d ∈ tables_1, d.before a0 Z = true) : ((Jvm.Cond.static ({ cls := "java/lang/Long", name := "compare", desc := "(JJ)I" } : Jvm.MethodName))).before a0 Z = true := hw _ (List.mem_of_getElem? (i := 37) rfl)
theorem tw38 {Z : State} {a0 : Array Value} (hw : ∀ d ∈ tables_1, d.before a0 Z = true) : ((Jvm.Cond.initialized "java/lang/Long")).before a0 Z = true := hw _ (List.mem_of_getElem? (i := 38) rfl)
theorem tw39 {Z : State} {a0 : Array Value} (hw : ∀ d ∈ tables_1, d.before a0 Z = true) : ((Jvm.Cond.code ({ cls := "java/lang/Long", name := "compare", desc := "(JJ)I" } : Jvm.MethodName) jdk_35_method_42_code (4 : Nat) (Option.some Jvm.ClassFile.FieldType.int))).before a0 Z = true := hw _ (List.mem_of_getElem? (i := 39) rfl)
theorem tw40 {Z : State} {a0 : Array Value} (hw : ∀ d ∈ tables_1, d.before a0 Z = true) : ((Jvm.Cond.methodLink "com/example/masked_merge/maskedmerge/core/ShareCompareToPinLaw" (36 : Nat) ({ cls := "com/example/masked_merge/maskedmerge/core/ShareCompareToPinLaw", name := "sg", desc := "(I)I" } : Jvm.MethodName))).before a0 Z = true := hw _ (List.mem_of_getElem? (i := 40) rfl)
theorem tw41 {Z : State} {a0 : Array Value} (hw : ∀ d ∈ tables_1, d.before a0 Z = true) : ((Jvm.Cond.static ({ cls := "com/example/masked_merge/maskedmerge/core/ShareCompareToPinLaw", name := "sg", desc := "(I)I" } : Jvm.MethodName))).before a0 Z = true := hw _ (List.mem_of_getElem? (i := 41) rfl)
theorem tw42 {Z : State} {a0 : Array Value} (hw : ∀ d ∈ tables_1, d.before a0 Z = true) : ((Jvm.Cond.code ({ cls := "com/example/masked_merge/maskedmerge/core/ShareCompareToPinLaw", name := "sg", desc := "(I)I" } : Jvm.MethodName) method_4_code (1 : Nat) (Option.some Jvm.ClassFile.FieldType.int))).before a0 Z = true := hw _ (List.mem_of_getElem? (i := 42) rfl)
theorem tw43 {Z : State} {a0 : Array Value} (hw : ∀ d ∈ tables_1, d.before a0 Z = true) : ((Jvm.Cond.methodLink "com/example/masked_merge/maskedmerge/core/ShareCompareToPinLaw" (39 : Nat) ({ cls := "com/example/masked_merge/maskedmerge/core/ShareCompareToPinLaw", name := "cmp", desc := "(II)I" } : Jvm.MethodName))).before a0 Z = true := hw _ (List.mem_of_getElem? (i := 43) rfl)
theorem tw44 {Z : State} {a0 : Array Value} (hw : ∀ d ∈ tables_1, d.before a0 Z = true) : ((Jvm.Cond.static ({ cls := "com/example/masked_merge/maskedmerge/core/ShareCompareToPinLaw", name := "cmp", desc := "(II)I" } : Jvm.MethodName))).before a0 Z = true := hw _ (List.mem_of_getElem? (i := 44) rfl)
theorem tw45 {Z : State} {a0 : Array Value} (hw : ∀ d ∈ tables_1, d.before a0 Z = true) : ((Jvm.Cond.code ({ cls := "com/example/masked_merge/maskedmerge/core/ShareCompareToPinLaw", name := "cmp", desc := "(II)I" } : Jvm.MethodName) method_5_code (2 : Nat) (Option.some Jvm.ClassFile.FieldType.int))).before a0 Z = true := hw _ (List.mem_of_getElem? (i := 45) rfl)
theorem pd0 : parseMethodDescriptor "()V" = some ⟨[], none⟩ := by decide +kernel
theorem pd1 : parseMethodDescriptor "(JJ)I" = some ⟨[.long, .long], some .int⟩ := by decide +kernel
theorem pd2 : parseMethodDescriptor "(I)I" = some ⟨[.int], some .int⟩ := by decide +kernel
theorem pd3 : parseMethodDescriptor "(II)I" = some ⟨[.int, .int], some .int⟩ := by decide +kernel
theorem pd4 : parseMethodDescriptor "(II)V" = some ⟨[.int, .int], none⟩ := by decide +kernel
theorem pd5 : parseMethodDescriptor "(Lcom/example/masked_merge/maskedmerge/core/Share;)I" = some ⟨[(.object "com/example/masked_merge/maskedmerge/core/Share")], some .int⟩ := by decide +kernel
theorem d1_0 : decode method_2_code 0 = .ok (.iload_n 0, 1) := by decide +kernel
theorem d1_1 : decode method_2_code 1 = .ok (.ldc 7, 2) := by decide +kernel
theorem d1_3 : decode method_2_code 3 = .ok (.iand, 1) := by decide +kernel
theorem d1_4 : decode method_2_code 4 = .ok (.istore_n 1, 1) := by decide +kernel
theorem d1_5 : decode method_2_code 5 = .ok (.iload_n 1, 1) := by decide +kernel
theorem d1_6 : decode method_2_code 6 = .ok (.ifCond .ne 7, 3) := by decide +kernel
theorem d1_9 : decode method_2_code 9 = .ok (.iconst 1, 1) := by decide +kernel
theorem d1_10 : decode method_2_code 10 = .ok (.goto 4, 3) := by decide +kernel
theorem d1_13 : decode method_2_code 13 = .ok (.iload_n 1, 1) := by decide +kernel
theorem d1_14 : decode method_2_code 14 = .ok (.ireturn, 1) := by decide +kernel
theorem d2_0 : decode method_3_code 0 = .ok (.iload_n 0, 1) := by decide +kernel
theorem d2_1 : decode method_3_code 1 = .ok (.ldc 7, 2) := by decide +kernel
theorem d2_3 : decode method_3_code 3 = .ok (.iand, 1) := by decide +kernel
theorem d2_4 : decode method_3_code 4 = .ok (.i2l, 1) := by decide +kernel
theorem d2_5 : decode method_3_code 5 = .ok (.iload_n 1, 1) := by decide +kernel
theorem d2_6 : decode method_3_code 6 = .ok (.i2l, 1) := by decide +kernel
theorem d2_7 : decode method_3_code 7 = .ok (.lconst 1, 1) := by decide +kernel
theorem d2_8 : decode method_3_code 8 = .ok (.ladd, 1) := by decide +kernel
theorem d2_9 : decode method_3_code 9 = .ok (.lrem, 1) := by decide +kernel
theorem d2_10 : decode method_3_code 10 = .ok (.l2i, 1) := by decide +kernel
theorem d2_11 : decode method_3_code 11 = .ok (.ireturn, 1) := by decide +kernel
theorem d3_0 : decode jdk_29_method_65_code 0 = .ok (.iload_n 0, 1) := by decide +kernel
theorem d3_1 : decode jdk_29_method_65_code 1 = .ok (.iload_n 1, 1) := by decide +kernel
theorem d3_2 : decode jdk_29_method_65_code 2 = .ok (.if_icmp .lt 7, 3) := by decide +kernel
theorem d3_5 : decode jdk_29_method_65_code 5 = .ok (.iload_n 0, 1) := by decide +kernel
theorem d3_6 : decode jdk_29_method_65_code 6 = .ok (.goto 4, 3) := by decide +kernel
theorem d3_9 : decode jdk_29_method_65_code 9 = .ok (.iload_n 1, 1) := by decide +kernel
theorem d3_10 : decode jdk_29_method_65_code 10 = .ok (.ireturn, 1) := by decide +kernel
theorem d4_0 : decode prog_21_method_1_code 0 = .ok (.aload_n 0, 1) := by decide +kernel
theorem d4_1 : decode prog_21_method_1_code 1 = .ok (.invokespecial 1, 3) := by decide +kernel
theorem d4_4 : decode prog_21_method_1_code 4 = .ok (.iload_n 2, 1) := by decide +kernel
theorem d4_5 : decode prog_21_method_1_code 5 = .ok (.ifCond .le 12, 3) := by decide +kernel
theorem d4_8 : decode prog_21_method_1_code 8 = .ok (.iload_n 1, 1) := by decide +kernel
theorem d4_9 : decode prog_21_method_1_code 9 = .ok (.ifCond .lt 8, 3) := by decide +kernel
theorem d4_12 : decode prog_21_method_1_code 12 = .ok (.iload_n 1, 1) := by decide +kernel
theorem d4_13 : decode prog_21_method_1_code 13 = .ok (.iload_n 2, 1) := by decide +kernel
theorem d4_14 : decode prog_21_method_1_code 14 = .ok (.if_icmp .le 18, 3) := by decide +kernel
theorem d4_32 : decode prog_21_method_1_code 32 = .ok (.aload_n 0, 1) := by decide +kernel
theorem d4_33 : decode prog_21_method_1_code 33 = .ok (.iload_n 1, 1) := by decide +kernel
theorem d4_34 : decode prog_21_method_1_code 34 = .ok (.putfield 16, 3) := by decide +kernel
theorem d4_37 : decode prog_21_method_1_code 37 = .ok (.aload_n 0, 1) := by decide +kernel
theorem d4_38 : decode prog_21_method_1_code 38 = .ok (.iload_n 2, 1) := by decide +kernel
theorem d4_39 : decode prog_21_method_1_code 39 = .ok (.putfield 22, 3) := by decide +kernel
theorem d4_42 : decode prog_21_method_1_code 42 = .ok (.return_, 1) := by decide +kernel
theorem d5_0 : decode jdk_30_method_1_code 0 = .ok (.aload_n 0, 1) := by decide +kernel
theorem d5_1 : decode jdk_30_method_1_code 1 = .ok (.invokespecial 1, 3) := by decide +kernel
theorem d5_4 : decode jdk_30_method_1_code 4 = .ok (.return_, 1) := by decide +kernel
theorem d7_0 : decode prog_21_method_2_code 0 = .ok (.aload_n 0, 1) := by decide +kernel
theorem d7_1 : decode prog_21_method_2_code 1 = .ok (.getfield 16, 3) := by decide +kernel
theorem d7_4 : decode prog_21_method_2_code 4 = .ok (.i2l, 1) := by decide +kernel
theorem d7_5 : decode prog_21_method_2_code 5 = .ok (.aload_n 1, 1) := by decide +kernel
theorem d7_6 : decode prog_21_method_2_code 6 = .ok (.getfield 22, 3) := by decide +kernel
theorem d7_9 : decode prog_21_method_2_code 9 = .ok (.i2l, 1) := by decide +kernel
theorem d7_10 : decode prog_21_method_2_code 10 = .ok (.lmul, 1) := by decide +kernel
theorem d7_11 : decode prog_21_method_2_code 11 = .ok (.aload_n 1, 1) := by decide +kernel
theorem d7_12 : decode prog_21_method_2_code 12 = .ok (.getfield 16, 3) := by decide +kernel
theorem d7_15 : decode prog_21_method_2_code 15 = .ok (.i2l, 1) := by decide +kernel
theorem d7_16 : decode prog_21_method_2_code 16 = .ok (.aload_n 0, 1) := by decide +kernel
theorem d7_17 : decode prog_21_method_2_code 17 = .ok (.getfield 22, 3) := by decide +kernel
theorem d7_20 : decode prog_21_method_2_code 20 = .ok (.i2l, 1) := by decide +kernel
theorem d7_21 : decode prog_21_method_2_code 21 = .ok (.lmul, 1) := by decide +kernel
theorem d7_22 : decode prog_21_method_2_code 22 = .ok (.invokestatic 25, 3) := by decide +kernel
theorem d7_25 : decode prog_21_method_2_code 25 = .ok (.ireturn, 1) := by decide +kernel
theorem d8_0 : decode jdk_35_method_42_code 0 = .ok (.lload_n 0, 1) := by decide +kernel
theorem d8_1 : decode jdk_35_method_42_code 1 = .ok (.lload_n 2, 1) := by decide +kernel
theorem d8_2 : decode jdk_35_method_42_code 2 = .ok (.lcmp, 1) := by decide +kernel
theorem d8_3 : decode jdk_35_method_42_code 3 = .ok (.ifCond .ge 7, 3) := by decide +kernel
theorem d8_6 : decode jdk_35_method_42_code 6 = .ok (.iconst (-1), 1) := by decide +kernel
theorem d8_7 : decode jdk_35_method_42_code 7 = .ok (.goto 14, 3) := by decide +kernel
theorem d8_10 : decode jdk_35_method_42_code 10 = .ok (.lload_n 0, 1) := by decide +kernel
theorem d8_11 : decode jdk_35_method_42_code 11 = .ok (.lload_n 2, 1) := by decide +kernel
theorem d8_12 : decode jdk_35_method_42_code 12 = .ok (.lcmp, 1) := by decide +kernel
theorem d8_13 : decode jdk_35_method_42_code 13 = .ok (.ifCond .ne 7, 3) := by decide +kernel
theorem d8_16 : decode jdk_35_method_42_code 16 = .ok (.iconst 0, 1) := by decide +kernel
theorem d8_17 : decode jdk_35_method_42_code 17 = .ok (.goto 4, 3) := by decide +kernel
theorem d8_20 : decode jdk_35_method_42_code 20 = .ok (.iconst 1, 1) := by decide +kernel
theorem d8_21 : decode jdk_35_method_42_code 21 = .ok (.ireturn, 1) := by decide +kernel
theorem d9_0 : decode method_4_code 0 = .ok (.iload_n 0, 1) := by decide +kernel
theorem d9_1 : decode method_4_code 1 = .ok (.ifCond .ge 5, 3) := by decide +kernel
theorem d9_4 : decode method_4_code 4 = .ok (.iconst (-1), 1) := by decide +kernel
theorem d9_5 : decode method_4_code 5 = .ok (.ireturn, 1) := by decide +kernel
theorem d9_6 : decode method_4_code 6 = .ok (.iload_n 0, 1) := by decide +kernel
theorem d9_7 : decode method_4_code 7 = .ok (.ifCond .le 5, 3) := by decide +kernel
theorem d9_10 : decode method_4_code 10 = .ok (.iconst 1, 1) := by decide +kernel
theorem d9_11 : decode method_4_code 11 = .ok (.ireturn, 1) := by decide +kernel
theorem d9_12 : decode method_4_code 12 = .ok (.iconst 0, 1) := by decide +kernel
theorem d9_13 : decode method_4_code 13 = .ok (.ireturn, 1) := by decide +kernel
theorem d10_0 : decode method_5_code 0 = .ok (.iload_n 0, 1) := by decide +kernel
theorem d10_1 : decode method_5_code 1 = .ok (.iload_n 1, 1) := by decide +kernel
theorem d10_2 : decode method_5_code 2 = .ok (.if_icmp .ge 5, 3) := by decide +kernel
theorem d10_5 : decode method_5_code 5 = .ok (.iconst (-1), 1) := by decide +kernel
theorem d10_6 : decode method_5_code 6 = .ok (.ireturn, 1) := by decide +kernel
theorem d10_7 : decode method_5_code 7 = .ok (.iload_n 0, 1) := by decide +kernel
theorem d10_8 : decode method_5_code 8 = .ok (.iload_n 1, 1) := by decide +kernel
theorem d10_9 : decode method_5_code 9 = .ok (.if_icmp .le 5, 3) := by decide +kernel
theorem d10_12 : decode method_5_code 12 = .ok (.iconst 1, 1) := by decide +kernel
theorem d10_13 : decode method_5_code 13 = .ok (.ireturn, 1) := by decide +kernel
theorem d10_14 : decode method_5_code 14 = .ok (.iconst 0, 1) := by decide +kernel
theorem d10_15 : decode method_5_code 15 = .ok (.ireturn, 1) := by decide +kernel
def O_Share (Z : State) (h : Heap) (a : Addr) (v0 v1 : Value) : Prop := Exa Z h a "com/example/masked_merge/maskedmerge/core/Share" ∧ Fld Z h a "com/example/masked_merge/maskedmerge/core/Share" "count" "I" v0 ∧ Fld Z h a "com/example/masked_merge/maskedmerge/core/Share" "size" "I" v1
theorem O_Share.ext {Z : State} {h h' : Heap} {a : Addr} {v0 v1 : Value} (O : O_Share Z h a v0 v1) (E : Ext h h') : O_Share Z h' a v0 v1 := ⟨O.1.ext E, O.2.1.ext E, O.2.2.ext E⟩
theorem O_Share.keep {Z : State} {h h' : Heap} {a : Addr} {ws : List Addr} {v0 v1 : Value} (O : O_Share Z h a v0 v1) (K : Keep h h' ws) (q : a ∉ ws) : O_Share Z h' a v0 v1 := ⟨O.1.keep K, O.2.1.keep K q, O.2.2.keep K q⟩
theorem O_Share.other {Z : State} {h h' : Heap} {a b : Addr} {sl : Nat} {w : Value} {v0 v1 : Value} (O : O_Share Z h a v0 v1) (W : Wr h h' b sl w) (q : a ≠ b) : O_Share Z h' a v0 v1 := ⟨O.1.wr W, O.2.1.other W (Or.inl q), O.2.2.other W (Or.inl q)⟩
theorem O_Share.set0 {Z : State} {a0 : Array Value} {h h' : Heap} {a : Addr} {v0 v1 : Value} {w : Value} (hw : ∀ d ∈ tables_1, d.before a0 Z = true) (W : Wr h h' a (Jvm.RoadKit.slotOf Z "com/example/masked_merge/maskedmerge/core/Share" "count" "I") w) (O : O_Share Z h a v0 v1) : O_Share Z h' a w v1 := ⟨O.1.wr W, O.2.1.same W, O.2.2.other W (Or.inr (slot_ne (a0 := a0) (C := "com/example/masked_merge/maskedmerge/core/Share") (Or.inr (tw30 hw)) (Or.inr (tw28 hw)) (by decide) (t := .int) (t' := .int) (by decide) (by decide)))⟩
theorem O_Share.set1 {Z : State} {a0 : Array Value} {h h' : Heap} {a : Addr} {v0 v1 : Value} {w : Value} (hw : ∀ d ∈ tables_1, d.before a0 Z = true) (W : Wr h h' a (Jvm.RoadKit.slotOf Z "com/example/masked_merge/maskedmerge/core/Share" "size" "I") w) (O : O_Share Z h a v0 v1) : O_Share Z h' a v0 w := ⟨O.1.wr W, O.2.1.other W (Or.inr (slot_ne (a0 := a0) (C := "com/example/masked_merge/maskedmerge/core/Share") (Or.inr (tw28 hw)) (Or.inr (tw30 hw)) (by decide) (t := .int) (t' := .int) (by decide) (by decide))), O.2.2.same W⟩
/-- the product of two ints, as longs -/
theorem own_prod (x y : Int32) (hx : 0 ≤ x.toInt) (hy : 0 ≤ y.toInt) : (x.toInt64 * y.toInt64).toInt = x.toInt * y.toInt := by
  have a := c_i2l x; have b := c_i2l y; have rx := rng32 x; have ry := rng32 y
  have z : 0 ≤ x.toInt * y.toInt := Int.mul_nonneg hx hy
  have w : x.toInt * y.toInt ≤ 2147483647 * 2147483647 := Int.mul_le_mul (by omega) (by omega) hy (by omega)
  have e := own_lmulE x.toInt64 y.toInt64 (by rw [a, b]; constructor <;> omega)
  rw [e, a, b]
/-- the sign of a comparison -/
theorem own_sg (A B : Int64) (r q : Int32) (hr : r = (if A < B then (-1 : Int32) else (if A = B then (0 : Int32) else (1 : Int32)))) (hq : q = (if r < (0 : Int32) then (-1 : Int32) else (if (0 : Int32) < r then (1 : Int32) else (0 : Int32)))) :
    (A.toInt < B.toInt → q = -1) ∧ (A.toInt = B.toInt → q = 0) ∧ (B.toInt < A.toInt → q = 1) := by
  refine ⟨fun h => ?_, fun h => ?_, fun h => ?_⟩
  · rw [if_pos (Int64.lt_iff_toInt_lt.mpr h)] at hr; subst hr; exact hq.trans (by decide)
  · rw [if_neg (fun z => by have := Int64.lt_iff_toInt_lt.mp z; omega), if_pos (Int64.toInt_inj.mp h)] at hr; subst hr; exact hq.trans (by decide)
  · rw [if_neg (fun z => by have := Int64.lt_iff_toInt_lt.mp z; omega), if_neg (fun z => by subst z; omega)] at hr; subst hr; exact hq.trans (by decide)
theorem own_cmp (x y q : Int32) (hq : q = (if x < y then (-1 : Int32) else (if y < x then (1 : Int32) else (0 : Int32)))) :
    (x.toInt < y.toInt → q = -1) ∧ (x.toInt = y.toInt → q = 0) ∧ (y.toInt < x.toInt → q = 1) := by
  refine ⟨fun h => ?_, fun h => ?_, fun h => ?_⟩
  · rw [if_pos (Int32.lt_iff_toInt_lt.mpr h)] at hq; exact hq
  · rw [if_neg (fun z => by have := Int32.lt_iff_toInt_lt.mp z; omega), if_neg (fun z => by have := Int32.lt_iff_toInt_lt.mp z; omega)] at hq; exact hq
  · rw [if_neg (fun z => by have := Int32.lt_iff_toInt_lt.mp z; omega), if_pos (Int32.lt_iff_toInt_lt.mpr h)] at hq; exact hq
theorem own_share (c1 s1 c2 s2 c3 t e3 e4 ab ba cc ss gg : Int32) (r1 r2 r3 r4 r5 : Int32) (hc1 : 0 ≤ c1.toInt ∧ c1.toInt ≤ s1.toInt) (hs1 : 0 < s1.toInt) (hc2 : 0 ≤ c2.toInt ∧ c2.toInt ≤ s2.toInt) (hs2 : 0 < s2.toInt) (hc3 : 0 ≤ c3.toInt) (ht : 0 < t.toInt) (m1 m2 : Int32) (hm1 : m1.toInt = s1.toInt - c1.toInt) (hm2 : m2.toInt = s2.toInt - c2.toInt)
    (a1 : r1 = (if (c1.toInt64 * s2.toInt64) < (c2.toInt64 * s1.toInt64) then (-1 : Int32) else (if (c1.toInt64 * s2.toInt64) = (c2.toInt64 * s1.toInt64) then (0 : Int32) else (1 : Int32)))) (a1' : ab = (if r1 < (0 : Int32) then (-1 : Int32) else (if (0 : Int32) < r1 then (1 : Int32) else (0 : Int32))))
    (a2 : r2 = (if (c2.toInt64 * s1.toInt64) < (c1.toInt64 * s2.toInt64) then (-1 : Int32) else (if (c2.toInt64 * s1.toInt64) = (c1.toInt64 * s2.toInt64) then (0 : Int32) else (1 : Int32)))) (a2' : ba = (if r2 < (0 : Int32) then (-1 : Int32) else (if (0 : Int32) < r2 then (1 : Int32) else (0 : Int32))))
    (a3 : r3 = (if (m2.toInt64 * s1.toInt64) < (m1.toInt64 * s2.toInt64) then (-1 : Int32) else (if (m2.toInt64 * s1.toInt64) = (m1.toInt64 * s2.toInt64) then (0 : Int32) else (1 : Int32)))) (a3' : cc = (if r3 < (0 : Int32) then (-1 : Int32) else (if (0 : Int32) < r3 then (1 : Int32) else (0 : Int32))))
    (a4 : r4 = (if (c1.toInt64 * s1.toInt64) < (c3.toInt64 * s1.toInt64) then (-1 : Int32) else (if (c1.toInt64 * s1.toInt64) = (c3.toInt64 * s1.toInt64) then (0 : Int32) else (1 : Int32)))) (a4' : ss = (if r4 < (0 : Int32) then (-1 : Int32) else (if (0 : Int32) < r4 then (1 : Int32) else (0 : Int32))))
    (b3 : e3 = (if c1 < c3 then (-1 : Int32) else (if c3 < c1 then (1 : Int32) else (0 : Int32))))
    (b4 : e4 = (if c1 = (0 : Int32) then (0 : Int32) else (if t < s1 then (-1 : Int32) else (if s1 < t then (1 : Int32) else (0 : Int32)))))
    (a5 : r5 = (if (c1.toInt64 * t.toInt64) < (c1.toInt64 * s1.toInt64) then (-1 : Int32) else (if (c1.toInt64 * t.toInt64) = (c1.toInt64 * s1.toInt64) then (0 : Int32) else (1 : Int32)))) (a5' : gg = (if r5 < (0 : Int32) then (-1 : Int32) else (if (0 : Int32) < r5 then (1 : Int32) else (0 : Int32)))) :
    (ab = (-ba)) ∧ ((cc = ab) ∧ ((ss = e3) ∧ (gg = e4))) := by
  have p1 := own_sg _ _ _ _ a1 a1'
  have p2 := own_sg _ _ _ _ a2 a2'
  have p3 := own_sg _ _ _ _ a3 a3'
  have p4 := own_sg _ _ _ _ a4 a4'
  have p5 := own_sg _ _ _ _ a5 a5'
  have p6 := own_cmp _ _ _ b3
  rw [own_prod c1 s2 (by omega) (by omega), own_prod c2 s1 (by omega) (by omega)] at p1
  rw [own_prod c1 s2 (by omega) (by omega), own_prod c2 s1 (by omega) (by omega)] at p2
  rw [own_prod m2 s1 (by omega) (by omega), own_prod m1 s2 (by omega) (by omega), hm1, hm2, Int.sub_mul, Int.sub_mul, Int.mul_comm s2.toInt s1.toInt] at p3
  rw [own_prod c1 s1 (by omega) (by omega), own_prod c3 s1 (by omega) (by omega)] at p4
  rw [own_prod c1 t (by omega) (by omega), own_prod c1 s1 (by omega) (by omega)] at p5
  clear a1 a2 a3 a4 a5 a1' a2' a3' a4' a5' b3
  refine ⟨?_, ?_, ?_, ?_⟩
  · rcases Int.lt_trichotomy (c1.toInt * s2.toInt) (c2.toInt * s1.toInt) with h | h | h
    · rw [p1.1 h, p2.2.2 h]
    · rw [p1.2.1 h, p2.2.1 h.symm]; decide
    · rw [p1.2.2 h, p2.1 h]; decide
  · rcases Int.lt_trichotomy (c1.toInt * s2.toInt) (c2.toInt * s1.toInt) with h | h | h
    · rw [p1.1 h, p3.1 (by omega)]
    · rw [p1.2.1 h, p3.2.1 (by omega)]
    · rw [p1.2.2 h, p3.2.2 (by omega)]
  · rcases Int.lt_trichotomy c1.toInt c3.toInt with h | h | h
    · rw [p6.1 h, p4.1 (Int.mul_lt_mul_of_pos_right h hs1)]
    · rw [p6.2.1 h, p4.2.1 (by rw [h])]
    · rw [p6.2.2 h, p4.2.2 (Int.mul_lt_mul_of_pos_right h hs1)]
  · by_cases z : c1 = (0 : Int32)
    · rw [if_pos z] at b4; rw [b4]; subst z; exact p5.2.1 (by simp only [Int32.reduceToInt, Int.zero_mul])
    · rw [if_neg z] at b4
      have p7 := own_cmp _ _ _ b4
      have z1 : 0 < c1.toInt := by
        have : c1.toInt ≠ 0 := fun k => z (Int32.toInt_inj.mp (by rw [k]; decide))
        omega
      rcases Int.lt_trichotomy t.toInt s1.toInt with h | h | h
      · rw [p7.1 h, p5.1 (Int.mul_lt_mul_of_pos_left h z1)]
      · rw [p7.2.1 h, p5.2.1 (by rw [h])]
      · rw [p7.2.2 h, p5.2.2 (Int.mul_lt_mul_of_pos_left h z1)]
theorem pn5 : plainName "java/lang/Record" = true := by first | (simp [plainName, overriddenIn]; done) | decide +kernel
theorem ef5 (m : MethodId) (x0 : Addr) : entryFrame m #[(.ref x0)] 1 = mkF m 0 #[.val (.ref x0)] [] := by first | (simp [entryFrame, mkF, argsToLocals, Value.category]; done) | rfl
set_option maxRecDepth 65536 in
set_option maxHeartbeats 40000000 in
theorem rm5 (l : Launch) (Z : State) (a0 : Array Value) (hw : ∀ d ∈ tables_1, d.before a0 Z = true) (ws : List Jvm.Cond) (a1 : Addr) (h0 : Heap) (n0 : Nat) (Z0 : n0 ≤ h0.size) :
    Met l Z (⟨"java/lang/Record", "<init>", "()V"⟩ : MethodName) jdk_30_method_1_code 1 none ({ frames := 1, cells := 0, slots := 0, locals := 12 } : Room) ws n0 #[(.ref a1)] h0 (fun v h' => v = none ∧ h0 = h') := by
  refine Met.intro (plainFor_of_name pn5) Z0 ?_
  intro p e s m below meth c T X
  refine g_cast (ef5 m a1) ?_
  refine g_aloadN X d5_0 rfl (q := 1) rfl rfl ?_
  refine g_initO X (tw24 hw) (tw25 hw) (tw26 hw) d5_1 (q := 4) rfl rfl (by decide) (W := 0) rfl (by decide) (fun T X => ?_)
  exact g_ret0 X d5_4 (by decide) (by decide) ⟨rfl, rfl⟩
theorem ef3 (m : MethodId) (x0 : Int32) (x1 : Int32) : entryFrame m #[(.int x0), (.int x1)] 2 = mkF m 0 #[.val (.int x0), .val (.int x1)] [] := by first | (simp [entryFrame, mkF, argsToLocals, Value.category]; done) | rfl
set_option maxRecDepth 65536 in
set_option maxHeartbeats 40000000 in
theorem rm3 (l : Launch) (Z : State) (a0 : Array Value) (hw : ∀ d ∈ tables_1, d.before a0 Z = true) (ws : List Jvm.Cond) (p1 : Int32) (p2 : Int32) (h0 : Heap) (n0 : Nat) (Z0 : n0 ≤ h0.size) :
    Met l Z (⟨"java/lang/Math", "max", "(II)I"⟩ : MethodName) jdk_29_method_65_code 2 (some .int) ({ frames := 0, cells := 0, slots := 0, locals := 0 } : Room) ws n0 #[(.int p1), (.int p2)] h0 (fun v h' => v = some (.int (if p1 < p2 then p2 else p1)) ∧ h0 = h') := by
  refine Met.intro (Jvm.Free.JP.mathPlain rfl (by decide +kernel)) Z0 ?_
  intro p e s m below meth c T X
  refine g_cast (ef3 m p1 p2) ?_
  refine g_iloadN X d3_0 rfl (q := 1) rfl ?_
  refine g_iloadN X d3_1 rfl (q := 2) rfl ?_
  refine g_jT1 X (J := 10) (P := fun (s0_10 : Int32) => s0_10 = (if p1 < p2 then p2 else p1)) (L := fun s0_10 => #[.val (.int p1), .val (.int p2)]) (S := fun s0_10 => [(.int s0_10)]) ?_ ?_
  · intro T X s0_10 hs0_10
    replace hs0_10 : s0_10 = (if p1 < p2 then p2 else p1) := hs0_10
    subst hs0_10
    show Goes p e below s _ n0 _ (T.setTop (mkF m 10 #[.val (.int p1), .val (.int p2)] [(.int (if p1 < p2 then p2 else p1))]))
    exact g_retI X d3_10 (by decide) (by decide) ⟨rfl, rfl⟩
  · intro J10_0
    refine g_icmpA X d3_2 (Or.inl rfl) (q := 5) rfl (by decide) (t := 9) rfl (fun (c1 : p1 < p2) => ?_) (fun (c1 : ¬ (p1 < p2)) => ?_)
    · skip
      refine g_iloadN X d3_9 rfl (q := 10) rfl ?_
      exact J10_0 T X _ ((if_pos c1).symm)
    · skip
      refine g_iloadN X d3_5 rfl (q := 6) rfl ?_
      refine g_goto X d3_6 (by decide) (q := 10) rfl ?_
      exact J10_0 T X _ ((if_neg c1).symm)
theorem pn8 : plainName "java/lang/Long" = true := by first | (simp [plainName, overriddenIn]; done) | decide +kernel
theorem ef8 (m : MethodId) (x0 : Int64) (x1 : Int64) : entryFrame m #[(.long x0), (.long x1)] 4 = mkF m 0 #[.val (.long x0), .second, .val (.long x1), .second] [] := by first | (simp [entryFrame, mkF, argsToLocals, Value.category]; done) | rfl
set_option maxRecDepth 65536 in
set_option maxHeartbeats 40000000 in
theorem rm8 (l : Launch) (Z : State) (a0 : Array Value) (hw : ∀ d ∈ tables_1, d.before a0 Z = true) (ws : List Jvm.Cond) (q1 : Int64) (q2 : Int64) (h0 : Heap) (n0 : Nat) (Z0 : n0 ≤ h0.size) :
    Met l Z (⟨"java/lang/Long", "compare", "(JJ)I"⟩ : MethodName) jdk_35_method_42_code 4 (some .int) ({ frames := 0, cells := 0, slots := 0, locals := 0 } : Room) ws n0 #[(.long q1), (.long q2)] h0 (fun v h' => v = some (.int (if q1 < q2 then (-1 : Int32) else (if q1 = q2 then (0 : Int32) else (1 : Int32)))) ∧ h0 = h') := by
  refine Met.intro (plainFor_of_name pn8) Z0 ?_
  intro p e s m below meth c T X
  refine g_cast (ef8 m q1 q2) ?_
  refine g_lloadN X d8_0 rfl (q := 1) rfl ?_
  refine g_lloadN X d8_1 rfl (q := 2) rfl ?_
  refine g_jT1 X (J := 21) (P := fun (s0_21 : Int32) => s0_21 = (if q1 < q2 then (-1 : Int32) else (if q1 = q2 then (0 : Int32) else (1 : Int32)))) (L := fun s0_21 => #[.val (.long q1), .second, .val (.long q2), .second]) (S := fun s0_21 => [(.int s0_21)]) ?_ ?_
  · intro T X s0_21 hs0_21
    replace hs0_21 : s0_21 = (if q1 < q2 then (-1 : Int32) else (if q1 = q2 then (0 : Int32) else (1 : Int32))) := hs0_21
    subst hs0_21
    show Goes p e below s _ n0 _ (T.setTop (mkF m 21 #[.val (.long q1), .second, .val (.long q2), .second] [(.int (if q1 < q2 then (-1 : Int32) else (if q1 = q2 then (0 : Int32) else (1 : Int32))))]))
    exact g_retI X d8_21 (by decide) (by decide) ⟨rfl, rfl⟩
  · intro J21_0
    refine g_lcmpB X d8_2 (q1 := 3) rfl d8_3 (Or.inl rfl) (q := 6) rfl (by decide) (t := 10) rfl (fun (c1 : q1 < q2) => ?_) (fun (c1 : ¬ (q1 < q2)) => ?_)
    · skip
      refine g_iconst X d8_6 rfl (q := 7) (v := -1) rfl ?_
      refine g_goto X d8_7 (by decide) (q := 21) rfl ?_
      exact J21_0 T X _ ((if_pos c1).symm)
    · skip
      refine g_lloadN X d8_10 rfl (q := 11) rfl ?_
      refine g_lloadN X d8_11 rfl (q := 12) rfl ?_
      refine g_lcmpB X d8_12 (q1 := 13) rfl d8_13 (Or.inr (Or.inr rfl)) (q := 16) rfl (by decide) (t := 20) rfl (fun (c2 : q1 = q2) => ?_) (fun (c2 : ¬ (q1 = q2)) => ?_)
      · skip
        refine g_iconst X d8_16 rfl (q := 17) (v := 0) rfl ?_
        refine g_goto X d8_17 (by decide) (q := 21) rfl ?_
        exact J21_0 T X _ (((if_pos c2).symm).trans (if_neg c1).symm)
      · skip
        refine g_iconst X d8_20 rfl (q := 21) (v := 1) rfl ?_
        exact J21_0 T X _ (((if_neg c2).symm).trans (if_neg c1).symm)
theorem pn1 : plainName "com/example/masked_merge/maskedmerge/core/ShareCompareToPinLaw" = true := by first | (simp [plainName, overriddenIn]; done) | decide +kernel
theorem ef1 (m : MethodId) (x0 : Int32) : entryFrame m #[(.int x0)] 2 = mkF m 0 #[.val (.int x0), .unset] [] := by first | (simp [entryFrame, mkF, argsToLocals, Value.category]; done) | rfl
set_option maxRecDepth 65536 in
set_option maxHeartbeats 40000000 in
theorem rm1 (l : Launch) (Z : State) (a0 : Array Value) (hw : ∀ d ∈ tables_1, d.before a0 Z = true) (ws : List Jvm.Cond) (p1 : Int32) (h0 : Heap) (n0 : Nat) (Z0 : n0 ≤ h0.size) :
    Met l Z (⟨"com/example/masked_merge/maskedmerge/core/ShareCompareToPinLaw", "size", "(I)I"⟩ : MethodName) method_2_code 2 (some .int) ({ frames := 0, cells := 0, slots := 0, locals := 0 } : Room) ws n0 #[(.int p1)] h0 (fun v h' => v = some (.int (if (p1 &&& (2147483647 : Int32)) = (0 : Int32) then (1 : Int32) else (p1 &&& (2147483647 : Int32)))) ∧ h0 = h') := by
  refine Met.intro (plainFor_of_name pn1) Z0 ?_
  intro p e s m below meth c T X
  refine g_cast (ef1 m p1) ?_
  refine g_iloadN X d1_0 rfl (q := 1) rfl ?_
  refine g_ldc X (tw4 hw) d1_1 (q := 3) rfl ?_
  refine g_iand X d1_3 rfl (q := 4) ?_
  refine g_istoreN X d1_4 rfl (q := 5) (L' := #[.val (.int p1), .val (.int (p1 &&& (2147483647 : Int32)))]) rfl ?_
  refine g_iloadN X d1_5 rfl (q := 6) rfl ?_
  refine g_jT1 X (J := 14) (P := fun (s0_14 : Int32) => s0_14 = (if (p1 &&& (2147483647 : Int32)) = (0 : Int32) then (1 : Int32) else (p1 &&& (2147483647 : Int32)))) (L := fun s0_14 => #[.val (.int p1), .val (.int (p1 &&& (2147483647 : Int32)))]) (S := fun s0_14 => [(.int s0_14)]) ?_ ?_
  · intro T X s0_14 hs0_14
    replace hs0_14 : s0_14 = (if (p1 &&& (2147483647 : Int32)) = (0 : Int32) then (1 : Int32) else (p1 &&& (2147483647 : Int32))) := hs0_14
    subst hs0_14
    show Goes p e below s _ n0 _ (T.setTop (mkF m 14 #[.val (.int p1), .val (.int (p1 &&& (2147483647 : Int32)))] [(.int (if (p1 &&& (2147483647 : Int32)) = (0 : Int32) then (1 : Int32) else (p1 &&& (2147483647 : Int32))))]))
    exact g_retI X d1_14 (by decide) (by decide) ⟨rfl, rfl⟩
  · intro J14_0
    refine g_ifB X d1_6 (Or.inr (Or.inr rfl)) (q := 9) rfl (by decide) (t := 13) rfl (fun (c1 : (p1 &&& (2147483647 : Int32)) = (0 : Int32)) => ?_) (fun (c1 : ¬ ((p1 &&& (2147483647 : Int32)) = (0 : Int32))) => ?_)
    · skip
      refine g_iconst X d1_9 rfl (q := 10) (v := 1) rfl ?_
      refine g_goto X d1_10 (by decide) (q := 14) rfl ?_
      exact J14_0 T X _ ((if_pos c1).symm)
    · skip
      refine g_iloadN X d1_13 rfl (q := 14) rfl ?_
      exact J14_0 T X _ ((if_neg c1).symm)
theorem pn2 : plainName "com/example/masked_merge/maskedmerge/core/ShareCompareToPinLaw" = true := by first | (simp [plainName, overriddenIn]; done) | decide +kernel
theorem ef2 (m : MethodId) (x0 : Int32) (x1 : Int32) : entryFrame m #[(.int x0), (.int x1)] 2 = mkF m 0 #[.val (.int x0), .val (.int x1)] [] := by first | (simp [entryFrame, mkF, argsToLocals, Value.category]; done) | rfl
set_option maxRecDepth 65536 in
set_option maxHeartbeats 40000000 in
theorem rm2 (l : Launch) (Z : State) (a0 : Array Value) (hw : ∀ d ∈ tables_1, d.before a0 Z = true) (ws : List Jvm.Cond) (p1 : Int32) (p2 : Int32) (h0 : Heap) (n0 : Nat) (Z0 : n0 ≤ h0.size) (k1 : ¬ (p2 < (0 : Int32))) :
    Met l Z (⟨"com/example/masked_merge/maskedmerge/core/ShareCompareToPinLaw", "cnt", "(II)I"⟩ : MethodName) method_3_code 2 (some .int) ({ frames := 0, cells := 0, slots := 0, locals := 0 } : Room) ws n0 #[(.int p1), (.int p2)] h0 (fun v h' => v = some (.int ((p1 &&& (2147483647 : Int32)).toInt64 % (p2.toInt64 + (1 : Int64))).toInt32) ∧ h0 = h') := by
  refine Met.intro (plainFor_of_name pn2) Z0 ?_
  intro p e s m below meth c T X
  refine g_cast (ef2 m p1 p2) ?_
  have b_p2 : (0 : Int) ≤ p2.toInt ∧ p2.toInt ≤ 2147483647 := by (try simp only [Int64.lt_iff_toInt_lt, Int32.lt_iff_toInt_lt, Int64.le_iff_toInt_le, Int32.le_iff_toInt_le, ← Int64.toInt_inj, ← Int32.toInt_inj, apply_ite Int64.toInt, apply_ite Int32.toInt, Int64.reduceToInt, Int32.reduceToInt, ne_eq] at k1); have z1 := rng32 p2; omega
  refine g_iloadN X d2_0 rfl (q := 1) rfl ?_
  refine g_ldc X (tw4 hw) d2_1 (q := 3) rfl ?_
  refine g_iand X d2_3 rfl (q := 4) ?_
  refine g_i2l X d2_4 rfl (q := 5) ?_
  refine g_iloadN X d2_5 rfl (q := 6) rfl ?_
  refine g_i2l X d2_6 rfl (q := 7) ?_
  refine g_lconst X d2_7 rfl (q := 8) (v := 1) rfl ?_
  refine g_ladd X d2_8 rfl (q := 9) ?_
  refine g_lrem X d2_9 rfl (q := 10) (show ¬ ((p2.toInt64 + (1 : Int64)) = (0 : Int64)) from (by first | (obtain ⟨n1_, hn1_⟩ : ∃ z, z = p2.toInt64 := ⟨_, rfl⟩; (try simp only [← hn1_] at k1 ⊢); have f1 := c_i2l p2; (try rw [← hn1_] at f1); obtain ⟨n2_, hn2_⟩ : ∃ z, z = (n1_ + (1 : Int64)) := ⟨_, rfl⟩; (try simp only [← hn2_] at k1 ⊢); have f2 := own_laddE n1_ (1 : Int64) (by (try simp only [Int64.reduceToInt, Int32.reduceToInt]); omega); (try rw [← hn2_] at f2); (try simp only [Int64.reduceToInt, Int32.reduceToInt] at f2); (try simp only [Int64.lt_iff_toInt_lt, Int32.lt_iff_toInt_lt, Int64.le_iff_toInt_le, Int32.le_iff_toInt_le, ← Int64.toInt_inj, ← Int32.toInt_inj, apply_ite Int64.toInt, apply_ite Int32.toInt, Int64.reduceToInt, Int32.reduceToInt, ne_eq] at k1); (try simp only [Int64.lt_iff_toInt_lt, Int32.lt_iff_toInt_lt, Int64.le_iff_toInt_le, Int32.le_iff_toInt_le, ← Int64.toInt_inj, ← Int32.toInt_inj, apply_ite Int64.toInt, apply_ite Int32.toInt, Int64.reduceToInt, Int32.reduceToInt, ne_eq, true_and, and_true, false_or, or_false, iff_self, and_self, not_true_eq_false, not_false_eq_true]) <;> omega))) ?_
  refine g_l2i X d2_10 rfl (q := 11) ?_
  exact g_retI X d2_11 (by decide) (by decide) ⟨rfl, rfl⟩
theorem pn9 : plainName "com/example/masked_merge/maskedmerge/core/ShareCompareToPinLaw" = true := by first | (simp [plainName, overriddenIn]; done) | decide +kernel
theorem ef9 (m : MethodId) (x0 : Int32) : entryFrame m #[(.int x0)] 1 = mkF m 0 #[.val (.int x0)] [] := by first | (simp [entryFrame, mkF, argsToLocals, Value.category]; done) | rfl
set_option maxRecDepth 65536 in
set_option maxHeartbeats 40000000 in
theorem rm9 (l : Launch) (Z : State) (a0 : Array Value) (hw : ∀ d ∈ tables_1, d.before a0 Z = true) (ws : List Jvm.Cond) (p1 : Int32) (h0 : Heap) (n0 : Nat) (Z0 : n0 ≤ h0.size) :
    Met l Z (⟨"com/example/masked_merge/maskedmerge/core/ShareCompareToPinLaw", "sg", "(I)I"⟩ : MethodName) method_4_code 1 (some .int) ({ frames := 0, cells := 0, slots := 0, locals := 0 } : Room) ws n0 #[(.int p1)] h0 (fun v h' => v = some (.int (if p1 < (0 : Int32) then (-1 : Int32) else (if (0 : Int32) < p1 then (1 : Int32) else (0 : Int32)))) ∧ h0 = h') := by
  refine Met.intro (plainFor_of_name pn9) Z0 ?_
  intro p e s m below meth c T X
  refine g_cast (ef9 m p1) ?_
  refine g_iloadN X d9_0 rfl (q := 1) rfl ?_
  refine g_ifB X d9_1 (Or.inl rfl) (q := 4) rfl (by decide) (t := 6) rfl (fun (c1 : p1 < (0 : Int32)) => ?_) (fun (c1 : ¬ (p1 < (0 : Int32))) => ?_)
  · skip
    have b_p1 : (-2147483648 : Int) ≤ p1.toInt ∧ p1.toInt ≤ -1 := by have z0 := c1; (try simp only [Int64.lt_iff_toInt_lt, Int32.lt_iff_toInt_lt, Int64.le_iff_toInt_le, Int32.le_iff_toInt_le, ← Int64.toInt_inj, ← Int32.toInt_inj, apply_ite Int64.toInt, apply_ite Int32.toInt, Int64.reduceToInt, Int32.reduceToInt, ne_eq] at z0); have z1 := rng32 p1; omega
    refine g_iconst X d9_4 rfl (q := 5) (v := -1) rfl ?_
    exact g_retI X d9_5 (by decide) (by decide) ⟨congrArg (fun z => some (Value.int z)) ((if_pos c1).symm), rfl⟩
  · skip
    have b_p1 : (0 : Int) ≤ p1.toInt ∧ p1.toInt ≤ 2147483647 := by have z0 := c1; (try simp only [Int64.lt_iff_toInt_lt, Int32.lt_iff_toInt_lt, Int64.le_iff_toInt_le, Int32.le_iff_toInt_le, ← Int64.toInt_inj, ← Int32.toInt_inj, apply_ite Int64.toInt, apply_ite Int32.toInt, Int64.reduceToInt, Int32.reduceToInt, ne_eq] at z0); have z1 := rng32 p1; omega
    refine g_iloadN X d9_6 rfl (q := 7) rfl ?_
    refine g_ifB X d9_7 (Or.inr (Or.inl rfl)) (q := 10) rfl (by decide) (t := 12) rfl (fun (c2 : (0 : Int32) < p1) => ?_) (fun (c2 : ¬ ((0 : Int32) < p1)) => ?_)
    · skip
      have b_p1 : (1 : Int) ≤ p1.toInt ∧ p1.toInt ≤ 2147483647 := by have z0 := c2; (try simp only [Int64.lt_iff_toInt_lt, Int32.lt_iff_toInt_lt, Int64.le_iff_toInt_le, Int32.le_iff_toInt_le, ← Int64.toInt_inj, ← Int32.toInt_inj, apply_ite Int64.toInt, apply_ite Int32.toInt, Int64.reduceToInt, Int32.reduceToInt, ne_eq] at z0); have z1 := rng32 p1; omega
      refine g_iconst X d9_10 rfl (q := 11) (v := 1) rfl ?_
      exact g_retI X d9_11 (by decide) (by decide) ⟨congrArg (fun z => some (Value.int z)) (((if_pos c2).symm).trans (if_neg c1).symm), rfl⟩
    · skip
      have b_p1 : (0 : Int) ≤ p1.toInt ∧ p1.toInt ≤ 0 := by have z0 := c2; (try simp only [Int64.lt_iff_toInt_lt, Int32.lt_iff_toInt_lt, Int64.le_iff_toInt_le, Int32.le_iff_toInt_le, ← Int64.toInt_inj, ← Int32.toInt_inj, apply_ite Int64.toInt, apply_ite Int32.toInt, Int64.reduceToInt, Int32.reduceToInt, ne_eq] at z0); have z1 := rng32 p1; omega
      refine g_iconst X d9_12 rfl (q := 13) (v := 0) rfl ?_
      exact g_retI X d9_13 (by decide) (by decide) ⟨congrArg (fun z => some (Value.int z)) (((if_neg c2).symm).trans (if_neg c1).symm), rfl⟩
theorem pn10 : plainName "com/example/masked_merge/maskedmerge/core/ShareCompareToPinLaw" = true := by first | (simp [plainName, overriddenIn]; done) | decide +kernel
theorem ef10 (m : MethodId) (x0 : Int32) (x1 : Int32) : entryFrame m #[(.int x0), (.int x1)] 2 = mkF m 0 #[.val (.int x0), .val (.int x1)] [] := by first | (simp [entryFrame, mkF, argsToLocals, Value.category]; done) | rfl
set_option maxRecDepth 65536 in
set_option maxHeartbeats 40000000 in
theorem rm10 (l : Launch) (Z : State) (a0 : Array Value) (hw : ∀ d ∈ tables_1, d.before a0 Z = true) (ws : List Jvm.Cond) (p1 : Int32) (p2 : Int32) (h0 : Heap) (n0 : Nat) (Z0 : n0 ≤ h0.size) :
    Met l Z (⟨"com/example/masked_merge/maskedmerge/core/ShareCompareToPinLaw", "cmp", "(II)I"⟩ : MethodName) method_5_code 2 (some .int) ({ frames := 0, cells := 0, slots := 0, locals := 0 } : Room) ws n0 #[(.int p1), (.int p2)] h0 (fun v h' => v = some (.int (if p1 < p2 then (-1 : Int32) else (if p2 < p1 then (1 : Int32) else (0 : Int32)))) ∧ h0 = h') := by
  refine Met.intro (plainFor_of_name pn10) Z0 ?_
  intro p e s m below meth c T X
  refine g_cast (ef10 m p1 p2) ?_
  refine g_iloadN X d10_0 rfl (q := 1) rfl ?_
  refine g_iloadN X d10_1 rfl (q := 2) rfl ?_
  refine g_icmpB X d10_2 (Or.inl rfl) (q := 5) rfl (by decide) (t := 7) rfl (fun (c1 : p1 < p2) => ?_) (fun (c1 : ¬ (p1 < p2)) => ?_)
  · skip
    refine g_iconst X d10_5 rfl (q := 6) (v := -1) rfl ?_
    exact g_retI X d10_6 (by decide) (by decide) ⟨congrArg (fun z => some (Value.int z)) ((if_pos c1).symm), rfl⟩
  · skip
    refine g_iloadN X d10_7 rfl (q := 8) rfl ?_
    refine g_iloadN X d10_8 rfl (q := 9) rfl ?_
    refine g_icmpB X d10_9 (Or.inr (Or.inl rfl)) (q := 12) rfl (by decide) (t := 14) rfl (fun (c2 : p2 < p1) => ?_) (fun (c2 : ¬ (p2 < p1)) => ?_)
    · skip
      refine g_iconst X d10_12 rfl (q := 13) (v := 1) rfl ?_
      exact g_retI X d10_13 (by decide) (by decide) ⟨congrArg (fun z => some (Value.int z)) (((if_pos c2).symm).trans (if_neg c1).symm), rfl⟩
    · skip
      refine g_iconst X d10_14 rfl (q := 15) (v := 0) rfl ?_
      exact g_retI X d10_15 (by decide) (by decide) ⟨congrArg (fun z => some (Value.int z)) (((if_neg c2).symm).trans (if_neg c1).symm), rfl⟩
theorem pn4 : plainName "com/example/masked_merge/maskedmerge/core/Share" = true := by first | (simp [plainName, overriddenIn]; done) | decide +kernel
theorem ef4 (m : MethodId) (x0 : Addr) (x1 : Int32) (x2 : Int32) : entryFrame m #[(.ref x0), (.int x1), (.int x2)] 3 = mkF m 0 #[.val (.ref x0), .val (.int x1), .val (.int x2)] [] := by first | (simp [entryFrame, mkF, argsToLocals, Value.category]; done) | rfl
set_option maxRecDepth 65536 in
set_option maxHeartbeats 40000000 in
theorem rm4 (l : Launch) (Z : State) (a0 : Array Value) (hw : ∀ d ∈ tables_1, d.before a0 Z = true) (ws : List Jvm.Cond) (a1 : Addr) (p2 : Int32) (p3 : Int32) (h0 : Heap) (n0 : Nat) (Z0 : n0 ≤ h0.size) (O_a1 : O_Share Z h0 a1 (.int (0 : Int32)) (.int (0 : Int32))) (g_a1 : n0 ≤ a1) (k1 : (0 : Int32) < p3) (k2 : ¬ (p2 < (0 : Int32))) (k3 : ¬ (p3 < p2)) :
    Met l Z (⟨"com/example/masked_merge/maskedmerge/core/Share", "<init>", "(II)V"⟩ : MethodName) prog_21_method_1_code 3 none ({ frames := 2, cells := 0, slots := 0, locals := 24 } : Room) ws n0 #[(.ref a1), (.int p2), (.int p3)] h0 (fun v h' => v = none ∧ Keep h0 h' [a1] ∧ O_Share Z h' a1 (.int p2) (.int p3)) := by
  refine Met.intro (plainFor_of_name pn4) Z0 ?_
  intro p e s m below meth c T X
  refine g_cast (ef4 m a1 p2 p3) ?_
  have b_p3 : (1 : Int) ≤ p3.toInt ∧ p3.toInt ≤ 2147483647 := by (try simp only [Int64.lt_iff_toInt_lt, Int32.lt_iff_toInt_lt, Int64.le_iff_toInt_le, Int32.le_iff_toInt_le, ← Int64.toInt_inj, ← Int32.toInt_inj, apply_ite Int64.toInt, apply_ite Int32.toInt, Int64.reduceToInt, Int32.reduceToInt, ne_eq] at k1 k3); have z1 := rng32 p3; omega
  have b_p2 : (0 : Int) ≤ p2.toInt ∧ p2.toInt ≤ 2147483647 := by (try simp only [Int64.lt_iff_toInt_lt, Int32.lt_iff_toInt_lt, Int64.le_iff_toInt_le, Int32.le_iff_toInt_le, ← Int64.toInt_inj, ← Int32.toInt_inj, apply_ite Int64.toInt, apply_ite Int32.toInt, Int64.reduceToInt, Int32.reduceToInt, ne_eq] at k2 k3); have z1 := rng32 p2; omega
  have K : Keep h0 h0 [a1] := Keep.refl h0 _
  refine g_aloadN X d4_0 rfl (q := 1) rfl rfl ?_
  refine g_callI X [] [] rfl (tw19 hw) (tw20 hw) (tw22 hw) (tw23 hw) (by decide) (rm5 l Z a0 hw [] a1 _ n0 X.size) pd0 rfl rfl rfl d4_1 (q := 4) rfl (W := 0) rfl (by decide) (by decide) (c2 := 0) (s2 := 0) rfl rfl (by decide) (by decide) (fun v T h' X hQ => ?_)
  obtain ⟨rfl, rfl⟩ := hQ
  show Goes p e below s _ n0 _ (T.setTop (mkF m 4 #[.val (.ref a1), .val (.int p2), .val (.int p3)] []))
  refine g_iloadN X d4_4 rfl (q := 5) rfl ?_
  refine g_ifB X d4_5 (Or.inr (Or.inl rfl)) (q := 8) rfl (by decide) (t := 17) rfl (fun (c1 : (0 : Int32) < p3) => ?_) (fun (c1 : ¬ ((0 : Int32) < p3)) => ?_)
  · skip
    refine g_iloadN X d4_8 rfl (q := 9) rfl ?_
    refine g_ifA X d4_9 (Or.inl rfl) (q := 12) rfl (by decide) (t := 17) rfl (fun (c2 : p2 < (0 : Int32)) => ?_) (fun (c2 : ¬ (p2 < (0 : Int32))) => ?_)
    · skip
      have b_p2 : (0 : Int) ≤ p2.toInt ∧ p2.toInt ≤ -1 := by have z0 := c2; (try simp only [Int64.lt_iff_toInt_lt, Int32.lt_iff_toInt_lt, Int64.le_iff_toInt_le, Int32.le_iff_toInt_le, ← Int64.toInt_inj, ← Int32.toInt_inj, apply_ite Int64.toInt, apply_ite Int32.toInt, Int64.reduceToInt, Int32.reduceToInt, ne_eq] at z0); have z1 := rng32 p2; omega
      exact absurd c2 k2
    · skip
      refine g_iloadN X d4_12 rfl (q := 13) rfl ?_
      refine g_iloadN X d4_13 rfl (q := 14) rfl ?_
      refine g_icmpB X d4_14 (Or.inr (Or.inl rfl)) (q := 17) rfl (by decide) (t := 32) rfl (fun (c3 : p3 < p2) => ?_) (fun (c3 : ¬ (p3 < p2)) => ?_)
      · skip
        exact absurd c3 k3
      · skip
        refine g_aloadN X d4_32 rfl (q := 33) rfl rfl ?_
        refine g_iloadN X d4_33 rfl (q := 34) rfl ?_
        refine g_putF X (tw27 hw) Via.refl O_a1.2.1 O_a1.1 (Or.inr ⟨(tw28 hw), rfl, rfl⟩) (tw14 hw) (ty := .int) (by decide) rfl rfl g_a1 d4_34 (q := 37) rfl (fun T h X W => ?_)
        have O_a1 := O_Share.set0 hw W O_a1
        have K := K.wr W (Or.inl (List.mem_of_getElem? (i := 0) rfl))
        refine g_aloadN X d4_37 rfl (q := 38) rfl rfl ?_
        refine g_iloadN X d4_38 rfl (q := 39) rfl ?_
        refine g_putF X (tw29 hw) Via.refl O_a1.2.2 O_a1.1 (Or.inr ⟨(tw30 hw), rfl, rfl⟩) (tw14 hw) (ty := .int) (by decide) rfl rfl g_a1 d4_39 (q := 42) rfl (fun T h X W => ?_)
        have O_a1 := O_Share.set1 hw W O_a1
        have K := K.wr W (Or.inl (List.mem_of_getElem? (i := 0) rfl))
        exact g_ret0 X d4_42 (by decide) (by decide) ⟨rfl, K, (by first | exact O_a1 | (simp only [if_pos c1, if_neg c2, if_neg c3]; exact O_a1) | (simp only [bI, if_pos c1, if_neg c2, if_neg c3]; simpa [c1, c2, c3] using O_a1))⟩
  · skip
    have b_p3 : (1 : Int) ≤ p3.toInt ∧ p3.toInt ≤ 0 := by have z0 := c1; (try simp only [Int64.lt_iff_toInt_lt, Int32.lt_iff_toInt_lt, Int64.le_iff_toInt_le, Int32.le_iff_toInt_le, ← Int64.toInt_inj, ← Int32.toInt_inj, apply_ite Int64.toInt, apply_ite Int32.toInt, Int64.reduceToInt, Int32.reduceToInt, ne_eq] at z0); have z1 := rng32 p3; omega
    exact absurd k1 c1
theorem pn7 : plainName "com/example/masked_merge/maskedmerge/core/Share" = true := by first | (simp [plainName, overriddenIn]; done) | decide +kernel
theorem ef7 (m : MethodId) (x0 : Addr) (x1 : Addr) : entryFrame m #[(.ref x0), (.ref x1)] 2 = mkF m 0 #[.val (.ref x0), .val (.ref x1)] [] := by first | (simp [entryFrame, mkF, argsToLocals, Value.category]; done) | rfl
set_option maxRecDepth 65536 in
set_option maxHeartbeats 40000000 in
theorem rm7 (l : Launch) (Z : State) (a0 : Array Value) (hw : ∀ d ∈ tables_1, d.before a0 Z = true) (ws : List Jvm.Cond) (a1 : Addr) (a2 : Addr) (s0 : Int32) (s1 : Int32) (t0 : Int32) (t1 : Int32) (h0 : Heap) (n0 : Nat) (Z0 : n0 ≤ h0.size) (O_a1 : O_Share Z h0 a1 (.int s0) (.int s1)) (O_a2 : O_Share Z h0 a2 (.int t0) (.int t1)) :
    Met l Z (⟨"com/example/masked_merge/maskedmerge/core/Share", "compareTo", "(Lcom/example/masked_merge/maskedmerge/core/Share;)I"⟩ : MethodName) prog_21_method_2_code 2 (some .int) ({ frames := 1, cells := 0, slots := 0, locals := 15 } : Room) ws n0 #[(.ref a1), (.ref a2)] h0 (fun v h' => v = some (.int (if (s0.toInt64 * t1.toInt64) < (t0.toInt64 * s1.toInt64) then (-1 : Int32) else (if (s0.toInt64 * t1.toInt64) = (t0.toInt64 * s1.toInt64) then (0 : Int32) else (1 : Int32)))) ∧ h0 = h') := by
  refine Met.intro (plainFor_of_name pn7) Z0 ?_
  intro p e s m below meth c T X
  refine g_cast (ef7 m a1 a2) ?_
  refine g_aloadN X d7_0 rfl (q := 1) rfl rfl ?_
  refine g_getF X (tw27 hw) Via.refl O_a1.2.1 d7_1 (q := 4) rfl (fun T X => ?_)
  refine g_i2l X d7_4 rfl (q := 5) ?_
  refine g_aloadN X d7_5 rfl (q := 6) rfl rfl ?_
  refine g_getF X (tw29 hw) Via.refl O_a2.2.2 d7_6 (q := 9) rfl (fun T X => ?_)
  refine g_i2l X d7_9 rfl (q := 10) ?_
  refine g_lmul X d7_10 rfl (q := 11) ?_
  refine g_aloadN X d7_11 rfl (q := 12) rfl rfl ?_
  refine g_getF X (tw27 hw) Via.refl O_a2.2.1 d7_12 (q := 15) rfl (fun T X => ?_)
  refine g_i2l X d7_15 rfl (q := 16) ?_
  refine g_aloadN X d7_16 rfl (q := 17) rfl rfl ?_
  refine g_getF X (tw29 hw) Via.refl O_a1.2.2 d7_17 (q := 20) rfl (fun T X => ?_)
  refine g_i2l X d7_20 rfl (q := 21) ?_
  refine g_lmul X d7_21 rfl (q := 22) ?_
  refine g_callS X [(.long (s0.toInt64 * t1.toInt64)), (.long (t0.toInt64 * s1.toInt64))] [] (tw36 hw) (tw37 hw) (tw38 hw) (tw39 hw) (by decide) (rm8 l Z a0 hw [] (s0.toInt64 * t1.toInt64) (t0.toInt64 * s1.toInt64) _ n0 X.size) pd1 rfl rfl rfl d7_22 (q := 25) rfl (W := 0) rfl (by decide) (by decide) (c2 := 0) (s2 := 0) rfl rfl (by decide) (by decide) (fun v T h' X hQ => ?_)
  obtain ⟨rfl, rfl⟩ := hQ
  show Goes p e below s _ n0 _ (T.setTop (mkF m 25 #[.val (.ref a1), .val (.ref a2)] [(.int (if (s0.toInt64 * t1.toInt64) < (t0.toInt64 * s1.toInt64) then (-1 : Int32) else (if (s0.toInt64 * t1.toInt64) = (t0.toInt64 * s1.toInt64) then (0 : Int32) else (1 : Int32))))]))
  exact g_retI X d7_25 (by decide) (by decide) ⟨rfl, rfl⟩
theorem pn0 : plainName "com/example/masked_merge/maskedmerge/core/ShareCompareToPinLaw" = true := by first | (simp [plainName, overriddenIn]; done) | decide +kernel
theorem ef0 (m : MethodId) (x0 : Int32) (x1 : Int32) (x2 : Int32) (x3 : Int32) (x4 : Int32) (x5 : Int32) : entryFrame m #[(.int x0), (.int x1), (.int x2), (.int x3), (.int x4), (.int x5)] maxLocals = mkF m 0 #[.val (.int x0), .val (.int x1), .val (.int x2), .val (.int x3), .val (.int x4), .val (.int x5), .unset, .unset, .unset, .unset, .unset, .unset, .unset, .unset, .unset, .unset, .unset, .unset, .unset, .unset, .unset, .unset, .unset, .unset, .unset, .unset, .unset] [] := by first | (simp [entryFrame, mkF, argsToLocals, Value.category, maxLocals]; done) | rfl
set_option maxRecDepth 65536 in
set_option maxHeartbeats 40000000 in
theorem rm0 (l : Launch) (Z : State) (a0 : Array Value) (hw : ∀ d ∈ tables_1, d.before a0 Z = true) (ws : List Jvm.Cond) (p1 : Int32) (p2 : Int32) (p3 : Int32) (p4 : Int32) (p5 : Int32) (p6 : Int32) (h0 : Heap) (n0 : Nat) (Z0 : n0 ≤ h0.size) :
    Met l Z x code maxLocals ret room_1 ws n0 #[(.int p1), (.int p2), (.int p3), (.int p4), (.int p5), (.int p6)] h0 (fun v h' => v = some (.int 1)) := by
  refine Met.intro (plainFor_of_name pn0) Z0 ?_
  intro p e s m below meth c T X
  refine g_cast (ef0 m p1 p2 p3 p4 p5 p6) ?_
  refine g_iloadN X at_0 rfl (q := 1) rfl ?_
  refine g_callS X [(.int p1)] [] (tw0 hw) (tw1 hw) (tw2 hw) (tw3 hw) (by decide) (rm1 l Z a0 hw [] p1 _ n0 X.size) pd2 rfl rfl rfl at_1 (q := 4) rfl (W := 0) rfl (by decide) (by decide) (c2 := 0) (s2 := 0) rfl rfl (by decide) (by decide) (fun v T h' X hQ => ?_)
  obtain ⟨rfl, rfl⟩ := hQ
  show Goes p e below s _ n0 _ (T.setTop (mkF m 4 #[.val (.int p1), .val (.int p2), .val (.int p3), .val (.int p4), .val (.int p5), .val (.int p6), .unset, .unset, .unset, .unset, .unset, .unset, .unset, .unset, .unset, .unset, .unset, .unset, .unset, .unset, .unset, .unset, .unset, .unset, .unset, .unset, .unset] [(.int (if (p1 &&& (2147483647 : Int32)) = (0 : Int32) then (1 : Int32) else (p1 &&& (2147483647 : Int32))))]))
  refine g_letI (fun r1 hr1 => ?_)
  have b_r1 : (0 : Int) ≤ r1.toInt ∧ r1.toInt ≤ 2147483647 := by
    have z0 := hr1
    have f1 := rng32 p1
    obtain ⟨n1_, hn1_⟩ : ∃ z, z = (p1 &&& (2147483647 : Int32)) := ⟨_, rfl⟩
    (try simp only [← hn1_] at z0)
    have f2 := own_mB p1 (2147483647 : Int32) 31 (by decide) (by decide) 2147483647 (by decide)
    (try rw [← hn1_] at f2)
    have e0 := congrArg Int32.toInt z0
    (try simp only [Int64.lt_iff_toInt_lt, Int32.lt_iff_toInt_lt, Int64.le_iff_toInt_le, Int32.le_iff_toInt_le, ← Int64.toInt_inj, ← Int32.toInt_inj, apply_ite Int64.toInt, apply_ite Int32.toInt, Int64.reduceToInt, Int32.reduceToInt, ne_eq, true_and, and_true, false_or, or_false, iff_self, and_self, not_true_eq_false, not_false_eq_true] at e0)
    omega
  refine g_istore X at_4 rfl (q := 6) (L' := #[.val (.int p1), .val (.int p2), .val (.int p3), .val (.int p4), .val (.int p5), .val (.int p6), .val (.int r1), .unset, .unset, .unset, .unset, .unset, .unset, .unset, .unset, .unset, .unset, .unset, .unset, .unset, .unset, .unset, .unset, .unset, .unset, .unset, .unset]) rfl ?_
  refine g_iloadN X at_6 rfl (q := 7) rfl ?_
  refine g_iload X at_7 rfl (q := 9) rfl ?_
  refine g_callS X [(.int p2), (.int r1)] [] (tw5 hw) (tw6 hw) (tw2 hw) (tw7 hw) (by decide) (rm2 l Z a0 hw [] p2 r1 _ n0 X.size (show ¬ (r1 < (0 : Int32)) from (by first | ((try simp only [Int64.lt_iff_toInt_lt, Int32.lt_iff_toInt_lt, Int64.le_iff_toInt_le, Int32.le_iff_toInt_le, ← Int64.toInt_inj, ← Int32.toInt_inj, apply_ite Int64.toInt, apply_ite Int32.toInt, Int64.reduceToInt, Int32.reduceToInt, ne_eq, true_and, and_true, false_or, or_false, iff_self, and_self, not_true_eq_false, not_false_eq_true]) <;> omega) | (have f1 := rng32 p1; obtain ⟨n1_, hn1_⟩ : ∃ z, z = (p1 &&& (2147483647 : Int32)) := ⟨_, rfl⟩; (try simp only [← hn1_] at hr1 ⊢); have f2 := own_mB p1 (2147483647 : Int32) 31 (by decide) (by decide) 2147483647 (by decide); (try rw [← hn1_] at f2); have e_hr1 := congrArg Int32.toInt hr1; (try simp only [Int64.lt_iff_toInt_lt, Int32.lt_iff_toInt_lt, Int64.le_iff_toInt_le, Int32.le_iff_toInt_le, ← Int64.toInt_inj, ← Int32.toInt_inj, apply_ite Int64.toInt, apply_ite Int32.toInt, Int64.reduceToInt, Int32.reduceToInt, ne_eq, true_and, and_true, false_or, or_false, iff_self, and_self, not_true_eq_false, not_false_eq_true] at e_hr1); (try simp only [Int64.lt_iff_toInt_lt, Int32.lt_iff_toInt_lt, Int64.le_iff_toInt_le, Int32.le_iff_toInt_le, ← Int64.toInt_inj, ← Int32.toInt_inj, apply_ite Int64.toInt, apply_ite Int32.toInt, Int64.reduceToInt, Int32.reduceToInt, ne_eq, true_and, and_true, false_or, or_false, iff_self, and_self, not_true_eq_false, not_false_eq_true]) <;> omega)))) pd3 rfl rfl rfl at_9 (q := 12) rfl (W := 0) rfl (by decide) (by decide) (c2 := 0) (s2 := 0) rfl rfl (by decide) (by decide) (fun v T h' X hQ => ?_)
  obtain ⟨rfl, rfl⟩ := hQ
  show Goes p e below s _ n0 _ (T.setTop (mkF m 12 #[.val (.int p1), .val (.int p2), .val (.int p3), .val (.int p4), .val (.int p5), .val (.int p6), .val (.int r1), .unset, .unset, .unset, .unset, .unset, .unset, .unset, .unset, .unset, .unset, .unset, .unset, .unset, .unset, .unset, .unset, .unset, .unset, .unset, .unset] [(.int ((p2 &&& (2147483647 : Int32)).toInt64 % (r1.toInt64 + (1 : Int64))).toInt32)]))
  refine g_letI (fun r9 hr9 => ?_)
  have b_r9 : (0 : Int) ≤ r9.toInt ∧ r9.toInt ≤ 2147483647 := by
    have z0 := hr9
    have f1 := rng32 p2
    obtain ⟨n1_, hn1_⟩ : ∃ z, z = (p2 &&& (2147483647 : Int32)) := ⟨_, rfl⟩
    (try simp only [← hn1_] at z0)
    have f2 := own_mB p2 (2147483647 : Int32) 31 (by decide) (by decide) 2147483647 (by decide)
    (try rw [← hn1_] at f2)
    obtain ⟨n2_, hn2_⟩ : ∃ z, z = n1_.toInt64 := ⟨_, rfl⟩
    (try simp only [← hn2_] at z0)
    have f3 := c_i2l n1_
    (try rw [← hn2_] at f3)
    obtain ⟨n3_, hn3_⟩ : ∃ z, z = r1.toInt64 := ⟨_, rfl⟩
    (try simp only [← hn3_] at z0)
    have f4 := c_i2l r1
    (try rw [← hn3_] at f4)
    obtain ⟨n4_, hn4_⟩ : ∃ z, z = (n3_ + (1 : Int64)) := ⟨_, rfl⟩
    (try simp only [← hn4_] at z0)
    have f5 := own_laddE n3_ (1 : Int64) (by (try simp only [Int64.reduceToInt, Int32.reduceToInt]); omega)
    (try rw [← hn4_] at f5)
    (try simp only [Int64.reduceToInt, Int32.reduceToInt] at f5)
    obtain ⟨n5_, hn5_⟩ : ∃ z, z = (n2_ % n4_) := ⟨_, rfl⟩
    (try simp only [← hn5_] at z0)
    have f6 := own_lremV n2_ n4_ (by omega) (by omega)
    (try rw [← hn5_] at f6)
    obtain ⟨n6_, hn6_⟩ : ∃ z, z = n5_.toInt32 := ⟨_, rfl⟩
    (try simp only [← hn6_] at z0)
    have f7 := own_l2iE n5_ (by omega)
    (try rw [← hn6_] at f7)
    have e0 := congrArg Int32.toInt z0
    (try simp only [Int64.lt_iff_toInt_lt, Int32.lt_iff_toInt_lt, Int64.le_iff_toInt_le, Int32.le_iff_toInt_le, ← Int64.toInt_inj, ← Int32.toInt_inj, apply_ite Int64.toInt, apply_ite Int32.toInt, Int64.reduceToInt, Int32.reduceToInt, ne_eq, true_and, and_true, false_or, or_false, iff_self, and_self, not_true_eq_false, not_false_eq_true] at e0)
    omega
  refine g_istore X at_12 rfl (q := 14) (L' := #[.val (.int p1), .val (.int p2), .val (.int p3), .val (.int p4), .val (.int p5), .val (.int p6), .val (.int r1), .val (.int r9), .unset, .unset, .unset, .unset, .unset, .unset, .unset, .unset, .unset, .unset, .unset, .unset, .unset, .unset, .unset, .unset, .unset, .unset, .unset]) rfl ?_
  refine g_iloadN X at_14 rfl (q := 15) rfl ?_
  refine g_callS X [(.int p3)] [] (tw0 hw) (tw1 hw) (tw2 hw) (tw3 hw) (by decide) (rm1 l Z a0 hw [] p3 _ n0 X.size) pd2 rfl rfl rfl at_15 (q := 18) rfl (W := 0) rfl (by decide) (by decide) (c2 := 0) (s2 := 0) rfl rfl (by decide) (by decide) (fun v T h' X hQ => ?_)
  obtain ⟨rfl, rfl⟩ := hQ
  show Goes p e below s _ n0 _ (T.setTop (mkF m 18 #[.val (.int p1), .val (.int p2), .val (.int p3), .val (.int p4), .val (.int p5), .val (.int p6), .val (.int r1), .val (.int r9), .unset, .unset, .unset, .unset, .unset, .unset, .unset, .unset, .unset, .unset, .unset, .unset, .unset, .unset, .unset, .unset, .unset, .unset, .unset] [(.int (if (p3 &&& (2147483647 : Int32)) = (0 : Int32) then (1 : Int32) else (p3 &&& (2147483647 : Int32))))]))
  refine g_letI (fun r15 hr15 => ?_)
  have b_r15 : (0 : Int) ≤ r15.toInt ∧ r15.toInt ≤ 2147483647 := by
    have z0 := hr15
    have f1 := rng32 p3
    obtain ⟨n1_, hn1_⟩ : ∃ z, z = (p3 &&& (2147483647 : Int32)) := ⟨_, rfl⟩
    (try simp only [← hn1_] at z0)
    have f2 := own_mB p3 (2147483647 : Int32) 31 (by decide) (by decide) 2147483647 (by decide)
    (try rw [← hn1_] at f2)
    have e0 := congrArg Int32.toInt z0
    (try simp only [Int64.lt_iff_toInt_lt, Int32.lt_iff_toInt_lt, Int64.le_iff_toInt_le, Int32.le_iff_toInt_le, ← Int64.toInt_inj, ← Int32.toInt_inj, apply_ite Int64.toInt, apply_ite Int32.toInt, Int64.reduceToInt, Int32.reduceToInt, ne_eq, true_and, and_true, false_or, or_false, iff_self, and_self, not_true_eq_false, not_false_eq_true] at e0)
    omega
  refine g_istore X at_18 rfl (q := 20) (L' := #[.val (.int p1), .val (.int p2), .val (.int p3), .val (.int p4), .val (.int p5), .val (.int p6), .val (.int r1), .val (.int r9), .val (.int r15), .unset, .unset, .unset, .unset, .unset, .unset, .unset, .unset, .unset, .unset, .unset, .unset, .unset, .unset, .unset, .unset, .unset, .unset]) rfl ?_
  refine g_iloadN X at_20 rfl (q := 21) rfl ?_
  refine g_iload X at_21 rfl (q := 23) rfl ?_
  refine g_callS X [(.int p4), (.int r15)] [] (tw5 hw) (tw6 hw) (tw2 hw) (tw7 hw) (by decide) (rm2 l Z a0 hw [] p4 r15 _ n0 X.size (show ¬ (r15 < (0 : Int32)) from (by first | ((try simp only [Int64.lt_iff_toInt_lt, Int32.lt_iff_toInt_lt, Int64.le_iff_toInt_le, Int32.le_iff_toInt_le, ← Int64.toInt_inj, ← Int32.toInt_inj, apply_ite Int64.toInt, apply_ite Int32.toInt, Int64.reduceToInt, Int32.reduceToInt, ne_eq, true_and, and_true, false_or, or_false, iff_self, and_self, not_true_eq_false, not_false_eq_true]) <;> omega) | (have f1 := rng32 p3; obtain ⟨n1_, hn1_⟩ : ∃ z, z = (p3 &&& (2147483647 : Int32)) := ⟨_, rfl⟩; (try simp only [← hn1_] at hr15 ⊢); have f2 := own_mB p3 (2147483647 : Int32) 31 (by decide) (by decide) 2147483647 (by decide); (try rw [← hn1_] at f2); have e_hr15 := congrArg Int32.toInt hr15; (try simp only [Int64.lt_iff_toInt_lt, Int32.lt_iff_toInt_lt, Int64.le_iff_toInt_le, Int32.le_iff_toInt_le, ← Int64.toInt_inj, ← Int32.toInt_inj, apply_ite Int64.toInt, apply_ite Int32.toInt, Int64.reduceToInt, Int32.reduceToInt, ne_eq, true_and, and_true, false_or, or_false, iff_self, and_self, not_true_eq_false, not_false_eq_true] at e_hr15); (try simp only [Int64.lt_iff_toInt_lt, Int32.lt_iff_toInt_lt, Int64.le_iff_toInt_le, Int32.le_iff_toInt_le, ← Int64.toInt_inj, ← Int32.toInt_inj, apply_ite Int64.toInt, apply_ite Int32.toInt, Int64.reduceToInt, Int32.reduceToInt, ne_eq, true_and, and_true, false_or, or_false, iff_self, and_self, not_true_eq_false, not_false_eq_true]) <;> omega)))) pd3 rfl rfl rfl at_23 (q := 26) rfl (W := 0) rfl (by decide) (by decide) (c2 := 0) (s2 := 0) rfl rfl (by decide) (by decide) (fun v T h' X hQ => ?_)
  obtain ⟨rfl, rfl⟩ := hQ
  show Goes p e below s _ n0 _ (T.setTop (mkF m 26 #[.val (.int p1), .val (.int p2), .val (.int p3), .val (.int p4), .val (.int p5), .val (.int p6), .val (.int r1), .val (.int r9), .val (.int r15), .unset, .unset, .unset, .unset, .unset, .unset, .unset, .unset, .unset, .unset, .unset, .unset, .unset, .unset, .unset, .unset, .unset, .unset] [(.int ((p4 &&& (2147483647 : Int32)).toInt64 % (r15.toInt64 + (1 : Int64))).toInt32)]))
  refine g_letI (fun r23 hr23 => ?_)
  have b_r23 : (0 : Int) ≤ r23.toInt ∧ r23.toInt ≤ 2147483647 := by
    have z0 := hr23
    have f1 := rng32 p4
    obtain ⟨n1_, hn1_⟩ : ∃ z, z = (p4 &&& (2147483647 : Int32)) := ⟨_, rfl⟩
    (try simp only [← hn1_] at z0)
    have f2 := own_mB p4 (2147483647 : Int32) 31 (by decide) (by decide) 2147483647 (by decide)
    (try rw [← hn1_] at f2)
    obtain ⟨n2_, hn2_⟩ : ∃ z, z = n1_.toInt64 := ⟨_, rfl⟩
    (try simp only [← hn2_] at z0)
    have f3 := c_i2l n1_
    (try rw [← hn2_] at f3)
    obtain ⟨n3_, hn3_⟩ : ∃ z, z = r15.toInt64 := ⟨_, rfl⟩
    (try simp only [← hn3_] at z0)
    have f4 := c_i2l r15
    (try rw [← hn3_] at f4)
    obtain ⟨n4_, hn4_⟩ : ∃ z, z = (n3_ + (1 : Int64)) := ⟨_, rfl⟩
    (try simp only [← hn4_] at z0)
    have f5 := own_laddE n3_ (1 : Int64) (by (try simp only [Int64.reduceToInt, Int32.reduceToInt]); omega)
    (try rw [← hn4_] at f5)
    (try simp only [Int64.reduceToInt, Int32.reduceToInt] at f5)
    obtain ⟨n5_, hn5_⟩ : ∃ z, z = (n2_ % n4_) := ⟨_, rfl⟩
    (try simp only [← hn5_] at z0)
    have f6 := own_lremV n2_ n4_ (by omega) (by omega)
    (try rw [← hn5_] at f6)
    obtain ⟨n6_, hn6_⟩ : ∃ z, z = n5_.toInt32 := ⟨_, rfl⟩
    (try simp only [← hn6_] at z0)
    have f7 := own_l2iE n5_ (by omega)
    (try rw [← hn6_] at f7)
    have e0 := congrArg Int32.toInt z0
    (try simp only [Int64.lt_iff_toInt_lt, Int32.lt_iff_toInt_lt, Int64.le_iff_toInt_le, Int32.le_iff_toInt_le, ← Int64.toInt_inj, ← Int32.toInt_inj, apply_ite Int64.toInt, apply_ite Int32.toInt, Int64.reduceToInt, Int32.reduceToInt, ne_eq, true_and, and_true, false_or, or_false, iff_self, and_self, not_true_eq_false, not_false_eq_true] at e0)
    omega
  refine g_istore X at_26 rfl (q := 28) (L' := #[.val (.int p1), .val (.int p2), .val (.int p3), .val (.int p4), .val (.int p5), .val (.int p6), .val (.int r1), .val (.int r9), .val (.int r15), .val (.int r23), .unset, .unset, .unset, .unset, .unset, .unset, .unset, .unset, .unset, .unset, .unset, .unset, .unset, .unset, .unset, .unset, .unset]) rfl ?_
  refine g_iload X at_28 rfl (q := 30) rfl ?_
  refine g_iload X at_30 rfl (q := 32) rfl ?_
  refine g_callS X [(.int p5), (.int r1)] [] (tw5 hw) (tw6 hw) (tw2 hw) (tw7 hw) (by decide) (rm2 l Z a0 hw [] p5 r1 _ n0 X.size (show ¬ (r1 < (0 : Int32)) from (by first | ((try simp only [Int64.lt_iff_toInt_lt, Int32.lt_iff_toInt_lt, Int64.le_iff_toInt_le, Int32.le_iff_toInt_le, ← Int64.toInt_inj, ← Int32.toInt_inj, apply_ite Int64.toInt, apply_ite Int32.toInt, Int64.reduceToInt, Int32.reduceToInt, ne_eq, true_and, and_true, false_or, or_false, iff_self, and_self, not_true_eq_false, not_false_eq_true]) <;> omega) | (have f1 := rng32 p1; obtain ⟨n1_, hn1_⟩ : ∃ z, z = (p1 &&& (2147483647 : Int32)) := ⟨_, rfl⟩; (try simp only [← hn1_] at hr1 ⊢); have f2 := own_mB p1 (2147483647 : Int32) 31 (by decide) (by decide) 2147483647 (by decide); (try rw [← hn1_] at f2); have e_hr1 := congrArg Int32.toInt hr1; (try simp only [Int64.lt_iff_toInt_lt, Int32.lt_iff_toInt_lt, Int64.le_iff_toInt_le, Int32.le_iff_toInt_le, ← Int64.toInt_inj, ← Int32.toInt_inj, apply_ite Int64.toInt, apply_ite Int32.toInt, Int64.reduceToInt, Int32.reduceToInt, ne_eq, true_and, and_true, false_or, or_false, iff_self, and_self, not_true_eq_false, not_false_eq_true] at e_hr1); (try simp only [Int64.lt_iff_toInt_lt, Int32.lt_iff_toInt_lt, Int64.le_iff_toInt_le, Int32.le_iff_toInt_le, ← Int64.toInt_inj, ← Int32.toInt_inj, apply_ite Int64.toInt, apply_ite Int32.toInt, Int64.reduceToInt, Int32.reduceToInt, ne_eq, true_and, and_true, false_or, or_false, iff_self, and_self, not_true_eq_false, not_false_eq_true]) <;> omega)))) pd3 rfl rfl rfl at_32 (q := 35) rfl (W := 0) rfl (by decide) (by decide) (c2 := 0) (s2 := 0) rfl rfl (by decide) (by decide) (fun v T h' X hQ => ?_)
  obtain ⟨rfl, rfl⟩ := hQ
  show Goes p e below s _ n0 _ (T.setTop (mkF m 35 #[.val (.int p1), .val (.int p2), .val (.int p3), .val (.int p4), .val (.int p5), .val (.int p6), .val (.int r1), .val (.int r9), .val (.int r15), .val (.int r23), .unset, .unset, .unset, .unset, .unset, .unset, .unset, .unset, .unset, .unset, .unset, .unset, .unset, .unset, .unset, .unset, .unset] [(.int ((p5 &&& (2147483647 : Int32)).toInt64 % (r1.toInt64 + (1 : Int64))).toInt32)]))
  refine g_letI (fun r32 hr32 => ?_)
  have b_r32 : (0 : Int) ≤ r32.toInt ∧ r32.toInt ≤ 2147483647 := by
    have z0 := hr32
    have f1 := rng32 p5
    obtain ⟨n1_, hn1_⟩ : ∃ z, z = (p5 &&& (2147483647 : Int32)) := ⟨_, rfl⟩
    (try simp only [← hn1_] at z0)
    have f2 := own_mB p5 (2147483647 : Int32) 31 (by decide) (by decide) 2147483647 (by decide)
    (try rw [← hn1_] at f2)
    obtain ⟨n2_, hn2_⟩ : ∃ z, z = n1_.toInt64 := ⟨_, rfl⟩
    (try simp only [← hn2_] at z0)
    have f3 := c_i2l n1_
    (try rw [← hn2_] at f3)
    obtain ⟨n3_, hn3_⟩ : ∃ z, z = r1.toInt64 := ⟨_, rfl⟩
    (try simp only [← hn3_] at z0)
    have f4 := c_i2l r1
    (try rw [← hn3_] at f4)
    obtain ⟨n4_, hn4_⟩ : ∃ z, z = (n3_ + (1 : Int64)) := ⟨_, rfl⟩
    (try simp only [← hn4_] at z0)
    have f5 := own_laddE n3_ (1 : Int64) (by (try simp only [Int64.reduceToInt, Int32.reduceToInt]); omega)
    (try rw [← hn4_] at f5)
    (try simp only [Int64.reduceToInt, Int32.reduceToInt] at f5)
    obtain ⟨n5_, hn5_⟩ : ∃ z, z = (n2_ % n4_) := ⟨_, rfl⟩
    (try simp only [← hn5_] at z0)
    have f6 := own_lremV n2_ n4_ (by omega) (by omega)
    (try rw [← hn5_] at f6)
    obtain ⟨n6_, hn6_⟩ : ∃ z, z = n5_.toInt32 := ⟨_, rfl⟩
    (try simp only [← hn6_] at z0)
    have f7 := own_l2iE n5_ (by omega)
    (try rw [← hn6_] at f7)
    have e0 := congrArg Int32.toInt z0
    (try simp only [Int64.lt_iff_toInt_lt, Int32.lt_iff_toInt_lt, Int64.le_iff_toInt_le, Int32.le_iff_toInt_le, ← Int64.toInt_inj, ← Int32.toInt_inj, apply_ite Int64.toInt, apply_ite Int32.toInt, Int64.reduceToInt, Int32.reduceToInt, ne_eq, true_and, and_true, false_or, or_false, iff_self, and_self, not_true_eq_false, not_false_eq_true] at e0)
    omega
  refine g_istore X at_35 rfl (q := 37) (L' := #[.val (.int p1), .val (.int p2), .val (.int p3), .val (.int p4), .val (.int p5), .val (.int p6), .val (.int r1), .val (.int r9), .val (.int r15), .val (.int r23), .val (.int r32), .unset, .unset, .unset, .unset, .unset, .unset, .unset, .unset, .unset, .unset, .unset, .unset, .unset, .unset, .unset, .unset]) rfl ?_
  refine g_ldc2 X (tw8 hw) at_37 (q := 40) rfl ?_
  refine g_iload X at_40 rfl (q := 42) rfl ?_
  refine g_i2l X at_42 rfl (q := 43) ?_
  refine g_lsub X at_43 rfl (q := 44) ?_
  refine g_lconst X at_44 rfl (q := 45) (v := 1) rfl ?_
  refine g_ladd X at_45 rfl (q := 46) ?_
  refine g_letJ (fun x46 hx46 => ?_)
  have b_x46 : (1 : Int) ≤ x46.toInt ∧ x46.toInt ≤ 2147483648 := by
    have z0 := hx46
    obtain ⟨n1_, hn1_⟩ : ∃ z, z = r9.toInt64 := ⟨_, rfl⟩
    (try simp only [← hn1_] at z0)
    have f1 := c_i2l r9
    (try rw [← hn1_] at f1)
    obtain ⟨n2_, hn2_⟩ : ∃ z, z = ((2147483647 : Int64) - n1_) := ⟨_, rfl⟩
    (try simp only [← hn2_] at z0)
    have f2 := own_lsubE (2147483647 : Int64) n1_ (by (try simp only [Int64.reduceToInt, Int32.reduceToInt]); omega)
    (try rw [← hn2_] at f2)
    (try simp only [Int64.reduceToInt, Int32.reduceToInt] at f2)
    obtain ⟨n3_, hn3_⟩ : ∃ z, z = (n2_ + (1 : Int64)) := ⟨_, rfl⟩
    (try simp only [← hn3_] at z0)
    have f3 := own_laddE n2_ (1 : Int64) (by (try simp only [Int64.reduceToInt, Int32.reduceToInt]); omega)
    (try rw [← hn3_] at f3)
    (try simp only [Int64.reduceToInt, Int32.reduceToInt] at f3)
    have e0 := congrArg Int64.toInt z0
    (try simp only [Int64.lt_iff_toInt_lt, Int32.lt_iff_toInt_lt, Int64.le_iff_toInt_le, Int32.le_iff_toInt_le, ← Int64.toInt_inj, ← Int32.toInt_inj, apply_ite Int64.toInt, apply_ite Int32.toInt, Int64.reduceToInt, Int32.reduceToInt, ne_eq, true_and, and_true, false_or, or_false, iff_self, and_self, not_true_eq_false, not_false_eq_true] at e0)
    omega
  refine g_lstore X at_46 rfl (q := 48) (L' := #[.val (.int p1), .val (.int p2), .val (.int p3), .val (.int p4), .val (.int p5), .val (.int p6), .val (.int r1), .val (.int r9), .val (.int r15), .val (.int r23), .val (.int r32), .val (.long x46), .second, .unset, .unset, .unset, .unset, .unset, .unset, .unset, .unset, .unset, .unset, .unset, .unset, .unset, .unset]) rfl ?_
  refine g_iload X at_48 rfl (q := 50) rfl ?_
  refine g_iload X at_50 rfl (q := 52) rfl ?_
  refine g_ldc X (tw4 hw) at_52 (q := 54) rfl ?_
  refine g_iand X at_54 rfl (q := 55) ?_
  refine g_i2l X at_55 rfl (q := 56) ?_
  refine g_lload X at_56 rfl (q := 58) rfl ?_
  refine g_lrem X at_58 rfl (q := 59) (show ¬ (x46 = (0 : Int64)) from (by first | ((try simp only [Int64.lt_iff_toInt_lt, Int32.lt_iff_toInt_lt, Int64.le_iff_toInt_le, Int32.le_iff_toInt_le, ← Int64.toInt_inj, ← Int32.toInt_inj, apply_ite Int64.toInt, apply_ite Int32.toInt, Int64.reduceToInt, Int32.reduceToInt, ne_eq, true_and, and_true, false_or, or_false, iff_self, and_self, not_true_eq_false, not_false_eq_true]) <;> omega) | (obtain ⟨n1_, hn1_⟩ : ∃ z, z = r9.toInt64 := ⟨_, rfl⟩; (try simp only [← hn1_] at hx46 ⊢); have f1 := c_i2l r9; (try rw [← hn1_] at f1); obtain ⟨n2_, hn2_⟩ : ∃ z, z = ((2147483647 : Int64) - n1_) := ⟨_, rfl⟩; (try simp only [← hn2_] at hx46 ⊢); have f2 := own_lsubE (2147483647 : Int64) n1_ (by (try simp only [Int64.reduceToInt, Int32.reduceToInt]); omega); (try rw [← hn2_] at f2); (try simp only [Int64.reduceToInt, Int32.reduceToInt] at f2); obtain ⟨n3_, hn3_⟩ : ∃ z, z = (n2_ + (1 : Int64)) := ⟨_, rfl⟩; (try simp only [← hn3_] at hx46 ⊢); have f3 := own_laddE n2_ (1 : Int64) (by (try simp only [Int64.reduceToInt, Int32.reduceToInt]); omega); (try rw [← hn3_] at f3); (try simp only [Int64.reduceToInt, Int32.reduceToInt] at f3); have e_hx46 := congrArg Int64.toInt hx46; (try simp only [Int64.lt_iff_toInt_lt, Int32.lt_iff_toInt_lt, Int64.le_iff_toInt_le, Int32.le_iff_toInt_le, ← Int64.toInt_inj, ← Int32.toInt_inj, apply_ite Int64.toInt, apply_ite Int32.toInt, Int64.reduceToInt, Int32.reduceToInt, ne_eq, true_and, and_true, false_or, or_false, iff_self, and_self, not_true_eq_false, not_false_eq_true] at e_hx46); (try simp only [Int64.lt_iff_toInt_lt, Int32.lt_iff_toInt_lt, Int64.le_iff_toInt_le, Int32.le_iff_toInt_le, ← Int64.toInt_inj, ← Int32.toInt_inj, apply_ite Int64.toInt, apply_ite Int32.toInt, Int64.reduceToInt, Int32.reduceToInt, ne_eq, true_and, and_true, false_or, or_false, iff_self, and_self, not_true_eq_false, not_false_eq_true]) <;> omega) | (have f1 := rng32 p2; obtain ⟨n1_, hn1_⟩ : ∃ z, z = (p2 &&& (2147483647 : Int32)) := ⟨_, rfl⟩; (try simp only [← hn1_] at hr9 hx46 ⊢); have f2 := own_mB p2 (2147483647 : Int32) 31 (by decide) (by decide) 2147483647 (by decide); (try rw [← hn1_] at f2); obtain ⟨n2_, hn2_⟩ : ∃ z, z = n1_.toInt64 := ⟨_, rfl⟩; (try simp only [← hn2_] at hr9 hx46 ⊢); have f3 := c_i2l n1_; (try rw [← hn2_] at f3); obtain ⟨n3_, hn3_⟩ : ∃ z, z = r1.toInt64 := ⟨_, rfl⟩; (try simp only [← hn3_] at hr9 hx46 ⊢); have f4 := c_i2l r1; (try rw [← hn3_] at f4); obtain ⟨n4_, hn4_⟩ : ∃ z, z = (n3_ + (1 : Int64)) := ⟨_, rfl⟩; (try simp only [← hn4_] at hr9 hx46 ⊢); have f5 := own_laddE n3_ (1 : Int64) (by (try simp only [Int64.reduceToInt, Int32.reduceToInt]); omega); (try rw [← hn4_] at f5); (try simp only [Int64.reduceToInt, Int32.reduceToInt] at f5); obtain ⟨n5_, hn5_⟩ : ∃ z, z = (n2_ % n4_) := ⟨_, rfl⟩; (try simp only [← hn5_] at hr9 hx46 ⊢); have f6 := own_lremV n2_ n4_ (by omega) (by omega); (try rw [← hn5_] at f6); obtain ⟨n6_, hn6_⟩ : ∃ z, z = n5_.toInt32 := ⟨_, rfl⟩; (try simp only [← hn6_] at hr9 hx46 ⊢); have f7 := own_l2iE n5_ (by omega); (try rw [← hn6_] at f7); have e_hr9 := congrArg Int32.toInt hr9; (try simp only [Int64.lt_iff_toInt_lt, Int32.lt_iff_toInt_lt, Int64.le_iff_toInt_le, Int32.le_iff_toInt_le, ← Int64.toInt_inj, ← Int32.toInt_inj, apply_ite Int64.toInt, apply_ite Int32.toInt, Int64.reduceToInt, Int32.reduceToInt, ne_eq, true_and, and_true, false_or, or_false, iff_self, and_self, not_true_eq_false, not_false_eq_true] at e_hr9); obtain ⟨n7_, hn7_⟩ : ∃ z, z = r9.toInt64 := ⟨_, rfl⟩; (try simp only [← hn7_] at hr9 hx46 ⊢); have f8 := c_i2l r9; (try rw [← hn7_] at f8); obtain ⟨n8_, hn8_⟩ : ∃ z, z = ((2147483647 : Int64) - n7_) := ⟨_, rfl⟩; (try simp only [← hn8_] at hr9 hx46 ⊢); have f9 := own_lsubE (2147483647 : Int64) n7_ (by (try simp only [Int64.reduceToInt, Int32.reduceToInt]); omega); (try rw [← hn8_] at f9); (try simp only [Int64.reduceToInt, Int32.reduceToInt] at f9); obtain ⟨n9_, hn9_⟩ : ∃ z, z = (n8_ + (1 : Int64)) := ⟨_, rfl⟩; (try simp only [← hn9_] at hr9 hx46 ⊢); have f10 := own_laddE n8_ (1 : Int64) (by (try simp only [Int64.reduceToInt, Int32.reduceToInt]); omega); (try rw [← hn9_] at f10); (try simp only [Int64.reduceToInt, Int32.reduceToInt] at f10); have e_hx46 := congrArg Int64.toInt hx46; (try simp only [Int64.lt_iff_toInt_lt, Int32.lt_iff_toInt_lt, Int64.le_iff_toInt_le, Int32.le_iff_toInt_le, ← Int64.toInt_inj, ← Int32.toInt_inj, apply_ite Int64.toInt, apply_ite Int32.toInt, Int64.reduceToInt, Int32.reduceToInt, ne_eq, true_and, and_true, false_or, or_false, iff_self, and_self, not_true_eq_false, not_false_eq_true] at e_hx46); (try simp only [Int64.lt_iff_toInt_lt, Int32.lt_iff_toInt_lt, Int64.le_iff_toInt_le, Int32.le_iff_toInt_le, ← Int64.toInt_inj, ← Int32.toInt_inj, apply_ite Int64.toInt, apply_ite Int32.toInt, Int64.reduceToInt, Int32.reduceToInt, ne_eq, true_and, and_true, false_or, or_false, iff_self, and_self, not_true_eq_false, not_false_eq_true]) <;> omega) | (have f1 := rng32 p1; obtain ⟨n1_, hn1_⟩ : ∃ z, z = (p1 &&& (2147483647 : Int32)) := ⟨_, rfl⟩; (try simp only [← hn1_] at hr1 hr9 hx46 ⊢); have f2 := own_mB p1 (2147483647 : Int32) 31 (by decide) (by decide) 2147483647 (by decide); (try rw [← hn1_] at f2); have e_hr1 := congrArg Int32.toInt hr1; (try simp only [Int64.lt_iff_toInt_lt, Int32.lt_iff_toInt_lt, Int64.le_iff_toInt_le, Int32.le_iff_toInt_le, ← Int64.toInt_inj, ← Int32.toInt_inj, apply_ite Int64.toInt, apply_ite Int32.toInt, Int64.reduceToInt, Int32.reduceToInt, ne_eq, true_and, and_true, false_or, or_false, iff_self, and_self, not_true_eq_false, not_false_eq_true] at e_hr1); have f3 := rng32 p2; obtain ⟨n2_, hn2_⟩ : ∃ z, z = (p2 &&& (2147483647 : Int32)) := ⟨_, rfl⟩; (try simp only [← hn2_] at hr1 hr9 hx46 ⊢); have f4 := own_mB p2 (2147483647 : Int32) 31 (by decide) (by decide) 2147483647 (by decide); (try rw [← hn2_] at f4); obtain ⟨n3_, hn3_⟩ : ∃ z, z = n2_.toInt64 := ⟨_, rfl⟩; (try simp only [← hn3_] at hr1 hr9 hx46 ⊢); have f5 := c_i2l n2_; (try rw [← hn3_] at f5); obtain ⟨n4_, hn4_⟩ : ∃ z, z = r1.toInt64 := ⟨_, rfl⟩; (try simp only [← hn4_] at hr1 hr9 hx46 ⊢); have f6 := c_i2l r1; (try rw [← hn4_] at f6); obtain ⟨n5_, hn5_⟩ : ∃ z, z = (n4_ + (1 : Int64)) := ⟨_, rfl⟩; (try simp only [← hn5_] at hr1 hr9 hx46 ⊢); have f7 := own_laddE n4_ (1 : Int64) (by (try simp only [Int64.reduceToInt, Int32.reduceToInt]); omega); (try rw [← hn5_] at f7); (try simp only [Int64.reduceToInt, Int32.reduceToInt] at f7); obtain ⟨n6_, hn6_⟩ : ∃ z, z = (n3_ % n5_) := ⟨_, rfl⟩; (try simp only [← hn6_] at hr1 hr9 hx46 ⊢); have f8 := own_lremV n3_ n5_ (by omega) (by omega); (try rw [← hn6_] at f8); obtain ⟨n7_, hn7_⟩ : ∃ z, z = n6_.toInt32 := ⟨_, rfl⟩; (try simp only [← hn7_] at hr1 hr9 hx46 ⊢); have f9 := own_l2iE n6_ (by omega); (try rw [← hn7_] at f9); have e_hr9 := congrArg Int32.toInt hr9; (try simp only [Int64.lt_iff_toInt_lt, Int32.lt_iff_toInt_lt, Int64.le_iff_toInt_le, Int32.le_iff_toInt_le, ← Int64.toInt_inj, ← Int32.toInt_inj, apply_ite Int64.toInt, apply_ite Int32.toInt, Int64.reduceToInt, Int32.reduceToInt, ne_eq, true_and, and_true, false_or, or_false, iff_self, and_self, not_true_eq_false, not_false_eq_true] at e_hr9); obtain ⟨n8_, hn8_⟩ : ∃ z, z = r9.toInt64 := ⟨_, rfl⟩; (try simp only [← hn8_] at hr1 hr9 hx46 ⊢); have f10 := c_i2l r9; (try rw [← hn8_] at f10); obtain ⟨n9_, hn9_⟩ : ∃ z, z = ((2147483647 : Int64) - n8_) := ⟨_, rfl⟩; (try simp only [← hn9_] at hr1 hr9 hx46 ⊢); have f11 := own_lsubE (2147483647 : Int64) n8_ (by (try simp only [Int64.reduceToInt, Int32.reduceToInt]); omega); (try rw [← hn9_] at f11); (try simp only [Int64.reduceToInt, Int32.reduceToInt] at f11); obtain ⟨n10_, hn10_⟩ : ∃ z, z = (n9_ + (1 : Int64)) := ⟨_, rfl⟩; (try simp only [← hn10_] at hr1 hr9 hx46 ⊢); have f12 := own_laddE n9_ (1 : Int64) (by (try simp only [Int64.reduceToInt, Int32.reduceToInt]); omega); (try rw [← hn10_] at f12); (try simp only [Int64.reduceToInt, Int32.reduceToInt] at f12); have e_hx46 := congrArg Int64.toInt hx46; (try simp only [Int64.lt_iff_toInt_lt, Int32.lt_iff_toInt_lt, Int64.le_iff_toInt_le, Int32.le_iff_toInt_le, ← Int64.toInt_inj, ← Int32.toInt_inj, apply_ite Int64.toInt, apply_ite Int32.toInt, Int64.reduceToInt, Int32.reduceToInt, ne_eq, true_and, and_true, false_or, or_false, iff_self, and_self, not_true_eq_false, not_false_eq_true] at e_hx46); (try simp only [Int64.lt_iff_toInt_lt, Int32.lt_iff_toInt_lt, Int64.le_iff_toInt_le, Int32.le_iff_toInt_le, ← Int64.toInt_inj, ← Int32.toInt_inj, apply_ite Int64.toInt, apply_ite Int32.toInt, Int64.reduceToInt, Int32.reduceToInt, ne_eq, true_and, and_true, false_or, or_false, iff_self, and_self, not_true_eq_false, not_false_eq_true]) <;> omega))) ?_
  refine g_l2i X at_59 rfl (q := 60) ?_
  refine g_iadd X at_60 rfl (q := 61) ?_
  refine g_letI (fun x61 hx61 => ?_)
  refine g_istore X at_61 rfl (q := 63) (L' := #[.val (.int p1), .val (.int p2), .val (.int p3), .val (.int p4), .val (.int p5), .val (.int p6), .val (.int r1), .val (.int r9), .val (.int r15), .val (.int r23), .val (.int r32), .val (.long x46), .second, .val (.int x61), .unset, .unset, .unset, .unset, .unset, .unset, .unset, .unset, .unset, .unset, .unset, .unset, .unset]) rfl ?_
  refine g_iload X at_63 rfl (q := 65) rfl ?_
  refine g_iconst X at_65 rfl (q := 66) (v := 1) rfl ?_
  refine g_callS X [(.int x61), (.int (1 : Int32))] [] (tw9 hw) (tw10 hw) (tw11 hw) (tw12 hw) (by decide) (rm3 l Z a0 hw [] x61 (1 : Int32) _ n0 X.size) pd3 rfl rfl rfl at_66 (q := 69) rfl (W := 0) rfl (by decide) (by decide) (c2 := 0) (s2 := 0) rfl rfl (by decide) (by decide) (fun v T h' X hQ => ?_)
  obtain ⟨rfl, rfl⟩ := hQ
  show Goes p e below s _ n0 _ (T.setTop (mkF m 69 #[.val (.int p1), .val (.int p2), .val (.int p3), .val (.int p4), .val (.int p5), .val (.int p6), .val (.int r1), .val (.int r9), .val (.int r15), .val (.int r23), .val (.int r32), .val (.long x46), .second, .val (.int x61), .unset, .unset, .unset, .unset, .unset, .unset, .unset, .unset, .unset, .unset, .unset, .unset, .unset] [(.int (if x61 < (1 : Int32) then (1 : Int32) else x61))]))
  refine g_letI (fun r66 hr66 => ?_)
  refine g_istore X at_69 rfl (q := 71) (L' := #[.val (.int p1), .val (.int p2), .val (.int p3), .val (.int p4), .val (.int p5), .val (.int p6), .val (.int r1), .val (.int r9), .val (.int r15), .val (.int r23), .val (.int r32), .val (.long x46), .second, .val (.int r66), .unset, .unset, .unset, .unset, .unset, .unset, .unset, .unset, .unset, .unset, .unset, .unset, .unset]) rfl ?_
  refine g_new X (tw13 hw) (tw14 hw) (tw15 hw) at_71 (q := 74) rfl (c2 := 1) (s2 := 2) rfl rfl (by decide) (by decide) (fun T h' b1 X gz_b1 g_b1 E Ex D => ?_)
  have O_b1 : O_Share Z h' b1 (.int (0 : Int32)) (.int (0 : Int32)) := ⟨Ex, D (Or.inr (tw28 hw)) (ty := .int) (by decide), D (Or.inr (tw30 hw)) (ty := .int) (by decide)⟩
  refine g_dup X at_74 rfl (q := 75) rfl ?_
  refine g_iload X at_75 rfl (q := 77) rfl ?_
  refine g_iload X at_77 rfl (q := 79) rfl ?_
  refine g_callI X [(.int r9), (.int r1)] [(.ref b1)] rfl (tw16 hw) (tw17 hw) (tw15 hw) (tw18 hw) (by decide) (rm4 l Z a0 hw [] b1 r9 r1 _ n0 X.size O_b1 g_b1 (show (0 : Int32) < r1 from (by first | ((try simp only [Int64.lt_iff_toInt_lt, Int32.lt_iff_toInt_lt, Int64.le_iff_toInt_le, Int32.le_iff_toInt_le, ← Int64.toInt_inj, ← Int32.toInt_inj, apply_ite Int64.toInt, apply_ite Int32.toInt, Int64.reduceToInt, Int32.reduceToInt, ne_eq, true_and, and_true, false_or, or_false, iff_self, and_self, not_true_eq_false, not_false_eq_true]) <;> omega) | (have f1 := rng32 p1; obtain ⟨n1_, hn1_⟩ : ∃ z, z = (p1 &&& (2147483647 : Int32)) := ⟨_, rfl⟩; (try simp only [← hn1_] at hr1 ⊢); have f2 := own_mB p1 (2147483647 : Int32) 31 (by decide) (by decide) 2147483647 (by decide); (try rw [← hn1_] at f2); have e_hr1 := congrArg Int32.toInt hr1; (try simp only [Int64.lt_iff_toInt_lt, Int32.lt_iff_toInt_lt, Int64.le_iff_toInt_le, Int32.le_iff_toInt_le, ← Int64.toInt_inj, ← Int32.toInt_inj, apply_ite Int64.toInt, apply_ite Int32.toInt, Int64.reduceToInt, Int32.reduceToInt, ne_eq, true_and, and_true, false_or, or_false, iff_self, and_self, not_true_eq_false, not_false_eq_true] at e_hr1); (try simp only [Int64.lt_iff_toInt_lt, Int32.lt_iff_toInt_lt, Int64.le_iff_toInt_le, Int32.le_iff_toInt_le, ← Int64.toInt_inj, ← Int32.toInt_inj, apply_ite Int64.toInt, apply_ite Int32.toInt, Int64.reduceToInt, Int32.reduceToInt, ne_eq, true_and, and_true, false_or, or_false, iff_self, and_self, not_true_eq_false, not_false_eq_true]) <;> omega))) (show ¬ (r9 < (0 : Int32)) from (by first | ((try simp only [Int64.lt_iff_toInt_lt, Int32.lt_iff_toInt_lt, Int64.le_iff_toInt_le, Int32.le_iff_toInt_le, ← Int64.toInt_inj, ← Int32.toInt_inj, apply_ite Int64.toInt, apply_ite Int32.toInt, Int64.reduceToInt, Int32.reduceToInt, ne_eq, true_and, and_true, false_or, or_false, iff_self, and_self, not_true_eq_false, not_false_eq_true]) <;> omega) | (have f1 := rng32 p2; obtain ⟨n1_, hn1_⟩ : ∃ z, z = (p2 &&& (2147483647 : Int32)) := ⟨_, rfl⟩; (try simp only [← hn1_] at hr9 ⊢); have f2 := own_mB p2 (2147483647 : Int32) 31 (by decide) (by decide) 2147483647 (by decide); (try rw [← hn1_] at f2); obtain ⟨n2_, hn2_⟩ : ∃ z, z = n1_.toInt64 := ⟨_, rfl⟩; (try simp only [← hn2_] at hr9 ⊢); have f3 := c_i2l n1_; (try rw [← hn2_] at f3); obtain ⟨n3_, hn3_⟩ : ∃ z, z = r1.toInt64 := ⟨_, rfl⟩; (try simp only [← hn3_] at hr9 ⊢); have f4 := c_i2l r1; (try rw [← hn3_] at f4); obtain ⟨n4_, hn4_⟩ : ∃ z, z = (n3_ + (1 : Int64)) := ⟨_, rfl⟩; (try simp only [← hn4_] at hr9 ⊢); have f5 := own_laddE n3_ (1 : Int64) (by (try simp only [Int64.reduceToInt, Int32.reduceToInt]); omega); (try rw [← hn4_] at f5); (try simp only [Int64.reduceToInt, Int32.reduceToInt] at f5); obtain ⟨n5_, hn5_⟩ : ∃ z, z = (n2_ % n4_) := ⟨_, rfl⟩; (try simp only [← hn5_] at hr9 ⊢); have f6 := own_lremV n2_ n4_ (by omega) (by omega); (try rw [← hn5_] at f6); obtain ⟨n6_, hn6_⟩ : ∃ z, z = n5_.toInt32 := ⟨_, rfl⟩; (try simp only [← hn6_] at hr9 ⊢); have f7 := own_l2iE n5_ (by omega); (try rw [← hn6_] at f7); have e_hr9 := congrArg Int32.toInt hr9; (try simp only [Int64.lt_iff_toInt_lt, Int32.lt_iff_toInt_lt, Int64.le_iff_toInt_le, Int32.le_iff_toInt_le, ← Int64.toInt_inj, ← Int32.toInt_inj, apply_ite Int64.toInt, apply_ite Int32.toInt, Int64.reduceToInt, Int32.reduceToInt, ne_eq, true_and, and_true, false_or, or_false, iff_self, and_self, not_true_eq_false, not_false_eq_true] at e_hr9); (try simp only [Int64.lt_iff_toInt_lt, Int32.lt_iff_toInt_lt, Int64.le_iff_toInt_le, Int32.le_iff_toInt_le, ← Int64.toInt_inj, ← Int32.toInt_inj, apply_ite Int64.toInt, apply_ite Int32.toInt, Int64.reduceToInt, Int32.reduceToInt, ne_eq, true_and, and_true, false_or, or_false, iff_self, and_self, not_true_eq_false, not_false_eq_true]) <;> omega) | (have f1 := rng32 p1; obtain ⟨n1_, hn1_⟩ : ∃ z, z = (p1 &&& (2147483647 : Int32)) := ⟨_, rfl⟩; (try simp only [← hn1_] at hr1 hr9 ⊢); have f2 := own_mB p1 (2147483647 : Int32) 31 (by decide) (by decide) 2147483647 (by decide); (try rw [← hn1_] at f2); have e_hr1 := congrArg Int32.toInt hr1; (try simp only [Int64.lt_iff_toInt_lt, Int32.lt_iff_toInt_lt, Int64.le_iff_toInt_le, Int32.le_iff_toInt_le, ← Int64.toInt_inj, ← Int32.toInt_inj, apply_ite Int64.toInt, apply_ite Int32.toInt, Int64.reduceToInt, Int32.reduceToInt, ne_eq, true_and, and_true, false_or, or_false, iff_self, and_self, not_true_eq_false, not_false_eq_true] at e_hr1); have f3 := rng32 p2; obtain ⟨n2_, hn2_⟩ : ∃ z, z = (p2 &&& (2147483647 : Int32)) := ⟨_, rfl⟩; (try simp only [← hn2_] at hr1 hr9 ⊢); have f4 := own_mB p2 (2147483647 : Int32) 31 (by decide) (by decide) 2147483647 (by decide); (try rw [← hn2_] at f4); obtain ⟨n3_, hn3_⟩ : ∃ z, z = n2_.toInt64 := ⟨_, rfl⟩; (try simp only [← hn3_] at hr1 hr9 ⊢); have f5 := c_i2l n2_; (try rw [← hn3_] at f5); obtain ⟨n4_, hn4_⟩ : ∃ z, z = r1.toInt64 := ⟨_, rfl⟩; (try simp only [← hn4_] at hr1 hr9 ⊢); have f6 := c_i2l r1; (try rw [← hn4_] at f6); obtain ⟨n5_, hn5_⟩ : ∃ z, z = (n4_ + (1 : Int64)) := ⟨_, rfl⟩; (try simp only [← hn5_] at hr1 hr9 ⊢); have f7 := own_laddE n4_ (1 : Int64) (by (try simp only [Int64.reduceToInt, Int32.reduceToInt]); omega); (try rw [← hn5_] at f7); (try simp only [Int64.reduceToInt, Int32.reduceToInt] at f7); obtain ⟨n6_, hn6_⟩ : ∃ z, z = (n3_ % n5_) := ⟨_, rfl⟩; (try simp only [← hn6_] at hr1 hr9 ⊢); have f8 := own_lremV n3_ n5_ (by omega) (by omega); (try rw [← hn6_] at f8); obtain ⟨n7_, hn7_⟩ : ∃ z, z = n6_.toInt32 := ⟨_, rfl⟩; (try simp only [← hn7_] at hr1 hr9 ⊢); have f9 := own_l2iE n6_ (by omega); (try rw [← hn7_] at f9); have e_hr9 := congrArg Int32.toInt hr9; (try simp only [Int64.lt_iff_toInt_lt, Int32.lt_iff_toInt_lt, Int64.le_iff_toInt_le, Int32.le_iff_toInt_le, ← Int64.toInt_inj, ← Int32.toInt_inj, apply_ite Int64.toInt, apply_ite Int32.toInt, Int64.reduceToInt, Int32.reduceToInt, ne_eq, true_and, and_true, false_or, or_false, iff_self, and_self, not_true_eq_false, not_false_eq_true] at e_hr9); (try simp only [Int64.lt_iff_toInt_lt, Int32.lt_iff_toInt_lt, Int64.le_iff_toInt_le, Int32.le_iff_toInt_le, ← Int64.toInt_inj, ← Int32.toInt_inj, apply_ite Int64.toInt, apply_ite Int32.toInt, Int64.reduceToInt, Int32.reduceToInt, ne_eq, true_and, and_true, false_or, or_false, iff_self, and_self, not_true_eq_false, not_false_eq_true]) <;> omega))) (show ¬ (r1 < r9) from (by first | ((try simp only [Int64.lt_iff_toInt_lt, Int32.lt_iff_toInt_lt, Int64.le_iff_toInt_le, Int32.le_iff_toInt_le, ← Int64.toInt_inj, ← Int32.toInt_inj, apply_ite Int64.toInt, apply_ite Int32.toInt, Int64.reduceToInt, Int32.reduceToInt, ne_eq, true_and, and_true, false_or, or_false, iff_self, and_self, not_true_eq_false, not_false_eq_true]) <;> omega) | (have f1 := rng32 p1; obtain ⟨n1_, hn1_⟩ : ∃ z, z = (p1 &&& (2147483647 : Int32)) := ⟨_, rfl⟩; (try simp only [← hn1_] at hr1 hr9 ⊢); have f2 := own_mB p1 (2147483647 : Int32) 31 (by decide) (by decide) 2147483647 (by decide); (try rw [← hn1_] at f2); have e_hr1 := congrArg Int32.toInt hr1; (try simp only [Int64.lt_iff_toInt_lt, Int32.lt_iff_toInt_lt, Int64.le_iff_toInt_le, Int32.le_iff_toInt_le, ← Int64.toInt_inj, ← Int32.toInt_inj, apply_ite Int64.toInt, apply_ite Int32.toInt, Int64.reduceToInt, Int32.reduceToInt, ne_eq, true_and, and_true, false_or, or_false, iff_self, and_self, not_true_eq_false, not_false_eq_true] at e_hr1); have f3 := rng32 p2; obtain ⟨n2_, hn2_⟩ : ∃ z, z = (p2 &&& (2147483647 : Int32)) := ⟨_, rfl⟩; (try simp only [← hn2_] at hr1 hr9 ⊢); have f4 := own_mB p2 (2147483647 : Int32) 31 (by decide) (by decide) 2147483647 (by decide); (try rw [← hn2_] at f4); obtain ⟨n3_, hn3_⟩ : ∃ z, z = n2_.toInt64 := ⟨_, rfl⟩; (try simp only [← hn3_] at hr1 hr9 ⊢); have f5 := c_i2l n2_; (try rw [← hn3_] at f5); obtain ⟨n4_, hn4_⟩ : ∃ z, z = r1.toInt64 := ⟨_, rfl⟩; (try simp only [← hn4_] at hr1 hr9 ⊢); have f6 := c_i2l r1; (try rw [← hn4_] at f6); obtain ⟨n5_, hn5_⟩ : ∃ z, z = (n4_ + (1 : Int64)) := ⟨_, rfl⟩; (try simp only [← hn5_] at hr1 hr9 ⊢); have f7 := own_laddE n4_ (1 : Int64) (by (try simp only [Int64.reduceToInt, Int32.reduceToInt]); omega); (try rw [← hn5_] at f7); (try simp only [Int64.reduceToInt, Int32.reduceToInt] at f7); obtain ⟨n6_, hn6_⟩ : ∃ z, z = (n3_ % n5_) := ⟨_, rfl⟩; (try simp only [← hn6_] at hr1 hr9 ⊢); have f8 := own_lremV n3_ n5_ (by omega) (by omega); (try rw [← hn6_] at f8); obtain ⟨n7_, hn7_⟩ : ∃ z, z = n6_.toInt32 := ⟨_, rfl⟩; (try simp only [← hn7_] at hr1 hr9 ⊢); have f9 := own_l2iE n6_ (by omega); (try rw [← hn7_] at f9); have e_hr9 := congrArg Int32.toInt hr9; (try simp only [Int64.lt_iff_toInt_lt, Int32.lt_iff_toInt_lt, Int64.le_iff_toInt_le, Int32.le_iff_toInt_le, ← Int64.toInt_inj, ← Int32.toInt_inj, apply_ite Int64.toInt, apply_ite Int32.toInt, Int64.reduceToInt, Int32.reduceToInt, ne_eq, true_and, and_true, false_or, or_false, iff_self, and_self, not_true_eq_false, not_false_eq_true] at e_hr9); (try simp only [Int64.lt_iff_toInt_lt, Int32.lt_iff_toInt_lt, Int64.le_iff_toInt_le, Int32.le_iff_toInt_le, ← Int64.toInt_inj, ← Int32.toInt_inj, apply_ite Int64.toInt, apply_ite Int32.toInt, Int64.reduceToInt, Int32.reduceToInt, ne_eq, true_and, and_true, false_or, or_false, iff_self, and_self, not_true_eq_false, not_false_eq_true]) <;> omega)))) pd4 rfl rfl rfl at_79 (q := 82) rfl (W := 1) rfl (by decide) (by decide) (c2 := 1) (s2 := 2) rfl rfl (by decide) (by decide) (fun v T h' X hQ => ?_)
  obtain ⟨rfl, Kc, O_b1'⟩ := hQ
  have O_b1 := O_b1'
  show Goes p e below s _ n0 _ (T.setTop (mkF m 82 #[.val (.int p1), .val (.int p2), .val (.int p3), .val (.int p4), .val (.int p5), .val (.int p6), .val (.int r1), .val (.int r9), .val (.int r15), .val (.int r23), .val (.int r32), .val (.long x46), .second, .val (.int r66), .unset, .unset, .unset, .unset, .unset, .unset, .unset, .unset, .unset, .unset, .unset, .unset, .unset] [(.ref b1)]))
  refine g_astore X at_82 rfl (q := 84) (L' := #[.val (.int p1), .val (.int p2), .val (.int p3), .val (.int p4), .val (.int p5), .val (.int p6), .val (.int r1), .val (.int r9), .val (.int r15), .val (.int r23), .val (.int r32), .val (.long x46), .second, .val (.int r66), .val (.ref b1), .unset, .unset, .unset, .unset, .unset, .unset, .unset, .unset, .unset, .unset, .unset, .unset]) rfl rfl ?_
  refine g_new X (tw13 hw) (tw14 hw) (tw15 hw) at_84 (q := 87) rfl (c2 := 2) (s2 := 4) rfl rfl (by decide) (by decide) (fun T h' b2 X gz_b2 g_b2 E Ex D => ?_)
  have ne_b1_b2 := own_new gz_b2 O_b1.1.lt
  have ne_b2_b1 := own_apS ne_b1_b2
  have O_b1 := O_b1.ext E
  have O_b2 : O_Share Z h' b2 (.int (0 : Int32)) (.int (0 : Int32)) := ⟨Ex, D (Or.inr (tw28 hw)) (ty := .int) (by decide), D (Or.inr (tw30 hw)) (ty := .int) (by decide)⟩
  refine g_dup X at_87 rfl (q := 88) rfl ?_
  refine g_iload X at_88 rfl (q := 90) rfl ?_
  refine g_iload X at_90 rfl (q := 92) rfl ?_
  refine g_callI X [(.int r23), (.int r15)] [(.ref b2)] rfl (tw16 hw) (tw17 hw) (tw15 hw) (tw18 hw) (by decide) (rm4 l Z a0 hw [] b2 r23 r15 _ n0 X.size O_b2 g_b2 (show (0 : Int32) < r15 from (by first | ((try simp only [Int64.lt_iff_toInt_lt, Int32.lt_iff_toInt_lt, Int64.le_iff_toInt_le, Int32.le_iff_toInt_le, ← Int64.toInt_inj, ← Int32.toInt_inj, apply_ite Int64.toInt, apply_ite Int32.toInt, Int64.reduceToInt, Int32.reduceToInt, ne_eq, true_and, and_true, false_or, or_false, iff_self, and_self, not_true_eq_false, not_false_eq_true]) <;> omega) | (have f1 := rng32 p3; obtain ⟨n1_, hn1_⟩ : ∃ z, z = (p3 &&& (2147483647 : Int32)) := ⟨_, rfl⟩; (try simp only [← hn1_] at hr15 ⊢); have f2 := own_mB p3 (2147483647 : Int32) 31 (by decide) (by decide) 2147483647 (by decide); (try rw [← hn1_] at f2); have e_hr15 := congrArg Int32.toInt hr15; (try simp only [Int64.lt_iff_toInt_lt, Int32.lt_iff_toInt_lt, Int64.le_iff_toInt_le, Int32.le_iff_toInt_le, ← Int64.toInt_inj, ← Int32.toInt_inj, apply_ite Int64.toInt, apply_ite Int32.toInt, Int64.reduceToInt, Int32.reduceToInt, ne_eq, true_and, and_true, false_or, or_false, iff_self, and_self, not_true_eq_false, not_false_eq_true] at e_hr15); (try simp only [Int64.lt_iff_toInt_lt, Int32.lt_iff_toInt_lt, Int64.le_iff_toInt_le, Int32.le_iff_toInt_le, ← Int64.toInt_inj, ← Int32.toInt_inj, apply_ite Int64.toInt, apply_ite Int32.toInt, Int64.reduceToInt, Int32.reduceToInt, ne_eq, true_and, and_true, false_or, or_false, iff_self, and_self, not_true_eq_false, not_false_eq_true]) <;> omega))) (show ¬ (r23 < (0 : Int32)) from (by first | ((try simp only [Int64.lt_iff_toInt_lt, Int32.lt_iff_toInt_lt, Int64.le_iff_toInt_le, Int32.le_iff_toInt_le, ← Int64.toInt_inj, ← Int32.toInt_inj, apply_ite Int64.toInt, apply_ite Int32.toInt, Int64.reduceToInt, Int32.reduceToInt, ne_eq, true_and, and_true, false_or, or_false, iff_self, and_self, not_true_eq_false, not_false_eq_true]) <;> omega) | (have f1 := rng32 p4; obtain ⟨n1_, hn1_⟩ : ∃ z, z = (p4 &&& (2147483647 : Int32)) := ⟨_, rfl⟩; (try simp only [← hn1_] at hr23 ⊢); have f2 := own_mB p4 (2147483647 : Int32) 31 (by decide) (by decide) 2147483647 (by decide); (try rw [← hn1_] at f2); obtain ⟨n2_, hn2_⟩ : ∃ z, z = n1_.toInt64 := ⟨_, rfl⟩; (try simp only [← hn2_] at hr23 ⊢); have f3 := c_i2l n1_; (try rw [← hn2_] at f3); obtain ⟨n3_, hn3_⟩ : ∃ z, z = r15.toInt64 := ⟨_, rfl⟩; (try simp only [← hn3_] at hr23 ⊢); have f4 := c_i2l r15; (try rw [← hn3_] at f4); obtain ⟨n4_, hn4_⟩ : ∃ z, z = (n3_ + (1 : Int64)) := ⟨_, rfl⟩; (try simp only [← hn4_] at hr23 ⊢); have f5 := own_laddE n3_ (1 : Int64) (by (try simp only [Int64.reduceToInt, Int32.reduceToInt]); omega); (try rw [← hn4_] at f5); (try simp only [Int64.reduceToInt, Int32.reduceToInt] at f5); obtain ⟨n5_, hn5_⟩ : ∃ z, z = (n2_ % n4_) := ⟨_, rfl⟩; (try simp only [← hn5_] at hr23 ⊢); have f6 := own_lremV n2_ n4_ (by omega) (by omega); (try rw [← hn5_] at f6); obtain ⟨n6_, hn6_⟩ : ∃ z, z = n5_.toInt32 := ⟨_, rfl⟩; (try simp only [← hn6_] at hr23 ⊢); have f7 := own_l2iE n5_ (by omega); (try rw [← hn6_] at f7); have e_hr23 := congrArg Int32.toInt hr23; (try simp only [Int64.lt_iff_toInt_lt, Int32.lt_iff_toInt_lt, Int64.le_iff_toInt_le, Int32.le_iff_toInt_le, ← Int64.toInt_inj, ← Int32.toInt_inj, apply_ite Int64.toInt, apply_ite Int32.toInt, Int64.reduceToInt, Int32.reduceToInt, ne_eq, true_and, and_true, false_or, or_false, iff_self, and_self, not_true_eq_false, not_false_eq_true] at e_hr23); (try simp only [Int64.lt_iff_toInt_lt, Int32.lt_iff_toInt_lt, Int64.le_iff_toInt_le, Int32.le_iff_toInt_le, ← Int64.toInt_inj, ← Int32.toInt_inj, apply_ite Int64.toInt, apply_ite Int32.toInt, Int64.reduceToInt, Int32.reduceToInt, ne_eq, true_and, and_true, false_or, or_false, iff_self, and_self, not_true_eq_false, not_false_eq_true]) <;> omega) | (have f1 := rng32 p3; obtain ⟨n1_, hn1_⟩ : ∃ z, z = (p3 &&& (2147483647 : Int32)) := ⟨_, rfl⟩; (try simp only [← hn1_] at hr15 hr23 ⊢); have f2 := own_mB p3 (2147483647 : Int32) 31 (by decide) (by decide) 2147483647 (by decide); (try rw [← hn1_] at f2); have e_hr15 := congrArg Int32.toInt hr15; (try simp only [Int64.lt_iff_toInt_lt, Int32.lt_iff_toInt_lt, Int64.le_iff_toInt_le, Int32.le_iff_toInt_le, ← Int64.toInt_inj, ← Int32.toInt_inj, apply_ite Int64.toInt, apply_ite Int32.toInt, Int64.reduceToInt, Int32.reduceToInt, ne_eq, true_and, and_true, false_or, or_false, iff_self, and_self, not_true_eq_false, not_false_eq_true] at e_hr15); have f3 := rng32 p4; obtain ⟨n2_, hn2_⟩ : ∃ z, z = (p4 &&& (2147483647 : Int32)) := ⟨_, rfl⟩; (try simp only [← hn2_] at hr15 hr23 ⊢); have f4 := own_mB p4 (2147483647 : Int32) 31 (by decide) (by decide) 2147483647 (by decide); (try rw [← hn2_] at f4); obtain ⟨n3_, hn3_⟩ : ∃ z, z = n2_.toInt64 := ⟨_, rfl⟩; (try simp only [← hn3_] at hr15 hr23 ⊢); have f5 := c_i2l n2_; (try rw [← hn3_] at f5); obtain ⟨n4_, hn4_⟩ : ∃ z, z = r15.toInt64 := ⟨_, rfl⟩; (try simp only [← hn4_] at hr15 hr23 ⊢); have f6 := c_i2l r15; (try rw [← hn4_] at f6); obtain ⟨n5_, hn5_⟩ : ∃ z, z = (n4_ + (1 : Int64)) := ⟨_, rfl⟩; (try simp only [← hn5_] at hr15 hr23 ⊢); have f7 := own_laddE n4_ (1 : Int64) (by (try simp only [Int64.reduceToInt, Int32.reduceToInt]); omega); (try rw [← hn5_] at f7); (try simp only [Int64.reduceToInt, Int32.reduceToInt] at f7); obtain ⟨n6_, hn6_⟩ : ∃ z, z = (n3_ % n5_) := ⟨_, rfl⟩; (try simp only [← hn6_] at hr15 hr23 ⊢); have f8 := own_lremV n3_ n5_ (by omega) (by omega); (try rw [← hn6_] at f8); obtain ⟨n7_, hn7_⟩ : ∃ z, z = n6_.toInt32 := ⟨_, rfl⟩; (try simp only [← hn7_] at hr15 hr23 ⊢); have f9 := own_l2iE n6_ (by omega); (try rw [← hn7_] at f9); have e_hr23 := congrArg Int32.toInt hr23; (try simp only [Int64.lt_iff_toInt_lt, Int32.lt_iff_toInt_lt, Int64.le_iff_toInt_le, Int32.le_iff_toInt_le, ← Int64.toInt_inj, ← Int32.toInt_inj, apply_ite Int64.toInt, apply_ite Int32.toInt, Int64.reduceToInt, Int32.reduceToInt, ne_eq, true_and, and_true, false_or, or_false, iff_self, and_self, not_true_eq_false, not_false_eq_true] at e_hr23); (try simp only [Int64.lt_iff_toInt_lt, Int32.lt_iff_toInt_lt, Int64.le_iff_toInt_le, Int32.le_iff_toInt_le, ← Int64.toInt_inj, ← Int32.toInt_inj, apply_ite Int64.toInt, apply_ite Int32.toInt, Int64.reduceToInt, Int32.reduceToInt, ne_eq, true_and, and_true, false_or, or_false, iff_self, and_self, not_true_eq_false, not_false_eq_true]) <;> omega))) (show ¬ (r15 < r23) from (by first | ((try simp only [Int64.lt_iff_toInt_lt, Int32.lt_iff_toInt_lt, Int64.le_iff_toInt_le, Int32.le_iff_toInt_le, ← Int64.toInt_inj, ← Int32.toInt_inj, apply_ite Int64.toInt, apply_ite Int32.toInt, Int64.reduceToInt, Int32.reduceToInt, ne_eq, true_and, and_true, false_or, or_false, iff_self, and_self, not_true_eq_false, not_false_eq_true]) <;> omega) | (have f1 := rng32 p3; obtain ⟨n1_, hn1_⟩ : ∃ z, z = (p3 &&& (2147483647 : Int32)) := ⟨_, rfl⟩; (try simp only [← hn1_] at hr15 hr23 ⊢); have f2 := own_mB p3 (2147483647 : Int32) 31 (by decide) (by decide) 2147483647 (by decide); (try rw [← hn1_] at f2); have e_hr15 := congrArg Int32.toInt hr15; (try simp only [Int64.lt_iff_toInt_lt, Int32.lt_iff_toInt_lt, Int64.le_iff_toInt_le, Int32.le_iff_toInt_le, ← Int64.toInt_inj, ← Int32.toInt_inj, apply_ite Int64.toInt, apply_ite Int32.toInt, Int64.reduceToInt, Int32.reduceToInt, ne_eq, true_and, and_true, false_or, or_false, iff_self, and_self, not_true_eq_false, not_false_eq_true] at e_hr15); have f3 := rng32 p4; obtain ⟨n2_, hn2_⟩ : ∃ z, z = (p4 &&& (2147483647 : Int32)) := ⟨_, rfl⟩; (try simp only [← hn2_] at hr15 hr23 ⊢); have f4 := own_mB p4 (2147483647 : Int32) 31 (by decide) (by decide) 2147483647 (by decide); (try rw [← hn2_] at f4); obtain ⟨n3_, hn3_⟩ : ∃ z, z = n2_.toInt64 := ⟨_, rfl⟩; (try simp only [← hn3_] at hr15 hr23 ⊢); have f5 := c_i2l n2_; (try rw [← hn3_] at f5); obtain ⟨n4_, hn4_⟩ : ∃ z, z = r15.toInt64 := ⟨_, rfl⟩; (try simp only [← hn4_] at hr15 hr23 ⊢); have f6 := c_i2l r15; (try rw [← hn4_] at f6); obtain ⟨n5_, hn5_⟩ : ∃ z, z = (n4_ + (1 : Int64)) := ⟨_, rfl⟩; (try simp only [← hn5_] at hr15 hr23 ⊢); have f7 := own_laddE n4_ (1 : Int64) (by (try simp only [Int64.reduceToInt, Int32.reduceToInt]); omega); (try rw [← hn5_] at f7); (try simp only [Int64.reduceToInt, Int32.reduceToInt] at f7); obtain ⟨n6_, hn6_⟩ : ∃ z, z = (n3_ % n5_) := ⟨_, rfl⟩; (try simp only [← hn6_] at hr15 hr23 ⊢); have f8 := own_lremV n3_ n5_ (by omega) (by omega); (try rw [← hn6_] at f8); obtain ⟨n7_, hn7_⟩ : ∃ z, z = n6_.toInt32 := ⟨_, rfl⟩; (try simp only [← hn7_] at hr15 hr23 ⊢); have f9 := own_l2iE n6_ (by omega); (try rw [← hn7_] at f9); have e_hr23 := congrArg Int32.toInt hr23; (try simp only [Int64.lt_iff_toInt_lt, Int32.lt_iff_toInt_lt, Int64.le_iff_toInt_le, Int32.le_iff_toInt_le, ← Int64.toInt_inj, ← Int32.toInt_inj, apply_ite Int64.toInt, apply_ite Int32.toInt, Int64.reduceToInt, Int32.reduceToInt, ne_eq, true_and, and_true, false_or, or_false, iff_self, and_self, not_true_eq_false, not_false_eq_true] at e_hr23); (try simp only [Int64.lt_iff_toInt_lt, Int32.lt_iff_toInt_lt, Int64.le_iff_toInt_le, Int32.le_iff_toInt_le, ← Int64.toInt_inj, ← Int32.toInt_inj, apply_ite Int64.toInt, apply_ite Int32.toInt, Int64.reduceToInt, Int32.reduceToInt, ne_eq, true_and, and_true, false_or, or_false, iff_self, and_self, not_true_eq_false, not_false_eq_true]) <;> omega)))) pd4 rfl rfl rfl at_92 (q := 95) rfl (W := 1) rfl (by decide) (by decide) (c2 := 2) (s2 := 4) rfl rfl (by decide) (by decide) (fun v T h' X hQ => ?_)
  obtain ⟨rfl, Kc, O_b2'⟩ := hQ
  have O_b1 := O_b1.keep Kc (ninS ne_b1_b2 nin0)
  have O_b2 := O_b2'
  show Goes p e below s _ n0 _ (T.setTop (mkF m 95 #[.val (.int p1), .val (.int p2), .val (.int p3), .val (.int p4), .val (.int p5), .val (.int p6), .val (.int r1), .val (.int r9), .val (.int r15), .val (.int r23), .val (.int r32), .val (.long x46), .second, .val (.int r66), .val (.ref b1), .unset, .unset, .unset, .unset, .unset, .unset, .unset, .unset, .unset, .unset, .unset, .unset] [(.ref b2)]))
  refine g_astore X at_95 rfl (q := 97) (L' := #[.val (.int p1), .val (.int p2), .val (.int p3), .val (.int p4), .val (.int p5), .val (.int p6), .val (.int r1), .val (.int r9), .val (.int r15), .val (.int r23), .val (.int r32), .val (.long x46), .second, .val (.int r66), .val (.ref b1), .val (.ref b2), .unset, .unset, .unset, .unset, .unset, .unset, .unset, .unset, .unset, .unset, .unset]) rfl rfl ?_
  refine g_new X (tw13 hw) (tw14 hw) (tw15 hw) at_97 (q := 100) rfl (c2 := 3) (s2 := 6) rfl rfl (by decide) (by decide) (fun T h' b3 X gz_b3 g_b3 E Ex D => ?_)
  have ne_b1_b3 := own_new gz_b3 O_b1.1.lt
  have ne_b3_b1 := own_apS ne_b1_b3
  have ne_b2_b3 := own_new gz_b3 O_b2.1.lt
  have ne_b3_b2 := own_apS ne_b2_b3
  have O_b1 := O_b1.ext E
  have O_b2 := O_b2.ext E
  have O_b3 : O_Share Z h' b3 (.int (0 : Int32)) (.int (0 : Int32)) := ⟨Ex, D (Or.inr (tw28 hw)) (ty := .int) (by decide), D (Or.inr (tw30 hw)) (ty := .int) (by decide)⟩
  refine g_dup X at_100 rfl (q := 101) rfl ?_
  refine g_iload X at_101 rfl (q := 103) rfl ?_
  refine g_iload X at_103 rfl (q := 105) rfl ?_
  refine g_isub X at_105 rfl (q := 106) ?_
  refine g_iload X at_106 rfl (q := 108) rfl ?_
  refine g_callI X [(.int (r1 - r9)), (.int r1)] [(.ref b3)] rfl (tw16 hw) (tw17 hw) (tw15 hw) (tw18 hw) (by decide) (rm4 l Z a0 hw [] b3 (r1 - r9) r1 _ n0 X.size O_b3 g_b3 (show (0 : Int32) < r1 from (by first | ((try simp only [Int64.lt_iff_toInt_lt, Int32.lt_iff_toInt_lt, Int64.le_iff_toInt_le, Int32.le_iff_toInt_le, ← Int64.toInt_inj, ← Int32.toInt_inj, apply_ite Int64.toInt, apply_ite Int32.toInt, Int64.reduceToInt, Int32.reduceToInt, ne_eq, true_and, and_true, false_or, or_false, iff_self, and_self, not_true_eq_false, not_false_eq_true]) <;> omega) | (have f1 := rng32 p1; obtain ⟨n1_, hn1_⟩ : ∃ z, z = (p1 &&& (2147483647 : Int32)) := ⟨_, rfl⟩; (try simp only [← hn1_] at hr1 ⊢); have f2 := own_mB p1 (2147483647 : Int32) 31 (by decide) (by decide) 2147483647 (by decide); (try rw [← hn1_] at f2); have e_hr1 := congrArg Int32.toInt hr1; (try simp only [Int64.lt_iff_toInt_lt, Int32.lt_iff_toInt_lt, Int64.le_iff_toInt_le, Int32.le_iff_toInt_le, ← Int64.toInt_inj, ← Int32.toInt_inj, apply_ite Int64.toInt, apply_ite Int32.toInt, Int64.reduceToInt, Int32.reduceToInt, ne_eq, true_and, and_true, false_or, or_false, iff_self, and_self, not_true_eq_false, not_false_eq_true] at e_hr1); (try simp only [Int64.lt_iff_toInt_lt, Int32.lt_iff_toInt_lt, Int64.le_iff_toInt_le, Int32.le_iff_toInt_le, ← Int64.toInt_inj, ← Int32.toInt_inj, apply_ite Int64.toInt, apply_ite Int32.toInt, Int64.reduceToInt, Int32.reduceToInt, ne_eq, true_and, and_true, false_or, or_false, iff_self, and_self, not_true_eq_false, not_false_eq_true]) <;> omega))) (show ¬ ((r1 - r9) < (0 : Int32)) from (by first | (obtain ⟨n1_, hn1_⟩ : ∃ z, z = (r1 - r9) := ⟨_, rfl⟩; (try simp only [← hn1_] at ⊢); have f1 := own_isubE r1 r9 (by (try simp only [Int64.reduceToInt, Int32.reduceToInt]); omega); (try rw [← hn1_] at f1); (try simp only [Int64.lt_iff_toInt_lt, Int32.lt_iff_toInt_lt, Int64.le_iff_toInt_le, Int32.le_iff_toInt_le, ← Int64.toInt_inj, ← Int32.toInt_inj, apply_ite Int64.toInt, apply_ite Int32.toInt, Int64.reduceToInt, Int32.reduceToInt, ne_eq, true_and, and_true, false_or, or_false, iff_self, and_self, not_true_eq_false, not_false_eq_true]) <;> omega) | (have f1 := rng32 p1; obtain ⟨n1_, hn1_⟩ : ∃ z, z = (p1 &&& (2147483647 : Int32)) := ⟨_, rfl⟩; (try simp only [← hn1_] at hr1 hr9 ⊢); have f2 := own_mB p1 (2147483647 : Int32) 31 (by decide) (by decide) 2147483647 (by decide); (try rw [← hn1_] at f2); have e_hr1 := congrArg Int32.toInt hr1; (try simp only [Int64.lt_iff_toInt_lt, Int32.lt_iff_toInt_lt, Int64.le_iff_toInt_le, Int32.le_iff_toInt_le, ← Int64.toInt_inj, ← Int32.toInt_inj, apply_ite Int64.toInt, apply_ite Int32.toInt, Int64.reduceToInt, Int32.reduceToInt, ne_eq, true_and, and_true, false_or, or_false, iff_self, and_self, not_true_eq_false, not_false_eq_true] at e_hr1); have f3 := rng32 p2; obtain ⟨n2_, hn2_⟩ : ∃ z, z = (p2 &&& (2147483647 : Int32)) := ⟨_, rfl⟩; (try simp only [← hn2_] at hr1 hr9 ⊢); have f4 := own_mB p2 (2147483647 : Int32) 31 (by decide) (by decide) 2147483647 (by decide); (try rw [← hn2_] at f4); obtain ⟨n3_, hn3_⟩ : ∃ z, z = n2_.toInt64 := ⟨_, rfl⟩; (try simp only [← hn3_] at hr1 hr9 ⊢); have f5 := c_i2l n2_; (try rw [← hn3_] at f5); obtain ⟨n4_, hn4_⟩ : ∃ z, z = r1.toInt64 := ⟨_, rfl⟩; (try simp only [← hn4_] at hr1 hr9 ⊢); have f6 := c_i2l r1; (try rw [← hn4_] at f6); obtain ⟨n5_, hn5_⟩ : ∃ z, z = (n4_ + (1 : Int64)) := ⟨_, rfl⟩; (try simp only [← hn5_] at hr1 hr9 ⊢); have f7 := own_laddE n4_ (1 : Int64) (by (try simp only [Int64.reduceToInt, Int32.reduceToInt]); omega); (try rw [← hn5_] at f7); (try simp only [Int64.reduceToInt, Int32.reduceToInt] at f7); obtain ⟨n6_, hn6_⟩ : ∃ z, z = (n3_ % n5_) := ⟨_, rfl⟩; (try simp only [← hn6_] at hr1 hr9 ⊢); have f8 := own_lremV n3_ n5_ (by omega) (by omega); (try rw [← hn6_] at f8); obtain ⟨n7_, hn7_⟩ : ∃ z, z = n6_.toInt32 := ⟨_, rfl⟩; (try simp only [← hn7_] at hr1 hr9 ⊢); have f9 := own_l2iE n6_ (by omega); (try rw [← hn7_] at f9); have e_hr9 := congrArg Int32.toInt hr9; (try simp only [Int64.lt_iff_toInt_lt, Int32.lt_iff_toInt_lt, Int64.le_iff_toInt_le, Int32.le_iff_toInt_le, ← Int64.toInt_inj, ← Int32.toInt_inj, apply_ite Int64.toInt, apply_ite Int32.toInt, Int64.reduceToInt, Int32.reduceToInt, ne_eq, true_and, and_true, false_or, or_false, iff_self, and_self, not_true_eq_false, not_false_eq_true] at e_hr9); obtain ⟨n8_, hn8_⟩ : ∃ z, z = (r1 - r9) := ⟨_, rfl⟩; (try simp only [← hn8_] at hr1 hr9 ⊢); have f10 := own_isubE r1 r9 (by (try simp only [Int64.reduceToInt, Int32.reduceToInt]); omega); (try rw [← hn8_] at f10); (try simp only [Int64.lt_iff_toInt_lt, Int32.lt_iff_toInt_lt, Int64.le_iff_toInt_le, Int32.le_iff_toInt_le, ← Int64.toInt_inj, ← Int32.toInt_inj, apply_ite Int64.toInt, apply_ite Int32.toInt, Int64.reduceToInt, Int32.reduceToInt, ne_eq, true_and, and_true, false_or, or_false, iff_self, and_self, not_true_eq_false, not_false_eq_true]) <;> omega))) (show ¬ (r1 < (r1 - r9)) from (by first | (obtain ⟨n1_, hn1_⟩ : ∃ z, z = (r1 - r9) := ⟨_, rfl⟩; (try simp only [← hn1_] at ⊢); have f1 := own_isubE r1 r9 (by (try simp only [Int64.reduceToInt, Int32.reduceToInt]); omega); (try rw [← hn1_] at f1); (try simp only [Int64.lt_iff_toInt_lt, Int32.lt_iff_toInt_lt, Int64.le_iff_toInt_le, Int32.le_iff_toInt_le, ← Int64.toInt_inj, ← Int32.toInt_inj, apply_ite Int64.toInt, apply_ite Int32.toInt, Int64.reduceToInt, Int32.reduceToInt, ne_eq, true_and, and_true, false_or, or_false, iff_self, and_self, not_true_eq_false, not_false_eq_true]) <;> omega) | (have f1 := rng32 p1; obtain ⟨n1_, hn1_⟩ : ∃ z, z = (p1 &&& (2147483647 : Int32)) := ⟨_, rfl⟩; (try simp only [← hn1_] at hr1 hr9 ⊢); have f2 := own_mB p1 (2147483647 : Int32) 31 (by decide) (by decide) 2147483647 (by decide); (try rw [← hn1_] at f2); have e_hr1 := congrArg Int32.toInt hr1; (try simp only [Int64.lt_iff_toInt_lt, Int32.lt_iff_toInt_lt, Int64.le_iff_toInt_le, Int32.le_iff_toInt_le, ← Int64.toInt_inj, ← Int32.toInt_inj, apply_ite Int64.toInt, apply_ite Int32.toInt, Int64.reduceToInt, Int32.reduceToInt, ne_eq, true_and, and_true, false_or, or_false, iff_self, and_self, not_true_eq_false, not_false_eq_true] at e_hr1); have f3 := rng32 p2; obtain ⟨n2_, hn2_⟩ : ∃ z, z = (p2 &&& (2147483647 : Int32)) := ⟨_, rfl⟩; (try simp only [← hn2_] at hr1 hr9 ⊢); have f4 := own_mB p2 (2147483647 : Int32) 31 (by decide) (by decide) 2147483647 (by decide); (try rw [← hn2_] at f4); obtain ⟨n3_, hn3_⟩ : ∃ z, z = n2_.toInt64 := ⟨_, rfl⟩; (try simp only [← hn3_] at hr1 hr9 ⊢); have f5 := c_i2l n2_; (try rw [← hn3_] at f5); obtain ⟨n4_, hn4_⟩ : ∃ z, z = r1.toInt64 := ⟨_, rfl⟩; (try simp only [← hn4_] at hr1 hr9 ⊢); have f6 := c_i2l r1; (try rw [← hn4_] at f6); obtain ⟨n5_, hn5_⟩ : ∃ z, z = (n4_ + (1 : Int64)) := ⟨_, rfl⟩; (try simp only [← hn5_] at hr1 hr9 ⊢); have f7 := own_laddE n4_ (1 : Int64) (by (try simp only [Int64.reduceToInt, Int32.reduceToInt]); omega); (try rw [← hn5_] at f7); (try simp only [Int64.reduceToInt, Int32.reduceToInt] at f7); obtain ⟨n6_, hn6_⟩ : ∃ z, z = (n3_ % n5_) := ⟨_, rfl⟩; (try simp only [← hn6_] at hr1 hr9 ⊢); have f8 := own_lremV n3_ n5_ (by omega) (by omega); (try rw [← hn6_] at f8); obtain ⟨n7_, hn7_⟩ : ∃ z, z = n6_.toInt32 := ⟨_, rfl⟩; (try simp only [← hn7_] at hr1 hr9 ⊢); have f9 := own_l2iE n6_ (by omega); (try rw [← hn7_] at f9); have e_hr9 := congrArg Int32.toInt hr9; (try simp only [Int64.lt_iff_toInt_lt, Int32.lt_iff_toInt_lt, Int64.le_iff_toInt_le, Int32.le_iff_toInt_le, ← Int64.toInt_inj, ← Int32.toInt_inj, apply_ite Int64.toInt, apply_ite Int32.toInt, Int64.reduceToInt, Int32.reduceToInt, ne_eq, true_and, and_true, false_or, or_false, iff_self, and_self, not_true_eq_false, not_false_eq_true] at e_hr9); obtain ⟨n8_, hn8_⟩ : ∃ z, z = (r1 - r9) := ⟨_, rfl⟩; (try simp only [← hn8_] at hr1 hr9 ⊢); have f10 := own_isubE r1 r9 (by (try simp only [Int64.reduceToInt, Int32.reduceToInt]); omega); (try rw [← hn8_] at f10); (try simp only [Int64.lt_iff_toInt_lt, Int32.lt_iff_toInt_lt, Int64.le_iff_toInt_le, Int32.le_iff_toInt_le, ← Int64.toInt_inj, ← Int32.toInt_inj, apply_ite Int64.toInt, apply_ite Int32.toInt, Int64.reduceToInt, Int32.reduceToInt, ne_eq, true_and, and_true, false_or, or_false, iff_self, and_self, not_true_eq_false, not_false_eq_true]) <;> omega)))) pd4 rfl rfl rfl at_108 (q := 111) rfl (W := 1) rfl (by decide) (by decide) (c2 := 3) (s2 := 6) rfl rfl (by decide) (by decide) (fun v T h' X hQ => ?_)
  obtain ⟨rfl, Kc, O_b3'⟩ := hQ
  have O_b1 := O_b1.keep Kc (ninS ne_b1_b3 nin0)
  have O_b2 := O_b2.keep Kc (ninS ne_b2_b3 nin0)
  have O_b3 := O_b3'
  show Goes p e below s _ n0 _ (T.setTop (mkF m 111 #[.val (.int p1), .val (.int p2), .val (.int p3), .val (.int p4), .val (.int p5), .val (.int p6), .val (.int r1), .val (.int r9), .val (.int r15), .val (.int r23), .val (.int r32), .val (.long x46), .second, .val (.int r66), .val (.ref b1), .val (.ref b2), .unset, .unset, .unset, .unset, .unset, .unset, .unset, .unset, .unset, .unset, .unset] [(.ref b3)]))
  obtain ⟨b3_0_108, hb3_0_108⟩ : ∃ z, z = (r1 - r9) := ⟨_, rfl⟩
  have O_b3 : O_Share Z h' b3 (.int b3_0_108) (.int r1) := by rw [hb3_0_108]; exact O_b3
  have b_b3_0_108 : (-2147483647 : Int) ≤ b3_0_108.toInt ∧ b3_0_108.toInt ≤ 2147483647 := by
    have z0 := hb3_0_108
    obtain ⟨n1_, hn1_⟩ : ∃ z, z = (r1 - r9) := ⟨_, rfl⟩
    (try simp only [← hn1_] at z0)
    have f1 := own_isubE r1 r9 (by (try simp only [Int64.reduceToInt, Int32.reduceToInt]); omega)
    (try rw [← hn1_] at f1)
    have e0 := congrArg Int32.toInt z0
    (try simp only [Int64.lt_iff_toInt_lt, Int32.lt_iff_toInt_lt, Int64.le_iff_toInt_le, Int32.le_iff_toInt_le, ← Int64.toInt_inj, ← Int32.toInt_inj, apply_ite Int64.toInt, apply_ite Int32.toInt, Int64.reduceToInt, Int32.reduceToInt, ne_eq, true_and, and_true, false_or, or_false, iff_self, and_self, not_true_eq_false, not_false_eq_true] at e0)
    omega
  refine g_astore X at_111 rfl (q := 113) (L' := #[.val (.int p1), .val (.int p2), .val (.int p3), .val (.int p4), .val (.int p5), .val (.int p6), .val (.int r1), .val (.int r9), .val (.int r15), .val (.int r23), .val (.int r32), .val (.long x46), .second, .val (.int r66), .val (.ref b1), .val (.ref b2), .val (.ref b3), .unset, .unset, .unset, .unset, .unset, .unset, .unset, .unset, .unset, .unset]) rfl rfl ?_
  refine g_new X (tw13 hw) (tw14 hw) (tw15 hw) at_113 (q := 116) rfl (c2 := 4) (s2 := 8) rfl rfl (by decide) (by decide) (fun T h' b4 X gz_b4 g_b4 E Ex D => ?_)
  have ne_b1_b4 := own_new gz_b4 O_b1.1.lt
  have ne_b4_b1 := own_apS ne_b1_b4
  have ne_b2_b4 := own_new gz_b4 O_b2.1.lt
  have ne_b4_b2 := own_apS ne_b2_b4
  have ne_b3_b4 := own_new gz_b4 O_b3.1.lt
  have ne_b4_b3 := own_apS ne_b3_b4
  have O_b1 := O_b1.ext E
  have O_b2 := O_b2.ext E
  have O_b3 := O_b3.ext E
  have O_b4 : O_Share Z h' b4 (.int (0 : Int32)) (.int (0 : Int32)) := ⟨Ex, D (Or.inr (tw28 hw)) (ty := .int) (by decide), D (Or.inr (tw30 hw)) (ty := .int) (by decide)⟩
  refine g_dup X at_116 rfl (q := 117) rfl ?_
  refine g_iload X at_117 rfl (q := 119) rfl ?_
  refine g_iload X at_119 rfl (q := 121) rfl ?_
  refine g_isub X at_121 rfl (q := 122) ?_
  refine g_iload X at_122 rfl (q := 124) rfl ?_
  refine g_callI X [(.int (r15 - r23)), (.int r15)] [(.ref b4)] rfl (tw16 hw) (tw17 hw) (tw15 hw) (tw18 hw) (by decide) (rm4 l Z a0 hw [] b4 (r15 - r23) r15 _ n0 X.size O_b4 g_b4 (show (0 : Int32) < r15 from (by first | ((try simp only [Int64.lt_iff_toInt_lt, Int32.lt_iff_toInt_lt, Int64.le_iff_toInt_le, Int32.le_iff_toInt_le, ← Int64.toInt_inj, ← Int32.toInt_inj, apply_ite Int64.toInt, apply_ite Int32.toInt, Int64.reduceToInt, Int32.reduceToInt, ne_eq, true_and, and_true, false_or, or_false, iff_self, and_self, not_true_eq_false, not_false_eq_true]) <;> omega) | (have f1 := rng32 p3; obtain ⟨n1_, hn1_⟩ : ∃ z, z = (p3 &&& (2147483647 : Int32)) := ⟨_, rfl⟩; (try simp only [← hn1_] at hr15 ⊢); have f2 := own_mB p3 (2147483647 : Int32) 31 (by decide) (by decide) 2147483647 (by decide); (try rw [← hn1_] at f2); have e_hr15 := congrArg Int32.toInt hr15; (try simp only [Int64.lt_iff_toInt_lt, Int32.lt_iff_toInt_lt, Int64.le_iff_toInt_le, Int32.le_iff_toInt_le, ← Int64.toInt_inj, ← Int32.toInt_inj, apply_ite Int64.toInt, apply_ite Int32.toInt, Int64.reduceToInt, Int32.reduceToInt, ne_eq, true_and, and_true, false_or, or_false, iff_self, and_self, not_true_eq_false, not_false_eq_true] at e_hr15); (try simp only [Int64.lt_iff_toInt_lt, Int32.lt_iff_toInt_lt, Int64.le_iff_toInt_le, Int32.le_iff_toInt_le, ← Int64.toInt_inj, ← Int32.toInt_inj, apply_ite Int64.toInt, apply_ite Int32.toInt, Int64.reduceToInt, Int32.reduceToInt, ne_eq, true_and, and_true, false_or, or_false, iff_self, and_self, not_true_eq_false, not_false_eq_true]) <;> omega))) (show ¬ ((r15 - r23) < (0 : Int32)) from (by first | (obtain ⟨n1_, hn1_⟩ : ∃ z, z = (r15 - r23) := ⟨_, rfl⟩; (try simp only [← hn1_] at ⊢); have f1 := own_isubE r15 r23 (by (try simp only [Int64.reduceToInt, Int32.reduceToInt]); omega); (try rw [← hn1_] at f1); (try simp only [Int64.lt_iff_toInt_lt, Int32.lt_iff_toInt_lt, Int64.le_iff_toInt_le, Int32.le_iff_toInt_le, ← Int64.toInt_inj, ← Int32.toInt_inj, apply_ite Int64.toInt, apply_ite Int32.toInt, Int64.reduceToInt, Int32.reduceToInt, ne_eq, true_and, and_true, false_or, or_false, iff_self, and_self, not_true_eq_false, not_false_eq_true]) <;> omega) | (have f1 := rng32 p3; obtain ⟨n1_, hn1_⟩ : ∃ z, z = (p3 &&& (2147483647 : Int32)) := ⟨_, rfl⟩; (try simp only [← hn1_] at hr15 hr23 ⊢); have f2 := own_mB p3 (2147483647 : Int32) 31 (by decide) (by decide) 2147483647 (by decide); (try rw [← hn1_] at f2); have e_hr15 := congrArg Int32.toInt hr15; (try simp only [Int64.lt_iff_toInt_lt, Int32.lt_iff_toInt_lt, Int64.le_iff_toInt_le, Int32.le_iff_toInt_le, ← Int64.toInt_inj, ← Int32.toInt_inj, apply_ite Int64.toInt, apply_ite Int32.toInt, Int64.reduceToInt, Int32.reduceToInt, ne_eq, true_and, and_true, false_or, or_false, iff_self, and_self, not_true_eq_false, not_false_eq_true] at e_hr15); have f3 := rng32 p4; obtain ⟨n2_, hn2_⟩ : ∃ z, z = (p4 &&& (2147483647 : Int32)) := ⟨_, rfl⟩; (try simp only [← hn2_] at hr15 hr23 ⊢); have f4 := own_mB p4 (2147483647 : Int32) 31 (by decide) (by decide) 2147483647 (by decide); (try rw [← hn2_] at f4); obtain ⟨n3_, hn3_⟩ : ∃ z, z = n2_.toInt64 := ⟨_, rfl⟩; (try simp only [← hn3_] at hr15 hr23 ⊢); have f5 := c_i2l n2_; (try rw [← hn3_] at f5); obtain ⟨n4_, hn4_⟩ : ∃ z, z = r15.toInt64 := ⟨_, rfl⟩; (try simp only [← hn4_] at hr15 hr23 ⊢); have f6 := c_i2l r15; (try rw [← hn4_] at f6); obtain ⟨n5_, hn5_⟩ : ∃ z, z = (n4_ + (1 : Int64)) := ⟨_, rfl⟩; (try simp only [← hn5_] at hr15 hr23 ⊢); have f7 := own_laddE n4_ (1 : Int64) (by (try simp only [Int64.reduceToInt, Int32.reduceToInt]); omega); (try rw [← hn5_] at f7); (try simp only [Int64.reduceToInt, Int32.reduceToInt] at f7); obtain ⟨n6_, hn6_⟩ : ∃ z, z = (n3_ % n5_) := ⟨_, rfl⟩; (try simp only [← hn6_] at hr15 hr23 ⊢); have f8 := own_lremV n3_ n5_ (by omega) (by omega); (try rw [← hn6_] at f8); obtain ⟨n7_, hn7_⟩ : ∃ z, z = n6_.toInt32 := ⟨_, rfl⟩; (try simp only [← hn7_] at hr15 hr23 ⊢); have f9 := own_l2iE n6_ (by omega); (try rw [← hn7_] at f9); have e_hr23 := congrArg Int32.toInt hr23; (try simp only [Int64.lt_iff_toInt_lt, Int32.lt_iff_toInt_lt, Int64.le_iff_toInt_le, Int32.le_iff_toInt_le, ← Int64.toInt_inj, ← Int32.toInt_inj, apply_ite Int64.toInt, apply_ite Int32.toInt, Int64.reduceToInt, Int32.reduceToInt, ne_eq, true_and, and_true, false_or, or_false, iff_self, and_self, not_true_eq_false, not_false_eq_true] at e_hr23); obtain ⟨n8_, hn8_⟩ : ∃ z, z = (r15 - r23) := ⟨_, rfl⟩; (try simp only [← hn8_] at hr15 hr23 ⊢); have f10 := own_isubE r15 r23 (by (try simp only [Int64.reduceToInt, Int32.reduceToInt]); omega); (try rw [← hn8_] at f10); (try simp only [Int64.lt_iff_toInt_lt, Int32.lt_iff_toInt_lt, Int64.le_iff_toInt_le, Int32.le_iff_toInt_le, ← Int64.toInt_inj, ← Int32.toInt_inj, apply_ite Int64.toInt, apply_ite Int32.toInt, Int64.reduceToInt, Int32.reduceToInt, ne_eq, true_and, and_true, false_or, or_false, iff_self, and_self, not_true_eq_false, not_false_eq_true]) <;> omega))) (show ¬ (r15 < (r15 - r23)) from (by first | (obtain ⟨n1_, hn1_⟩ : ∃ z, z = (r15 - r23) := ⟨_, rfl⟩; (try simp only [← hn1_] at ⊢); have f1 := own_isubE r15 r23 (by (try simp only [Int64.reduceToInt, Int32.reduceToInt]); omega); (try rw [← hn1_] at f1); (try simp only [Int64.lt_iff_toInt_lt, Int32.lt_iff_toInt_lt, Int64.le_iff_toInt_le, Int32.le_iff_toInt_le, ← Int64.toInt_inj, ← Int32.toInt_inj, apply_ite Int64.toInt, apply_ite Int32.toInt, Int64.reduceToInt, Int32.reduceToInt, ne_eq, true_and, and_true, false_or, or_false, iff_self, and_self, not_true_eq_false, not_false_eq_true]) <;> omega) | (have f1 := rng32 p3; obtain ⟨n1_, hn1_⟩ : ∃ z, z = (p3 &&& (2147483647 : Int32)) := ⟨_, rfl⟩; (try simp only [← hn1_] at hr15 hr23 ⊢); have f2 := own_mB p3 (2147483647 : Int32) 31 (by decide) (by decide) 2147483647 (by decide); (try rw [← hn1_] at f2); have e_hr15 := congrArg Int32.toInt hr15; (try simp only [Int64.lt_iff_toInt_lt, Int32.lt_iff_toInt_lt, Int64.le_iff_toInt_le, Int32.le_iff_toInt_le, ← Int64.toInt_inj, ← Int32.toInt_inj, apply_ite Int64.toInt, apply_ite Int32.toInt, Int64.reduceToInt, Int32.reduceToInt, ne_eq, true_and, and_true, false_or, or_false, iff_self, and_self, not_true_eq_false, not_false_eq_true] at e_hr15); have f3 := rng32 p4; obtain ⟨n2_, hn2_⟩ : ∃ z, z = (p4 &&& (2147483647 : Int32)) := ⟨_, rfl⟩; (try simp only [← hn2_] at hr15 hr23 ⊢); have f4 := own_mB p4 (2147483647 : Int32) 31 (by decide) (by decide) 2147483647 (by decide); (try rw [← hn2_] at f4); obtain ⟨n3_, hn3_⟩ : ∃ z, z = n2_.toInt64 := ⟨_, rfl⟩; (try simp only [← hn3_] at hr15 hr23 ⊢); have f5 := c_i2l n2_; (try rw [← hn3_] at f5); obtain ⟨n4_, hn4_⟩ : ∃ z, z = r15.toInt64 := ⟨_, rfl⟩; (try simp only [← hn4_] at hr15 hr23 ⊢); have f6 := c_i2l r15; (try rw [← hn4_] at f6); obtain ⟨n5_, hn5_⟩ : ∃ z, z = (n4_ + (1 : Int64)) := ⟨_, rfl⟩; (try simp only [← hn5_] at hr15 hr23 ⊢); have f7 := own_laddE n4_ (1 : Int64) (by (try simp only [Int64.reduceToInt, Int32.reduceToInt]); omega); (try rw [← hn5_] at f7); (try simp only [Int64.reduceToInt, Int32.reduceToInt] at f7); obtain ⟨n6_, hn6_⟩ : ∃ z, z = (n3_ % n5_) := ⟨_, rfl⟩; (try simp only [← hn6_] at hr15 hr23 ⊢); have f8 := own_lremV n3_ n5_ (by omega) (by omega); (try rw [← hn6_] at f8); obtain ⟨n7_, hn7_⟩ : ∃ z, z = n6_.toInt32 := ⟨_, rfl⟩; (try simp only [← hn7_] at hr15 hr23 ⊢); have f9 := own_l2iE n6_ (by omega); (try rw [← hn7_] at f9); have e_hr23 := congrArg Int32.toInt hr23; (try simp only [Int64.lt_iff_toInt_lt, Int32.lt_iff_toInt_lt, Int64.le_iff_toInt_le, Int32.le_iff_toInt_le, ← Int64.toInt_inj, ← Int32.toInt_inj, apply_ite Int64.toInt, apply_ite Int32.toInt, Int64.reduceToInt, Int32.reduceToInt, ne_eq, true_and, and_true, false_or, or_false, iff_self, and_self, not_true_eq_false, not_false_eq_true] at e_hr23); obtain ⟨n8_, hn8_⟩ : ∃ z, z = (r15 - r23) := ⟨_, rfl⟩; (try simp only [← hn8_] at hr15 hr23 ⊢); have f10 := own_isubE r15 r23 (by (try simp only [Int64.reduceToInt, Int32.reduceToInt]); omega); (try rw [← hn8_] at f10); (try simp only [Int64.lt_iff_toInt_lt, Int32.lt_iff_toInt_lt, Int64.le_iff_toInt_le, Int32.le_iff_toInt_le, ← Int64.toInt_inj, ← Int32.toInt_inj, apply_ite Int64.toInt, apply_ite Int32.toInt, Int64.reduceToInt, Int32.reduceToInt, ne_eq, true_and, and_true, false_or, or_false, iff_self, and_self, not_true_eq_false, not_false_eq_true]) <;> omega)))) pd4 rfl rfl rfl at_124 (q := 127) rfl (W := 1) rfl (by decide) (by decide) (c2 := 4) (s2 := 8) rfl rfl (by decide) (by decide) (fun v T h' X hQ => ?_)
  obtain ⟨rfl, Kc, O_b4'⟩ := hQ
  have O_b1 := O_b1.keep Kc (ninS ne_b1_b4 nin0)
  have O_b2 := O_b2.keep Kc (ninS ne_b2_b4 nin0)
  have O_b3 := O_b3.keep Kc (ninS ne_b3_b4 nin0)
  have O_b4 := O_b4'
  show Goes p e below s _ n0 _ (T.setTop (mkF m 127 #[.val (.int p1), .val (.int p2), .val (.int p3), .val (.int p4), .val (.int p5), .val (.int p6), .val (.int r1), .val (.int r9), .val (.int r15), .val (.int r23), .val (.int r32), .val (.long x46), .second, .val (.int r66), .val (.ref b1), .val (.ref b2), .val (.ref b3), .unset, .unset, .unset, .unset, .unset, .unset, .unset, .unset, .unset, .unset] [(.ref b4)]))
  obtain ⟨b4_0_124, hb4_0_124⟩ : ∃ z, z = (r15 - r23) := ⟨_, rfl⟩
  have O_b4 : O_Share Z h' b4 (.int b4_0_124) (.int r15) := by rw [hb4_0_124]; exact O_b4
  have b_b4_0_124 : (-2147483647 : Int) ≤ b4_0_124.toInt ∧ b4_0_124.toInt ≤ 2147483647 := by
    have z0 := hb4_0_124
    obtain ⟨n1_, hn1_⟩ : ∃ z, z = (r15 - r23) := ⟨_, rfl⟩
    (try simp only [← hn1_] at z0)
    have f1 := own_isubE r15 r23 (by (try simp only [Int64.reduceToInt, Int32.reduceToInt]); omega)
    (try rw [← hn1_] at f1)
    have e0 := congrArg Int32.toInt z0
    (try simp only [Int64.lt_iff_toInt_lt, Int32.lt_iff_toInt_lt, Int64.le_iff_toInt_le, Int32.le_iff_toInt_le, ← Int64.toInt_inj, ← Int32.toInt_inj, apply_ite Int64.toInt, apply_ite Int32.toInt, Int64.reduceToInt, Int32.reduceToInt, ne_eq, true_and, and_true, false_or, or_false, iff_self, and_self, not_true_eq_false, not_false_eq_true] at e0)
    omega
  refine g_astore X at_127 rfl (q := 129) (L' := #[.val (.int p1), .val (.int p2), .val (.int p3), .val (.int p4), .val (.int p5), .val (.int p6), .val (.int r1), .val (.int r9), .val (.int r15), .val (.int r23), .val (.int r32), .val (.long x46), .second, .val (.int r66), .val (.ref b1), .val (.ref b2), .val (.ref b3), .val (.ref b4), .unset, .unset, .unset, .unset, .unset, .unset, .unset, .unset, .unset]) rfl rfl ?_
  refine g_new X (tw13 hw) (tw14 hw) (tw15 hw) at_129 (q := 132) rfl (c2 := 5) (s2 := 10) rfl rfl (by decide) (by decide) (fun T h' b5 X gz_b5 g_b5 E Ex D => ?_)
  have ne_b1_b5 := own_new gz_b5 O_b1.1.lt
  have ne_b5_b1 := own_apS ne_b1_b5
  have ne_b2_b5 := own_new gz_b5 O_b2.1.lt
  have ne_b5_b2 := own_apS ne_b2_b5
  have ne_b3_b5 := own_new gz_b5 O_b3.1.lt
  have ne_b5_b3 := own_apS ne_b3_b5
  have ne_b4_b5 := own_new gz_b5 O_b4.1.lt
  have ne_b5_b4 := own_apS ne_b4_b5
  have O_b1 := O_b1.ext E
  have O_b2 := O_b2.ext E
  have O_b3 := O_b3.ext E
  have O_b4 := O_b4.ext E
  have O_b5 : O_Share Z h' b5 (.int (0 : Int32)) (.int (0 : Int32)) := ⟨Ex, D (Or.inr (tw28 hw)) (ty := .int) (by decide), D (Or.inr (tw30 hw)) (ty := .int) (by decide)⟩
  refine g_dup X at_132 rfl (q := 133) rfl ?_
  refine g_iload X at_133 rfl (q := 135) rfl ?_
  refine g_iload X at_135 rfl (q := 137) rfl ?_
  refine g_callI X [(.int r32), (.int r1)] [(.ref b5)] rfl (tw16 hw) (tw17 hw) (tw15 hw) (tw18 hw) (by decide) (rm4 l Z a0 hw [] b5 r32 r1 _ n0 X.size O_b5 g_b5 (show (0 : Int32) < r1 from (by first | ((try simp only [Int64.lt_iff_toInt_lt, Int32.lt_iff_toInt_lt, Int64.le_iff_toInt_le, Int32.le_iff_toInt_le, ← Int64.toInt_inj, ← Int32.toInt_inj, apply_ite Int64.toInt, apply_ite Int32.toInt, Int64.reduceToInt, Int32.reduceToInt, ne_eq, true_and, and_true, false_or, or_false, iff_self, and_self, not_true_eq_false, not_false_eq_true]) <;> omega) | (have f1 := rng32 p1; obtain ⟨n1_, hn1_⟩ : ∃ z, z = (p1 &&& (2147483647 : Int32)) := ⟨_, rfl⟩; (try simp only [← hn1_] at hr1 ⊢); have f2 := own_mB p1 (2147483647 : Int32) 31 (by decide) (by decide) 2147483647 (by decide); (try rw [← hn1_] at f2); have e_hr1 := congrArg Int32.toInt hr1; (try simp only [Int64.lt_iff_toInt_lt, Int32.lt_iff_toInt_lt, Int64.le_iff_toInt_le, Int32.le_iff_toInt_le, ← Int64.toInt_inj, ← Int32.toInt_inj, apply_ite Int64.toInt, apply_ite Int32.toInt, Int64.reduceToInt, Int32.reduceToInt, ne_eq, true_and, and_true, false_or, or_false, iff_self, and_self, not_true_eq_false, not_false_eq_true] at e_hr1); (try simp only [Int64.lt_iff_toInt_lt, Int32.lt_iff_toInt_lt, Int64.le_iff_toInt_le, Int32.le_iff_toInt_le, ← Int64.toInt_inj, ← Int32.toInt_inj, apply_ite Int64.toInt, apply_ite Int32.toInt, Int64.reduceToInt, Int32.reduceToInt, ne_eq, true_and, and_true, false_or, or_false, iff_self, and_self, not_true_eq_false, not_false_eq_true]) <;> omega))) (show ¬ (r32 < (0 : Int32)) from (by first | ((try simp only [Int64.lt_iff_toInt_lt, Int32.lt_iff_toInt_lt, Int64.le_iff_toInt_le, Int32.le_iff_toInt_le, ← Int64.toInt_inj, ← Int32.toInt_inj, apply_ite Int64.toInt, apply_ite Int32.toInt, Int64.reduceToInt, Int32.reduceToInt, ne_eq, true_and, and_true, false_or, or_false, iff_self, and_self, not_true_eq_false, not_false_eq_true]) <;> omega) | (have f1 := rng32 p5; obtain ⟨n1_, hn1_⟩ : ∃ z, z = (p5 &&& (2147483647 : Int32)) := ⟨_, rfl⟩; (try simp only [← hn1_] at hr32 ⊢); have f2 := own_mB p5 (2147483647 : Int32) 31 (by decide) (by decide) 2147483647 (by decide); (try rw [← hn1_] at f2); obtain ⟨n2_, hn2_⟩ : ∃ z, z = n1_.toInt64 := ⟨_, rfl⟩; (try simp only [← hn2_] at hr32 ⊢); have f3 := c_i2l n1_; (try rw [← hn2_] at f3); obtain ⟨n3_, hn3_⟩ : ∃ z, z = r1.toInt64 := ⟨_, rfl⟩; (try simp only [← hn3_] at hr32 ⊢); have f4 := c_i2l r1; (try rw [← hn3_] at f4); obtain ⟨n4_, hn4_⟩ : ∃ z, z = (n3_ + (1 : Int64)) := ⟨_, rfl⟩; (try simp only [← hn4_] at hr32 ⊢); have f5 := own_laddE n3_ (1 : Int64) (by (try simp only [Int64.reduceToInt, Int32.reduceToInt]); omega); (try rw [← hn4_] at f5); (try simp only [Int64.reduceToInt, Int32.reduceToInt] at f5); obtain ⟨n5_, hn5_⟩ : ∃ z, z = (n2_ % n4_) := ⟨_, rfl⟩; (try simp only [← hn5_] at hr32 ⊢); have f6 := own_lremV n2_ n4_ (by omega) (by omega); (try rw [← hn5_] at f6); obtain ⟨n6_, hn6_⟩ : ∃ z, z = n5_.toInt32 := ⟨_, rfl⟩; (try simp only [← hn6_] at hr32 ⊢); have f7 := own_l2iE n5_ (by omega); (try rw [← hn6_] at f7); have e_hr32 := congrArg Int32.toInt hr32; (try simp only [Int64.lt_iff_toInt_lt, Int32.lt_iff_toInt_lt, Int64.le_iff_toInt_le, Int32.le_iff_toInt_le, ← Int64.toInt_inj, ← Int32.toInt_inj, apply_ite Int64.toInt, apply_ite Int32.toInt, Int64.reduceToInt, Int32.reduceToInt, ne_eq, true_and, and_true, false_or, or_false, iff_self, and_self, not_true_eq_false, not_false_eq_true] at e_hr32); (try simp only [Int64.lt_iff_toInt_lt, Int32.lt_iff_toInt_lt, Int64.le_iff_toInt_le, Int32.le_iff_toInt_le, ← Int64.toInt_inj, ← Int32.toInt_inj, apply_ite Int64.toInt, apply_ite Int32.toInt, Int64.reduceToInt, Int32.reduceToInt, ne_eq, true_and, and_true, false_or, or_false, iff_self, and_self, not_true_eq_false, not_false_eq_true]) <;> omega) | (have f1 := rng32 p1; obtain ⟨n1_, hn1_⟩ : ∃ z, z = (p1 &&& (2147483647 : Int32)) := ⟨_, rfl⟩; (try simp only [← hn1_] at hr1 hr32 ⊢); have f2 := own_mB p1 (2147483647 : Int32) 31 (by decide) (by decide) 2147483647 (by decide); (try rw [← hn1_] at f2); have e_hr1 := congrArg Int32.toInt hr1; (try simp only [Int64.lt_iff_toInt_lt, Int32.lt_iff_toInt_lt, Int64.le_iff_toInt_le, Int32.le_iff_toInt_le, ← Int64.toInt_inj, ← Int32.toInt_inj, apply_ite Int64.toInt, apply_ite Int32.toInt, Int64.reduceToInt, Int32.reduceToInt, ne_eq, true_and, and_true, false_or, or_false, iff_self, and_self, not_true_eq_false, not_false_eq_true] at e_hr1); have f3 := rng32 p5; obtain ⟨n2_, hn2_⟩ : ∃ z, z = (p5 &&& (2147483647 : Int32)) := ⟨_, rfl⟩; (try simp only [← hn2_] at hr1 hr32 ⊢); have f4 := own_mB p5 (2147483647 : Int32) 31 (by decide) (by decide) 2147483647 (by decide); (try rw [← hn2_] at f4); obtain ⟨n3_, hn3_⟩ : ∃ z, z = n2_.toInt64 := ⟨_, rfl⟩; (try simp only [← hn3_] at hr1 hr32 ⊢); have f5 := c_i2l n2_; (try rw [← hn3_] at f5); obtain ⟨n4_, hn4_⟩ : ∃ z, z = r1.toInt64 := ⟨_, rfl⟩; (try simp only [← hn4_] at hr1 hr32 ⊢); have f6 := c_i2l r1; (try rw [← hn4_] at f6); obtain ⟨n5_, hn5_⟩ : ∃ z, z = (n4_ + (1 : Int64)) := ⟨_, rfl⟩; (try simp only [← hn5_] at hr1 hr32 ⊢); have f7 := own_laddE n4_ (1 : Int64) (by (try simp only [Int64.reduceToInt, Int32.reduceToInt]); omega); (try rw [← hn5_] at f7); (try simp only [Int64.reduceToInt, Int32.reduceToInt] at f7); obtain ⟨n6_, hn6_⟩ : ∃ z, z = (n3_ % n5_) := ⟨_, rfl⟩; (try simp only [← hn6_] at hr1 hr32 ⊢); have f8 := own_lremV n3_ n5_ (by omega) (by omega); (try rw [← hn6_] at f8); obtain ⟨n7_, hn7_⟩ : ∃ z, z = n6_.toInt32 := ⟨_, rfl⟩; (try simp only [← hn7_] at hr1 hr32 ⊢); have f9 := own_l2iE n6_ (by omega); (try rw [← hn7_] at f9); have e_hr32 := congrArg Int32.toInt hr32; (try simp only [Int64.lt_iff_toInt_lt, Int32.lt_iff_toInt_lt, Int64.le_iff_toInt_le, Int32.le_iff_toInt_le, ← Int64.toInt_inj, ← Int32.toInt_inj, apply_ite Int64.toInt, apply_ite Int32.toInt, Int64.reduceToInt, Int32.reduceToInt, ne_eq, true_and, and_true, false_or, or_false, iff_self, and_self, not_true_eq_false, not_false_eq_true] at e_hr32); (try simp only [Int64.lt_iff_toInt_lt, Int32.lt_iff_toInt_lt, Int64.le_iff_toInt_le, Int32.le_iff_toInt_le, ← Int64.toInt_inj, ← Int32.toInt_inj, apply_ite Int64.toInt, apply_ite Int32.toInt, Int64.reduceToInt, Int32.reduceToInt, ne_eq, true_and, and_true, false_or, or_false, iff_self, and_self, not_true_eq_false, not_false_eq_true]) <;> omega))) (show ¬ (r1 < r32) from (by first | ((try simp only [Int64.lt_iff_toInt_lt, Int32.lt_iff_toInt_lt, Int64.le_iff_toInt_le, Int32.le_iff_toInt_le, ← Int64.toInt_inj, ← Int32.toInt_inj, apply_ite Int64.toInt, apply_ite Int32.toInt, Int64.reduceToInt, Int32.reduceToInt, ne_eq, true_and, and_true, false_or, or_false, iff_self, and_self, not_true_eq_false, not_false_eq_true]) <;> omega) | (have f1 := rng32 p1; obtain ⟨n1_, hn1_⟩ : ∃ z, z = (p1 &&& (2147483647 : Int32)) := ⟨_, rfl⟩; (try simp only [← hn1_] at hr1 hr32 ⊢); have f2 := own_mB p1 (2147483647 : Int32) 31 (by decide) (by decide) 2147483647 (by decide); (try rw [← hn1_] at f2); have e_hr1 := congrArg Int32.toInt hr1; (try simp only [Int64.lt_iff_toInt_lt, Int32.lt_iff_toInt_lt, Int64.le_iff_toInt_le, Int32.le_iff_toInt_le, ← Int64.toInt_inj, ← Int32.toInt_inj, apply_ite Int64.toInt, apply_ite Int32.toInt, Int64.reduceToInt, Int32.reduceToInt, ne_eq, true_and, and_true, false_or, or_false, iff_self, and_self, not_true_eq_false, not_false_eq_true] at e_hr1); have f3 := rng32 p5; obtain ⟨n2_, hn2_⟩ : ∃ z, z = (p5 &&& (2147483647 : Int32)) := ⟨_, rfl⟩; (try simp only [← hn2_] at hr1 hr32 ⊢); have f4 := own_mB p5 (2147483647 : Int32) 31 (by decide) (by decide) 2147483647 (by decide); (try rw [← hn2_] at f4); obtain ⟨n3_, hn3_⟩ : ∃ z, z = n2_.toInt64 := ⟨_, rfl⟩; (try simp only [← hn3_] at hr1 hr32 ⊢); have f5 := c_i2l n2_; (try rw [← hn3_] at f5); obtain ⟨n4_, hn4_⟩ : ∃ z, z = r1.toInt64 := ⟨_, rfl⟩; (try simp only [← hn4_] at hr1 hr32 ⊢); have f6 := c_i2l r1; (try rw [← hn4_] at f6); obtain ⟨n5_, hn5_⟩ : ∃ z, z = (n4_ + (1 : Int64)) := ⟨_, rfl⟩; (try simp only [← hn5_] at hr1 hr32 ⊢); have f7 := own_laddE n4_ (1 : Int64) (by (try simp only [Int64.reduceToInt, Int32.reduceToInt]); omega); (try rw [← hn5_] at f7); (try simp only [Int64.reduceToInt, Int32.reduceToInt] at f7); obtain ⟨n6_, hn6_⟩ : ∃ z, z = (n3_ % n5_) := ⟨_, rfl⟩; (try simp only [← hn6_] at hr1 hr32 ⊢); have f8 := own_lremV n3_ n5_ (by omega) (by omega); (try rw [← hn6_] at f8); obtain ⟨n7_, hn7_⟩ : ∃ z, z = n6_.toInt32 := ⟨_, rfl⟩; (try simp only [← hn7_] at hr1 hr32 ⊢); have f9 := own_l2iE n6_ (by omega); (try rw [← hn7_] at f9); have e_hr32 := congrArg Int32.toInt hr32; (try simp only [Int64.lt_iff_toInt_lt, Int32.lt_iff_toInt_lt, Int64.le_iff_toInt_le, Int32.le_iff_toInt_le, ← Int64.toInt_inj, ← Int32.toInt_inj, apply_ite Int64.toInt, apply_ite Int32.toInt, Int64.reduceToInt, Int32.reduceToInt, ne_eq, true_and, and_true, false_or, or_false, iff_self, and_self, not_true_eq_false, not_false_eq_true] at e_hr32); (try simp only [Int64.lt_iff_toInt_lt, Int32.lt_iff_toInt_lt, Int64.le_iff_toInt_le, Int32.le_iff_toInt_le, ← Int64.toInt_inj, ← Int32.toInt_inj, apply_ite Int64.toInt, apply_ite Int32.toInt, Int64.reduceToInt, Int32.reduceToInt, ne_eq, true_and, and_true, false_or, or_false, iff_self, and_self, not_true_eq_false, not_false_eq_true]) <;> omega)))) pd4 rfl rfl rfl at_137 (q := 140) rfl (W := 1) rfl (by decide) (by decide) (c2 := 5) (s2 := 10) rfl rfl (by decide) (by decide) (fun v T h' X hQ => ?_)
  obtain ⟨rfl, Kc, O_b5'⟩ := hQ
  have O_b1 := O_b1.keep Kc (ninS ne_b1_b5 nin0)
  have O_b2 := O_b2.keep Kc (ninS ne_b2_b5 nin0)
  have O_b3 := O_b3.keep Kc (ninS ne_b3_b5 nin0)
  have O_b4 := O_b4.keep Kc (ninS ne_b4_b5 nin0)
  have O_b5 := O_b5'
  show Goes p e below s _ n0 _ (T.setTop (mkF m 140 #[.val (.int p1), .val (.int p2), .val (.int p3), .val (.int p4), .val (.int p5), .val (.int p6), .val (.int r1), .val (.int r9), .val (.int r15), .val (.int r23), .val (.int r32), .val (.long x46), .second, .val (.int r66), .val (.ref b1), .val (.ref b2), .val (.ref b3), .val (.ref b4), .unset, .unset, .unset, .unset, .unset, .unset, .unset, .unset, .unset] [(.ref b5)]))
  refine g_astore X at_140 rfl (q := 142) (L' := #[.val (.int p1), .val (.int p2), .val (.int p3), .val (.int p4), .val (.int p5), .val (.int p6), .val (.int r1), .val (.int r9), .val (.int r15), .val (.int r23), .val (.int r32), .val (.long x46), .second, .val (.int r66), .val (.ref b1), .val (.ref b2), .val (.ref b3), .val (.ref b4), .val (.ref b5), .unset, .unset, .unset, .unset, .unset, .unset, .unset, .unset]) rfl rfl ?_
  refine g_new X (tw13 hw) (tw14 hw) (tw15 hw) at_142 (q := 145) rfl (c2 := 6) (s2 := 12) rfl rfl (by decide) (by decide) (fun T h' b6 X gz_b6 g_b6 E Ex D => ?_)
  have ne_b1_b6 := own_new gz_b6 O_b1.1.lt
  have ne_b6_b1 := own_apS ne_b1_b6
  have ne_b2_b6 := own_new gz_b6 O_b2.1.lt
  have ne_b6_b2 := own_apS ne_b2_b6
  have ne_b3_b6 := own_new gz_b6 O_b3.1.lt
  have ne_b6_b3 := own_apS ne_b3_b6
  have ne_b4_b6 := own_new gz_b6 O_b4.1.lt
  have ne_b6_b4 := own_apS ne_b4_b6
  have ne_b5_b6 := own_new gz_b6 O_b5.1.lt
  have ne_b6_b5 := own_apS ne_b5_b6
  have O_b1 := O_b1.ext E
  have O_b2 := O_b2.ext E
  have O_b3 := O_b3.ext E
  have O_b4 := O_b4.ext E
  have O_b5 := O_b5.ext E
  have O_b6 : O_Share Z h' b6 (.int (0 : Int32)) (.int (0 : Int32)) := ⟨Ex, D (Or.inr (tw28 hw)) (ty := .int) (by decide), D (Or.inr (tw30 hw)) (ty := .int) (by decide)⟩
  refine g_dup X at_145 rfl (q := 146) rfl ?_
  refine g_iload X at_146 rfl (q := 148) rfl ?_
  refine g_iload X at_148 rfl (q := 150) rfl ?_
  refine g_callI X [(.int r9), (.int r66)] [(.ref b6)] rfl (tw16 hw) (tw17 hw) (tw15 hw) (tw18 hw) (by decide) (rm4 l Z a0 hw [] b6 r9 r66 _ n0 X.size O_b6 g_b6 (show (0 : Int32) < r66 from (by first | (have f1 := rng32 r66; (try simp only [Int64.lt_iff_toInt_lt, Int32.lt_iff_toInt_lt, Int64.le_iff_toInt_le, Int32.le_iff_toInt_le, ← Int64.toInt_inj, ← Int32.toInt_inj, apply_ite Int64.toInt, apply_ite Int32.toInt, Int64.reduceToInt, Int32.reduceToInt, ne_eq, true_and, and_true, false_or, or_false, iff_self, and_self, not_true_eq_false, not_false_eq_true]) <;> omega) | (have f1 := rng32 x61; have e_hr66 := congrArg Int32.toInt hr66; (try simp only [Int64.lt_iff_toInt_lt, Int32.lt_iff_toInt_lt, Int64.le_iff_toInt_le, Int32.le_iff_toInt_le, ← Int64.toInt_inj, ← Int32.toInt_inj, apply_ite Int64.toInt, apply_ite Int32.toInt, Int64.reduceToInt, Int32.reduceToInt, ne_eq, true_and, and_true, false_or, or_false, iff_self, and_self, not_true_eq_false, not_false_eq_true] at e_hr66); have f2 := rng32 r66; (try simp only [Int64.lt_iff_toInt_lt, Int32.lt_iff_toInt_lt, Int64.le_iff_toInt_le, Int32.le_iff_toInt_le, ← Int64.toInt_inj, ← Int32.toInt_inj, apply_ite Int64.toInt, apply_ite Int32.toInt, Int64.reduceToInt, Int32.reduceToInt, ne_eq, true_and, and_true, false_or, or_false, iff_self, and_self, not_true_eq_false, not_false_eq_true]) <;> omega) | (have f1 := rng32 p6; obtain ⟨n1_, hn1_⟩ : ∃ z, z = (p6 &&& (2147483647 : Int32)) := ⟨_, rfl⟩; (try simp only [← hn1_] at hx61 hr66 ⊢); have f2 := own_mB p6 (2147483647 : Int32) 31 (by decide) (by decide) 2147483647 (by decide); (try rw [← hn1_] at f2); obtain ⟨n2_, hn2_⟩ : ∃ z, z = n1_.toInt64 := ⟨_, rfl⟩; (try simp only [← hn2_] at hx61 hr66 ⊢); have f3 := c_i2l n1_; (try rw [← hn2_] at f3); obtain ⟨n3_, hn3_⟩ : ∃ z, z = (n2_ % x46) := ⟨_, rfl⟩; (try simp only [← hn3_] at hx61 hr66 ⊢); have f4 := own_lremV n2_ x46 (by omega) (by omega); (try rw [← hn3_] at f4); obtain ⟨n4_, hn4_⟩ : ∃ z, z = n3_.toInt32 := ⟨_, rfl⟩; (try simp only [← hn4_] at hx61 hr66 ⊢); have f5 := own_l2iE n3_ (by omega); (try rw [← hn4_] at f5); obtain ⟨n5_, hn5_⟩ : ∃ z, z = (r9 + n4_) := ⟨_, rfl⟩; (try simp only [← hn5_] at hx61 hr66 ⊢); have f6 := c_iadd r9 n4_; (try rw [← hn5_] at f6); have f7 := rng32 n5_; have e_hx61 := congrArg Int32.toInt hx61; (try simp only [Int64.lt_iff_toInt_lt, Int32.lt_iff_toInt_lt, Int64.le_iff_toInt_le, Int32.le_iff_toInt_le, ← Int64.toInt_inj, ← Int32.toInt_inj, apply_ite Int64.toInt, apply_ite Int32.toInt, Int64.reduceToInt, Int32.reduceToInt, ne_eq, true_and, and_true, false_or, or_false, iff_self, and_self, not_true_eq_false, not_false_eq_true] at e_hx61); have f8 := rng32 x61; have e_hr66 := congrArg Int32.toInt hr66; (try simp only [Int64.lt_iff_toInt_lt, Int32.lt_iff_toInt_lt, Int64.le_iff_toInt_le, Int32.le_iff_toInt_le, ← Int64.toInt_inj, ← Int32.toInt_inj, apply_ite Int64.toInt, apply_ite Int32.toInt, Int64.reduceToInt, Int32.reduceToInt, ne_eq, true_and, and_true, false_or, or_false, iff_self, and_self, not_true_eq_false, not_false_eq_true] at e_hr66); have f9 := rng32 r66; (try simp only [Int64.lt_iff_toInt_lt, Int32.lt_iff_toInt_lt, Int64.le_iff_toInt_le, Int32.le_iff_toInt_le, ← Int64.toInt_inj, ← Int32.toInt_inj, apply_ite Int64.toInt, apply_ite Int32.toInt, Int64.reduceToInt, Int32.reduceToInt, ne_eq, true_and, and_true, false_or, or_false, iff_self, and_self, not_true_eq_false, not_false_eq_true]) <;> omega) | (have f1 := rng32 p1; obtain ⟨n1_, hn1_⟩ : ∃ z, z = (p1 &&& (2147483647 : Int32)) := ⟨_, rfl⟩; (try simp only [← hn1_] at hr1 hr9 hx46 hx61 hr66 ⊢); have f2 := own_mB p1 (2147483647 : Int32) 31 (by decide) (by decide) 2147483647 (by decide); (try rw [← hn1_] at f2); have e_hr1 := congrArg Int32.toInt hr1; (try simp only [Int64.lt_iff_toInt_lt, Int32.lt_iff_toInt_lt, Int64.le_iff_toInt_le, Int32.le_iff_toInt_le, ← Int64.toInt_inj, ← Int32.toInt_inj, apply_ite Int64.toInt, apply_ite Int32.toInt, Int64.reduceToInt, Int32.reduceToInt, ne_eq, true_and, and_true, false_or, or_false, iff_self, and_self, not_true_eq_false, not_false_eq_true] at e_hr1); have f3 := rng32 p2; obtain ⟨n2_, hn2_⟩ : ∃ z, z = (p2 &&& (2147483647 : Int32)) := ⟨_, rfl⟩; (try simp only [← hn2_] at hr1 hr9 hx46 hx61 hr66 ⊢); have f4 := own_mB p2 (2147483647 : Int32) 31 (by decide) (by decide) 2147483647 (by decide); (try rw [← hn2_] at f4); obtain ⟨n3_, hn3_⟩ : ∃ z, z = n2_.toInt64 := ⟨_, rfl⟩; (try simp only [← hn3_] at hr1 hr9 hx46 hx61 hr66 ⊢); have f5 := c_i2l n2_; (try rw [← hn3_] at f5); obtain ⟨n4_, hn4_⟩ : ∃ z, z = r1.toInt64 := ⟨_, rfl⟩; (try simp only [← hn4_] at hr1 hr9 hx46 hx61 hr66 ⊢); have f6 := c_i2l r1; (try rw [← hn4_] at f6); obtain ⟨n5_, hn5_⟩ : ∃ z, z = (n4_ + (1 : Int64)) := ⟨_, rfl⟩; (try simp only [← hn5_] at hr1 hr9 hx46 hx61 hr66 ⊢); have f7 := own_laddE n4_ (1 : Int64) (by (try simp only [Int64.reduceToInt, Int32.reduceToInt]); omega); (try rw [← hn5_] at f7); (try simp only [Int64.reduceToInt, Int32.reduceToInt] at f7); obtain ⟨n6_, hn6_⟩ : ∃ z, z = (n3_ % n5_) := ⟨_, rfl⟩; (try simp only [← hn6_] at hr1 hr9 hx46 hx61 hr66 ⊢); have f8 := own_lremV n3_ n5_ (by omega) (by omega); (try rw [← hn6_] at f8); obtain ⟨n7_, hn7_⟩ : ∃ z, z = n6_.toInt32 := ⟨_, rfl⟩; (try simp only [← hn7_] at hr1 hr9 hx46 hx61 hr66 ⊢); have f9 := own_l2iE n6_ (by omega); (try rw [← hn7_] at f9); have e_hr9 := congrArg Int32.toInt hr9; (try simp only [Int64.lt_iff_toInt_lt, Int32.lt_iff_toInt_lt, Int64.le_iff_toInt_le, Int32.le_iff_toInt_le, ← Int64.toInt_inj, ← Int32.toInt_inj, apply_ite Int64.toInt, apply_ite Int32.toInt, Int64.reduceToInt, Int32.reduceToInt, ne_eq, true_and, and_true, false_or, or_false, iff_self, and_self, not_true_eq_false, not_false_eq_true] at e_hr9); obtain ⟨n8_, hn8_⟩ : ∃ z, z = r9.toInt64 := ⟨_, rfl⟩; (try simp only [← hn8_] at hr1 hr9 hx46 hx61 hr66 ⊢); have f10 := c_i2l r9; (try rw [← hn8_] at f10); obtain ⟨n9_, hn9_⟩ : ∃ z, z = ((2147483647 : Int64) - n8_) := ⟨_, rfl⟩; (try simp only [← hn9_] at hr1 hr9 hx46 hx61 hr66 ⊢); have f11 := own_lsubE (2147483647 : Int64) n8_ (by (try simp only [Int64.reduceToInt, Int32.reduceToInt]); omega); (try rw [← hn9_] at f11); (try simp only [Int64.reduceToInt, Int32.reduceToInt] at f11); obtain ⟨n10_, hn10_⟩ : ∃ z, z = (n9_ + (1 : Int64)) := ⟨_, rfl⟩; (try simp only [← hn10_] at hr1 hr9 hx46 hx61 hr66 ⊢); have f12 := own_laddE n9_ (1 : Int64) (by (try simp only [Int64.reduceToInt, Int32.reduceToInt]); omega); (try rw [← hn10_] at f12); (try simp only [Int64.reduceToInt, Int32.reduceToInt] at f12); have e_hx46 := congrArg Int64.toInt hx46; (try simp only [Int64.lt_iff_toInt_lt, Int32.lt_iff_toInt_lt, Int64.le_iff_toInt_le, Int32.le_iff_toInt_le, ← Int64.toInt_inj, ← Int32.toInt_inj, apply_ite Int64.toInt, apply_ite Int32.toInt, Int64.reduceToInt, Int32.reduceToInt, ne_eq, true_and, and_true, false_or, or_false, iff_self, and_self, not_true_eq_false, not_false_eq_true] at e_hx46); have f13 := rng32 p6; obtain ⟨n11_, hn11_⟩ : ∃ z, z = (p6 &&& (2147483647 : Int32)) := ⟨_, rfl⟩; (try simp only [← hn11_] at hr1 hr9 hx46 hx61 hr66 ⊢); have f14 := own_mB p6 (2147483647 : Int32) 31 (by decide) (by decide) 2147483647 (by decide); (try rw [← hn11_] at f14); obtain ⟨n12_, hn12_⟩ : ∃ z, z = n11_.toInt64 := ⟨_, rfl⟩; (try simp only [← hn12_] at hr1 hr9 hx46 hx61 hr66 ⊢); have f15 := c_i2l n11_; (try rw [← hn12_] at f15); obtain ⟨n13_, hn13_⟩ : ∃ z, z = (n12_ % x46) := ⟨_, rfl⟩; (try simp only [← hn13_] at hr1 hr9 hx46 hx61 hr66 ⊢); have f16 := own_lremV n12_ x46 (by omega) (by omega); (try rw [← hn13_] at f16); obtain ⟨n14_, hn14_⟩ : ∃ z, z = n13_.toInt32 := ⟨_, rfl⟩; (try simp only [← hn14_] at hr1 hr9 hx46 hx61 hr66 ⊢); have f17 := own_l2iE n13_ (by omega); (try rw [← hn14_] at f17); obtain ⟨n15_, hn15_⟩ : ∃ z, z = (r9 + n14_) := ⟨_, rfl⟩; (try simp only [← hn15_] at hr1 hr9 hx46 hx61 hr66 ⊢); have f18 := c_iadd r9 n14_; (try rw [← hn15_] at f18); have f19 := rng32 n15_; have e_hx61 := congrArg Int32.toInt hx61; (try simp only [Int64.lt_iff_toInt_lt, Int32.lt_iff_toInt_lt, Int64.le_iff_toInt_le, Int32.le_iff_toInt_le, ← Int64.toInt_inj, ← Int32.toInt_inj, apply_ite Int64.toInt, apply_ite Int32.toInt, Int64.reduceToInt, Int32.reduceToInt, ne_eq, true_and, and_true, false_or, or_false, iff_self, and_self, not_true_eq_false, not_false_eq_true] at e_hx61); have f20 := rng32 x61; have e_hr66 := congrArg Int32.toInt hr66; (try simp only [Int64.lt_iff_toInt_lt, Int32.lt_iff_toInt_lt, Int64.le_iff_toInt_le, Int32.le_iff_toInt_le, ← Int64.toInt_inj, ← Int32.toInt_inj, apply_ite Int64.toInt, apply_ite Int32.toInt, Int64.reduceToInt, Int32.reduceToInt, ne_eq, true_and, and_true, false_or, or_false, iff_self, and_self, not_true_eq_false, not_false_eq_true] at e_hr66); have f21 := rng32 r66; (try simp only [Int64.lt_iff_toInt_lt, Int32.lt_iff_toInt_lt, Int64.le_iff_toInt_le, Int32.le_iff_toInt_le, ← Int64.toInt_inj, ← Int32.toInt_inj, apply_ite Int64.toInt, apply_ite Int32.toInt, Int64.reduceToInt, Int32.reduceToInt, ne_eq, true_and, and_true, false_or, or_false, iff_self, and_self, not_true_eq_false, not_false_eq_true]) <;> omega))) (show ¬ (r9 < (0 : Int32)) from (by first | ((try simp only [Int64.lt_iff_toInt_lt, Int32.lt_iff_toInt_lt, Int64.le_iff_toInt_le, Int32.le_iff_toInt_le, ← Int64.toInt_inj, ← Int32.toInt_inj, apply_ite Int64.toInt, apply_ite Int32.toInt, Int64.reduceToInt, Int32.reduceToInt, ne_eq, true_and, and_true, false_or, or_false, iff_self, and_self, not_true_eq_false, not_false_eq_true]) <;> omega) | (have f1 := rng32 p2; obtain ⟨n1_, hn1_⟩ : ∃ z, z = (p2 &&& (2147483647 : Int32)) := ⟨_, rfl⟩; (try simp only [← hn1_] at hr9 ⊢); have f2 := own_mB p2 (2147483647 : Int32) 31 (by decide) (by decide) 2147483647 (by decide); (try rw [← hn1_] at f2); obtain ⟨n2_, hn2_⟩ : ∃ z, z = n1_.toInt64 := ⟨_, rfl⟩; (try simp only [← hn2_] at hr9 ⊢); have f3 := c_i2l n1_; (try rw [← hn2_] at f3); obtain ⟨n3_, hn3_⟩ : ∃ z, z = r1.toInt64 := ⟨_, rfl⟩; (try simp only [← hn3_] at hr9 ⊢); have f4 := c_i2l r1; (try rw [← hn3_] at f4); obtain ⟨n4_, hn4_⟩ : ∃ z, z = (n3_ + (1 : Int64)) := ⟨_, rfl⟩; (try simp only [← hn4_] at hr9 ⊢); have f5 := own_laddE n3_ (1 : Int64) (by (try simp only [Int64.reduceToInt, Int32.reduceToInt]); omega); (try rw [← hn4_] at f5); (try simp only [Int64.reduceToInt, Int32.reduceToInt] at f5); obtain ⟨n5_, hn5_⟩ : ∃ z, z = (n2_ % n4_) := ⟨_, rfl⟩; (try simp only [← hn5_] at hr9 ⊢); have f6 := own_lremV n2_ n4_ (by omega) (by omega); (try rw [← hn5_] at f6); obtain ⟨n6_, hn6_⟩ : ∃ z, z = n5_.toInt32 := ⟨_, rfl⟩; (try simp only [← hn6_] at hr9 ⊢); have f7 := own_l2iE n5_ (by omega); (try rw [← hn6_] at f7); have e_hr9 := congrArg Int32.toInt hr9; (try simp only [Int64.lt_iff_toInt_lt, Int32.lt_iff_toInt_lt, Int64.le_iff_toInt_le, Int32.le_iff_toInt_le, ← Int64.toInt_inj, ← Int32.toInt_inj, apply_ite Int64.toInt, apply_ite Int32.toInt, Int64.reduceToInt, Int32.reduceToInt, ne_eq, true_and, and_true, false_or, or_false, iff_self, and_self, not_true_eq_false, not_false_eq_true] at e_hr9); (try simp only [Int64.lt_iff_toInt_lt, Int32.lt_iff_toInt_lt, Int64.le_iff_toInt_le, Int32.le_iff_toInt_le, ← Int64.toInt_inj, ← Int32.toInt_inj, apply_ite Int64.toInt, apply_ite Int32.toInt, Int64.reduceToInt, Int32.reduceToInt, ne_eq, true_and, and_true, false_or, or_false, iff_self, and_self, not_true_eq_false, not_false_eq_true]) <;> omega) | (have f1 := rng32 p1; obtain ⟨n1_, hn1_⟩ : ∃ z, z = (p1 &&& (2147483647 : Int32)) := ⟨_, rfl⟩; (try simp only [← hn1_] at hr1 hr9 ⊢); have f2 := own_mB p1 (2147483647 : Int32) 31 (by decide) (by decide) 2147483647 (by decide); (try rw [← hn1_] at f2); have e_hr1 := congrArg Int32.toInt hr1; (try simp only [Int64.lt_iff_toInt_lt, Int32.lt_iff_toInt_lt, Int64.le_iff_toInt_le, Int32.le_iff_toInt_le, ← Int64.toInt_inj, ← Int32.toInt_inj, apply_ite Int64.toInt, apply_ite Int32.toInt, Int64.reduceToInt, Int32.reduceToInt, ne_eq, true_and, and_true, false_or, or_false, iff_self, and_self, not_true_eq_false, not_false_eq_true] at e_hr1); have f3 := rng32 p2; obtain ⟨n2_, hn2_⟩ : ∃ z, z = (p2 &&& (2147483647 : Int32)) := ⟨_, rfl⟩; (try simp only [← hn2_] at hr1 hr9 ⊢); have f4 := own_mB p2 (2147483647 : Int32) 31 (by decide) (by decide) 2147483647 (by decide); (try rw [← hn2_] at f4); obtain ⟨n3_, hn3_⟩ : ∃ z, z = n2_.toInt64 := ⟨_, rfl⟩; (try simp only [← hn3_] at hr1 hr9 ⊢); have f5 := c_i2l n2_; (try rw [← hn3_] at f5); obtain ⟨n4_, hn4_⟩ : ∃ z, z = r1.toInt64 := ⟨_, rfl⟩; (try simp only [← hn4_] at hr1 hr9 ⊢); have f6 := c_i2l r1; (try rw [← hn4_] at f6); obtain ⟨n5_, hn5_⟩ : ∃ z, z = (n4_ + (1 : Int64)) := ⟨_, rfl⟩; (try simp only [← hn5_] at hr1 hr9 ⊢); have f7 := own_laddE n4_ (1 : Int64) (by (try simp only [Int64.reduceToInt, Int32.reduceToInt]); omega); (try rw [← hn5_] at f7); (try simp only [Int64.reduceToInt, Int32.reduceToInt] at f7); obtain ⟨n6_, hn6_⟩ : ∃ z, z = (n3_ % n5_) := ⟨_, rfl⟩; (try simp only [← hn6_] at hr1 hr9 ⊢); have f8 := own_lremV n3_ n5_ (by omega) (by omega); (try rw [← hn6_] at f8); obtain ⟨n7_, hn7_⟩ : ∃ z, z = n6_.toInt32 := ⟨_, rfl⟩; (try simp only [← hn7_] at hr1 hr9 ⊢); have f9 := own_l2iE n6_ (by omega); (try rw [← hn7_] at f9); have e_hr9 := congrArg Int32.toInt hr9; (try simp only [Int64.lt_iff_toInt_lt, Int32.lt_iff_toInt_lt, Int64.le_iff_toInt_le, Int32.le_iff_toInt_le, ← Int64.toInt_inj, ← Int32.toInt_inj, apply_ite Int64.toInt, apply_ite Int32.toInt, Int64.reduceToInt, Int32.reduceToInt, ne_eq, true_and, and_true, false_or, or_false, iff_self, and_self, not_true_eq_false, not_false_eq_true] at e_hr9); (try simp only [Int64.lt_iff_toInt_lt, Int32.lt_iff_toInt_lt, Int64.le_iff_toInt_le, Int32.le_iff_toInt_le, ← Int64.toInt_inj, ← Int32.toInt_inj, apply_ite Int64.toInt, apply_ite Int32.toInt, Int64.reduceToInt, Int32.reduceToInt, ne_eq, true_and, and_true, false_or, or_false, iff_self, and_self, not_true_eq_false, not_false_eq_true]) <;> omega))) (show ¬ (r66 < r9) from (by first | (have f1 := rng32 r66; (try simp only [Int64.lt_iff_toInt_lt, Int32.lt_iff_toInt_lt, Int64.le_iff_toInt_le, Int32.le_iff_toInt_le, ← Int64.toInt_inj, ← Int32.toInt_inj, apply_ite Int64.toInt, apply_ite Int32.toInt, Int64.reduceToInt, Int32.reduceToInt, ne_eq, true_and, and_true, false_or, or_false, iff_self, and_self, not_true_eq_false, not_false_eq_true]) <;> omega) | (have f1 := rng32 p2; obtain ⟨n1_, hn1_⟩ : ∃ z, z = (p2 &&& (2147483647 : Int32)) := ⟨_, rfl⟩; (try simp only [← hn1_] at hr9 hr66 ⊢); have f2 := own_mB p2 (2147483647 : Int32) 31 (by decide) (by decide) 2147483647 (by decide); (try rw [← hn1_] at f2); obtain ⟨n2_, hn2_⟩ : ∃ z, z = n1_.toInt64 := ⟨_, rfl⟩; (try simp only [← hn2_] at hr9 hr66 ⊢); have f3 := c_i2l n1_; (try rw [← hn2_] at f3); obtain ⟨n3_, hn3_⟩ : ∃ z, z = r1.toInt64 := ⟨_, rfl⟩; (try simp only [← hn3_] at hr9 hr66 ⊢); have f4 := c_i2l r1; (try rw [← hn3_] at f4); obtain ⟨n4_, hn4_⟩ : ∃ z, z = (n3_ + (1 : Int64)) := ⟨_, rfl⟩; (try simp only [← hn4_] at hr9 hr66 ⊢); have f5 := own_laddE n3_ (1 : Int64) (by (try simp only [Int64.reduceToInt, Int32.reduceToInt]); omega); (try rw [← hn4_] at f5); (try simp only [Int64.reduceToInt, Int32.reduceToInt] at f5); obtain ⟨n5_, hn5_⟩ : ∃ z, z = (n2_ % n4_) := ⟨_, rfl⟩; (try simp only [← hn5_] at hr9 hr66 ⊢); have f6 := own_lremV n2_ n4_ (by omega) (by omega); (try rw [← hn5_] at f6); obtain ⟨n6_, hn6_⟩ : ∃ z, z = n5_.toInt32 := ⟨_, rfl⟩; (try simp only [← hn6_] at hr9 hr66 ⊢); have f7 := own_l2iE n5_ (by omega); (try rw [← hn6_] at f7); have e_hr9 := congrArg Int32.toInt hr9; (try simp only [Int64.lt_iff_toInt_lt, Int32.lt_iff_toInt_lt, Int64.le_iff_toInt_le, Int32.le_iff_toInt_le, ← Int64.toInt_inj, ← Int32.toInt_inj, apply_ite Int64.toInt, apply_ite Int32.toInt, Int64.reduceToInt, Int32.reduceToInt, ne_eq, true_and, and_true, false_or, or_false, iff_self, and_self, not_true_eq_false, not_false_eq_true] at e_hr9); have f8 := rng32 x61; have e_hr66 := congrArg Int32.toInt hr66; (try simp only [Int64.lt_iff_toInt_lt, Int32.lt_iff_toInt_lt, Int64.le_iff_toInt_le, Int32.le_iff_toInt_le, ← Int64.toInt_inj, ← Int32.toInt_inj, apply_ite Int64.toInt, apply_ite Int32.toInt, Int64.reduceToInt, Int32.reduceToInt, ne_eq, true_and, and_true, false_or, or_false, iff_self, and_self, not_true_eq_false, not_false_eq_true] at e_hr66); have f9 := rng32 r66; (try simp only [Int64.lt_iff_toInt_lt, Int32.lt_iff_toInt_lt, Int64.le_iff_toInt_le, Int32.le_iff_toInt_le, ← Int64.toInt_inj, ← Int32.toInt_inj, apply_ite Int64.toInt, apply_ite Int32.toInt, Int64.reduceToInt, Int32.reduceToInt, ne_eq, true_and, and_true, false_or, or_false, iff_self, and_self, not_true_eq_false, not_false_eq_true]) <;> omega) | (have f1 := rng32 p1; obtain ⟨n1_, hn1_⟩ : ∃ z, z = (p1 &&& (2147483647 : Int32)) := ⟨_, rfl⟩; (try simp only [← hn1_] at hr1 hr9 hx61 hr66 ⊢); have f2 := own_mB p1 (2147483647 : Int32) 31 (by decide) (by decide) 2147483647 (by decide); (try rw [← hn1_] at f2); have e_hr1 := congrArg Int32.toInt hr1; (try simp only [Int64.lt_iff_toInt_lt, Int32.lt_iff_toInt_lt, Int64.le_iff_toInt_le, Int32.le_iff_toInt_le, ← Int64.toInt_inj, ← Int32.toInt_inj, apply_ite Int64.toInt, apply_ite Int32.toInt, Int64.reduceToInt, Int32.reduceToInt, ne_eq, true_and, and_true, false_or, or_false, iff_self, and_self, not_true_eq_false, not_false_eq_true] at e_hr1); have f3 := rng32 p2; obtain ⟨n2_, hn2_⟩ : ∃ z, z = (p2 &&& (2147483647 : Int32)) := ⟨_, rfl⟩; (try simp only [← hn2_] at hr1 hr9 hx61 hr66 ⊢); have f4 := own_mB p2 (2147483647 : Int32) 31 (by decide) (by decide) 2147483647 (by decide); (try rw [← hn2_] at f4); obtain ⟨n3_, hn3_⟩ : ∃ z, z = n2_.toInt64 := ⟨_, rfl⟩; (try simp only [← hn3_] at hr1 hr9 hx61 hr66 ⊢); have f5 := c_i2l n2_; (try rw [← hn3_] at f5); obtain ⟨n4_, hn4_⟩ : ∃ z, z = r1.toInt64 := ⟨_, rfl⟩; (try simp only [← hn4_] at hr1 hr9 hx61 hr66 ⊢); have f6 := c_i2l r1; (try rw [← hn4_] at f6); obtain ⟨n5_, hn5_⟩ : ∃ z, z = (n4_ + (1 : Int64)) := ⟨_, rfl⟩; (try simp only [← hn5_] at hr1 hr9 hx61 hr66 ⊢); have f7 := own_laddE n4_ (1 : Int64) (by (try simp only [Int64.reduceToInt, Int32.reduceToInt]); omega); (try rw [← hn5_] at f7); (try simp only [Int64.reduceToInt, Int32.reduceToInt] at f7); obtain ⟨n6_, hn6_⟩ : ∃ z, z = (n3_ % n5_) := ⟨_, rfl⟩; (try simp only [← hn6_] at hr1 hr9 hx61 hr66 ⊢); have f8 := own_lremV n3_ n5_ (by omega) (by omega); (try rw [← hn6_] at f8); obtain ⟨n7_, hn7_⟩ : ∃ z, z = n6_.toInt32 := ⟨_, rfl⟩; (try simp only [← hn7_] at hr1 hr9 hx61 hr66 ⊢); have f9 := own_l2iE n6_ (by omega); (try rw [← hn7_] at f9); have e_hr9 := congrArg Int32.toInt hr9; (try simp only [Int64.lt_iff_toInt_lt, Int32.lt_iff_toInt_lt, Int64.le_iff_toInt_le, Int32.le_iff_toInt_le, ← Int64.toInt_inj, ← Int32.toInt_inj, apply_ite Int64.toInt, apply_ite Int32.toInt, Int64.reduceToInt, Int32.reduceToInt, ne_eq, true_and, and_true, false_or, or_false, iff_self, and_self, not_true_eq_false, not_false_eq_true] at e_hr9); have f10 := rng32 p6; obtain ⟨n8_, hn8_⟩ : ∃ z, z = (p6 &&& (2147483647 : Int32)) := ⟨_, rfl⟩; (try simp only [← hn8_] at hr1 hr9 hx61 hr66 ⊢); have f11 := own_mB p6 (2147483647 : Int32) 31 (by decide) (by decide) 2147483647 (by decide); (try rw [← hn8_] at f11); obtain ⟨n9_, hn9_⟩ : ∃ z, z = n8_.toInt64 := ⟨_, rfl⟩; (try simp only [← hn9_] at hr1 hr9 hx61 hr66 ⊢); have f12 := c_i2l n8_; (try rw [← hn9_] at f12); obtain ⟨n10_, hn10_⟩ : ∃ z, z = (n9_ % x46) := ⟨_, rfl⟩; (try simp only [← hn10_] at hr1 hr9 hx61 hr66 ⊢); have f13 := own_lremV n9_ x46 (by omega) (by omega); (try rw [← hn10_] at f13); obtain ⟨n11_, hn11_⟩ : ∃ z, z = n10_.toInt32 := ⟨_, rfl⟩; (try simp only [← hn11_] at hr1 hr9 hx61 hr66 ⊢); have f14 := own_l2iE n10_ (by omega); (try rw [← hn11_] at f14); obtain ⟨n12_, hn12_⟩ : ∃ z, z = (r9 + n11_) := ⟨_, rfl⟩; (try simp only [← hn12_] at hr1 hr9 hx61 hr66 ⊢); have f15 := c_iadd r9 n11_; (try rw [← hn12_] at f15); have f16 := rng32 n12_; have e_hx61 := congrArg Int32.toInt hx61; (try simp only [Int64.lt_iff_toInt_lt, Int32.lt_iff_toInt_lt, Int64.le_iff_toInt_le, Int32.le_iff_toInt_le, ← Int64.toInt_inj, ← Int32.toInt_inj, apply_ite Int64.toInt, apply_ite Int32.toInt, Int64.reduceToInt, Int32.reduceToInt, ne_eq, true_and, and_true, false_or, or_false, iff_self, and_self, not_true_eq_false, not_false_eq_true] at e_hx61); have f17 := rng32 x61; have e_hr66 := congrArg Int32.toInt hr66; (try simp only [Int64.lt_iff_toInt_lt, Int32.lt_iff_toInt_lt, Int64.le_iff_toInt_le, Int32.le_iff_toInt_le, ← Int64.toInt_inj, ← Int32.toInt_inj, apply_ite Int64.toInt, apply_ite Int32.toInt, Int64.reduceToInt, Int32.reduceToInt, ne_eq, true_and, and_true, false_or, or_false, iff_self, and_self, not_true_eq_false, not_false_eq_true] at e_hr66); have f18 := rng32 r66; (try simp only [Int64.lt_iff_toInt_lt, Int32.lt_iff_toInt_lt, Int64.le_iff_toInt_le, Int32.le_iff_toInt_le, ← Int64.toInt_inj, ← Int32.toInt_inj, apply_ite Int64.toInt, apply_ite Int32.toInt, Int64.reduceToInt, Int32.reduceToInt, ne_eq, true_and, and_true, false_or, or_false, iff_self, and_self, not_true_eq_false, not_false_eq_true]) <;> omega) | (have f1 := rng32 p1; obtain ⟨n1_, hn1_⟩ : ∃ z, z = (p1 &&& (2147483647 : Int32)) := ⟨_, rfl⟩; (try simp only [← hn1_] at hr1 hr9 hx46 hx61 hr66 ⊢); have f2 := own_mB p1 (2147483647 : Int32) 31 (by decide) (by decide) 2147483647 (by decide); (try rw [← hn1_] at f2); have e_hr1 := congrArg Int32.toInt hr1; (try simp only [Int64.lt_iff_toInt_lt, Int32.lt_iff_toInt_lt, Int64.le_iff_toInt_le, Int32.le_iff_toInt_le, ← Int64.toInt_inj, ← Int32.toInt_inj, apply_ite Int64.toInt, apply_ite Int32.toInt, Int64.reduceToInt, Int32.reduceToInt, ne_eq, true_and, and_true, false_or, or_false, iff_self, and_self, not_true_eq_false, not_false_eq_true] at e_hr1); have f3 := rng32 p2; obtain ⟨n2_, hn2_⟩ : ∃ z, z = (p2 &&& (2147483647 : Int32)) := ⟨_, rfl⟩; (try simp only [← hn2_] at hr1 hr9 hx46 hx61 hr66 ⊢); have f4 := own_mB p2 (2147483647 : Int32) 31 (by decide) (by decide) 2147483647 (by decide); (try rw [← hn2_] at f4); obtain ⟨n3_, hn3_⟩ : ∃ z, z = n2_.toInt64 := ⟨_, rfl⟩; (try simp only [← hn3_] at hr1 hr9 hx46 hx61 hr66 ⊢); have f5 := c_i2l n2_; (try rw [← hn3_] at f5); obtain ⟨n4_, hn4_⟩ : ∃ z, z = r1.toInt64 := ⟨_, rfl⟩; (try simp only [← hn4_] at hr1 hr9 hx46 hx61 hr66 ⊢); have f6 := c_i2l r1; (try rw [← hn4_] at f6); obtain ⟨n5_, hn5_⟩ : ∃ z, z = (n4_ + (1 : Int64)) := ⟨_, rfl⟩; (try simp only [← hn5_] at hr1 hr9 hx46 hx61 hr66 ⊢); have f7 := own_laddE n4_ (1 : Int64) (by (try simp only [Int64.reduceToInt, Int32.reduceToInt]); omega); (try rw [← hn5_] at f7); (try simp only [Int64.reduceToInt, Int32.reduceToInt] at f7); obtain ⟨n6_, hn6_⟩ : ∃ z, z = (n3_ % n5_) := ⟨_, rfl⟩; (try simp only [← hn6_] at hr1 hr9 hx46 hx61 hr66 ⊢); have f8 := own_lremV n3_ n5_ (by omega) (by omega); (try rw [← hn6_] at f8); obtain ⟨n7_, hn7_⟩ : ∃ z, z = n6_.toInt32 := ⟨_, rfl⟩; (try simp only [← hn7_] at hr1 hr9 hx46 hx61 hr66 ⊢); have f9 := own_l2iE n6_ (by omega); (try rw [← hn7_] at f9); have e_hr9 := congrArg Int32.toInt hr9; (try simp only [Int64.lt_iff_toInt_lt, Int32.lt_iff_toInt_lt, Int64.le_iff_toInt_le, Int32.le_iff_toInt_le, ← Int64.toInt_inj, ← Int32.toInt_inj, apply_ite Int64.toInt, apply_ite Int32.toInt, Int64.reduceToInt, Int32.reduceToInt, ne_eq, true_and, and_true, false_or, or_false, iff_self, and_self, not_true_eq_false, not_false_eq_true] at e_hr9); obtain ⟨n8_, hn8_⟩ : ∃ z, z = r9.toInt64 := ⟨_, rfl⟩; (try simp only [← hn8_] at hr1 hr9 hx46 hx61 hr66 ⊢); have f10 := c_i2l r9; (try rw [← hn8_] at f10); obtain ⟨n9_, hn9_⟩ : ∃ z, z = ((2147483647 : Int64) - n8_) := ⟨_, rfl⟩; (try simp only [← hn9_] at hr1 hr9 hx46 hx61 hr66 ⊢); have f11 := own_lsubE (2147483647 : Int64) n8_ (by (try simp only [Int64.reduceToInt, Int32.reduceToInt]); omega); (try rw [← hn9_] at f11); (try simp only [Int64.reduceToInt, Int32.reduceToInt] at f11); obtain ⟨n10_, hn10_⟩ : ∃ z, z = (n9_ + (1 : Int64)) := ⟨_, rfl⟩; (try simp only [← hn10_] at hr1 hr9 hx46 hx61 hr66 ⊢); have f12 := own_laddE n9_ (1 : Int64) (by (try simp only [Int64.reduceToInt, Int32.reduceToInt]); omega); (try rw [← hn10_] at f12); (try simp only [Int64.reduceToInt, Int32.reduceToInt] at f12); have e_hx46 := congrArg Int64.toInt hx46; (try simp only [Int64.lt_iff_toInt_lt, Int32.lt_iff_toInt_lt, Int64.le_iff_toInt_le, Int32.le_iff_toInt_le, ← Int64.toInt_inj, ← Int32.toInt_inj, apply_ite Int64.toInt, apply_ite Int32.toInt, Int64.reduceToInt, Int32.reduceToInt, ne_eq, true_and, and_true, false_or, or_false, iff_self, and_self, not_true_eq_false, not_false_eq_true] at e_hx46); have f13 := rng32 p6; obtain ⟨n11_, hn11_⟩ : ∃ z, z = (p6 &&& (2147483647 : Int32)) := ⟨_, rfl⟩; (try simp only [← hn11_] at hr1 hr9 hx46 hx61 hr66 ⊢); have f14 := own_mB p6 (2147483647 : Int32) 31 (by decide) (by decide) 2147483647 (by decide); (try rw [← hn11_] at f14); obtain ⟨n12_, hn12_⟩ : ∃ z, z = n11_.toInt64 := ⟨_, rfl⟩; (try simp only [← hn12_] at hr1 hr9 hx46 hx61 hr66 ⊢); have f15 := c_i2l n11_; (try rw [← hn12_] at f15); obtain ⟨n13_, hn13_⟩ : ∃ z, z = (n12_ % x46) := ⟨_, rfl⟩; (try simp only [← hn13_] at hr1 hr9 hx46 hx61 hr66 ⊢); have f16 := own_lremV n12_ x46 (by omega) (by omega); (try rw [← hn13_] at f16); obtain ⟨n14_, hn14_⟩ : ∃ z, z = n13_.toInt32 := ⟨_, rfl⟩; (try simp only [← hn14_] at hr1 hr9 hx46 hx61 hr66 ⊢); have f17 := own_l2iE n13_ (by omega); (try rw [← hn14_] at f17); obtain ⟨n15_, hn15_⟩ : ∃ z, z = (r9 + n14_) := ⟨_, rfl⟩; (try simp only [← hn15_] at hr1 hr9 hx46 hx61 hr66 ⊢); have f18 := c_iadd r9 n14_; (try rw [← hn15_] at f18); have f19 := rng32 n15_; have e_hx61 := congrArg Int32.toInt hx61; (try simp only [Int64.lt_iff_toInt_lt, Int32.lt_iff_toInt_lt, Int64.le_iff_toInt_le, Int32.le_iff_toInt_le, ← Int64.toInt_inj, ← Int32.toInt_inj, apply_ite Int64.toInt, apply_ite Int32.toInt, Int64.reduceToInt, Int32.reduceToInt, ne_eq, true_and, and_true, false_or, or_false, iff_self, and_self, not_true_eq_false, not_false_eq_true] at e_hx61); have f20 := rng32 x61; have e_hr66 := congrArg Int32.toInt hr66; (try simp only [Int64.lt_iff_toInt_lt, Int32.lt_iff_toInt_lt, Int64.le_iff_toInt_le, Int32.le_iff_toInt_le, ← Int64.toInt_inj, ← Int32.toInt_inj, apply_ite Int64.toInt, apply_ite Int32.toInt, Int64.reduceToInt, Int32.reduceToInt, ne_eq, true_and, and_true, false_or, or_false, iff_self, and_self, not_true_eq_false, not_false_eq_true] at e_hr66); have f21 := rng32 r66; (try simp only [Int64.lt_iff_toInt_lt, Int32.lt_iff_toInt_lt, Int64.le_iff_toInt_le, Int32.le_iff_toInt_le, ← Int64.toInt_inj, ← Int32.toInt_inj, apply_ite Int64.toInt, apply_ite Int32.toInt, Int64.reduceToInt, Int32.reduceToInt, ne_eq, true_and, and_true, false_or, or_false, iff_self, and_self, not_true_eq_false, not_false_eq_true]) <;> omega)))) pd4 rfl rfl rfl at_150 (q := 153) rfl (W := 1) rfl (by decide) (by decide) (c2 := 6) (s2 := 12) rfl rfl (by decide) (by decide) (fun v T h' X hQ => ?_)
  obtain ⟨rfl, Kc, O_b6'⟩ := hQ
  have O_b1 := O_b1.keep Kc (ninS ne_b1_b6 nin0)
  have O_b2 := O_b2.keep Kc (ninS ne_b2_b6 nin0)
  have O_b3 := O_b3.keep Kc (ninS ne_b3_b6 nin0)
  have O_b4 := O_b4.keep Kc (ninS ne_b4_b6 nin0)
  have O_b5 := O_b5.keep Kc (ninS ne_b5_b6 nin0)
  have O_b6 := O_b6'
  show Goes p e below s _ n0 _ (T.setTop (mkF m 153 #[.val (.int p1), .val (.int p2), .val (.int p3), .val (.int p4), .val (.int p5), .val (.int p6), .val (.int r1), .val (.int r9), .val (.int r15), .val (.int r23), .val (.int r32), .val (.long x46), .second, .val (.int r66), .val (.ref b1), .val (.ref b2), .val (.ref b3), .val (.ref b4), .val (.ref b5), .unset, .unset, .unset, .unset, .unset, .unset, .unset, .unset] [(.ref b6)]))
  refine g_astore X at_153 rfl (q := 155) (L' := #[.val (.int p1), .val (.int p2), .val (.int p3), .val (.int p4), .val (.int p5), .val (.int p6), .val (.int r1), .val (.int r9), .val (.int r15), .val (.int r23), .val (.int r32), .val (.long x46), .second, .val (.int r66), .val (.ref b1), .val (.ref b2), .val (.ref b3), .val (.ref b4), .val (.ref b5), .val (.ref b6), .unset, .unset, .unset, .unset, .unset, .unset, .unset]) rfl rfl ?_
  refine g_aload X at_155 rfl (q := 157) rfl rfl ?_
  refine g_aload X at_157 rfl (q := 159) rfl rfl ?_
  refine g_callV X O_b1.1 [(.ref b2)] [] (tw31 hw) (tw32 hw) (tw34 hw) (tw33 hw) (tw15 hw) (tw35 hw) (by decide) (rm7 l Z a0 hw [] b1 b2 r9 r1 r23 r15 _ n0 X.size O_b1 O_b2) pd5 rfl rfl rfl at_159 (q := 162) rfl (W := 0) rfl (by decide) (by decide) (c2 := 6) (s2 := 12) rfl rfl (by decide) (by decide) (fun v T h' X hQ => ?_)
  obtain ⟨rfl, rfl⟩ := hQ
  show Goes p e below s _ n0 _ (T.setTop (mkF m 162 #[.val (.int p1), .val (.int p2), .val (.int p3), .val (.int p4), .val (.int p5), .val (.int p6), .val (.int r1), .val (.int r9), .val (.int r15), .val (.int r23), .val (.int r32), .val (.long x46), .second, .val (.int r66), .val (.ref b1), .val (.ref b2), .val (.ref b3), .val (.ref b4), .val (.ref b5), .val (.ref b6), .unset, .unset, .unset, .unset, .unset, .unset, .unset] [(.int (if (r9.toInt64 * r15.toInt64) < (r23.toInt64 * r1.toInt64) then (-1 : Int32) else (if (r9.toInt64 * r15.toInt64) = (r23.toInt64 * r1.toInt64) then (0 : Int32) else (1 : Int32))))]))
  refine g_letI (fun r159 hr159 => ?_)
  have b_r159 : (-1 : Int) ≤ r159.toInt ∧ r159.toInt ≤ 1 := by
    have z0 := hr159
    obtain ⟨n1_, hn1_⟩ : ∃ z, z = r9.toInt64 := ⟨_, rfl⟩
    (try simp only [← hn1_] at z0)
    have f1 := c_i2l r9
    (try rw [← hn1_] at f1)
    obtain ⟨n2_, hn2_⟩ : ∃ z, z = r15.toInt64 := ⟨_, rfl⟩
    (try simp only [← hn2_] at z0)
    have f2 := c_i2l r15
    (try rw [← hn2_] at f2)
    obtain ⟨n3_, hn3_⟩ : ∃ z, z = (n1_ * n2_) := ⟨_, rfl⟩
    (try simp only [← hn3_] at z0)
    have f3 := c_lmul n1_ n2_
    (try rw [← hn3_] at f3)
    have f4 := rng64 n3_
    obtain ⟨n4_, hn4_⟩ : ∃ z, z = r23.toInt64 := ⟨_, rfl⟩
    (try simp only [← hn4_] at z0)
    have f5 := c_i2l r23
    (try rw [← hn4_] at f5)
    obtain ⟨n5_, hn5_⟩ : ∃ z, z = r1.toInt64 := ⟨_, rfl⟩
    (try simp only [← hn5_] at z0)
    have f6 := c_i2l r1
    (try rw [← hn5_] at f6)
    obtain ⟨n6_, hn6_⟩ : ∃ z, z = (n4_ * n5_) := ⟨_, rfl⟩
    (try simp only [← hn6_] at z0)
    have f7 := c_lmul n4_ n5_
    (try rw [← hn6_] at f7)
    have f8 := rng64 n6_
    have e0 := congrArg Int32.toInt z0
    (try simp only [Int64.lt_iff_toInt_lt, Int32.lt_iff_toInt_lt, Int64.le_iff_toInt_le, Int32.le_iff_toInt_le, ← Int64.toInt_inj, ← Int32.toInt_inj, apply_ite Int64.toInt, apply_ite Int32.toInt, Int64.reduceToInt, Int32.reduceToInt, ne_eq, true_and, and_true, false_or, or_false, iff_self, and_self, not_true_eq_false, not_false_eq_true] at e0)
    omega
  refine g_callS X [(.int r159)] [] (tw40 hw) (tw41 hw) (tw2 hw) (tw42 hw) (by decide) (rm9 l Z a0 hw [] r159 _ n0 X.size) pd2 rfl rfl rfl at_162 (q := 165) rfl (W := 0) rfl (by decide) (by decide) (c2 := 6) (s2 := 12) rfl rfl (by decide) (by decide) (fun v T h' X hQ => ?_)
  obtain ⟨rfl, rfl⟩ := hQ
  show Goes p e below s _ n0 _ (T.setTop (mkF m 165 #[.val (.int p1), .val (.int p2), .val (.int p3), .val (.int p4), .val (.int p5), .val (.int p6), .val (.int r1), .val (.int r9), .val (.int r15), .val (.int r23), .val (.int r32), .val (.long x46), .second, .val (.int r66), .val (.ref b1), .val (.ref b2), .val (.ref b3), .val (.ref b4), .val (.ref b5), .val (.ref b6), .unset, .unset, .unset, .unset, .unset, .unset, .unset] [(.int (if r159 < (0 : Int32) then (-1 : Int32) else (if (0 : Int32) < r159 then (1 : Int32) else (0 : Int32))))]))
  refine g_letI (fun r162 hr162 => ?_)
  have b_r162 : (-1 : Int) ≤ r162.toInt ∧ r162.toInt ≤ 1 := by
    have z0 := hr162
    have e0 := congrArg Int32.toInt z0
    (try simp only [Int64.lt_iff_toInt_lt, Int32.lt_iff_toInt_lt, Int64.le_iff_toInt_le, Int32.le_iff_toInt_le, ← Int64.toInt_inj, ← Int32.toInt_inj, apply_ite Int64.toInt, apply_ite Int32.toInt, Int64.reduceToInt, Int32.reduceToInt, ne_eq, true_and, and_true, false_or, or_false, iff_self, and_self, not_true_eq_false, not_false_eq_true] at e0)
    omega
  refine g_istore X at_165 rfl (q := 167) (L' := #[.val (.int p1), .val (.int p2), .val (.int p3), .val (.int p4), .val (.int p5), .val (.int p6), .val (.int r1), .val (.int r9), .val (.int r15), .val (.int r23), .val (.int r32), .val (.long x46), .second, .val (.int r66), .val (.ref b1), .val (.ref b2), .val (.ref b3), .val (.ref b4), .val (.ref b5), .val (.ref b6), .val (.int r162), .unset, .unset, .unset, .unset, .unset, .unset]) rfl ?_
  refine g_aload X at_167 rfl (q := 169) rfl rfl ?_
  refine g_aload X at_169 rfl (q := 171) rfl rfl ?_
  refine g_callV X O_b2.1 [(.ref b1)] [] (tw31 hw) (tw32 hw) (tw34 hw) (tw33 hw) (tw15 hw) (tw35 hw) (by decide) (rm7 l Z a0 hw [] b2 b1 r23 r15 r9 r1 _ n0 X.size O_b2 O_b1) pd5 rfl rfl rfl at_171 (q := 174) rfl (W := 0) rfl (by decide) (by decide) (c2 := 6) (s2 := 12) rfl rfl (by decide) (by decide) (fun v T h' X hQ => ?_)
  obtain ⟨rfl, rfl⟩ := hQ
  show Goes p e below s _ n0 _ (T.setTop (mkF m 174 #[.val (.int p1), .val (.int p2), .val (.int p3), .val (.int p4), .val (.int p5), .val (.int p6), .val (.int r1), .val (.int r9), .val (.int r15), .val (.int r23), .val (.int r32), .val (.long x46), .second, .val (.int r66), .val (.ref b1), .val (.ref b2), .val (.ref b3), .val (.ref b4), .val (.ref b5), .val (.ref b6), .val (.int r162), .unset, .unset, .unset, .unset, .unset, .unset] [(.int (if (r23.toInt64 * r1.toInt64) < (r9.toInt64 * r15.toInt64) then (-1 : Int32) else (if (r23.toInt64 * r1.toInt64) = (r9.toInt64 * r15.toInt64) then (0 : Int32) else (1 : Int32))))]))
  refine g_letI (fun r171 hr171 => ?_)
  have b_r171 : (-1 : Int) ≤ r171.toInt ∧ r171.toInt ≤ 1 := by
    have z0 := hr171
    obtain ⟨n1_, hn1_⟩ : ∃ z, z = r23.toInt64 := ⟨_, rfl⟩
    (try simp only [← hn1_] at z0)
    have f1 := c_i2l r23
    (try rw [← hn1_] at f1)
    obtain ⟨n2_, hn2_⟩ : ∃ z, z = r1.toInt64 := ⟨_, rfl⟩
    (try simp only [← hn2_] at z0)
    have f2 := c_i2l r1
    (try rw [← hn2_] at f2)
    obtain ⟨n3_, hn3_⟩ : ∃ z, z = (n1_ * n2_) := ⟨_, rfl⟩
    (try simp only [← hn3_] at z0)
    have f3 := c_lmul n1_ n2_
    (try rw [← hn3_] at f3)
    have f4 := rng64 n3_
    obtain ⟨n4_, hn4_⟩ : ∃ z, z = r9.toInt64 := ⟨_, rfl⟩
    (try simp only [← hn4_] at z0)
    have f5 := c_i2l r9
    (try rw [← hn4_] at f5)
    obtain ⟨n5_, hn5_⟩ : ∃ z, z = r15.toInt64 := ⟨_, rfl⟩
    (try simp only [← hn5_] at z0)
    have f6 := c_i2l r15
    (try rw [← hn5_] at f6)
    obtain ⟨n6_, hn6_⟩ : ∃ z, z = (n4_ * n5_) := ⟨_, rfl⟩
    (try simp only [← hn6_] at z0)
    have f7 := c_lmul n4_ n5_
    (try rw [← hn6_] at f7)
    have f8 := rng64 n6_
    have e0 := congrArg Int32.toInt z0
    (try simp only [Int64.lt_iff_toInt_lt, Int32.lt_iff_toInt_lt, Int64.le_iff_toInt_le, Int32.le_iff_toInt_le, ← Int64.toInt_inj, ← Int32.toInt_inj, apply_ite Int64.toInt, apply_ite Int32.toInt, Int64.reduceToInt, Int32.reduceToInt, ne_eq, true_and, and_true, false_or, or_false, iff_self, and_self, not_true_eq_false, not_false_eq_true] at e0)
    omega
  refine g_callS X [(.int r171)] [] (tw40 hw) (tw41 hw) (tw2 hw) (tw42 hw) (by decide) (rm9 l Z a0 hw [] r171 _ n0 X.size) pd2 rfl rfl rfl at_174 (q := 177) rfl (W := 0) rfl (by decide) (by decide) (c2 := 6) (s2 := 12) rfl rfl (by decide) (by decide) (fun v T h' X hQ => ?_)
  obtain ⟨rfl, rfl⟩ := hQ
  show Goes p e below s _ n0 _ (T.setTop (mkF m 177 #[.val (.int p1), .val (.int p2), .val (.int p3), .val (.int p4), .val (.int p5), .val (.int p6), .val (.int r1), .val (.int r9), .val (.int r15), .val (.int r23), .val (.int r32), .val (.long x46), .second, .val (.int r66), .val (.ref b1), .val (.ref b2), .val (.ref b3), .val (.ref b4), .val (.ref b5), .val (.ref b6), .val (.int r162), .unset, .unset, .unset, .unset, .unset, .unset] [(.int (if r171 < (0 : Int32) then (-1 : Int32) else (if (0 : Int32) < r171 then (1 : Int32) else (0 : Int32))))]))
  refine g_letI (fun r174 hr174 => ?_)
  have b_r174 : (-1 : Int) ≤ r174.toInt ∧ r174.toInt ≤ 1 := by
    have z0 := hr174
    have e0 := congrArg Int32.toInt z0
    (try simp only [Int64.lt_iff_toInt_lt, Int32.lt_iff_toInt_lt, Int64.le_iff_toInt_le, Int32.le_iff_toInt_le, ← Int64.toInt_inj, ← Int32.toInt_inj, apply_ite Int64.toInt, apply_ite Int32.toInt, Int64.reduceToInt, Int32.reduceToInt, ne_eq, true_and, and_true, false_or, or_false, iff_self, and_self, not_true_eq_false, not_false_eq_true] at e0)
    omega
  refine g_istore X at_177 rfl (q := 179) (L' := #[.val (.int p1), .val (.int p2), .val (.int p3), .val (.int p4), .val (.int p5), .val (.int p6), .val (.int r1), .val (.int r9), .val (.int r15), .val (.int r23), .val (.int r32), .val (.long x46), .second, .val (.int r66), .val (.ref b1), .val (.ref b2), .val (.ref b3), .val (.ref b4), .val (.ref b5), .val (.ref b6), .val (.int r162), .val (.int r174), .unset, .unset, .unset, .unset, .unset]) rfl ?_
  refine g_iload X at_179 rfl (q := 181) rfl ?_
  refine g_iload X at_181 rfl (q := 183) rfl ?_
  refine g_ineg X at_183 rfl (q := 184) ?_
  refine g_jT1 X (J := 192) (P := fun (s0_192 : Int32) => s0_192 = (bI (r162 = (-r174)))) (L := fun s0_192 => #[.val (.int p1), .val (.int p2), .val (.int p3), .val (.int p4), .val (.int p5), .val (.int p6), .val (.int r1), .val (.int r9), .val (.int r15), .val (.int r23), .val (.int r32), .val (.long x46), .second, .val (.int r66), .val (.ref b1), .val (.ref b2), .val (.ref b3), .val (.ref b4), .val (.ref b5), .val (.ref b6), .val (.int r162), .val (.int r174), .unset, .unset, .unset, .unset, .unset]) (S := fun s0_192 => [(.int s0_192)]) ?_ ?_
  · intro T X s0_192 hs0_192
    replace hs0_192 : s0_192 = (bI (r162 = (-r174))) := hs0_192
    subst hs0_192
    show Goes p e below s _ n0 _ (T.setTop (mkF m 192 #[.val (.int p1), .val (.int p2), .val (.int p3), .val (.int p4), .val (.int p5), .val (.int p6), .val (.int r1), .val (.int r9), .val (.int r15), .val (.int r23), .val (.int r32), .val (.long x46), .second, .val (.int r66), .val (.ref b1), .val (.ref b2), .val (.ref b3), .val (.ref b4), .val (.ref b5), .val (.ref b6), .val (.int r162), .val (.int r174), .unset, .unset, .unset, .unset, .unset] [(.int (bI (r162 = (-r174))))]))
    refine g_istore X at_192 rfl (q := 194) (L' := #[.val (.int p1), .val (.int p2), .val (.int p3), .val (.int p4), .val (.int p5), .val (.int p6), .val (.int r1), .val (.int r9), .val (.int r15), .val (.int r23), .val (.int r32), .val (.long x46), .second, .val (.int r66), .val (.ref b1), .val (.ref b2), .val (.ref b3), .val (.ref b4), .val (.ref b5), .val (.ref b6), .val (.int r162), .val (.int r174), .val (.int (bI (r162 = (-r174)))), .unset, .unset, .unset, .unset]) rfl ?_
    refine g_aload X at_194 rfl (q := 196) rfl rfl ?_
    refine g_aload X at_196 rfl (q := 198) rfl rfl ?_
    refine g_callV X O_b4.1 [(.ref b3)] [] (tw31 hw) (tw32 hw) (tw34 hw) (tw33 hw) (tw15 hw) (tw35 hw) (by decide) (rm7 l Z a0 hw [] b4 b3 b4_0_124 r15 b3_0_108 r1 _ n0 X.size O_b4 O_b3) pd5 rfl rfl rfl at_198 (q := 201) rfl (W := 0) rfl (by decide) (by decide) (c2 := 6) (s2 := 12) rfl rfl (by decide) (by decide) (fun v T h' X hQ => ?_)
    obtain ⟨rfl, rfl⟩ := hQ
    show Goes p e below s _ n0 _ (T.setTop (mkF m 201 #[.val (.int p1), .val (.int p2), .val (.int p3), .val (.int p4), .val (.int p5), .val (.int p6), .val (.int r1), .val (.int r9), .val (.int r15), .val (.int r23), .val (.int r32), .val (.long x46), .second, .val (.int r66), .val (.ref b1), .val (.ref b2), .val (.ref b3), .val (.ref b4), .val (.ref b5), .val (.ref b6), .val (.int r162), .val (.int r174), .val (.int (bI (r162 = (-r174)))), .unset, .unset, .unset, .unset] [(.int (if (b4_0_124.toInt64 * r1.toInt64) < (b3_0_108.toInt64 * r15.toInt64) then (-1 : Int32) else (if (b4_0_124.toInt64 * r1.toInt64) = (b3_0_108.toInt64 * r15.toInt64) then (0 : Int32) else (1 : Int32))))]))
    refine g_letI (fun r198 hr198 => ?_)
    have b_r198 : (-1 : Int) ≤ r198.toInt ∧ r198.toInt ≤ 1 := by
      have z0 := hr198
      obtain ⟨n1_, hn1_⟩ : ∃ z, z = b4_0_124.toInt64 := ⟨_, rfl⟩
      (try simp only [← hn1_] at z0)
      have f1 := c_i2l b4_0_124
      (try rw [← hn1_] at f1)
      obtain ⟨n2_, hn2_⟩ : ∃ z, z = r1.toInt64 := ⟨_, rfl⟩
      (try simp only [← hn2_] at z0)
      have f2 := c_i2l r1
      (try rw [← hn2_] at f2)
      obtain ⟨n3_, hn3_⟩ : ∃ z, z = (n1_ * n2_) := ⟨_, rfl⟩
      (try simp only [← hn3_] at z0)
      have f3 := c_lmul n1_ n2_
      (try rw [← hn3_] at f3)
      have f4 := rng64 n3_
      obtain ⟨n4_, hn4_⟩ : ∃ z, z = b3_0_108.toInt64 := ⟨_, rfl⟩
      (try simp only [← hn4_] at z0)
      have f5 := c_i2l b3_0_108
      (try rw [← hn4_] at f5)
      obtain ⟨n5_, hn5_⟩ : ∃ z, z = r15.toInt64 := ⟨_, rfl⟩
      (try simp only [← hn5_] at z0)
      have f6 := c_i2l r15
      (try rw [← hn5_] at f6)
      obtain ⟨n6_, hn6_⟩ : ∃ z, z = (n4_ * n5_) := ⟨_, rfl⟩
      (try simp only [← hn6_] at z0)
      have f7 := c_lmul n4_ n5_
      (try rw [← hn6_] at f7)
      have f8 := rng64 n6_
      have e0 := congrArg Int32.toInt z0
      (try simp only [Int64.lt_iff_toInt_lt, Int32.lt_iff_toInt_lt, Int64.le_iff_toInt_le, Int32.le_iff_toInt_le, ← Int64.toInt_inj, ← Int32.toInt_inj, apply_ite Int64.toInt, apply_ite Int32.toInt, Int64.reduceToInt, Int32.reduceToInt, ne_eq, true_and, and_true, false_or, or_false, iff_self, and_self, not_true_eq_false, not_false_eq_true] at e0)
      omega
    refine g_callS X [(.int r198)] [] (tw40 hw) (tw41 hw) (tw2 hw) (tw42 hw) (by decide) (rm9 l Z a0 hw [] r198 _ n0 X.size) pd2 rfl rfl rfl at_201 (q := 204) rfl (W := 0) rfl (by decide) (by decide) (c2 := 6) (s2 := 12) rfl rfl (by decide) (by decide) (fun v T h' X hQ => ?_)
    obtain ⟨rfl, rfl⟩ := hQ
    show Goes p e below s _ n0 _ (T.setTop (mkF m 204 #[.val (.int p1), .val (.int p2), .val (.int p3), .val (.int p4), .val (.int p5), .val (.int p6), .val (.int r1), .val (.int r9), .val (.int r15), .val (.int r23), .val (.int r32), .val (.long x46), .second, .val (.int r66), .val (.ref b1), .val (.ref b2), .val (.ref b3), .val (.ref b4), .val (.ref b5), .val (.ref b6), .val (.int r162), .val (.int r174), .val (.int (bI (r162 = (-r174)))), .unset, .unset, .unset, .unset] [(.int (if r198 < (0 : Int32) then (-1 : Int32) else (if (0 : Int32) < r198 then (1 : Int32) else (0 : Int32))))]))
    refine g_letI (fun r201 hr201 => ?_)
    have b_r201 : (-1 : Int) ≤ r201.toInt ∧ r201.toInt ≤ 1 := by
      have z0 := hr201
      have e0 := congrArg Int32.toInt z0
      (try simp only [Int64.lt_iff_toInt_lt, Int32.lt_iff_toInt_lt, Int64.le_iff_toInt_le, Int32.le_iff_toInt_le, ← Int64.toInt_inj, ← Int32.toInt_inj, apply_ite Int64.toInt, apply_ite Int32.toInt, Int64.reduceToInt, Int32.reduceToInt, ne_eq, true_and, and_true, false_or, or_false, iff_self, and_self, not_true_eq_false, not_false_eq_true] at e0)
      omega
    refine g_iload X at_204 rfl (q := 206) rfl ?_
    refine g_jT1 X (J := 214) (P := fun (s0_214 : Int32) => s0_214 = (bI (r201 = r162))) (L := fun s0_214 => #[.val (.int p1), .val (.int p2), .val (.int p3), .val (.int p4), .val (.int p5), .val (.int p6), .val (.int r1), .val (.int r9), .val (.int r15), .val (.int r23), .val (.int r32), .val (.long x46), .second, .val (.int r66), .val (.ref b1), .val (.ref b2), .val (.ref b3), .val (.ref b4), .val (.ref b5), .val (.ref b6), .val (.int r162), .val (.int r174), .val (.int (bI (r162 = (-r174)))), .unset, .unset, .unset, .unset]) (S := fun s0_214 => [(.int s0_214)]) ?_ ?_
    · intro T X s0_214 hs0_214
      replace hs0_214 : s0_214 = (bI (r201 = r162)) := hs0_214
      subst hs0_214
      show Goes p e below s _ n0 _ (T.setTop (mkF m 214 #[.val (.int p1), .val (.int p2), .val (.int p3), .val (.int p4), .val (.int p5), .val (.int p6), .val (.int r1), .val (.int r9), .val (.int r15), .val (.int r23), .val (.int r32), .val (.long x46), .second, .val (.int r66), .val (.ref b1), .val (.ref b2), .val (.ref b3), .val (.ref b4), .val (.ref b5), .val (.ref b6), .val (.int r162), .val (.int r174), .val (.int (bI (r162 = (-r174)))), .unset, .unset, .unset, .unset] [(.int (bI (r201 = r162)))]))
      refine g_istore X at_214 rfl (q := 216) (L' := #[.val (.int p1), .val (.int p2), .val (.int p3), .val (.int p4), .val (.int p5), .val (.int p6), .val (.int r1), .val (.int r9), .val (.int r15), .val (.int r23), .val (.int r32), .val (.long x46), .second, .val (.int r66), .val (.ref b1), .val (.ref b2), .val (.ref b3), .val (.ref b4), .val (.ref b5), .val (.ref b6), .val (.int r162), .val (.int r174), .val (.int (bI (r162 = (-r174)))), .val (.int (bI (r201 = r162))), .unset, .unset, .unset]) rfl ?_
      refine g_aload X at_216 rfl (q := 218) rfl rfl ?_
      refine g_aload X at_218 rfl (q := 220) rfl rfl ?_
      refine g_callV X O_b1.1 [(.ref b5)] [] (tw31 hw) (tw32 hw) (tw34 hw) (tw33 hw) (tw15 hw) (tw35 hw) (by decide) (rm7 l Z a0 hw [] b1 b5 r9 r1 r32 r1 _ n0 X.size O_b1 O_b5) pd5 rfl rfl rfl at_220 (q := 223) rfl (W := 0) rfl (by decide) (by decide) (c2 := 6) (s2 := 12) rfl rfl (by decide) (by decide) (fun v T h' X hQ => ?_)
      obtain ⟨rfl, rfl⟩ := hQ
      show Goes p e below s _ n0 _ (T.setTop (mkF m 223 #[.val (.int p1), .val (.int p2), .val (.int p3), .val (.int p4), .val (.int p5), .val (.int p6), .val (.int r1), .val (.int r9), .val (.int r15), .val (.int r23), .val (.int r32), .val (.long x46), .second, .val (.int r66), .val (.ref b1), .val (.ref b2), .val (.ref b3), .val (.ref b4), .val (.ref b5), .val (.ref b6), .val (.int r162), .val (.int r174), .val (.int (bI (r162 = (-r174)))), .val (.int (bI (r201 = r162))), .unset, .unset, .unset] [(.int (if (r9.toInt64 * r1.toInt64) < (r32.toInt64 * r1.toInt64) then (-1 : Int32) else (if (r9.toInt64 * r1.toInt64) = (r32.toInt64 * r1.toInt64) then (0 : Int32) else (1 : Int32))))]))
      refine g_letI (fun r220 hr220 => ?_)
      have b_r220 : (-1 : Int) ≤ r220.toInt ∧ r220.toInt ≤ 1 := by
        have z0 := hr220
        obtain ⟨n1_, hn1_⟩ : ∃ z, z = r9.toInt64 := ⟨_, rfl⟩
        (try simp only [← hn1_] at z0)
        have f1 := c_i2l r9
        (try rw [← hn1_] at f1)
        obtain ⟨n2_, hn2_⟩ : ∃ z, z = r1.toInt64 := ⟨_, rfl⟩
        (try simp only [← hn2_] at z0)
        have f2 := c_i2l r1
        (try rw [← hn2_] at f2)
        obtain ⟨n3_, hn3_⟩ : ∃ z, z = (n1_ * n2_) := ⟨_, rfl⟩
        (try simp only [← hn3_] at z0)
        have f3 := c_lmul n1_ n2_
        (try rw [← hn3_] at f3)
        have f4 := rng64 n3_
        obtain ⟨n4_, hn4_⟩ : ∃ z, z = r32.toInt64 := ⟨_, rfl⟩
        (try simp only [← hn4_] at z0)
        have f5 := c_i2l r32
        (try rw [← hn4_] at f5)
        obtain ⟨n5_, hn5_⟩ : ∃ z, z = (n4_ * n2_) := ⟨_, rfl⟩
        (try simp only [← hn5_] at z0)
        have f6 := c_lmul n4_ n2_
        (try rw [← hn5_] at f6)
        have f7 := rng64 n5_
        have e0 := congrArg Int32.toInt z0
        (try simp only [Int64.lt_iff_toInt_lt, Int32.lt_iff_toInt_lt, Int64.le_iff_toInt_le, Int32.le_iff_toInt_le, ← Int64.toInt_inj, ← Int32.toInt_inj, apply_ite Int64.toInt, apply_ite Int32.toInt, Int64.reduceToInt, Int32.reduceToInt, ne_eq, true_and, and_true, false_or, or_false, iff_self, and_self, not_true_eq_false, not_false_eq_true] at e0)
        omega
      refine g_callS X [(.int r220)] [] (tw40 hw) (tw41 hw) (tw2 hw) (tw42 hw) (by decide) (rm9 l Z a0 hw [] r220 _ n0 X.size) pd2 rfl rfl rfl at_223 (q := 226) rfl (W := 0) rfl (by decide) (by decide) (c2 := 6) (s2 := 12) rfl rfl (by decide) (by decide) (fun v T h' X hQ => ?_)
      obtain ⟨rfl, rfl⟩ := hQ
      show Goes p e below s _ n0 _ (T.setTop (mkF m 226 #[.val (.int p1), .val (.int p2), .val (.int p3), .val (.int p4), .val (.int p5), .val (.int p6), .val (.int r1), .val (.int r9), .val (.int r15), .val (.int r23), .val (.int r32), .val (.long x46), .second, .val (.int r66), .val (.ref b1), .val (.ref b2), .val (.ref b3), .val (.ref b4), .val (.ref b5), .val (.ref b6), .val (.int r162), .val (.int r174), .val (.int (bI (r162 = (-r174)))), .val (.int (bI (r201 = r162))), .unset, .unset, .unset] [(.int (if r220 < (0 : Int32) then (-1 : Int32) else (if (0 : Int32) < r220 then (1 : Int32) else (0 : Int32))))]))
      refine g_letI (fun r223 hr223 => ?_)
      have b_r223 : (-1 : Int) ≤ r223.toInt ∧ r223.toInt ≤ 1 := by
        have z0 := hr223
        have e0 := congrArg Int32.toInt z0
        (try simp only [Int64.lt_iff_toInt_lt, Int32.lt_iff_toInt_lt, Int64.le_iff_toInt_le, Int32.le_iff_toInt_le, ← Int64.toInt_inj, ← Int32.toInt_inj, apply_ite Int64.toInt, apply_ite Int32.toInt, Int64.reduceToInt, Int32.reduceToInt, ne_eq, true_and, and_true, false_or, or_false, iff_self, and_self, not_true_eq_false, not_false_eq_true] at e0)
        omega
      refine g_iload X at_226 rfl (q := 228) rfl ?_
      refine g_iload X at_228 rfl (q := 230) rfl ?_
      refine g_callS X [(.int r9), (.int r32)] [(.int r223)] (tw43 hw) (tw44 hw) (tw2 hw) (tw45 hw) (by decide) (rm10 l Z a0 hw [] r9 r32 _ n0 X.size) pd3 rfl rfl rfl at_230 (q := 233) rfl (W := 1) rfl (by decide) (by decide) (c2 := 6) (s2 := 12) rfl rfl (by decide) (by decide) (fun v T h' X hQ => ?_)
      obtain ⟨rfl, rfl⟩ := hQ
      show Goes p e below s _ n0 _ (T.setTop (mkF m 233 #[.val (.int p1), .val (.int p2), .val (.int p3), .val (.int p4), .val (.int p5), .val (.int p6), .val (.int r1), .val (.int r9), .val (.int r15), .val (.int r23), .val (.int r32), .val (.long x46), .second, .val (.int r66), .val (.ref b1), .val (.ref b2), .val (.ref b3), .val (.ref b4), .val (.ref b5), .val (.ref b6), .val (.int r162), .val (.int r174), .val (.int (bI (r162 = (-r174)))), .val (.int (bI (r201 = r162))), .unset, .unset, .unset] [(.int (if r9 < r32 then (-1 : Int32) else (if r32 < r9 then (1 : Int32) else (0 : Int32)))), (.int r223)]))
      refine g_letI (fun r230 hr230 => ?_)
      have b_r230 : (-1 : Int) ≤ r230.toInt ∧ r230.toInt ≤ 1 := by
        have z0 := hr230
        have e0 := congrArg Int32.toInt z0
        (try simp only [Int64.lt_iff_toInt_lt, Int32.lt_iff_toInt_lt, Int64.le_iff_toInt_le, Int32.le_iff_toInt_le, ← Int64.toInt_inj, ← Int32.toInt_inj, apply_ite Int64.toInt, apply_ite Int32.toInt, Int64.reduceToInt, Int32.reduceToInt, ne_eq, true_and, and_true, false_or, or_false, iff_self, and_self, not_true_eq_false, not_false_eq_true] at e0)
        omega
      refine g_jT1 X (J := 241) (P := fun (s0_241 : Int32) => s0_241 = (bI (r223 = r230))) (L := fun s0_241 => #[.val (.int p1), .val (.int p2), .val (.int p3), .val (.int p4), .val (.int p5), .val (.int p6), .val (.int r1), .val (.int r9), .val (.int r15), .val (.int r23), .val (.int r32), .val (.long x46), .second, .val (.int r66), .val (.ref b1), .val (.ref b2), .val (.ref b3), .val (.ref b4), .val (.ref b5), .val (.ref b6), .val (.int r162), .val (.int r174), .val (.int (bI (r162 = (-r174)))), .val (.int (bI (r201 = r162))), .unset, .unset, .unset]) (S := fun s0_241 => [(.int s0_241)]) ?_ ?_
      · intro T X s0_241 hs0_241
        replace hs0_241 : s0_241 = (bI (r223 = r230)) := hs0_241
        subst hs0_241
        show Goes p e below s _ n0 _ (T.setTop (mkF m 241 #[.val (.int p1), .val (.int p2), .val (.int p3), .val (.int p4), .val (.int p5), .val (.int p6), .val (.int r1), .val (.int r9), .val (.int r15), .val (.int r23), .val (.int r32), .val (.long x46), .second, .val (.int r66), .val (.ref b1), .val (.ref b2), .val (.ref b3), .val (.ref b4), .val (.ref b5), .val (.ref b6), .val (.int r162), .val (.int r174), .val (.int (bI (r162 = (-r174)))), .val (.int (bI (r201 = r162))), .unset, .unset, .unset] [(.int (bI (r223 = r230)))]))
        refine g_istore X at_241 rfl (q := 243) (L' := #[.val (.int p1), .val (.int p2), .val (.int p3), .val (.int p4), .val (.int p5), .val (.int p6), .val (.int r1), .val (.int r9), .val (.int r15), .val (.int r23), .val (.int r32), .val (.long x46), .second, .val (.int r66), .val (.ref b1), .val (.ref b2), .val (.ref b3), .val (.ref b4), .val (.ref b5), .val (.ref b6), .val (.int r162), .val (.int r174), .val (.int (bI (r162 = (-r174)))), .val (.int (bI (r201 = r162))), .val (.int (bI (r223 = r230))), .unset, .unset]) rfl ?_
        refine g_iload X at_243 rfl (q := 245) rfl ?_
        refine g_jT1 X (J := 259) (P := fun (s0_259 : Int32) => s0_259 = (if r9 = (0 : Int32) then (0 : Int32) else (if r66 < r1 then (-1 : Int32) else (if r1 < r66 then (1 : Int32) else (0 : Int32))))) (L := fun s0_259 => #[.val (.int p1), .val (.int p2), .val (.int p3), .val (.int p4), .val (.int p5), .val (.int p6), .val (.int r1), .val (.int r9), .val (.int r15), .val (.int r23), .val (.int r32), .val (.long x46), .second, .val (.int r66), .val (.ref b1), .val (.ref b2), .val (.ref b3), .val (.ref b4), .val (.ref b5), .val (.ref b6), .val (.int r162), .val (.int r174), .val (.int (bI (r162 = (-r174)))), .val (.int (bI (r201 = r162))), .val (.int (bI (r223 = r230))), .unset, .unset]) (S := fun s0_259 => [(.int s0_259)]) ?_ ?_
        · intro T X s0_259 hs0_259
          replace hs0_259 : s0_259 = (if r9 = (0 : Int32) then (0 : Int32) else (if r66 < r1 then (-1 : Int32) else (if r1 < r66 then (1 : Int32) else (0 : Int32)))) := hs0_259
          show Goes p e below s _ n0 _ (T.setTop (mkF m 259 #[.val (.int p1), .val (.int p2), .val (.int p3), .val (.int p4), .val (.int p5), .val (.int p6), .val (.int r1), .val (.int r9), .val (.int r15), .val (.int r23), .val (.int r32), .val (.long x46), .second, .val (.int r66), .val (.ref b1), .val (.ref b2), .val (.ref b3), .val (.ref b4), .val (.ref b5), .val (.ref b6), .val (.int r162), .val (.int r174), .val (.int (bI (r162 = (-r174)))), .val (.int (bI (r201 = r162))), .val (.int (bI (r223 = r230))), .unset, .unset] [(.int s0_259)]))
          have b_s0_259 : (-1 : Int) ≤ s0_259.toInt ∧ s0_259.toInt ≤ 1 := by
            have z0 := hs0_259
            have f1 := rng32 r66
            have e0 := congrArg Int32.toInt z0
            (try simp only [Int64.lt_iff_toInt_lt, Int32.lt_iff_toInt_lt, Int64.le_iff_toInt_le, Int32.le_iff_toInt_le, ← Int64.toInt_inj, ← Int32.toInt_inj, apply_ite Int64.toInt, apply_ite Int32.toInt, Int64.reduceToInt, Int32.reduceToInt, ne_eq, true_and, and_true, false_or, or_false, iff_self, and_self, not_true_eq_false, not_false_eq_true] at e0)
            omega
          refine g_istore X at_259 rfl (q := 261) (L' := #[.val (.int p1), .val (.int p2), .val (.int p3), .val (.int p4), .val (.int p5), .val (.int p6), .val (.int r1), .val (.int r9), .val (.int r15), .val (.int r23), .val (.int r32), .val (.long x46), .second, .val (.int r66), .val (.ref b1), .val (.ref b2), .val (.ref b3), .val (.ref b4), .val (.ref b5), .val (.ref b6), .val (.int r162), .val (.int r174), .val (.int (bI (r162 = (-r174)))), .val (.int (bI (r201 = r162))), .val (.int (bI (r223 = r230))), .val (.int s0_259), .unset]) rfl ?_
          refine g_aload X at_261 rfl (q := 263) rfl rfl ?_
          refine g_aload X at_263 rfl (q := 265) rfl rfl ?_
          refine g_callV X O_b1.1 [(.ref b6)] [] (tw31 hw) (tw32 hw) (tw34 hw) (tw33 hw) (tw15 hw) (tw35 hw) (by decide) (rm7 l Z a0 hw [] b1 b6 r9 r1 r9 r66 _ n0 X.size O_b1 O_b6) pd5 rfl rfl rfl at_265 (q := 268) rfl (W := 0) rfl (by decide) (by decide) (c2 := 6) (s2 := 12) rfl rfl (by decide) (by decide) (fun v T h' X hQ => ?_)
          obtain ⟨rfl, rfl⟩ := hQ
          show Goes p e below s _ n0 _ (T.setTop (mkF m 268 #[.val (.int p1), .val (.int p2), .val (.int p3), .val (.int p4), .val (.int p5), .val (.int p6), .val (.int r1), .val (.int r9), .val (.int r15), .val (.int r23), .val (.int r32), .val (.long x46), .second, .val (.int r66), .val (.ref b1), .val (.ref b2), .val (.ref b3), .val (.ref b4), .val (.ref b5), .val (.ref b6), .val (.int r162), .val (.int r174), .val (.int (bI (r162 = (-r174)))), .val (.int (bI (r201 = r162))), .val (.int (bI (r223 = r230))), .val (.int s0_259), .unset] [(.int (if (r9.toInt64 * r66.toInt64) < (r9.toInt64 * r1.toInt64) then (-1 : Int32) else (if (r9.toInt64 * r66.toInt64) = (r9.toInt64 * r1.toInt64) then (0 : Int32) else (1 : Int32))))]))
          refine g_letI (fun r265 hr265 => ?_)
          have b_r265 : (-1 : Int) ≤ r265.toInt ∧ r265.toInt ≤ 1 := by
            have z0 := hr265
            obtain ⟨n1_, hn1_⟩ : ∃ z, z = r9.toInt64 := ⟨_, rfl⟩
            (try simp only [← hn1_] at z0)
            have f1 := c_i2l r9
            (try rw [← hn1_] at f1)
            have f2 := rng32 r66
            obtain ⟨n2_, hn2_⟩ : ∃ z, z = r66.toInt64 := ⟨_, rfl⟩
            (try simp only [← hn2_] at z0)
            have f3 := c_i2l r66
            (try rw [← hn2_] at f3)
            obtain ⟨n3_, hn3_⟩ : ∃ z, z = (n1_ * n2_) := ⟨_, rfl⟩
            (try simp only [← hn3_] at z0)
            have f4 := c_lmul n1_ n2_
            (try rw [← hn3_] at f4)
            have f5 := rng64 n3_
            obtain ⟨n4_, hn4_⟩ : ∃ z, z = r1.toInt64 := ⟨_, rfl⟩
            (try simp only [← hn4_] at z0)
            have f6 := c_i2l r1
            (try rw [← hn4_] at f6)
            obtain ⟨n5_, hn5_⟩ : ∃ z, z = (n1_ * n4_) := ⟨_, rfl⟩
            (try simp only [← hn5_] at z0)
            have f7 := c_lmul n1_ n4_
            (try rw [← hn5_] at f7)
            have f8 := rng64 n5_
            have e0 := congrArg Int32.toInt z0
            (try simp only [Int64.lt_iff_toInt_lt, Int32.lt_iff_toInt_lt, Int64.le_iff_toInt_le, Int32.le_iff_toInt_le, ← Int64.toInt_inj, ← Int32.toInt_inj, apply_ite Int64.toInt, apply_ite Int32.toInt, Int64.reduceToInt, Int32.reduceToInt, ne_eq, true_and, and_true, false_or, or_false, iff_self, and_self, not_true_eq_false, not_false_eq_true] at e0)
            omega
          refine g_callS X [(.int r265)] [] (tw40 hw) (tw41 hw) (tw2 hw) (tw42 hw) (by decide) (rm9 l Z a0 hw [] r265 _ n0 X.size) pd2 rfl rfl rfl at_268 (q := 271) rfl (W := 0) rfl (by decide) (by decide) (c2 := 6) (s2 := 12) rfl rfl (by decide) (by decide) (fun v T h' X hQ => ?_)
          obtain ⟨rfl, rfl⟩ := hQ
          show Goes p e below s _ n0 _ (T.setTop (mkF m 271 #[.val (.int p1), .val (.int p2), .val (.int p3), .val (.int p4), .val (.int p5), .val (.int p6), .val (.int r1), .val (.int r9), .val (.int r15), .val (.int r23), .val (.int r32), .val (.long x46), .second, .val (.int r66), .val (.ref b1), .val (.ref b2), .val (.ref b3), .val (.ref b4), .val (.ref b5), .val (.ref b6), .val (.int r162), .val (.int r174), .val (.int (bI (r162 = (-r174)))), .val (.int (bI (r201 = r162))), .val (.int (bI (r223 = r230))), .val (.int s0_259), .unset] [(.int (if r265 < (0 : Int32) then (-1 : Int32) else (if (0 : Int32) < r265 then (1 : Int32) else (0 : Int32))))]))
          refine g_letI (fun r268 hr268 => ?_)
          have b_r268 : (-1 : Int) ≤ r268.toInt ∧ r268.toInt ≤ 1 := by
            have z0 := hr268
            have e0 := congrArg Int32.toInt z0
            (try simp only [Int64.lt_iff_toInt_lt, Int32.lt_iff_toInt_lt, Int64.le_iff_toInt_le, Int32.le_iff_toInt_le, ← Int64.toInt_inj, ← Int32.toInt_inj, apply_ite Int64.toInt, apply_ite Int32.toInt, Int64.reduceToInt, Int32.reduceToInt, ne_eq, true_and, and_true, false_or, or_false, iff_self, and_self, not_true_eq_false, not_false_eq_true] at e0)
            omega
          refine g_iload X at_271 rfl (q := 273) rfl ?_
          refine g_jT1 X (J := 281) (P := fun (s0_281 : Int32) => s0_281 = (bI (r268 = s0_259))) (L := fun s0_281 => #[.val (.int p1), .val (.int p2), .val (.int p3), .val (.int p4), .val (.int p5), .val (.int p6), .val (.int r1), .val (.int r9), .val (.int r15), .val (.int r23), .val (.int r32), .val (.long x46), .second, .val (.int r66), .val (.ref b1), .val (.ref b2), .val (.ref b3), .val (.ref b4), .val (.ref b5), .val (.ref b6), .val (.int r162), .val (.int r174), .val (.int (bI (r162 = (-r174)))), .val (.int (bI (r201 = r162))), .val (.int (bI (r223 = r230))), .val (.int s0_259), .unset]) (S := fun s0_281 => [(.int s0_281)]) ?_ ?_
          · intro T X s0_281 hs0_281
            replace hs0_281 : s0_281 = (bI (r268 = s0_259)) := hs0_281
            subst hs0_281
            show Goes p e below s _ n0 _ (T.setTop (mkF m 281 #[.val (.int p1), .val (.int p2), .val (.int p3), .val (.int p4), .val (.int p5), .val (.int p6), .val (.int r1), .val (.int r9), .val (.int r15), .val (.int r23), .val (.int r32), .val (.long x46), .second, .val (.int r66), .val (.ref b1), .val (.ref b2), .val (.ref b3), .val (.ref b4), .val (.ref b5), .val (.ref b6), .val (.int r162), .val (.int r174), .val (.int (bI (r162 = (-r174)))), .val (.int (bI (r201 = r162))), .val (.int (bI (r223 = r230))), .val (.int s0_259), .unset] [(.int (bI (r268 = s0_259)))]))
            refine g_istore X at_281 rfl (q := 283) (L' := #[.val (.int p1), .val (.int p2), .val (.int p3), .val (.int p4), .val (.int p5), .val (.int p6), .val (.int r1), .val (.int r9), .val (.int r15), .val (.int r23), .val (.int r32), .val (.long x46), .second, .val (.int r66), .val (.ref b1), .val (.ref b2), .val (.ref b3), .val (.ref b4), .val (.ref b5), .val (.ref b6), .val (.int r162), .val (.int r174), .val (.int (bI (r162 = (-r174)))), .val (.int (bI (r201 = r162))), .val (.int (bI (r223 = r230))), .val (.int s0_259), .val (.int (bI (r268 = s0_259)))]) rfl ?_
            refine g_iload X at_283 rfl (q := 285) rfl ?_
            refine g_jT1 X (J := 308) (P := fun (s0_308 : Int32) => s0_308 = (bI ((r162 = (-r174)) ∧ ((r201 = r162) ∧ ((r223 = r230) ∧ (r268 = s0_259)))))) (L := fun s0_308 => #[.val (.int p1), .val (.int p2), .val (.int p3), .val (.int p4), .val (.int p5), .val (.int p6), .val (.int r1), .val (.int r9), .val (.int r15), .val (.int r23), .val (.int r32), .val (.long x46), .second, .val (.int r66), .val (.ref b1), .val (.ref b2), .val (.ref b3), .val (.ref b4), .val (.ref b5), .val (.ref b6), .val (.int r162), .val (.int r174), .val (.int (bI (r162 = (-r174)))), .val (.int (bI (r201 = r162))), .val (.int (bI (r223 = r230))), .val (.int s0_259), .val (.int (bI (r268 = s0_259)))]) (S := fun s0_308 => [(.int s0_308)]) ?_ ?_
            · intro T X s0_308 hs0_308
              replace hs0_308 : s0_308 = (bI ((r162 = (-r174)) ∧ ((r201 = r162) ∧ ((r223 = r230) ∧ (r268 = s0_259))))) := hs0_308
              subst hs0_308
              show Goes p e below s _ n0 _ (T.setTop (mkF m 308 #[.val (.int p1), .val (.int p2), .val (.int p3), .val (.int p4), .val (.int p5), .val (.int p6), .val (.int r1), .val (.int r9), .val (.int r15), .val (.int r23), .val (.int r32), .val (.long x46), .second, .val (.int r66), .val (.ref b1), .val (.ref b2), .val (.ref b3), .val (.ref b4), .val (.ref b5), .val (.ref b6), .val (.int r162), .val (.int r174), .val (.int (bI (r162 = (-r174)))), .val (.int (bI (r201 = r162))), .val (.int (bI (r223 = r230))), .val (.int s0_259), .val (.int (bI (r268 = s0_259)))] [(.int (bI ((r162 = (-r174)) ∧ ((r201 = r162) ∧ ((r223 = r230) ∧ (r268 = s0_259))))))]))
              refine g_retZ X at_308 (by decide) (by decide) (bI_01 _) (own_fin ?_)
              show (r162 = (-r174)) ∧ ((r201 = r162) ∧ ((r223 = r230) ∧ (r268 = s0_259)))
              have k1 : ¬ (r9 < (0 : Int32)) := (by first | ((try simp only [Int64.lt_iff_toInt_lt, Int32.lt_iff_toInt_lt, Int64.le_iff_toInt_le, Int32.le_iff_toInt_le, ← Int64.toInt_inj, ← Int32.toInt_inj, apply_ite Int64.toInt, apply_ite Int32.toInt, Int64.reduceToInt, Int32.reduceToInt, ne_eq, true_and, and_true, false_or, or_false, iff_self, and_self, not_true_eq_false, not_false_eq_true]) <;> omega) | (have f1 := rng32 p2; obtain ⟨n1_, hn1_⟩ : ∃ z, z = (p2 &&& (2147483647 : Int32)) := ⟨_, rfl⟩; (try simp only [← hn1_] at hr9 ⊢); have f2 := own_mB p2 (2147483647 : Int32) 31 (by decide) (by decide) 2147483647 (by decide); (try rw [← hn1_] at f2); obtain ⟨n2_, hn2_⟩ : ∃ z, z = n1_.toInt64 := ⟨_, rfl⟩; (try simp only [← hn2_] at hr9 ⊢); have f3 := c_i2l n1_; (try rw [← hn2_] at f3); obtain ⟨n3_, hn3_⟩ : ∃ z, z = r1.toInt64 := ⟨_, rfl⟩; (try simp only [← hn3_] at hr9 ⊢); have f4 := c_i2l r1; (try rw [← hn3_] at f4); obtain ⟨n4_, hn4_⟩ : ∃ z, z = (n3_ + (1 : Int64)) := ⟨_, rfl⟩; (try simp only [← hn4_] at hr9 ⊢); have f5 := own_laddE n3_ (1 : Int64) (by (try simp only [Int64.reduceToInt, Int32.reduceToInt]); omega); (try rw [← hn4_] at f5); (try simp only [Int64.reduceToInt, Int32.reduceToInt] at f5); obtain ⟨n5_, hn5_⟩ : ∃ z, z = (n2_ % n4_) := ⟨_, rfl⟩; (try simp only [← hn5_] at hr9 ⊢); have f6 := own_lremV n2_ n4_ (by omega) (by omega); (try rw [← hn5_] at f6); obtain ⟨n6_, hn6_⟩ : ∃ z, z = n5_.toInt32 := ⟨_, rfl⟩; (try simp only [← hn6_] at hr9 ⊢); have f7 := own_l2iE n5_ (by omega); (try rw [← hn6_] at f7); have e_hr9 := congrArg Int32.toInt hr9; (try simp only [Int64.lt_iff_toInt_lt, Int32.lt_iff_toInt_lt, Int64.le_iff_toInt_le, Int32.le_iff_toInt_le, ← Int64.toInt_inj, ← Int32.toInt_inj, apply_ite Int64.toInt, apply_ite Int32.toInt, Int64.reduceToInt, Int32.reduceToInt, ne_eq, true_and, and_true, false_or, or_false, iff_self, and_self, not_true_eq_false, not_false_eq_true] at e_hr9); (try simp only [Int64.lt_iff_toInt_lt, Int32.lt_iff_toInt_lt, Int64.le_iff_toInt_le, Int32.le_iff_toInt_le, ← Int64.toInt_inj, ← Int32.toInt_inj, apply_ite Int64.toInt, apply_ite Int32.toInt, Int64.reduceToInt, Int32.reduceToInt, ne_eq, true_and, and_true, false_or, or_false, iff_self, and_self, not_true_eq_false, not_false_eq_true]) <;> omega) | (have f1 := rng32 p1; obtain ⟨n1_, hn1_⟩ : ∃ z, z = (p1 &&& (2147483647 : Int32)) := ⟨_, rfl⟩; (try simp only [← hn1_] at hr1 hr9 ⊢); have f2 := own_mB p1 (2147483647 : Int32) 31 (by decide) (by decide) 2147483647 (by decide); (try rw [← hn1_] at f2); have e_hr1 := congrArg Int32.toInt hr1; (try simp only [Int64.lt_iff_toInt_lt, Int32.lt_iff_toInt_lt, Int64.le_iff_toInt_le, Int32.le_iff_toInt_le, ← Int64.toInt_inj, ← Int32.toInt_inj, apply_ite Int64.toInt, apply_ite Int32.toInt, Int64.reduceToInt, Int32.reduceToInt, ne_eq, true_and, and_true, false_or, or_false, iff_self, and_self, not_true_eq_false, not_false_eq_true] at e_hr1); have f3 := rng32 p2; obtain ⟨n2_, hn2_⟩ : ∃ z, z = (p2 &&& (2147483647 : Int32)) := ⟨_, rfl⟩; (try simp only [← hn2_] at hr1 hr9 ⊢); have f4 := own_mB p2 (2147483647 : Int32) 31 (by decide) (by decide) 2147483647 (by decide); (try rw [← hn2_] at f4); obtain ⟨n3_, hn3_⟩ : ∃ z, z = n2_.toInt64 := ⟨_, rfl⟩; (try simp only [← hn3_] at hr1 hr9 ⊢); have f5 := c_i2l n2_; (try rw [← hn3_] at f5); obtain ⟨n4_, hn4_⟩ : ∃ z, z = r1.toInt64 := ⟨_, rfl⟩; (try simp only [← hn4_] at hr1 hr9 ⊢); have f6 := c_i2l r1; (try rw [← hn4_] at f6); obtain ⟨n5_, hn5_⟩ : ∃ z, z = (n4_ + (1 : Int64)) := ⟨_, rfl⟩; (try simp only [← hn5_] at hr1 hr9 ⊢); have f7 := own_laddE n4_ (1 : Int64) (by (try simp only [Int64.reduceToInt, Int32.reduceToInt]); omega); (try rw [← hn5_] at f7); (try simp only [Int64.reduceToInt, Int32.reduceToInt] at f7); obtain ⟨n6_, hn6_⟩ : ∃ z, z = (n3_ % n5_) := ⟨_, rfl⟩; (try simp only [← hn6_] at hr1 hr9 ⊢); have f8 := own_lremV n3_ n5_ (by omega) (by omega); (try rw [← hn6_] at f8); obtain ⟨n7_, hn7_⟩ : ∃ z, z = n6_.toInt32 := ⟨_, rfl⟩; (try simp only [← hn7_] at hr1 hr9 ⊢); have f9 := own_l2iE n6_ (by omega); (try rw [← hn7_] at f9); have e_hr9 := congrArg Int32.toInt hr9; (try simp only [Int64.lt_iff_toInt_lt, Int32.lt_iff_toInt_lt, Int64.le_iff_toInt_le, Int32.le_iff_toInt_le, ← Int64.toInt_inj, ← Int32.toInt_inj, apply_ite Int64.toInt, apply_ite Int32.toInt, Int64.reduceToInt, Int32.reduceToInt, ne_eq, true_and, and_true, false_or, or_false, iff_self, and_self, not_true_eq_false, not_false_eq_true] at e_hr9); (try simp only [Int64.lt_iff_toInt_lt, Int32.lt_iff_toInt_lt, Int64.le_iff_toInt_le, Int32.le_iff_toInt_le, ← Int64.toInt_inj, ← Int32.toInt_inj, apply_ite Int64.toInt, apply_ite Int32.toInt, Int64.reduceToInt, Int32.reduceToInt, ne_eq, true_and, and_true, false_or, or_false, iff_self, and_self, not_true_eq_false, not_false_eq_true]) <;> omega))
              have k2 : ¬ (r1 < r9) := (by first | ((try simp only [Int64.lt_iff_toInt_lt, Int32.lt_iff_toInt_lt, Int64.le_iff_toInt_le, Int32.le_iff_toInt_le, ← Int64.toInt_inj, ← Int32.toInt_inj, apply_ite Int64.toInt, apply_ite Int32.toInt, Int64.reduceToInt, Int32.reduceToInt, ne_eq, true_and, and_true, false_or, or_false, iff_self, and_self, not_true_eq_false, not_false_eq_true]) <;> omega) | (have f1 := rng32 p1; obtain ⟨n1_, hn1_⟩ : ∃ z, z = (p1 &&& (2147483647 : Int32)) := ⟨_, rfl⟩; (try simp only [← hn1_] at hr1 hr9 ⊢); have f2 := own_mB p1 (2147483647 : Int32) 31 (by decide) (by decide) 2147483647 (by decide); (try rw [← hn1_] at f2); have e_hr1 := congrArg Int32.toInt hr1; (try simp only [Int64.lt_iff_toInt_lt, Int32.lt_iff_toInt_lt, Int64.le_iff_toInt_le, Int32.le_iff_toInt_le, ← Int64.toInt_inj, ← Int32.toInt_inj, apply_ite Int64.toInt, apply_ite Int32.toInt, Int64.reduceToInt, Int32.reduceToInt, ne_eq, true_and, and_true, false_or, or_false, iff_self, and_self, not_true_eq_false, not_false_eq_true] at e_hr1); have f3 := rng32 p2; obtain ⟨n2_, hn2_⟩ : ∃ z, z = (p2 &&& (2147483647 : Int32)) := ⟨_, rfl⟩; (try simp only [← hn2_] at hr1 hr9 ⊢); have f4 := own_mB p2 (2147483647 : Int32) 31 (by decide) (by decide) 2147483647 (by decide); (try rw [← hn2_] at f4); obtain ⟨n3_, hn3_⟩ : ∃ z, z = n2_.toInt64 := ⟨_, rfl⟩; (try simp only [← hn3_] at hr1 hr9 ⊢); have f5 := c_i2l n2_; (try rw [← hn3_] at f5); obtain ⟨n4_, hn4_⟩ : ∃ z, z = r1.toInt64 := ⟨_, rfl⟩; (try simp only [← hn4_] at hr1 hr9 ⊢); have f6 := c_i2l r1; (try rw [← hn4_] at f6); obtain ⟨n5_, hn5_⟩ : ∃ z, z = (n4_ + (1 : Int64)) := ⟨_, rfl⟩; (try simp only [← hn5_] at hr1 hr9 ⊢); have f7 := own_laddE n4_ (1 : Int64) (by (try simp only [Int64.reduceToInt, Int32.reduceToInt]); omega); (try rw [← hn5_] at f7); (try simp only [Int64.reduceToInt, Int32.reduceToInt] at f7); obtain ⟨n6_, hn6_⟩ : ∃ z, z = (n3_ % n5_) := ⟨_, rfl⟩; (try simp only [← hn6_] at hr1 hr9 ⊢); have f8 := own_lremV n3_ n5_ (by omega) (by omega); (try rw [← hn6_] at f8); obtain ⟨n7_, hn7_⟩ : ∃ z, z = n6_.toInt32 := ⟨_, rfl⟩; (try simp only [← hn7_] at hr1 hr9 ⊢); have f9 := own_l2iE n6_ (by omega); (try rw [← hn7_] at f9); have e_hr9 := congrArg Int32.toInt hr9; (try simp only [Int64.lt_iff_toInt_lt, Int32.lt_iff_toInt_lt, Int64.le_iff_toInt_le, Int32.le_iff_toInt_le, ← Int64.toInt_inj, ← Int32.toInt_inj, apply_ite Int64.toInt, apply_ite Int32.toInt, Int64.reduceToInt, Int32.reduceToInt, ne_eq, true_and, and_true, false_or, or_false, iff_self, and_self, not_true_eq_false, not_false_eq_true] at e_hr9); (try simp only [Int64.lt_iff_toInt_lt, Int32.lt_iff_toInt_lt, Int64.le_iff_toInt_le, Int32.le_iff_toInt_le, ← Int64.toInt_inj, ← Int32.toInt_inj, apply_ite Int64.toInt, apply_ite Int32.toInt, Int64.reduceToInt, Int32.reduceToInt, ne_eq, true_and, and_true, false_or, or_false, iff_self, and_self, not_true_eq_false, not_false_eq_true]) <;> omega))
              have k3 : (0 : Int32) < r1 := (by first | ((try simp only [Int64.lt_iff_toInt_lt, Int32.lt_iff_toInt_lt, Int64.le_iff_toInt_le, Int32.le_iff_toInt_le, ← Int64.toInt_inj, ← Int32.toInt_inj, apply_ite Int64.toInt, apply_ite Int32.toInt, Int64.reduceToInt, Int32.reduceToInt, ne_eq, true_and, and_true, false_or, or_false, iff_self, and_self, not_true_eq_false, not_false_eq_true]) <;> omega) | (have f1 := rng32 p1; obtain ⟨n1_, hn1_⟩ : ∃ z, z = (p1 &&& (2147483647 : Int32)) := ⟨_, rfl⟩; (try simp only [← hn1_] at hr1 ⊢); have f2 := own_mB p1 (2147483647 : Int32) 31 (by decide) (by decide) 2147483647 (by decide); (try rw [← hn1_] at f2); have e_hr1 := congrArg Int32.toInt hr1; (try simp only [Int64.lt_iff_toInt_lt, Int32.lt_iff_toInt_lt, Int64.le_iff_toInt_le, Int32.le_iff_toInt_le, ← Int64.toInt_inj, ← Int32.toInt_inj, apply_ite Int64.toInt, apply_ite Int32.toInt, Int64.reduceToInt, Int32.reduceToInt, ne_eq, true_and, and_true, false_or, or_false, iff_self, and_self, not_true_eq_false, not_false_eq_true] at e_hr1); (try simp only [Int64.lt_iff_toInt_lt, Int32.lt_iff_toInt_lt, Int64.le_iff_toInt_le, Int32.le_iff_toInt_le, ← Int64.toInt_inj, ← Int32.toInt_inj, apply_ite Int64.toInt, apply_ite Int32.toInt, Int64.reduceToInt, Int32.reduceToInt, ne_eq, true_and, and_true, false_or, or_false, iff_self, and_self, not_true_eq_false, not_false_eq_true]) <;> omega))
              have k4 : ¬ (r23 < (0 : Int32)) := (by first | ((try simp only [Int64.lt_iff_toInt_lt, Int32.lt_iff_toInt_lt, Int64.le_iff_toInt_le, Int32.le_iff_toInt_le, ← Int64.toInt_inj, ← Int32.toInt_inj, apply_ite Int64.toInt, apply_ite Int32.toInt, Int64.reduceToInt, Int32.reduceToInt, ne_eq, true_and, and_true, false_or, or_false, iff_self, and_self, not_true_eq_false, not_false_eq_true]) <;> omega) | (have f1 := rng32 p4; obtain ⟨n1_, hn1_⟩ : ∃ z, z = (p4 &&& (2147483647 : Int32)) := ⟨_, rfl⟩; (try simp only [← hn1_] at hr23 ⊢); have f2 := own_mB p4 (2147483647 : Int32) 31 (by decide) (by decide) 2147483647 (by decide); (try rw [← hn1_] at f2); obtain ⟨n2_, hn2_⟩ : ∃ z, z = n1_.toInt64 := ⟨_, rfl⟩; (try simp only [← hn2_] at hr23 ⊢); have f3 := c_i2l n1_; (try rw [← hn2_] at f3); obtain ⟨n3_, hn3_⟩ : ∃ z, z = r15.toInt64 := ⟨_, rfl⟩; (try simp only [← hn3_] at hr23 ⊢); have f4 := c_i2l r15; (try rw [← hn3_] at f4); obtain ⟨n4_, hn4_⟩ : ∃ z, z = (n3_ + (1 : Int64)) := ⟨_, rfl⟩; (try simp only [← hn4_] at hr23 ⊢); have f5 := own_laddE n3_ (1 : Int64) (by (try simp only [Int64.reduceToInt, Int32.reduceToInt]); omega); (try rw [← hn4_] at f5); (try simp only [Int64.reduceToInt, Int32.reduceToInt] at f5); obtain ⟨n5_, hn5_⟩ : ∃ z, z = (n2_ % n4_) := ⟨_, rfl⟩; (try simp only [← hn5_] at hr23 ⊢); have f6 := own_lremV n2_ n4_ (by omega) (by omega); (try rw [← hn5_] at f6); obtain ⟨n6_, hn6_⟩ : ∃ z, z = n5_.toInt32 := ⟨_, rfl⟩; (try simp only [← hn6_] at hr23 ⊢); have f7 := own_l2iE n5_ (by omega); (try rw [← hn6_] at f7); have e_hr23 := congrArg Int32.toInt hr23; (try simp only [Int64.lt_iff_toInt_lt, Int32.lt_iff_toInt_lt, Int64.le_iff_toInt_le, Int32.le_iff_toInt_le, ← Int64.toInt_inj, ← Int32.toInt_inj, apply_ite Int64.toInt, apply_ite Int32.toInt, Int64.reduceToInt, Int32.reduceToInt, ne_eq, true_and, and_true, false_or, or_false, iff_self, and_self, not_true_eq_false, not_false_eq_true] at e_hr23); (try simp only [Int64.lt_iff_toInt_lt, Int32.lt_iff_toInt_lt, Int64.le_iff_toInt_le, Int32.le_iff_toInt_le, ← Int64.toInt_inj, ← Int32.toInt_inj, apply_ite Int64.toInt, apply_ite Int32.toInt, Int64.reduceToInt, Int32.reduceToInt, ne_eq, true_and, and_true, false_or, or_false, iff_self, and_self, not_true_eq_false, not_false_eq_true]) <;> omega) | (have f1 := rng32 p3; obtain ⟨n1_, hn1_⟩ : ∃ z, z = (p3 &&& (2147483647 : Int32)) := ⟨_, rfl⟩; (try simp only [← hn1_] at hr15 hr23 ⊢); have f2 := own_mB p3 (2147483647 : Int32) 31 (by decide) (by decide) 2147483647 (by decide); (try rw [← hn1_] at f2); have e_hr15 := congrArg Int32.toInt hr15; (try simp only [Int64.lt_iff_toInt_lt, Int32.lt_iff_toInt_lt, Int64.le_iff_toInt_le, Int32.le_iff_toInt_le, ← Int64.toInt_inj, ← Int32.toInt_inj, apply_ite Int64.toInt, apply_ite Int32.toInt, Int64.reduceToInt, Int32.reduceToInt, ne_eq, true_and, and_true, false_or, or_false, iff_self, and_self, not_true_eq_false, not_false_eq_true] at e_hr15); have f3 := rng32 p4; obtain ⟨n2_, hn2_⟩ : ∃ z, z = (p4 &&& (2147483647 : Int32)) := ⟨_, rfl⟩; (try simp only [← hn2_] at hr15 hr23 ⊢); have f4 := own_mB p4 (2147483647 : Int32) 31 (by decide) (by decide) 2147483647 (by decide); (try rw [← hn2_] at f4); obtain ⟨n3_, hn3_⟩ : ∃ z, z = n2_.toInt64 := ⟨_, rfl⟩; (try simp only [← hn3_] at hr15 hr23 ⊢); have f5 := c_i2l n2_; (try rw [← hn3_] at f5); obtain ⟨n4_, hn4_⟩ : ∃ z, z = r15.toInt64 := ⟨_, rfl⟩; (try simp only [← hn4_] at hr15 hr23 ⊢); have f6 := c_i2l r15; (try rw [← hn4_] at f6); obtain ⟨n5_, hn5_⟩ : ∃ z, z = (n4_ + (1 : Int64)) := ⟨_, rfl⟩; (try simp only [← hn5_] at hr15 hr23 ⊢); have f7 := own_laddE n4_ (1 : Int64) (by (try simp only [Int64.reduceToInt, Int32.reduceToInt]); omega); (try rw [← hn5_] at f7); (try simp only [Int64.reduceToInt, Int32.reduceToInt] at f7); obtain ⟨n6_, hn6_⟩ : ∃ z, z = (n3_ % n5_) := ⟨_, rfl⟩; (try simp only [← hn6_] at hr15 hr23 ⊢); have f8 := own_lremV n3_ n5_ (by omega) (by omega); (try rw [← hn6_] at f8); obtain ⟨n7_, hn7_⟩ : ∃ z, z = n6_.toInt32 := ⟨_, rfl⟩; (try simp only [← hn7_] at hr15 hr23 ⊢); have f9 := own_l2iE n6_ (by omega); (try rw [← hn7_] at f9); have e_hr23 := congrArg Int32.toInt hr23; (try simp only [Int64.lt_iff_toInt_lt, Int32.lt_iff_toInt_lt, Int64.le_iff_toInt_le, Int32.le_iff_toInt_le, ← Int64.toInt_inj, ← Int32.toInt_inj, apply_ite Int64.toInt, apply_ite Int32.toInt, Int64.reduceToInt, Int32.reduceToInt, ne_eq, true_and, and_true, false_or, or_false, iff_self, and_self, not_true_eq_false, not_false_eq_true] at e_hr23); (try simp only [Int64.lt_iff_toInt_lt, Int32.lt_iff_toInt_lt, Int64.le_iff_toInt_le, Int32.le_iff_toInt_le, ← Int64.toInt_inj, ← Int32.toInt_inj, apply_ite Int64.toInt, apply_ite Int32.toInt, Int64.reduceToInt, Int32.reduceToInt, ne_eq, true_and, and_true, false_or, or_false, iff_self, and_self, not_true_eq_false, not_false_eq_true]) <;> omega))
              have k5 : ¬ (r15 < r23) := (by first | ((try simp only [Int64.lt_iff_toInt_lt, Int32.lt_iff_toInt_lt, Int64.le_iff_toInt_le, Int32.le_iff_toInt_le, ← Int64.toInt_inj, ← Int32.toInt_inj, apply_ite Int64.toInt, apply_ite Int32.toInt, Int64.reduceToInt, Int32.reduceToInt, ne_eq, true_and, and_true, false_or, or_false, iff_self, and_self, not_true_eq_false, not_false_eq_true]) <;> omega) | (have f1 := rng32 p3; obtain ⟨n1_, hn1_⟩ : ∃ z, z = (p3 &&& (2147483647 : Int32)) := ⟨_, rfl⟩; (try simp only [← hn1_] at hr15 hr23 ⊢); have f2 := own_mB p3 (2147483647 : Int32) 31 (by decide) (by decide) 2147483647 (by decide); (try rw [← hn1_] at f2); have e_hr15 := congrArg Int32.toInt hr15; (try simp only [Int64.lt_iff_toInt_lt, Int32.lt_iff_toInt_lt, Int64.le_iff_toInt_le, Int32.le_iff_toInt_le, ← Int64.toInt_inj, ← Int32.toInt_inj, apply_ite Int64.toInt, apply_ite Int32.toInt, Int64.reduceToInt, Int32.reduceToInt, ne_eq, true_and, and_true, false_or, or_false, iff_self, and_self, not_true_eq_false, not_false_eq_true] at e_hr15); have f3 := rng32 p4; obtain ⟨n2_, hn2_⟩ : ∃ z, z = (p4 &&& (2147483647 : Int32)) := ⟨_, rfl⟩; (try simp only [← hn2_] at hr15 hr23 ⊢); have f4 := own_mB p4 (2147483647 : Int32) 31 (by decide) (by decide) 2147483647 (by decide); (try rw [← hn2_] at f4); obtain ⟨n3_, hn3_⟩ : ∃ z, z = n2_.toInt64 := ⟨_, rfl⟩; (try simp only [← hn3_] at hr15 hr23 ⊢); have f5 := c_i2l n2_; (try rw [← hn3_] at f5); obtain ⟨n4_, hn4_⟩ : ∃ z, z = r15.toInt64 := ⟨_, rfl⟩; (try simp only [← hn4_] at hr15 hr23 ⊢); have f6 := c_i2l r15; (try rw [← hn4_] at f6); obtain ⟨n5_, hn5_⟩ : ∃ z, z = (n4_ + (1 : Int64)) := ⟨_, rfl⟩; (try simp only [← hn5_] at hr15 hr23 ⊢); have f7 := own_laddE n4_ (1 : Int64) (by (try simp only [Int64.reduceToInt, Int32.reduceToInt]); omega); (try rw [← hn5_] at f7); (try simp only [Int64.reduceToInt, Int32.reduceToInt] at f7); obtain ⟨n6_, hn6_⟩ : ∃ z, z = (n3_ % n5_) := ⟨_, rfl⟩; (try simp only [← hn6_] at hr15 hr23 ⊢); have f8 := own_lremV n3_ n5_ (by omega) (by omega); (try rw [← hn6_] at f8); obtain ⟨n7_, hn7_⟩ : ∃ z, z = n6_.toInt32 := ⟨_, rfl⟩; (try simp only [← hn7_] at hr15 hr23 ⊢); have f9 := own_l2iE n6_ (by omega); (try rw [← hn7_] at f9); have e_hr23 := congrArg Int32.toInt hr23; (try simp only [Int64.lt_iff_toInt_lt, Int32.lt_iff_toInt_lt, Int64.le_iff_toInt_le, Int32.le_iff_toInt_le, ← Int64.toInt_inj, ← Int32.toInt_inj, apply_ite Int64.toInt, apply_ite Int32.toInt, Int64.reduceToInt, Int32.reduceToInt, ne_eq, true_and, and_true, false_or, or_false, iff_self, and_self, not_true_eq_false, not_false_eq_true] at e_hr23); (try simp only [Int64.lt_iff_toInt_lt, Int32.lt_iff_toInt_lt, Int64.le_iff_toInt_le, Int32.le_iff_toInt_le, ← Int64.toInt_inj, ← Int32.toInt_inj, apply_ite Int64.toInt, apply_ite Int32.toInt, Int64.reduceToInt, Int32.reduceToInt, ne_eq, true_and, and_true, false_or, or_false, iff_self, and_self, not_true_eq_false, not_false_eq_true]) <;> omega))
              have k6 : (0 : Int32) < r15 := (by first | ((try simp only [Int64.lt_iff_toInt_lt, Int32.lt_iff_toInt_lt, Int64.le_iff_toInt_le, Int32.le_iff_toInt_le, ← Int64.toInt_inj, ← Int32.toInt_inj, apply_ite Int64.toInt, apply_ite Int32.toInt, Int64.reduceToInt, Int32.reduceToInt, ne_eq, true_and, and_true, false_or, or_false, iff_self, and_self, not_true_eq_false, not_false_eq_true]) <;> omega) | (have f1 := rng32 p3; obtain ⟨n1_, hn1_⟩ : ∃ z, z = (p3 &&& (2147483647 : Int32)) := ⟨_, rfl⟩; (try simp only [← hn1_] at hr15 ⊢); have f2 := own_mB p3 (2147483647 : Int32) 31 (by decide) (by decide) 2147483647 (by decide); (try rw [← hn1_] at f2); have e_hr15 := congrArg Int32.toInt hr15; (try simp only [Int64.lt_iff_toInt_lt, Int32.lt_iff_toInt_lt, Int64.le_iff_toInt_le, Int32.le_iff_toInt_le, ← Int64.toInt_inj, ← Int32.toInt_inj, apply_ite Int64.toInt, apply_ite Int32.toInt, Int64.reduceToInt, Int32.reduceToInt, ne_eq, true_and, and_true, false_or, or_false, iff_self, and_self, not_true_eq_false, not_false_eq_true] at e_hr15); (try simp only [Int64.lt_iff_toInt_lt, Int32.lt_iff_toInt_lt, Int64.le_iff_toInt_le, Int32.le_iff_toInt_le, ← Int64.toInt_inj, ← Int32.toInt_inj, apply_ite Int64.toInt, apply_ite Int32.toInt, Int64.reduceToInt, Int32.reduceToInt, ne_eq, true_and, and_true, false_or, or_false, iff_self, and_self, not_true_eq_false, not_false_eq_true]) <;> omega))
              have k7 : ¬ (r32 < (0 : Int32)) := (by first | ((try simp only [Int64.lt_iff_toInt_lt, Int32.lt_iff_toInt_lt, Int64.le_iff_toInt_le, Int32.le_iff_toInt_le, ← Int64.toInt_inj, ← Int32.toInt_inj, apply_ite Int64.toInt, apply_ite Int32.toInt, Int64.reduceToInt, Int32.reduceToInt, ne_eq, true_and, and_true, false_or, or_false, iff_self, and_self, not_true_eq_false, not_false_eq_true]) <;> omega) | (have f1 := rng32 p5; obtain ⟨n1_, hn1_⟩ : ∃ z, z = (p5 &&& (2147483647 : Int32)) := ⟨_, rfl⟩; (try simp only [← hn1_] at hr32 ⊢); have f2 := own_mB p5 (2147483647 : Int32) 31 (by decide) (by decide) 2147483647 (by decide); (try rw [← hn1_] at f2); obtain ⟨n2_, hn2_⟩ : ∃ z, z = n1_.toInt64 := ⟨_, rfl⟩; (try simp only [← hn2_] at hr32 ⊢); have f3 := c_i2l n1_; (try rw [← hn2_] at f3); obtain ⟨n3_, hn3_⟩ : ∃ z, z = r1.toInt64 := ⟨_, rfl⟩; (try simp only [← hn3_] at hr32 ⊢); have f4 := c_i2l r1; (try rw [← hn3_] at f4); obtain ⟨n4_, hn4_⟩ : ∃ z, z = (n3_ + (1 : Int64)) := ⟨_, rfl⟩; (try simp only [← hn4_] at hr32 ⊢); have f5 := own_laddE n3_ (1 : Int64) (by (try simp only [Int64.reduceToInt, Int32.reduceToInt]); omega); (try rw [← hn4_] at f5); (try simp only [Int64.reduceToInt, Int32.reduceToInt] at f5); obtain ⟨n5_, hn5_⟩ : ∃ z, z = (n2_ % n4_) := ⟨_, rfl⟩; (try simp only [← hn5_] at hr32 ⊢); have f6 := own_lremV n2_ n4_ (by omega) (by omega); (try rw [← hn5_] at f6); obtain ⟨n6_, hn6_⟩ : ∃ z, z = n5_.toInt32 := ⟨_, rfl⟩; (try simp only [← hn6_] at hr32 ⊢); have f7 := own_l2iE n5_ (by omega); (try rw [← hn6_] at f7); have e_hr32 := congrArg Int32.toInt hr32; (try simp only [Int64.lt_iff_toInt_lt, Int32.lt_iff_toInt_lt, Int64.le_iff_toInt_le, Int32.le_iff_toInt_le, ← Int64.toInt_inj, ← Int32.toInt_inj, apply_ite Int64.toInt, apply_ite Int32.toInt, Int64.reduceToInt, Int32.reduceToInt, ne_eq, true_and, and_true, false_or, or_false, iff_self, and_self, not_true_eq_false, not_false_eq_true] at e_hr32); (try simp only [Int64.lt_iff_toInt_lt, Int32.lt_iff_toInt_lt, Int64.le_iff_toInt_le, Int32.le_iff_toInt_le, ← Int64.toInt_inj, ← Int32.toInt_inj, apply_ite Int64.toInt, apply_ite Int32.toInt, Int64.reduceToInt, Int32.reduceToInt, ne_eq, true_and, and_true, false_or, or_false, iff_self, and_self, not_true_eq_false, not_false_eq_true]) <;> omega) | (have f1 := rng32 p1; obtain ⟨n1_, hn1_⟩ : ∃ z, z = (p1 &&& (2147483647 : Int32)) := ⟨_, rfl⟩; (try simp only [← hn1_] at hr1 hr32 ⊢); have f2 := own_mB p1 (2147483647 : Int32) 31 (by decide) (by decide) 2147483647 (by decide); (try rw [← hn1_] at f2); have e_hr1 := congrArg Int32.toInt hr1; (try simp only [Int64.lt_iff_toInt_lt, Int32.lt_iff_toInt_lt, Int64.le_iff_toInt_le, Int32.le_iff_toInt_le, ← Int64.toInt_inj, ← Int32.toInt_inj, apply_ite Int64.toInt, apply_ite Int32.toInt, Int64.reduceToInt, Int32.reduceToInt, ne_eq, true_and, and_true, false_or, or_false, iff_self, and_self, not_true_eq_false, not_false_eq_true] at e_hr1); have f3 := rng32 p5; obtain ⟨n2_, hn2_⟩ : ∃ z, z = (p5 &&& (2147483647 : Int32)) := ⟨_, rfl⟩; (try simp only [← hn2_] at hr1 hr32 ⊢); have f4 := own_mB p5 (2147483647 : Int32) 31 (by decide) (by decide) 2147483647 (by decide); (try rw [← hn2_] at f4); obtain ⟨n3_, hn3_⟩ : ∃ z, z = n2_.toInt64 := ⟨_, rfl⟩; (try simp only [← hn3_] at hr1 hr32 ⊢); have f5 := c_i2l n2_; (try rw [← hn3_] at f5); obtain ⟨n4_, hn4_⟩ : ∃ z, z = r1.toInt64 := ⟨_, rfl⟩; (try simp only [← hn4_] at hr1 hr32 ⊢); have f6 := c_i2l r1; (try rw [← hn4_] at f6); obtain ⟨n5_, hn5_⟩ : ∃ z, z = (n4_ + (1 : Int64)) := ⟨_, rfl⟩; (try simp only [← hn5_] at hr1 hr32 ⊢); have f7 := own_laddE n4_ (1 : Int64) (by (try simp only [Int64.reduceToInt, Int32.reduceToInt]); omega); (try rw [← hn5_] at f7); (try simp only [Int64.reduceToInt, Int32.reduceToInt] at f7); obtain ⟨n6_, hn6_⟩ : ∃ z, z = (n3_ % n5_) := ⟨_, rfl⟩; (try simp only [← hn6_] at hr1 hr32 ⊢); have f8 := own_lremV n3_ n5_ (by omega) (by omega); (try rw [← hn6_] at f8); obtain ⟨n7_, hn7_⟩ : ∃ z, z = n6_.toInt32 := ⟨_, rfl⟩; (try simp only [← hn7_] at hr1 hr32 ⊢); have f9 := own_l2iE n6_ (by omega); (try rw [← hn7_] at f9); have e_hr32 := congrArg Int32.toInt hr32; (try simp only [Int64.lt_iff_toInt_lt, Int32.lt_iff_toInt_lt, Int64.le_iff_toInt_le, Int32.le_iff_toInt_le, ← Int64.toInt_inj, ← Int32.toInt_inj, apply_ite Int64.toInt, apply_ite Int32.toInt, Int64.reduceToInt, Int32.reduceToInt, ne_eq, true_and, and_true, false_or, or_false, iff_self, and_self, not_true_eq_false, not_false_eq_true] at e_hr32); (try simp only [Int64.lt_iff_toInt_lt, Int32.lt_iff_toInt_lt, Int64.le_iff_toInt_le, Int32.le_iff_toInt_le, ← Int64.toInt_inj, ← Int32.toInt_inj, apply_ite Int64.toInt, apply_ite Int32.toInt, Int64.reduceToInt, Int32.reduceToInt, ne_eq, true_and, and_true, false_or, or_false, iff_self, and_self, not_true_eq_false, not_false_eq_true]) <;> omega))
              have k8 : (0 : Int32) < r66 := (by first | (have f1 := rng32 r66; (try simp only [Int64.lt_iff_toInt_lt, Int32.lt_iff_toInt_lt, Int64.le_iff_toInt_le, Int32.le_iff_toInt_le, ← Int64.toInt_inj, ← Int32.toInt_inj, apply_ite Int64.toInt, apply_ite Int32.toInt, Int64.reduceToInt, Int32.reduceToInt, ne_eq, true_and, and_true, false_or, or_false, iff_self, and_self, not_true_eq_false, not_false_eq_true]) <;> omega) | (have f1 := rng32 x61; have e_hr66 := congrArg Int32.toInt hr66; (try simp only [Int64.lt_iff_toInt_lt, Int32.lt_iff_toInt_lt, Int64.le_iff_toInt_le, Int32.le_iff_toInt_le, ← Int64.toInt_inj, ← Int32.toInt_inj, apply_ite Int64.toInt, apply_ite Int32.toInt, Int64.reduceToInt, Int32.reduceToInt, ne_eq, true_and, and_true, false_or, or_false, iff_self, and_self, not_true_eq_false, not_false_eq_true] at e_hr66); have f2 := rng32 r66; (try simp only [Int64.lt_iff_toInt_lt, Int32.lt_iff_toInt_lt, Int64.le_iff_toInt_le, Int32.le_iff_toInt_le, ← Int64.toInt_inj, ← Int32.toInt_inj, apply_ite Int64.toInt, apply_ite Int32.toInt, Int64.reduceToInt, Int32.reduceToInt, ne_eq, true_and, and_true, false_or, or_false, iff_self, and_self, not_true_eq_false, not_false_eq_true]) <;> omega) | (have f1 := rng32 p6; obtain ⟨n1_, hn1_⟩ : ∃ z, z = (p6 &&& (2147483647 : Int32)) := ⟨_, rfl⟩; (try simp only [← hn1_] at hx61 hr66 ⊢); have f2 := own_mB p6 (2147483647 : Int32) 31 (by decide) (by decide) 2147483647 (by decide); (try rw [← hn1_] at f2); obtain ⟨n2_, hn2_⟩ : ∃ z, z = n1_.toInt64 := ⟨_, rfl⟩; (try simp only [← hn2_] at hx61 hr66 ⊢); have f3 := c_i2l n1_; (try rw [← hn2_] at f3); obtain ⟨n3_, hn3_⟩ : ∃ z, z = (n2_ % x46) := ⟨_, rfl⟩; (try simp only [← hn3_] at hx61 hr66 ⊢); have f4 := own_lremV n2_ x46 (by omega) (by omega); (try rw [← hn3_] at f4); obtain ⟨n4_, hn4_⟩ : ∃ z, z = n3_.toInt32 := ⟨_, rfl⟩; (try simp only [← hn4_] at hx61 hr66 ⊢); have f5 := own_l2iE n3_ (by omega); (try rw [← hn4_] at f5); obtain ⟨n5_, hn5_⟩ : ∃ z, z = (r9 + n4_) := ⟨_, rfl⟩; (try simp only [← hn5_] at hx61 hr66 ⊢); have f6 := c_iadd r9 n4_; (try rw [← hn5_] at f6); have f7 := rng32 n5_; have e_hx61 := congrArg Int32.toInt hx61; (try simp only [Int64.lt_iff_toInt_lt, Int32.lt_iff_toInt_lt, Int64.le_iff_toInt_le, Int32.le_iff_toInt_le, ← Int64.toInt_inj, ← Int32.toInt_inj, apply_ite Int64.toInt, apply_ite Int32.toInt, Int64.reduceToInt, Int32.reduceToInt, ne_eq, true_and, and_true, false_or, or_false, iff_self, and_self, not_true_eq_false, not_false_eq_true] at e_hx61); have f8 := rng32 x61; have e_hr66 := congrArg Int32.toInt hr66; (try simp only [Int64.lt_iff_toInt_lt, Int32.lt_iff_toInt_lt, Int64.le_iff_toInt_le, Int32.le_iff_toInt_le, ← Int64.toInt_inj, ← Int32.toInt_inj, apply_ite Int64.toInt, apply_ite Int32.toInt, Int64.reduceToInt, Int32.reduceToInt, ne_eq, true_and, and_true, false_or, or_false, iff_self, and_self, not_true_eq_false, not_false_eq_true] at e_hr66); have f9 := rng32 r66; (try simp only [Int64.lt_iff_toInt_lt, Int32.lt_iff_toInt_lt, Int64.le_iff_toInt_le, Int32.le_iff_toInt_le, ← Int64.toInt_inj, ← Int32.toInt_inj, apply_ite Int64.toInt, apply_ite Int32.toInt, Int64.reduceToInt, Int32.reduceToInt, ne_eq, true_and, and_true, false_or, or_false, iff_self, and_self, not_true_eq_false, not_false_eq_true]) <;> omega) | (have f1 := rng32 p1; obtain ⟨n1_, hn1_⟩ : ∃ z, z = (p1 &&& (2147483647 : Int32)) := ⟨_, rfl⟩; (try simp only [← hn1_] at hr1 hr9 hx46 hx61 hr66 ⊢); have f2 := own_mB p1 (2147483647 : Int32) 31 (by decide) (by decide) 2147483647 (by decide); (try rw [← hn1_] at f2); have e_hr1 := congrArg Int32.toInt hr1; (try simp only [Int64.lt_iff_toInt_lt, Int32.lt_iff_toInt_lt, Int64.le_iff_toInt_le, Int32.le_iff_toInt_le, ← Int64.toInt_inj, ← Int32.toInt_inj, apply_ite Int64.toInt, apply_ite Int32.toInt, Int64.reduceToInt, Int32.reduceToInt, ne_eq, true_and, and_true, false_or, or_false, iff_self, and_self, not_true_eq_false, not_false_eq_true] at e_hr1); have f3 := rng32 p2; obtain ⟨n2_, hn2_⟩ : ∃ z, z = (p2 &&& (2147483647 : Int32)) := ⟨_, rfl⟩; (try simp only [← hn2_] at hr1 hr9 hx46 hx61 hr66 ⊢); have f4 := own_mB p2 (2147483647 : Int32) 31 (by decide) (by decide) 2147483647 (by decide); (try rw [← hn2_] at f4); obtain ⟨n3_, hn3_⟩ : ∃ z, z = n2_.toInt64 := ⟨_, rfl⟩; (try simp only [← hn3_] at hr1 hr9 hx46 hx61 hr66 ⊢); have f5 := c_i2l n2_; (try rw [← hn3_] at f5); obtain ⟨n4_, hn4_⟩ : ∃ z, z = r1.toInt64 := ⟨_, rfl⟩; (try simp only [← hn4_] at hr1 hr9 hx46 hx61 hr66 ⊢); have f6 := c_i2l r1; (try rw [← hn4_] at f6); obtain ⟨n5_, hn5_⟩ : ∃ z, z = (n4_ + (1 : Int64)) := ⟨_, rfl⟩; (try simp only [← hn5_] at hr1 hr9 hx46 hx61 hr66 ⊢); have f7 := own_laddE n4_ (1 : Int64) (by (try simp only [Int64.reduceToInt, Int32.reduceToInt]); omega); (try rw [← hn5_] at f7); (try simp only [Int64.reduceToInt, Int32.reduceToInt] at f7); obtain ⟨n6_, hn6_⟩ : ∃ z, z = (n3_ % n5_) := ⟨_, rfl⟩; (try simp only [← hn6_] at hr1 hr9 hx46 hx61 hr66 ⊢); have f8 := own_lremV n3_ n5_ (by omega) (by omega); (try rw [← hn6_] at f8); obtain ⟨n7_, hn7_⟩ : ∃ z, z = n6_.toInt32 := ⟨_, rfl⟩; (try simp only [← hn7_] at hr1 hr9 hx46 hx61 hr66 ⊢); have f9 := own_l2iE n6_ (by omega); (try rw [← hn7_] at f9); have e_hr9 := congrArg Int32.toInt hr9; (try simp only [Int64.lt_iff_toInt_lt, Int32.lt_iff_toInt_lt, Int64.le_iff_toInt_le, Int32.le_iff_toInt_le, ← Int64.toInt_inj, ← Int32.toInt_inj, apply_ite Int64.toInt, apply_ite Int32.toInt, Int64.reduceToInt, Int32.reduceToInt, ne_eq, true_and, and_true, false_or, or_false, iff_self, and_self, not_true_eq_false, not_false_eq_true] at e_hr9); obtain ⟨n8_, hn8_⟩ : ∃ z, z = r9.toInt64 := ⟨_, rfl⟩; (try simp only [← hn8_] at hr1 hr9 hx46 hx61 hr66 ⊢); have f10 := c_i2l r9; (try rw [← hn8_] at f10); obtain ⟨n9_, hn9_⟩ : ∃ z, z = ((2147483647 : Int64) - n8_) := ⟨_, rfl⟩; (try simp only [← hn9_] at hr1 hr9 hx46 hx61 hr66 ⊢); have f11 := own_lsubE (2147483647 : Int64) n8_ (by (try simp only [Int64.reduceToInt, Int32.reduceToInt]); omega); (try rw [← hn9_] at f11); (try simp only [Int64.reduceToInt, Int32.reduceToInt] at f11); obtain ⟨n10_, hn10_⟩ : ∃ z, z = (n9_ + (1 : Int64)) := ⟨_, rfl⟩; (try simp only [← hn10_] at hr1 hr9 hx46 hx61 hr66 ⊢); have f12 := own_laddE n9_ (1 : Int64) (by (try simp only [Int64.reduceToInt, Int32.reduceToInt]); omega); (try rw [← hn10_] at f12); (try simp only [Int64.reduceToInt, Int32.reduceToInt] at f12); have e_hx46 := congrArg Int64.toInt hx46; (try simp only [Int64.lt_iff_toInt_lt, Int32.lt_iff_toInt_lt, Int64.le_iff_toInt_le, Int32.le_iff_toInt_le, ← Int64.toInt_inj, ← Int32.toInt_inj, apply_ite Int64.toInt, apply_ite Int32.toInt, Int64.reduceToInt, Int32.reduceToInt, ne_eq, true_and, and_true, false_or, or_false, iff_self, and_self, not_true_eq_false, not_false_eq_true] at e_hx46); have f13 := rng32 p6; obtain ⟨n11_, hn11_⟩ : ∃ z, z = (p6 &&& (2147483647 : Int32)) := ⟨_, rfl⟩; (try simp only [← hn11_] at hr1 hr9 hx46 hx61 hr66 ⊢); have f14 := own_mB p6 (2147483647 : Int32) 31 (by decide) (by decide) 2147483647 (by decide); (try rw [← hn11_] at f14); obtain ⟨n12_, hn12_⟩ : ∃ z, z = n11_.toInt64 := ⟨_, rfl⟩; (try simp only [← hn12_] at hr1 hr9 hx46 hx61 hr66 ⊢); have f15 := c_i2l n11_; (try rw [← hn12_] at f15); obtain ⟨n13_, hn13_⟩ : ∃ z, z = (n12_ % x46) := ⟨_, rfl⟩; (try simp only [← hn13_] at hr1 hr9 hx46 hx61 hr66 ⊢); have f16 := own_lremV n12_ x46 (by omega) (by omega); (try rw [← hn13_] at f16); obtain ⟨n14_, hn14_⟩ : ∃ z, z = n13_.toInt32 := ⟨_, rfl⟩; (try simp only [← hn14_] at hr1 hr9 hx46 hx61 hr66 ⊢); have f17 := own_l2iE n13_ (by omega); (try rw [← hn14_] at f17); obtain ⟨n15_, hn15_⟩ : ∃ z, z = (r9 + n14_) := ⟨_, rfl⟩; (try simp only [← hn15_] at hr1 hr9 hx46 hx61 hr66 ⊢); have f18 := c_iadd r9 n14_; (try rw [← hn15_] at f18); have f19 := rng32 n15_; have e_hx61 := congrArg Int32.toInt hx61; (try simp only [Int64.lt_iff_toInt_lt, Int32.lt_iff_toInt_lt, Int64.le_iff_toInt_le, Int32.le_iff_toInt_le, ← Int64.toInt_inj, ← Int32.toInt_inj, apply_ite Int64.toInt, apply_ite Int32.toInt, Int64.reduceToInt, Int32.reduceToInt, ne_eq, true_and, and_true, false_or, or_false, iff_self, and_self, not_true_eq_false, not_false_eq_true] at e_hx61); have f20 := rng32 x61; have e_hr66 := congrArg Int32.toInt hr66; (try simp only [Int64.lt_iff_toInt_lt, Int32.lt_iff_toInt_lt, Int64.le_iff_toInt_le, Int32.le_iff_toInt_le, ← Int64.toInt_inj, ← Int32.toInt_inj, apply_ite Int64.toInt, apply_ite Int32.toInt, Int64.reduceToInt, Int32.reduceToInt, ne_eq, true_and, and_true, false_or, or_false, iff_self, and_self, not_true_eq_false, not_false_eq_true] at e_hr66); have f21 := rng32 r66; (try simp only [Int64.lt_iff_toInt_lt, Int32.lt_iff_toInt_lt, Int64.le_iff_toInt_le, Int32.le_iff_toInt_le, ← Int64.toInt_inj, ← Int32.toInt_inj, apply_ite Int64.toInt, apply_ite Int32.toInt, Int64.reduceToInt, Int32.reduceToInt, ne_eq, true_and, and_true, false_or, or_false, iff_self, and_self, not_true_eq_false, not_false_eq_true]) <;> omega))
              simp only [Int32.lt_iff_toInt_lt, Int32.reduceToInt] at k1 k2 k3 k4 k5 k6 k7 k8
              have m1 : b3_0_108.toInt = r1.toInt - r9.toInt := by rw [hb3_0_108]; exact own_isubE r1 r9 (by have := rng32 r1; omega)
              have m2 : b4_0_124.toInt = r15.toInt - r23.toInt := by rw [hb4_0_124]; exact own_isubE r15 r23 (by have := rng32 r15; omega)
              exact own_share r9 r1 r23 r15 r32 r66 r230 s0_259 r162 r174 r201 r223 r268 r159 r171 r198 r220 r265 ⟨by omega, by omega⟩ (by omega) ⟨by omega, by omega⟩ (by omega) (by omega) (by omega) b3_0_108 b4_0_124 m1 m2 hr159 hr162 hr171 hr174 hr198 hr201 hr220 hr223 hr230 hs0_259 hr265 hr268
            · intro J308_0
              refine g_beq X at_285 (q := 288) rfl (by decide) (t := 307) rfl (fun (c1 : r162 = (-r174)) => ?_) (fun (c1 : ¬ (r162 = (-r174))) => ?_)
              · skip
                refine g_iload X at_288 rfl (q := 290) rfl ?_
                refine g_beq X at_290 (q := 293) rfl (by decide) (t := 307) rfl (fun (c2 : r201 = r162) => ?_) (fun (c2 : ¬ (r201 = r162)) => ?_)
                · skip
                  refine g_iload X at_293 rfl (q := 295) rfl ?_
                  refine g_beq X at_295 (q := 298) rfl (by decide) (t := 307) rfl (fun (c3 : r223 = r230) => ?_) (fun (c3 : ¬ (r223 = r230)) => ?_)
                  · skip
                    refine g_iload X at_298 rfl (q := 300) rfl ?_
                    refine g_beq X at_300 (q := 303) rfl (by decide) (t := 307) rfl (fun (c4 : r268 = s0_259) => ?_) (fun (c4 : ¬ (r268 = s0_259)) => ?_)
                    · skip
                      refine g_iconst X at_303 rfl (q := 304) (v := 1) rfl ?_
                      refine g_goto X at_304 (by decide) (q := 308) rfl ?_
                      exact J308_0 T X _ (bI_t ⟨c1, ⟨c2, ⟨c3, c4⟩⟩⟩)
                    · skip
                      refine g_iconst X at_307 rfl (q := 308) (v := 0) rfl ?_
                      exact J308_0 T X _ (bI_f (fun z => (fun z => (fun z => c4 z.2) z.2) z.2))
                  · skip
                    refine g_iconst X at_307 rfl (q := 308) (v := 0) rfl ?_
                    exact J308_0 T X _ (bI_f (fun z => (fun z => (fun z => c3 z.1) z.2) z.2))
                · skip
                  refine g_iconst X at_307 rfl (q := 308) (v := 0) rfl ?_
                  exact J308_0 T X _ (bI_f (fun z => (fun z => c2 z.1) z.2))
              · skip
                refine g_iconst X at_307 rfl (q := 308) (v := 0) rfl ?_
                exact J308_0 T X _ (bI_f (fun z => c1 z.1))
          · intro J281_4
            refine g_icmpB X at_273 (Or.inr (Or.inr rfl)) (q := 276) rfl (by decide) (t := 280) rfl (fun (c5 : r268 = s0_259) => ?_) (fun (c5 : ¬ (r268 = s0_259)) => ?_)
            · skip
              refine g_iconst X at_276 rfl (q := 277) (v := 1) rfl ?_
              refine g_goto X at_277 (by decide) (q := 281) rfl ?_
              exact J281_4 T X _ (bI_t c5)
            · skip
              refine g_iconst X at_280 rfl (q := 281) (v := 0) rfl ?_
              exact J281_4 T X _ (bI_f c5)
        · intro J259_5
          refine g_ifB X at_245 (Or.inr (Or.inr rfl)) (q := 248) rfl (by decide) (t := 252) rfl (fun (c6 : r9 = (0 : Int32)) => ?_) (fun (c6 : ¬ (r9 = (0 : Int32))) => ?_)
          · skip
            have b_r9 : (0 : Int) ≤ r9.toInt ∧ r9.toInt ≤ 0 := by have z0 := c6; (try simp only [Int64.lt_iff_toInt_lt, Int32.lt_iff_toInt_lt, Int64.le_iff_toInt_le, Int32.le_iff_toInt_le, ← Int64.toInt_inj, ← Int32.toInt_inj, apply_ite Int64.toInt, apply_ite Int32.toInt, Int64.reduceToInt, Int32.reduceToInt, ne_eq] at z0); have z1 := rng32 r9; omega
            refine g_iconst X at_248 rfl (q := 249) (v := 0) rfl ?_
            refine g_goto X at_249 (by decide) (q := 259) rfl ?_
            exact J259_5 T X _ ((if_pos c6).symm)
          · skip
            refine g_iload X at_252 rfl (q := 254) rfl ?_
            refine g_iload X at_254 rfl (q := 256) rfl ?_
            refine g_callS X [(.int r66), (.int r1)] [] (tw43 hw) (tw44 hw) (tw2 hw) (tw45 hw) (by decide) (rm10 l Z a0 hw [] r66 r1 _ n0 X.size) pd3 rfl rfl rfl at_256 (q := 259) rfl (W := 0) rfl (by decide) (by decide) (c2 := 6) (s2 := 12) rfl rfl (by decide) (by decide) (fun v T h' X hQ => ?_)
            obtain ⟨rfl, rfl⟩ := hQ
            show Goes p e below s _ n0 _ (T.setTop (mkF m 259 #[.val (.int p1), .val (.int p2), .val (.int p3), .val (.int p4), .val (.int p5), .val (.int p6), .val (.int r1), .val (.int r9), .val (.int r15), .val (.int r23), .val (.int r32), .val (.long x46), .second, .val (.int r66), .val (.ref b1), .val (.ref b2), .val (.ref b3), .val (.ref b4), .val (.ref b5), .val (.ref b6), .val (.int r162), .val (.int r174), .val (.int (bI (r162 = (-r174)))), .val (.int (bI (r201 = r162))), .val (.int (bI (r223 = r230))), .unset, .unset] [(.int (if r66 < r1 then (-1 : Int32) else (if r1 < r66 then (1 : Int32) else (0 : Int32))))]))
            exact J259_5 T X _ ((if_neg c6).symm)
      · intro J241_6
        refine g_icmpB X at_233 (Or.inr (Or.inr rfl)) (q := 236) rfl (by decide) (t := 240) rfl (fun (c7 : r223 = r230) => ?_) (fun (c7 : ¬ (r223 = r230)) => ?_)
        · skip
          refine g_iconst X at_236 rfl (q := 237) (v := 1) rfl ?_
          refine g_goto X at_237 (by decide) (q := 241) rfl ?_
          exact J241_6 T X _ (bI_t c7)
        · skip
          refine g_iconst X at_240 rfl (q := 241) (v := 0) rfl ?_
          exact J241_6 T X _ (bI_f c7)
    · intro J214_7
      refine g_icmpB X at_206 (Or.inr (Or.inr rfl)) (q := 209) rfl (by decide) (t := 213) rfl (fun (c8 : r201 = r162) => ?_) (fun (c8 : ¬ (r201 = r162)) => ?_)
      · skip
        refine g_iconst X at_209 rfl (q := 210) (v := 1) rfl ?_
        refine g_goto X at_210 (by decide) (q := 214) rfl ?_
        exact J214_7 T X _ (bI_t c8)
      · skip
        refine g_iconst X at_213 rfl (q := 214) (v := 0) rfl ?_
        exact J214_7 T X _ (bI_f c8)
  · intro J192_8
    refine g_icmpB X at_184 (Or.inr (Or.inr rfl)) (q := 187) rfl (by decide) (t := 191) rfl (fun (c9 : r162 = (-r174)) => ?_) (fun (c9 : ¬ (r162 = (-r174))) => ?_)
    · skip
      refine g_iconst X at_187 rfl (q := 188) (v := 1) rfl ?_
      refine g_goto X at_188 (by decide) (q := 192) rfl ?_
      exact J192_8 T X _ (bI_t c9)
    · skip
      refine g_iconst X at_191 rfl (q := 192) (v := 0) rfl ?_
      exact J192_8 T X _ (bI_f c9)
set_option maxRecDepth 65536 in
set_option maxHeartbeats 40000000 in
theorem comes_1 {Post : Tables → Env → Array Value → State → Outcome → State → Prop} (hpost : ∀ tb e args s v u, (limb_1_1.after args s (.returned v) u = true ∧ limb_1_2.after args s (.returned v) u = true ∧ True) → FrameEnd s (.returned v) u (Jvm.fieldLocs frame_1_writes args s ++ Jvm.arrayLocs frame_1_arrays args s ++ Jvm.staticLocs frame_1_statics s) 24 128 → Post tb e args s (.returned v) u) :
    ArmFor flags0 classFile x code maxLocals ret World_1 tables_1 room_1 Calls_1 rest_1 Pre_1 Post := by
  intro l hfl _ _ p e ha hc hk s m args below hf hA hF happ hP
  obtain ⟨hcalls, hrest, hpre⟩ := hP
  obtain ⟨-, -, -, hnamed, -, -, -, hat⟩ := (Spec.applies_iff hf).mp happ
  obtain ⟨hg, hn⟩ := and_e (Cond.before_iff.mp (show (Jvm.Cond.and given_1 narrow_1).before args s = true from hpre))
  obtain ⟨u1, w1⟩ := and_e hg
  obtain ⟨u2, w2⟩ := and_e w1
  obtain ⟨u3, w3⟩ := and_e w2
  obtain ⟨u4, w4⟩ := and_e w3
  obtain ⟨u5, w5⟩ := and_e w4
  obtain ⟨u6, w6⟩ := and_e w5
  obtain ⟨z0, z1, z2, z3, z4, z5, rfl⟩ : ∃ z0 z1 z2 z3 z4 z5 : Value, args = #[z0, z1, z2, z3, z4, z5] := by
    have hs : args.size = 6 := by simpa [Cond.value, given_1] using u1
    obtain ⟨L⟩ := args
    match L, hs with
    | [z0, z1, z2, z3, z4, z5], _ => exact ⟨z0, z1, z2, z3, z4, z5, rfl⟩
  have hw := fun d (hd : d ∈ tables_1) => atoms_spec (ws := Jvm.Cond.code x code maxLocals ret :: tables_1) hat d (List.mem_cons_of_mem _ hd)
  obtain ⟨i0, ei0⟩ := is_v u2
  obtain rfl : z0 = (.int i0) := Option.some.inj ei0
  obtain ⟨i1, ei1⟩ := is_v u3
  obtain rfl : z1 = (.int i1) := Option.some.inj ei1
  obtain ⟨i2, ei2⟩ := is_v u4
  obtain rfl : z2 = (.int i2) := Option.some.inj ei2
  obtain ⟨i3, ei3⟩ := is_v u5
  obtain rfl : z3 = (.int i3) := Option.some.inj ei3
  obtain ⟨i4, ei4⟩ := is_v u6
  obtain rfl : z4 = (.int i4) := Option.some.inj ei4
  obtain ⟨i5, ei5⟩ := is_v w6
  obtain rfl : z5 = (.int i5) := Option.some.inj ei5
  obtain ⟨n, o, h1, h2, h3, _, L, rfl, ⟨N, rfl⟩, hq⟩ := rm0 l s _ hw tables_1 i0 i1 i2 i3 i4 i5 s.heap s.heap.size (Nat.le_refl _) p e ha hc hk s m _ below hf ((Spec.applies_iff_loose hf).mp happ).1 ⟨rfl, State.Warmed39.refl s, rfl⟩ trivial
  refine ⟨n, _, h1, h2, h3, hpost _ _ _ _ _ _ ⟨Cond.after_iff.mpr rfl, Cond.after_iff.mpr (eq_i res_at (Term.int_eval (1)) rfl), trivial⟩ ⟨hq.1, hq.2.1, (hq.2.2.sift fun y hy => Or.inr (N y hy)).mono (by decide) (by decide)⟩⟩
theorem main_1_1 : Claimed_1_1 := comes_1 fun _ _ _ _ _ _ h hF => ⟨h.1, hF⟩
theorem main_1_2 : Claimed_1_2 := comes_1 fun _ _ _ _ _ _ h hF => ⟨h.2.1, hF⟩
end Jvm.Pilot.@@N@@
namespace Jvm.Pilot.@@N@@
open Jvm Jvm.ClassFile Sem Op Lib Jvm.Free Jvm.Stand Jvm.Pilot.@@N@@.Jvm.D
/-! MADE BY PROGRAM (witnessworld.py) out of the Statement's table words and the real class files: 16 classes; the members and pool entries that the words name. The judged class is class 1, her method 5. -/
namespace start1
open Jvm.ClassFile
def u (s : String) : CpInfo := .utf8 (stringToUtf16 s)
/-- a pool by its gaps: so many unusable entries, then the entry; so many at the end -/
def gap : Nat → List CpInfo → List CpInfo
  | 0, r => r
  | n + 1, r => .unusable :: gap n r
def poolList (es : List (Nat × CpInfo)) (last : Nat) : List CpInfo := es.foldr (fun e r => gap e.1 (e.2 :: r)) (gap last [])
def pool (es : List (Nat × CpInfo)) (last : Nat) : Array CpInfo := ⟨poolList es last⟩
def fileOf (pool : Array CpInfo) (this : Nat) (attrs : Array Attribute := #[]) (ms : Array MethodInfo := #[]) (fl : Nat := 33) (sup : Nat := 0) (ifs : Array Nat := #[]) (fds : Array FieldInfo := #[]) : ClassFile where
  minorVersion := 0
  majorVersion := 65
  constantPool := pool
  accessFlags := fl
  thisClass := this
  superClass := sup
  interfaces := ifs
  fields := fds
  methods := ms
  attributes := attrs
def plain (name : String) (sup : Option ClassId) : Class where
  name := name
  kind := .ordinary
  loader := none
  accessFlags := 33
  super := sup
  interfaces := #[]
  cf := none
  fields := #[]
  methods := #[]
  instanceTypes := #[]
  staticTypes := #[]
  resolved := #[]
  callSites := []
  init := .initialized
  statics := none
  mirror := none

def pool0 : Array CpInfo := pool [(5, u "<init>"), (0, u "()V"), (1, .class_ 10), (1, u "java/lang/Object")] 113

def k0c0 : Code := { maxStack := 0, maxLocals := 1, code := object_method_1_code, exceptionTable := #[], attributes := #[] }
def k0m0 : Method := { name := "<init>", desc := "()V", sig := { parameters := [], returnType := none }, accessFlags := 1, code := some k0c0 }
/-- java/lang/Object -/
def k0 : Class := { plain "java/lang/Object" none with
  accessFlags := 33
  interfaces := #[]
  cf := some (fileOf pool0 8 #[] #[{ accessFlags := 1, nameIndex := 5, descriptorIndex := 6, attributes := #[] }] 33 0 #[] #[])
  fields := #[]
  methods := #[k0m0]
  instanceTypes := #[]
  staticTypes := #[]
  resolved := Array.replicate 124 none
  statics := none }

def pool1 : Array CpInfo := pool [(2, .class_ 4), (1, u "java/lang/Object"), (0, u "<init>"), (0, u "()V"), (0, .integer 2147483647), (0, .methodref 9 10), (0, .class_ 11), (0, .nameAndType 12 13), (0, u "com/example/masked_merge/maskedmerge/core/ShareCompareToPinLaw"), (0, u "size"), (0, u "(I)I"), (0, .methodref 9 15), (0, .nameAndType 16 17), (0, u "cnt"), (0, u "(II)I"), (2, .long 2147483647), (1, .methodref 23 24), (0, .class_ 25), (0, .nameAndType 26 17), (0, u "java/lang/Math"), (0, u "max"), (0, .class_ 28), (0, u "com/example/masked_merge/maskedmerge/core/Share"), (0, .methodref 27 30), (0, .nameAndType 5 31), (0, u "(II)V"), (0, .methodref 27 33), (0, .nameAndType 34 35), (0, u "compareTo"), (0, u "(Lcom/example/masked_merge/maskedmerge/core/Share;)I"), (0, .methodref 9 37), (0, .nameAndType 38 13), (0, u "sg"), (0, .methodref 9 40), (0, .nameAndType 41 17), (0, u "cmp"), (3, u "law"), (0, u "(IIIIII)Z")] 2

def k1m0 : Method := { name := "<init>", desc := "()V", sig := { parameters := [], returnType := none }, accessFlags := 1, code := none }
def k1c1 : Code := { maxStack := 2, maxLocals := 2, code := method_2_code, exceptionTable := #[], attributes := #[] }
def k1m1 : Method := { name := "size", desc := "(I)I", sig := { parameters := [.int], returnType := some .int }, accessFlags := 10, code := some k1c1 }
def k1c2 : Code := { maxStack := 6, maxLocals := 2, code := method_3_code, exceptionTable := #[], attributes := #[] }
def k1m2 : Method := { name := "cnt", desc := "(II)I", sig := { parameters := [.int, .int], returnType := some .int }, accessFlags := 10, code := some k1c2 }
def k1c3 : Code := { maxStack := 1, maxLocals := 1, code := method_4_code, exceptionTable := #[], attributes := #[] }
def k1m3 : Method := { name := "sg", desc := "(I)I", sig := { parameters := [.int], returnType := some .int }, accessFlags := 10, code := some k1c3 }
def k1c4 : Code := { maxStack := 2, maxLocals := 2, code := method_5_code, exceptionTable := #[], attributes := #[] }
def k1m4 : Method := { name := "cmp", desc := "(II)I", sig := { parameters := [.int, .int], returnType := some .int }, accessFlags := 10, code := some k1c4 }
def k1c5 : Code := { maxStack := 5, maxLocals := 27, code := code, exceptionTable := #[], attributes := #[] }
def k1m5 : Method := { name := "law", desc := "(IIIIII)Z", sig := { parameters := [.int, .int, .int, .int, .int, .int], returnType := some .boolean }, accessFlags := 9, code := some k1c5 }
/-- com/example/masked_merge/maskedmerge/core/ShareCompareToPinLaw -/
def k1 : Class := { plain "com/example/masked_merge/maskedmerge/core/ShareCompareToPinLaw" (some 0) with
  accessFlags := 49
  interfaces := #[]
  cf := some (fileOf pool1 9 #[] #[{ accessFlags := 1, nameIndex := 5, descriptorIndex := 6, attributes := #[] }, { accessFlags := 10, nameIndex := 12, descriptorIndex := 13, attributes := #[] }, { accessFlags := 10, nameIndex := 16, descriptorIndex := 17, attributes := #[] }, { accessFlags := 10, nameIndex := 38, descriptorIndex := 13, attributes := #[] }, { accessFlags := 10, nameIndex := 41, descriptorIndex := 17, attributes := #[] }, { accessFlags := 9, nameIndex := 45, descriptorIndex := 46, attributes := #[] }] 49 2 #[] #[])
  fields := #[]
  methods := #[k1m0, k1m1, k1m2, k1m3, k1m4, k1m5]
  instanceTypes := #[]
  staticTypes := #[]
  resolved := Array.replicate 49 none
  statics := none }

def pool2 : Array CpInfo := pool [(1, .class_ 2), (0, u "java/lang/Math"), (1, .class_ 6), (1, u "java/lang/Object"), (0, u "<init>"), (0, u "()V"), (89, .class_ 100), (1, u "java/lang/Math$RandomNumberGeneratorHolder"), (71, u "negativeZeroFloatBits"), (0, u "J"), (2, u "negativeZeroDoubleBits"), (21, u "max"), (46, u "$assertionsDisabled"), (0, u "Z"), (88, u "(II)I"), (2, u "twoToTheDoubleScaleDown"), (0, u "D"), (4, u "twoToTheDoubleScaleUp"), (9, u "E"), (3, u "PI"), (2, u "TAU"), (2, u "DEGREES_TO_RADIANS"), (0, u "RADIANS_TO_DEGREES")] 94

def k2m0 : Method := { name := "<init>", desc := "()V", sig := { parameters := [], returnType := none }, accessFlags := 2, code := none }
def k2c1 : Code := { maxStack := 2, maxLocals := 2, code := jdk_29_method_65_code, exceptionTable := #[], attributes := #[] }
def k2m1 : Method := { name := "max", desc := "(II)I", sig := { parameters := [.int, .int], returnType := some .int }, accessFlags := 9, code := some k2c1 }
/-- java/lang/Math -/
def k2 : Class := { plain "java/lang/Math" (some 0) with
  accessFlags := 49
  interfaces := #[]
  cf := some (fileOf pool2 1 #[.nestMembers #[98]] #[{ accessFlags := 2, nameIndex := 7, descriptorIndex := 8, attributes := #[] }, { accessFlags := 9, nameIndex := 198, descriptorIndex := 335, attributes := #[] }] 49 4 #[] #[{ accessFlags := 25, nameIndex := 354, descriptorIndex := 339, attributes := #[] }, { accessFlags := 25, nameIndex := 358, descriptorIndex := 339, attributes := #[] }, { accessFlags := 25, nameIndex := 361, descriptorIndex := 339, attributes := #[] }, { accessFlags := 26, nameIndex := 364, descriptorIndex := 339, attributes := #[] }, { accessFlags := 26, nameIndex := 365, descriptorIndex := 339, attributes := #[] }, { accessFlags := 26, nameIndex := 172, descriptorIndex := 173, attributes := #[] }, { accessFlags := 26, nameIndex := 176, descriptorIndex := 173, attributes := #[] }, { accessFlags := 8, nameIndex := 344, descriptorIndex := 339, attributes := #[] }, { accessFlags := 8, nameIndex := 338, descriptorIndex := 339, attributes := #[] }, { accessFlags := 4120, nameIndex := 245, descriptorIndex := 246, attributes := #[] }])
  fields := #[{ name := "E", type := .double, accessFlags := 25, slot := 0, constantValue := 0 }, { name := "PI", type := .double, accessFlags := 25, slot := 1, constantValue := 0 }, { name := "TAU", type := .double, accessFlags := 25, slot := 2, constantValue := 0 }, { name := "DEGREES_TO_RADIANS", type := .double, accessFlags := 26, slot := 3, constantValue := 0 }, { name := "RADIANS_TO_DEGREES", type := .double, accessFlags := 26, slot := 4, constantValue := 0 }, { name := "negativeZeroFloatBits", type := .long, accessFlags := 26, slot := 5, constantValue := 0 }, { name := "negativeZeroDoubleBits", type := .long, accessFlags := 26, slot := 6, constantValue := 0 }, { name := "twoToTheDoubleScaleUp", type := .double, accessFlags := 8, slot := 7, constantValue := 0 }, { name := "twoToTheDoubleScaleDown", type := .double, accessFlags := 8, slot := 8, constantValue := 0 }, { name := "$assertionsDisabled", type := .boolean, accessFlags := 4120, slot := 9, constantValue := 0 }]
  methods := #[k2m0, k2m1]
  instanceTypes := #[]
  staticTypes := #[.double, .double, .double, .double, .double, .long, .long, .double, .double, .boolean]
  resolved := Array.replicate 460 none
  statics := none }

def pool3 : Array CpInfo := pool [(1, .methodref 2 3), (0, .class_ 4), (0, .nameAndType 5 6), (0, u "java/lang/Object"), (0, u "<init>"), (0, u "()V"), (0, .class_ 8), (0, u "java/lang/Record")] 13

def k3c0 : Code := { maxStack := 1, maxLocals := 1, code := jdk_30_method_1_code, exceptionTable := #[], attributes := #[] }
def k3m0 : Method := { name := "<init>", desc := "()V", sig := { parameters := [], returnType := none }, accessFlags := 4, code := some k3c0 }
/-- java/lang/Record -/
def k3 : Class := { plain "java/lang/Record" (some 0) with
  accessFlags := 1057
  interfaces := #[]
  cf := some (fileOf pool3 7 #[] #[{ accessFlags := 4, nameIndex := 5, descriptorIndex := 6, attributes := #[] }] 1057 2 #[] #[])
  fields := #[]
  methods := #[k3m0]
  instanceTypes := #[]
  staticTypes := #[]
  resolved := Array.replicate 22 none
  statics := none }

def pool4 : Array CpInfo := pool [(1, .class_ 2), (0, u "java/lang/Comparable"), (0, .class_ 4), (0, u "java/lang/Object")] 7

/-- java/lang/Comparable -/
def k4 : Class := { plain "java/lang/Comparable" (some 0) with
  accessFlags := 1537
  interfaces := #[]
  cf := some (fileOf pool4 1 #[] #[] 1537 3 #[] #[])
  fields := #[]
  methods := #[]
  instanceTypes := #[]
  staticTypes := #[]
  resolved := Array.replicate 12 none
  statics := none }

def pool5 : Array CpInfo := pool [(1, .methodref 2 3), (0, .class_ 4), (0, .nameAndType 5 6), (0, u "java/lang/Record"), (0, u "<init>"), (0, u "()V"), (9, .fieldref 17 18), (0, .class_ 19), (0, .nameAndType 20 21), (0, u "com/example/masked_merge/maskedmerge/core/Share"), (0, u "count"), (0, u "I"), (0, .fieldref 17 23), (0, .nameAndType 24 21), (0, u "size"), (0, .methodref 26 27), (0, .class_ 28), (0, .nameAndType 29 30), (0, u "java/lang/Long"), (0, u "compare"), (0, u "(JJ)I"), (18, u "compareTo"), (0, u "(Lcom/example/masked_merge/maskedmerge/core/Share;)I"), (11, .class_ 63), (0, u "java/lang/Comparable"), (0, u "(II)V")] 41

def k5c0 : Code := { maxStack := 4, maxLocals := 3, code := prog_21_method_1_code, exceptionTable := #[], attributes := #[] }
def k5m0 : Method := { name := "<init>", desc := "(II)V", sig := { parameters := [.int, .int], returnType := none }, accessFlags := 1, code := some k5c0 }
def k5c1 : Code := { maxStack := 6, maxLocals := 2, code := prog_21_method_2_code, exceptionTable := #[], attributes := #[] }
def k5m1 : Method := { name := "compareTo", desc := "(Lcom/example/masked_merge/maskedmerge/core/Share;)I", sig := { parameters := [(.object "com/example/masked_merge/maskedmerge/core/Share")], returnType := some .int }, accessFlags := 1, code := some k5c1 }
/-- com/example/masked_merge/maskedmerge/core/Share -/
def k5 : Class := { plain "com/example/masked_merge/maskedmerge/core/Share" (some 3) with
  accessFlags := 49
  interfaces := #[4]
  cf := some (fileOf pool5 17 #[] #[{ accessFlags := 1, nameIndex := 5, descriptorIndex := 64, attributes := #[] }, { accessFlags := 1, nameIndex := 49, descriptorIndex := 50, attributes := #[] }] 49 2 #[62] #[{ accessFlags := 18, nameIndex := 20, descriptorIndex := 21, attributes := #[] }, { accessFlags := 18, nameIndex := 24, descriptorIndex := 21, attributes := #[] }])
  fields := #[{ name := "count", type := .int, accessFlags := 18, slot := 0, constantValue := 0 }, { name := "size", type := .int, accessFlags := 18, slot := 1, constantValue := 0 }]
  methods := #[k5m0, k5m1]
  instanceTypes := #[.int, .int]
  staticTypes := #[]
  resolved := Array.replicate 106 none
  statics := none }

def pool6 : Array CpInfo := pool [(1, .class_ 2), (0, u "java/io/Serializable"), (0, .class_ 4), (0, u "java/lang/Object")] 2

/-- java/io/Serializable -/
def k6 : Class := { plain "java/io/Serializable" (some 0) with
  accessFlags := 1537
  interfaces := #[]
  cf := some (fileOf pool6 1 #[] #[] 1537 3 #[] #[])
  fields := #[]
  methods := #[]
  instanceTypes := #[]
  staticTypes := #[]
  resolved := Array.replicate 7 none
  statics := none }

def pool7 : Array CpInfo := pool [(2, .class_ 4), (1, u "java/lang/Object"), (0, u "<init>"), (0, u "()V"), (1, .class_ 10), (1, u "java/lang/Number"), (2, .class_ 14), (0, u "java/io/Serializable"), (0, u "serialVersionUID"), (0, u "J")] 20

def k7m0 : Method := { name := "<init>", desc := "()V", sig := { parameters := [], returnType := none }, accessFlags := 1, code := none }
/-- java/lang/Number -/
def k7 : Class := { plain "java/lang/Number" (some 0) with
  accessFlags := 1057
  interfaces := #[6]
  cf := some (fileOf pool7 8 #[] #[{ accessFlags := 1, nameIndex := 5, descriptorIndex := 6, attributes := #[] }] 1057 2 #[13] #[{ accessFlags := 26, nameIndex := 15, descriptorIndex := 16, attributes := #[] }])
  fields := #[{ name := "serialVersionUID", type := .long, accessFlags := 26, slot := 0, constantValue := 0 }]
  methods := #[k7m0]
  instanceTypes := #[]
  staticTypes := #[.long]
  resolved := Array.replicate 37 none
  statics := none }

def pool8 : Array CpInfo := pool [(1, .class_ 2), (0, u "java/lang/constant/Constable"), (0, .class_ 4), (0, u "java/lang/Object")] 6

/-- java/lang/constant/Constable -/
def k8 : Class := { plain "java/lang/constant/Constable" (some 0) with
  accessFlags := 1537
  interfaces := #[]
  cf := some (fileOf pool8 1 #[] #[] 1537 3 #[] #[])
  fields := #[]
  methods := #[]
  instanceTypes := #[]
  staticTypes := #[]
  resolved := Array.replicate 11 none
  statics := none }

def pool9 : Array CpInfo := pool [(1, .class_ 2), (0, u "java/lang/constant/ConstantDesc"), (0, .class_ 4), (0, u "java/lang/Object")] 32

/-- java/lang/constant/ConstantDesc -/
def k9 : Class := { plain "java/lang/constant/ConstantDesc" (some 0) with
  accessFlags := 1537
  interfaces := #[]
  cf := some (fileOf pool9 1 #[] #[] 1537 3 #[] #[])
  fields := #[]
  methods := #[]
  instanceTypes := #[]
  staticTypes := #[]
  resolved := Array.replicate 37 none
  statics := none }

def pool10 : Array CpInfo := pool [(1, .class_ 2), (0, u "java/lang/Long"), (232, .class_ 237), (1, u "java/lang/Long$LongCache"), (33, .class_ 272), (0, u "java/lang/Number"), (2, u "value"), (0, u "J"), (27, u "compare"), (0, u "(JJ)I"), (55, u "TYPE"), (0, u "Ljava/lang/Class;"), (0, .class_ 364), (0, u "java/lang/Comparable"), (0, .class_ 366), (0, u "java/lang/constant/Constable"), (0, .class_ 368), (0, u "java/lang/constant/ConstantDesc"), (0, u "MIN_VALUE"), (1, u "MAX_VALUE"), (4, u "SIZE"), (0, u "I"), (1, u "BYTES"), (1, u "serialVersionUID")] 142

def k10c0 : Code := { maxStack := 4, maxLocals := 4, code := jdk_35_method_42_code, exceptionTable := #[], attributes := #[] }
def k10m0 : Method := { name := "compare", desc := "(JJ)I", sig := { parameters := [.long, .long], returnType := some .int }, accessFlags := 9, code := some k10c0 }
/-- java/lang/Long -/
def k10 : Class := { plain "java/lang/Long" (some 7) with
  accessFlags := 49
  interfaces := #[4, 8, 9]
  cf := some (fileOf pool10 1 #[.nestMembers #[235]] #[{ accessFlags := 9, nameIndex := 304, descriptorIndex := 305, attributes := #[] }] 49 271 #[363, 365, 367] #[{ accessFlags := 25, nameIndex := 369, descriptorIndex := 276, attributes := #[] }, { accessFlags := 25, nameIndex := 371, descriptorIndex := 276, attributes := #[] }, { accessFlags := 25, nameIndex := 361, descriptorIndex := 362, attributes := #[] }, { accessFlags := 18, nameIndex := 275, descriptorIndex := 276, attributes := #[] }, { accessFlags := 25, nameIndex := 376, descriptorIndex := 377, attributes := #[] }, { accessFlags := 25, nameIndex := 379, descriptorIndex := 377, attributes := #[] }, { accessFlags := 26, nameIndex := 381, descriptorIndex := 276, attributes := #[] }])
  fields := #[{ name := "MIN_VALUE", type := .long, accessFlags := 25, slot := 0, constantValue := 0 }, { name := "MAX_VALUE", type := .long, accessFlags := 25, slot := 1, constantValue := 0 }, { name := "TYPE", type := (.object "java/lang/Class"), accessFlags := 25, slot := 2, constantValue := 0 }, { name := "value", type := .long, accessFlags := 18, slot := 0, constantValue := 0 }, { name := "SIZE", type := .int, accessFlags := 25, slot := 3, constantValue := 0 }, { name := "BYTES", type := .int, accessFlags := 25, slot := 4, constantValue := 0 }, { name := "serialVersionUID", type := .long, accessFlags := 26, slot := 5, constantValue := 0 }]
  methods := #[k10m0]
  instanceTypes := #[.long]
  staticTypes := #[.long, .long, (.object "java/lang/Class"), .int, .int, .long]
  resolved := Array.replicate 524 none
  statics := none }

def pool11 : Array CpInfo := pool [(1, u "java/lang/Cloneable"), (0, .class_ 1), (0, u "java/lang/Object"), (0, .class_ 3)] 3

/-- java/lang/Cloneable -/
def k11 : Class := { plain "java/lang/Cloneable" (some 0) with
  accessFlags := 1537
  interfaces := #[]
  cf := some (fileOf pool11 2 #[] #[] 1537 4 #[] #[])
  fields := #[]
  methods := #[]
  instanceTypes := #[]
  staticTypes := #[]
  resolved := Array.replicate 8 none
  statics := none }

/-- the primitive byte -/
def k12 : Class := { plain "byte" none with kind := .primitive 'B', accessFlags := 0x411 }
/-- [B -/
def k13 : Class := { plain "[B" (some 0) with kind := .array 12 .byte, interfaces := #[11, 6], accessFlags := 1041 }

/-- the primitive int -/
def k14 : Class := { plain "int" none with kind := .primitive 'I', accessFlags := 0x411 }
/-- [I -/
def k15 : Class := { plain "[I" (some 0) with kind := .array 14 .int, interfaces := #[11, 6], accessFlags := 1041 }

def heap : Heap := #[]
def classes : Array Class := #[k0, k1, k2, k3, k4, k5, k6, k7, k8, k9, k10, k11, k12, k13, k14, k15]
def interned : List (Array UInt16 × Addr) := []
def slotsUsed : Nat := 0
def theMethod : MethodId := ⟨1, 5⟩
def args0 : Array Value := #[.int 5, .int 7, .int 9, .int 1, .int 3, .int 4]
def aboutOver (below : List Frame) : State where
  vm := { classes := classes, interned := interned.toArray }
  heap := heap
  slotsUsed := slotsUsed
  threads := #[{ frames := .invoking theMethod args0 :: below }]
def below0 : List Frame := [.native { method := ⟨0, 0⟩, args := #[] }]
def about1 : State := aboutOver below0
def p0 : Program := .bare "" "" ""
def e0 : Env := launch0.env 0 0 0
theorem w_frames : about1.frames = Frame.invoking theMethod args0 :: below0 := rfl
set_option maxRecDepth 65536 in
theorem w_args : argsFit about1.vm theMethod args0 = true := by decide +kernel
set_option maxRecDepth 65536 in
theorem w_heap : heapFits about1 = true := by decide +kernel
set_option maxRecDepth 65536 in
theorem w_runnable : about1.curStatus? = some .runnable := by decide +kernel
set_option maxRecDepth 65536 in
theorem w_alone : about1.alone = true := by decide +kernel
set_option maxRecDepth 65536 in
theorem w_named : about1.methodNamed? x = some theMethod := by decide +kernel
set_option maxRecDepth 65536 in
theorem w_hears : about1.hears theMethod below0 = true := by decide +kernel
set_option maxRecDepth 65536 in
theorem w_ripe : about1.ripe theMethod args0 below0 = true := by decide +kernel
theorem w_running : about1.status = .running := rfl
set_option maxRecDepth 65536 in
theorem w_room : about1.hasRoom e0.platform room_1 = true :=
  launch0.hasRoom_least _ room_1 (by decide +kernel) (by decide +kernel) (by decide +kernel) (by decide +kernel) (by decide +kernel) (by decide +kernel)
theorem allAtoms_all (ts : List Jvm.Cond) (a : Array Jvm.Value) (st : Jvm.State) : (allAtoms ts).before a st = ts.all (fun c => c.before a st) := by
  induction ts with
  | nil => rfl
  | cons c t ih =>
    show (Jvm.Cond.and c (allAtoms t)).before a st = _
    rw [Jvm.Cond.before_and, ih, List.all_cons]
def words1 : List Jvm.Cond := Jvm.Cond.code x code maxLocals ret :: tables_1
/-- a 'code' word, met by the world's own term for the bytes: nothing is compared byte by byte -/
theorem code_word {y : MethodName} {bytes : ByteArray} {mx : Nat} {rt : Option FieldType} {a : Array Value} {s : State} {m : MethodId} {meth : Method} {c : Code} (h1 : s.methodNamed? y = some m) (h2 : s.vm.method? m = some meth) (h3 : meth.code = some c) (h4 : c.code = bytes)
    (h5 : (c.maxLocals == mx && c.exceptionTable.isEmpty && decide (c.maxStack ≤ mostOperands) && decide (meth.sig.returnType = rt) && !meth.locks && decide (parseMethodDescriptor y.desc = some meth.sig)) = true) : (Jvm.Cond.code y bytes mx rt).before a s = true := by
  simp only [Bool.and_eq_true, beq_iff_eq, Bool.not_eq_true', decide_eq_true_eq] at h5
  obtain ⟨⟨⟨⟨⟨g1, g2⟩, g3⟩, g4⟩, g5⟩, g6⟩ := h5
  simp [Cond.before, Cond.holds, Cond.value, h1, h2, h3, h4, g1, g2, g3, g4, g5, g6]
def isCode : Jvm.Cond → Bool
  | .code _ _ _ _ => true
  | _ => false
theorem all_split {L : List Jvm.Cond} {P : Jvm.Cond → Bool} (h1 : L.all (fun c => isCode c || P c) = true) (h2 : ∀ c ∈ L.filter isCode, P c = true) : L.all P = true := by
  refine List.all_eq_true.mpr fun c hc => ?_
  have h := List.all_eq_true.mp h1 c hc
  rcases Bool.eq_false_or_eq_true (isCode c) with hi | hi
  · exact h2 c (List.mem_filter.mpr ⟨hc, hi⟩)
  · simpa [hi] using h
set_option maxRecDepth 65536 in
theorem w_c0 : (Jvm.Cond.code x code maxLocals ret).before args0 about1 = true := code_word (m := ⟨1, 5⟩) (meth := k1m5) (c := k1c5) (by decide +kernel) rfl rfl rfl (by decide +kernel)
set_option maxRecDepth 65536 in
theorem w_c1 : (Jvm.Cond.code ({ cls := "com/example/masked_merge/maskedmerge/core/ShareCompareToPinLaw", name := "size", desc := "(I)I" } : Jvm.MethodName) method_2_code (2 : Nat) (Option.some Jvm.ClassFile.FieldType.int)).before args0 about1 = true := code_word (m := ⟨1, 1⟩) (meth := k1m1) (c := k1c1) (by decide +kernel) rfl rfl rfl (by decide +kernel)
set_option maxRecDepth 65536 in
theorem w_c2 : (Jvm.Cond.code ({ cls := "com/example/masked_merge/maskedmerge/core/ShareCompareToPinLaw", name := "cnt", desc := "(II)I" } : Jvm.MethodName) method_3_code (2 : Nat) (Option.some Jvm.ClassFile.FieldType.int)).before args0 about1 = true := code_word (m := ⟨1, 2⟩) (meth := k1m2) (c := k1c2) (by decide +kernel) rfl rfl rfl (by decide +kernel)
set_option maxRecDepth 65536 in
theorem w_c3 : (Jvm.Cond.code ({ cls := "java/lang/Math", name := "max", desc := "(II)I" } : Jvm.MethodName) jdk_29_method_65_code (2 : Nat) (Option.some Jvm.ClassFile.FieldType.int)).before args0 about1 = true := code_word (m := ⟨2, 1⟩) (meth := k2m1) (c := k2c1) (by decide +kernel) rfl rfl rfl (by decide +kernel)
set_option maxRecDepth 65536 in
theorem w_c4 : (Jvm.Cond.code ({ cls := "com/example/masked_merge/maskedmerge/core/Share", name := "<init>", desc := "(II)V" } : Jvm.MethodName) prog_21_method_1_code (3 : Nat) (Option.none : Option Jvm.ClassFile.FieldType)).before args0 about1 = true := code_word (m := ⟨5, 0⟩) (meth := k5m0) (c := k5c0) (by decide +kernel) rfl rfl rfl (by decide +kernel)
set_option maxRecDepth 65536 in
theorem w_c5 : (Jvm.Cond.code ({ cls := "java/lang/Record", name := "<init>", desc := "()V" } : Jvm.MethodName) jdk_30_method_1_code (1 : Nat) (Option.none : Option Jvm.ClassFile.FieldType)).before args0 about1 = true := code_word (m := ⟨3, 0⟩) (meth := k3m0) (c := k3c0) (by decide +kernel) rfl rfl rfl (by decide +kernel)
set_option maxRecDepth 65536 in
theorem w_c6 : (Jvm.Cond.code ({ cls := "java/lang/Object", name := "<init>", desc := "()V" } : Jvm.MethodName) object_method_1_code (1 : Nat) (Option.none : Option Jvm.ClassFile.FieldType)).before args0 about1 = true := code_word (m := ⟨0, 0⟩) (meth := k0m0) (c := k0c0) (by decide +kernel) rfl rfl rfl (by decide +kernel)
set_option maxRecDepth 65536 in
theorem w_c7 : (Jvm.Cond.code ({ cls := "com/example/masked_merge/maskedmerge/core/Share", name := "compareTo", desc := "(Lcom/example/masked_merge/maskedmerge/core/Share;)I" } : Jvm.MethodName) prog_21_method_2_code (2 : Nat) (Option.some Jvm.ClassFile.FieldType.int)).before args0 about1 = true := code_word (m := ⟨5, 1⟩) (meth := k5m1) (c := k5c1) (by decide +kernel) rfl rfl rfl (by decide +kernel)
set_option maxRecDepth 65536 in
theorem w_c8 : (Jvm.Cond.code ({ cls := "java/lang/Long", name := "compare", desc := "(JJ)I" } : Jvm.MethodName) jdk_35_method_42_code (4 : Nat) (Option.some Jvm.ClassFile.FieldType.int)).before args0 about1 = true := code_word (m := ⟨10, 0⟩) (meth := k10m0) (c := k10c0) (by decide +kernel) rfl rfl rfl (by decide +kernel)
set_option maxRecDepth 65536 in
theorem w_c9 : (Jvm.Cond.code ({ cls := "com/example/masked_merge/maskedmerge/core/ShareCompareToPinLaw", name := "sg", desc := "(I)I" } : Jvm.MethodName) method_4_code (1 : Nat) (Option.some Jvm.ClassFile.FieldType.int)).before args0 about1 = true := code_word (m := ⟨1, 3⟩) (meth := k1m3) (c := k1c3) (by decide +kernel) rfl rfl rfl (by decide +kernel)
set_option maxRecDepth 65536 in
theorem w_c10 : (Jvm.Cond.code ({ cls := "com/example/masked_merge/maskedmerge/core/ShareCompareToPinLaw", name := "cmp", desc := "(II)I" } : Jvm.MethodName) method_5_code (2 : Nat) (Option.some Jvm.ClassFile.FieldType.int)).before args0 about1 = true := code_word (m := ⟨1, 4⟩) (meth := k1m4) (c := k1c4) (by decide +kernel) rfl rfl rfl (by decide +kernel)
def codes1 : List Jvm.Cond := [Jvm.Cond.code x code maxLocals ret, Jvm.Cond.code ({ cls := "com/example/masked_merge/maskedmerge/core/ShareCompareToPinLaw", name := "size", desc := "(I)I" } : Jvm.MethodName) method_2_code (2 : Nat) (Option.some Jvm.ClassFile.FieldType.int), Jvm.Cond.code ({ cls := "com/example/masked_merge/maskedmerge/core/ShareCompareToPinLaw", name := "cnt", desc := "(II)I" } : Jvm.MethodName) method_3_code (2 : Nat) (Option.some Jvm.ClassFile.FieldType.int), Jvm.Cond.code ({ cls := "java/lang/Math", name := "max", desc := "(II)I" } : Jvm.MethodName) jdk_29_method_65_code (2 : Nat) (Option.some Jvm.ClassFile.FieldType.int), Jvm.Cond.code ({ cls := "com/example/masked_merge/maskedmerge/core/Share", name := "<init>", desc := "(II)V" } : Jvm.MethodName) prog_21_method_1_code (3 : Nat) (Option.none : Option Jvm.ClassFile.FieldType), Jvm.Cond.code ({ cls := "java/lang/Record", name := "<init>", desc := "()V" } : Jvm.MethodName) jdk_30_method_1_code (1 : Nat) (Option.none : Option Jvm.ClassFile.FieldType), Jvm.Cond.code ({ cls := "java/lang/Object", name := "<init>", desc := "()V" } : Jvm.MethodName) object_method_1_code (1 : Nat) (Option.none : Option Jvm.ClassFile.FieldType), Jvm.Cond.code ({ cls := "com/example/masked_merge/maskedmerge/core/Share", name := "compareTo", desc := "(Lcom/example/masked_merge/maskedmerge/core/Share;)I" } : Jvm.MethodName) prog_21_method_2_code (2 : Nat) (Option.some Jvm.ClassFile.FieldType.int), Jvm.Cond.code ({ cls := "java/lang/Long", name := "compare", desc := "(JJ)I" } : Jvm.MethodName) jdk_35_method_42_code (4 : Nat) (Option.some Jvm.ClassFile.FieldType.int), Jvm.Cond.code ({ cls := "com/example/masked_merge/maskedmerge/core/ShareCompareToPinLaw", name := "sg", desc := "(I)I" } : Jvm.MethodName) method_4_code (1 : Nat) (Option.some Jvm.ClassFile.FieldType.int), Jvm.Cond.code ({ cls := "com/example/masked_merge/maskedmerge/core/ShareCompareToPinLaw", name := "cmp", desc := "(II)I" } : Jvm.MethodName) method_5_code (2 : Nat) (Option.some Jvm.ClassFile.FieldType.int)]
set_option maxRecDepth 65536 in
theorem codes_eq : words1.filter isCode = codes1 := rfl
theorem w_codes : ∀ c ∈ words1.filter isCode, c.before args0 about1 = true := by
  rw [codes_eq]
  intro c hc
  simp only [codes1, List.mem_cons, List.not_mem_nil, or_false] at hc
  rcases hc with rfl | rfl | rfl | rfl | rfl | rfl | rfl | rfl | rfl | rfl | rfl
  · exact w_c0
  · exact w_c1
  · exact w_c2
  · exact w_c3
  · exact w_c4
  · exact w_c5
  · exact w_c6
  · exact w_c7
  · exact w_c8
  · exact w_c9
  · exact w_c10
set_option maxRecDepth 65536 in
theorem w_t1 : (words1.take 24).all (fun c => isCode c || c.before args0 about1) = true := by decide +kernel
set_option maxRecDepth 65536 in
theorem w_t2 : (words1.drop 24).all (fun c => isCode c || c.before args0 about1) = true := by decide +kernel
theorem w_tables : (allAtoms (Jvm.Cond.code x code maxLocals ret :: tables_1)).before args0 about1 = true := by
  rw [allAtoms_all]
  show words1.all (fun c => c.before args0 about1) = true
  refine all_split ?_ w_codes
  rw [← List.take_append_drop 24 words1, List.all_append, w_t1, w_t2]
  rfl
set_option maxRecDepth 65536 in
theorem w_case : (Jvm.Cond.and given_1 narrow_1).before args0 about1 = true := by decide +kernel
theorem w_applies : (headSpec (Jvm.Cond.code x code maxLocals ret :: tables_1) room_1).applies x e0.platform about1 = true :=
  (Spec.applies_iff w_frames).mpr ⟨w_running, w_runnable, w_alone, w_named, w_hears, w_ripe, w_room, w_tables⟩
theorem atStart : AtStart classFile x code maxLocals ret World_1 tables_1 room_1 Calls_1 rest_1 Pre_1 launch0 p0 e0 about1 theMethod args0 below0 :=
  ⟨lists_1, trivial, launch0.admits_env _ _ _, launch0.least_env, fairChoices_fair.cas, fairChoices_fair.clock, w_frames, w_args, w_heap, w_applies, trivial, trivial, w_case⟩
end start1
theorem witness_1 : WitnessClaimed_1 := ⟨start1.p0, start1.e0, start1.about1, start1.theMethod, start1.args0, start1.below0, start1.atStart⟩
end Jvm.Pilot.@@N@@
