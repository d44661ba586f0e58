import JvmDerived
import JvmDerived.Pilot.@@N@@Statement
import JvmDerived.Pilot.@@N@@Code
set_option linter.unusedVariables false
set_option linter.unusedSimpArgs false
namespace Jvm.Own
open Jvm Jvm.ClassFile Sem Op Lib Jvm.Free Jvm.Stand Jvm.LawKit Jvm.RoadKit Bundle

/-! a calculus of walks, over the library's step laws -/
def Wk (Z : State) (own nm : String) (bytes : ByteArray) (ml : Nat) (ret : Option FieldType) (R : Room) (n0 : Nat) (p : Program) (l : Launch) (e : Env) (s : State) (m : MethodId) (args : Array Value) (below : List Frame) (meth : Method) (c : Code) (T : State) (cells slots : Nat) (h : Heap) : Prop :=
  ∃ locs, Stand p l e R s m args below meth c T locs cells slots ∧ Fr n0 locs ∧ T.heap = h ∧ n0 ≤ s.heap.size ∧ p.tables.exec = Jvm.exec ∧ Z.Warmed39 s.vm ∧ c.code = bytes ∧ c.maxLocals = ml ∧ s.vm.findClass own = some m.cls ∧ meth.name = nm ∧ meth.sig.returnType = ret ∧ meth.locks = false
def Goes (p : Program) (e : Env) (below : List Frame) (s : State) (R : Room) (n0 : Nat) (Q : Option Value → Heap → Prop) (t : State) : Prop :=
  ∃ s₂ o, Steps p.tables e below t s₂ ∧ s₂.status = .running ∧ Ended s₂ below o ∧ ∃ v L, o = .returned v ∧ (Fr n0 L ∧ Q v s₂.heap) ∧ FrameEnd s o s₂ L R.cells R.slots
def Met (l : Launch) (Z : State) (y : MethodName) (bytes : ByteArray) (ml : Nat) (ret : Option FieldType) (R : Room) (ws : List Jvm.Cond) (n0 : Nat) (as : Array Value) (h0 : Heap) (Q : Option Value → Heap → Prop) : Prop :=
  MetFree l y (head1 (Jvm.Cond.code y bytes ml ret :: ws) R) (fun a U => a = as ∧ Z.Warmed39 U.vm ∧ U.heap = h0) (fun _ _ _ _ _ => True) (fun _ U o U' => ∃ v L, o = .returned v ∧ (Fr n0 L ∧ Q v U'.heap) ∧ FrameEnd U o U' L R.cells R.slots)
def bI (c : Prop) [Decidable c] : Int32 := if c then 1 else 0
theorem bI_t {c : Prop} [Decidable c] (h : c) : (1 : Int32) = bI c := (if_pos h).symm
theorem bI_f {c : Prop} [Decidable c] (h : ¬ c) : (0 : Int32) = bI c := (if_neg h).symm
theorem bI_01 (c : Prop) [Decidable c] : bI c = 0 ∨ bI c = 1 := by unfold bI; split <;> simp
theorem bI_eq0 (c : Prop) [Decidable c] : bI c = 0 ↔ ¬ c := by unfold bI; split <;> simp_all
theorem bI_eq1 (c : Prop) [Decidable c] : bI c = 1 ↔ c := by unfold bI; split <;> simp_all
theorem bI_inj (c d : Prop) [Decidable c] [Decidable d] : bI c = bI d ↔ (c ↔ d) := by unfold bI; split <;> split <;> simp_all
theorem bI_cong {c d : Prop} [Decidable c] [Decidable d] (h : c ↔ d) : bI c = bI d := (bI_inj c d).mpr h
def pcI (cd : ClassFile.Cond) (x y : Int32) : Prop := match cd with
  | .lt | .ge => x < y
  | .gt | .le => y < x
  | .eq | .ne => x = y
def pcJ (cd : ClassFile.Cond) (x y : Int64) : Prop := match cd with
  | .lt | .ge => x < y
  | .gt | .le => y < x
  | .eq | .ne => x = y

theorem own_bI01 (c : Prop) [Decidable c] : (c ∧ (bI c).toInt = 1) ∨ (¬ c ∧ (bI c).toInt = 0) := by unfold bI; split <;> simp_all
theorem own_mask' (m x : Int32) (k : Nat) (hk : k ≤ 31) (hm : m.toBitVec.toNat = 2 ^ k - 1) : (m &&& x).toInt = x.toInt % (2 ^ k : Nat) := by rw [Int32.and_comm]; exact c_mask x m k hk hm
theorem own_maskL' (m x : Int64) (k : Nat) (hk : k ≤ 63) (hm : m.toBitVec.toNat = 2 ^ k - 1) : (m &&& x).toInt = x.toInt % (2 ^ k : Nat) := by rw [Int64.and_comm]; exact c_maskL x m k hk hm
theorem own_mB (x m : Int32) (k : Nat) (hk : k ≤ 31) (hm : m.toBitVec.toNat = 2 ^ k - 1) (M : Nat) (hM : M + 1 = 2 ^ k) : 0 ≤ (x &&& m).toInt ∧ (x &&& m).toInt ≤ M := by
  rw [c_mask x m k hk hm, ← hM]; have a := Int.emod_nonneg x.toInt (b := ((M + 1 : Nat) : Int)) (by omega); have b := Int.emod_lt_of_pos x.toInt (b := ((M + 1 : Nat) : Int)) (by omega); omega
theorem own_mBL (x m : Int64) (k : Nat) (hk : k ≤ 63) (hm : m.toBitVec.toNat = 2 ^ k - 1) (M : Nat) (hM : M + 1 = 2 ^ k) : 0 ≤ (x &&& m).toInt ∧ (x &&& m).toInt ≤ M := by
  rw [c_maskL x m k hk hm, ← hM]; have a := Int.emod_nonneg x.toInt (b := ((M + 1 : Nat) : Int)) (by omega); have b := Int.emod_lt_of_pos x.toInt (b := ((M + 1 : Nat) : Int)) (by omega); omega
theorem own_mB' (m x : Int32) (k : Nat) (hk : k ≤ 31) (hm : m.toBitVec.toNat = 2 ^ k - 1) (M : Nat) (hM : M + 1 = 2 ^ k) : 0 ≤ (m &&& x).toInt ∧ (m &&& x).toInt ≤ M := by rw [Int32.and_comm]; exact own_mB x m k hk hm M hM
theorem own_mBL' (m x : Int64) (k : Nat) (hk : k ≤ 63) (hm : m.toBitVec.toNat = 2 ^ k - 1) (M : Nat) (hM : M + 1 = 2 ^ k) : 0 ≤ (m &&& x).toInt ∧ (m &&& x).toInt ≤ M := by rw [Int64.and_comm]; exact own_mBL x m k hk hm M hM
theorem own_iaddE (x y : Int32) (h : -2147483648 ≤ x.toInt + y.toInt ∧ x.toInt + y.toInt < 2147483648) : (x + y).toInt = x.toInt + y.toInt := by
  have a := c_iadd x y; have b := rng32 (x + y); omega
theorem own_isubE (x y : Int32) (h : -2147483648 ≤ x.toInt - y.toInt ∧ x.toInt - y.toInt < 2147483648) : (x - y).toInt = x.toInt - y.toInt := by
  have a := c_isub x y; have b := rng32 (x - y); omega
theorem own_imulE (x y : Int32) (h : -2147483648 ≤ x.toInt * y.toInt ∧ x.toInt * y.toInt < 2147483648) : (x * y).toInt = x.toInt * y.toInt := by
  have a := c_imul x y; have b := rng32 (x * y); omega
theorem own_inegE (x : Int32) (h : -2147483648 ≤ -x.toInt ∧ -x.toInt < 2147483648) : (-x).toInt = -x.toInt := by
  have a := c_ineg x; have b := rng32 (-x); omega
theorem own_laddE (x y : Int64) (h : -9223372036854775808 ≤ x.toInt + y.toInt ∧ x.toInt + y.toInt < 9223372036854775808) : (x + y).toInt = x.toInt + y.toInt := by
  have a := c_ladd x y; have b := rng64 (x + y); omega
theorem own_lsubE (x y : Int64) (h : -9223372036854775808 ≤ x.toInt - y.toInt ∧ x.toInt - y.toInt < 9223372036854775808) : (x - y).toInt = x.toInt - y.toInt := by
  have a := c_lsub x y; have b := rng64 (x - y); omega
theorem own_lmulE (x y : Int64) (h : -9223372036854775808 ≤ x.toInt * y.toInt ∧ x.toInt * y.toInt < 9223372036854775808) : (x * y).toInt = x.toInt * y.toInt := by
  have a := c_lmul x y; have b := rng64 (x * y); omega
theorem own_lnegE (x : Int64) (h : -9223372036854775808 ≤ -x.toInt ∧ -x.toInt < 9223372036854775808) : (-x).toInt = -x.toInt := by
  have a := c_lneg x; have b := rng64 (-x); omega
theorem own_l2iE (x : Int64) (h : -2147483648 ≤ x.toInt ∧ x.toInt < 2147483648) : x.toInt32.toInt = x.toInt := by
  have a := c_l2i x; have b := rng32 x.toInt32; omega
theorem own_ushB (x q : Int32) (k : Nat) (hk : q.toBitVec.toNat % 32 = k) (h0 : 0 < k) (M : Nat) (hM : M * 2 ^ k = 4294967296) : 0 ≤ ((x.toUInt32 >>> (q &&& 31).toUInt32).toInt32).toInt ∧ ((x.toUInt32 >>> (q &&& 31).toUInt32).toInt32).toInt < M := by
  rw [c_iushr x q k hk h0]
  have h2 : (0 : Int) < ((2 ^ k : Nat) : Int) := Int.natCast_pos.mpr (Nat.pow_pos (by decide))
  refine ⟨Int.ediv_nonneg (by omega) (Int.le_of_lt h2), Int.ediv_lt_of_lt_mul h2 ?_⟩
  have q : ((M : Int)) * ((2 ^ k : Nat) : Int) = 4294967296 := by rw [← Int.natCast_mul, hM]; rfl
  omega
theorem own_irem (x y : Int32) (d : Int) (hy : y.toInt = d) : (0 ≤ x.toInt → (x % y).toInt = x.toInt % d) ∧ (x.toInt < 0 → (x % y).toInt = -((-x.toInt) % d)) := c_irem x y d hy
theorem own_lrem (x y : Int64) (d : Int) (hy : y.toInt = d) : (0 ≤ x.toInt → (x % y).toInt = x.toInt % d) ∧ (x.toInt < 0 → (x % y).toInt = -((-x.toInt) % d)) := by rw [← lrem_mod]; exact c_lrem x y d hy
theorem own_iremV (x y : Int32) : (0 ≤ x.toInt → 0 < y.toInt → 0 ≤ (x % y).toInt ∧ (x % y).toInt < y.toInt ∧ (x % y).toInt ≤ x.toInt) := fun h1 h2 => ⟨((c_iremV x y).1 h1 h2).1, ((c_iremV x y).1 h1 h2).2.1, ((c_iremV x y).1 h1 h2).2.2.1⟩
theorem own_emod_le {a b : Int} (h1 : 0 ≤ a) (h2 : 0 < b) : a % b ≤ a := by
  have q := Int.emod_add_mul_ediv a b; have z : 0 ≤ b * (a / b) := Int.mul_nonneg (Int.le_of_lt h2) (Int.ediv_nonneg h1 (Int.le_of_lt h2)); omega
theorem own_lremV (x y : Int64) : (0 ≤ x.toInt → 0 < y.toInt → 0 ≤ (x % y).toInt ∧ (x % y).toInt < y.toInt ∧ (x % y).toInt ≤ x.toInt) := fun h1 h2 => by
  rw [Int64.toInt_mod, Int.tmod_eq_emod_of_nonneg h1]
  exact ⟨Int.emod_nonneg _ (by omega), Int.emod_lt_of_pos _ h2, own_emod_le h1 h2⟩
theorem own_iremP (x y : Int32) (d : Int) (hy : y.toInt = d) (h0 : 0 ≤ x.toInt) : (x % y).toInt = x.toInt % d := (own_irem x y d hy).1 h0
theorem own_iremB (x y : Int32) (d : Int) (hy : y.toInt = d) (hd : 0 < d) (h0 : 0 ≤ x.toInt) : 0 ≤ (x % y).toInt ∧ (x % y).toInt < d ∧ (x % y).toInt ≤ x.toInt := by
  rw [own_iremP x y d hy h0]; exact ⟨Int.emod_nonneg _ (by omega), Int.emod_lt_of_pos _ hd, own_emod_le h0 hd⟩
theorem own_iremM (x y : Int32) (d : Int) (hy : y.toInt = d) (hd : 0 < d) : -d < (x % y).toInt ∧ (x % y).toInt < d := by
  rcases Int.lt_or_le x.toInt 0 with h | h
  · rw [(own_irem x y d hy).2 h]; have a := Int.emod_nonneg (-x.toInt) (b := d) (by omega); have b := Int.emod_lt_of_pos (-x.toInt) hd; omega
  · have q := own_iremB x y d hy hd h; omega
theorem own_lremP (x y : Int64) (d : Int) (hy : y.toInt = d) (h0 : 0 ≤ x.toInt) : (x % y).toInt = x.toInt % d := (own_lrem x y d hy).1 h0
theorem own_lremB (x y : Int64) (d : Int) (hy : y.toInt = d) (hd : 0 < d) (h0 : 0 ≤ x.toInt) : 0 ≤ (x % y).toInt ∧ (x % y).toInt < d ∧ (x % y).toInt ≤ x.toInt := by
  rw [own_lremP x y d hy h0]; exact ⟨Int.emod_nonneg _ (by omega), Int.emod_lt_of_pos _ hd, own_emod_le h0 hd⟩
theorem own_lremM (x y : Int64) (d : Int) (hy : y.toInt = d) (hd : 0 < d) : -d < (x % y).toInt ∧ (x % y).toInt < d := by
  rcases Int.lt_or_le x.toInt 0 with h | h
  · rw [(own_lrem x y d hy).2 h]; have a := Int.emod_nonneg (-x.toInt) (b := d) (by omega); have b := Int.emod_lt_of_pos (-x.toInt) hd; omega
  · have q := own_lremB x y d hy hd h; omega
theorem own_bor (A B : Prop) [Decidable A] [Decidable B] : bI A ||| bI B = bI (A ∨ B) := by unfold bI; by_cases a : A <;> by_cases b : B <;> simp [a, b] <;> decide
theorem own_band (A B : Prop) [Decidable A] [Decidable B] : bI A &&& bI B = bI (A ∧ B) := by unfold bI; by_cases a : A <;> by_cases b : B <;> simp [a, b] <;> decide
def Apart (a b : Addr) : Prop := a ≠ b
theorem own_apS {a b : Addr} (h : Apart a b) : Apart b a := Ne.symm h
theorem own_new {h : Heap} {a b : Addr} (hb : b = h.size) (ha : a < h.size) : Apart a b := by subst hb; exact Nat.ne_of_lt ha
theorem own_sz {h0 h : Heap} {b : Addr} {ws : List Addr} (hb : b = h.size) (K : Keep h0 h ws) : h0.size ≤ b := by subst hb; exact K.1
theorem own_far {h : Heap} {a b : Addr} (ha : a < h.size) (hb : h.size ≤ b) : Apart a b := Nat.ne_of_lt (Nat.lt_of_lt_of_le ha hb)
theorem own_narZ {z : Int32} (hz : z = 0 ∨ z = 1) : narrow .boolean (.int z) = .int z := by rcases hz with rfl | rfl <;> rfl
theorem own_fitZ {z : Int32} (hz : z = 0 ∨ z = 1) : fits .boolean (.int z) = true := by rcases hz with rfl | rfl <;> rfl
theorem own_narZ' {z : Int32} (hz : z = 0 ∨ z = 1) : nar .boolean z = z := by rcases hz with rfl | rfl <;> rfl
theorem own_fin {c : Prop} [Decidable c] (h : c) : (some (Value.int (bI c))) = some (Value.int 1) := by rw [← bI_t h]
def own_up {α : Type} (f : Nat → α) (i : Nat) (x : α) : Nat → α := fun k => if k = i then x else f k
def AI (Z : State) (h : Heap) (a : Addr) (ty : FieldType) (n : Nat) (f : Nat → Int32) : Prop := n < 2 ^ 31 ∧ ∃ c : Cell, Arr Z h a c ty ∧ c.slots.size = n ∧ ∀ j, j < n → c.slots[j]? = some (.int (f j))
def AJ (Z : State) (h : Heap) (a : Addr) (n : Nat) (f : Nat → Int64) : Prop := n < 2 ^ 31 ∧ ∃ c : Cell, Arr Z h a c .long ∧ c.slots.size = n ∧ ∀ j, j < n → c.slots[j]? = some (.long (f j))
theorem AI.lt {Z : State} {h : Heap} {a : Addr} {ty : FieldType} {n : Nat} {f : Nat → Int32} (A : AI Z h a ty n f) : a < h.size := by obtain ⟨_, c, A, _⟩ := A; exact A.lt
theorem AI.ext {Z : State} {h h' : Heap} {a : Addr} {ty : FieldType} {n : Nat} {f : Nat → Int32} (A : AI Z h a ty n f) (E : Ext h h') : AI Z h' a ty n f := by obtain ⟨q, c, A, r⟩ := A; exact ⟨q, c, A.ext E, r⟩
theorem AI.keep {Z : State} {h h' : Heap} {a : Addr} {ws : List Addr} {ty : FieldType} {n : Nat} {f : Nat → Int32} (A : AI Z h a ty n f) (K : Keep h h' ws) (q : a ∉ ws) : AI Z h' a ty n f := by obtain ⟨z, c, A, r⟩ := A; exact ⟨z, c, ⟨K.2.1 a c A.1 q, A.2⟩, r⟩
theorem AI.other {Z : State} {h h' : Heap} {a b : Addr} {sl : Nat} {w : Value} {ty : FieldType} {n : Nat} {f : Nat → Int32} (A : AI Z h a ty n f) (W : Wr h h' b sl w) (q : a ≠ b) : AI Z h' a ty n f := by obtain ⟨z, c, A, r⟩ := A; exact ⟨z, c, A.other W q, r⟩
theorem AI.set {Z : State} {h h' : Heap} {a : Addr} {i : Nat} {x : Int32} {ty : FieldType} {n : Nat} {f : Nat → Int32} (A : AI Z h a ty n f) (W : Wr h h' a i (.int x)) : AI Z h' a ty n (own_up f i x) := by
  obtain ⟨z, c, A, r1, r2⟩ := A
  refine ⟨z, _, A.same W, by rw [sz_set]; exact r1, fun j hj => ?_⟩
  by_cases q : j = i
  · subst q; simp [Cell.setSlot, own_up, r1, hj]
  · simp only [Cell.setSlot, own_up, if_neg q]; rw [Array.getElem?_setIfInBounds_ne (Ne.symm q)]; exact r2 j hj
theorem AI.to {Z : State} {h : Heap} {a : Addr} {ty : FieldType} {n : Nat} {f g : Nat → Int32} (A : AI Z h a ty n f) (q : ∀ j, j < n → f j = g j) : AI Z h a ty n g := by obtain ⟨z, c, A, r1, r2⟩ := A; exact ⟨z, c, A, r1, fun j hj => by rw [← q j hj]; exact r2 j hj⟩
theorem AJ.lt {Z : State} {h : Heap} {a : Addr} {n : Nat} {f : Nat → Int64} (A : AJ Z h a n f) : a < h.size := by obtain ⟨_, c, A, _⟩ := A; exact A.lt
theorem AJ.ext {Z : State} {h h' : Heap} {a : Addr} {n : Nat} {f : Nat → Int64} (A : AJ Z h a n f) (E : Ext h h') : AJ Z h' a n f := by obtain ⟨q, c, A, r⟩ := A; exact ⟨q, c, A.ext E, r⟩
theorem AJ.keep {Z : State} {h h' : Heap} {a : Addr} {ws : List Addr} {n : Nat} {f : Nat → Int64} (A : AJ Z h a n f) (K : Keep h h' ws) (q : a ∉ ws) : AJ Z h' a n f := by obtain ⟨z, c, A, r⟩ := A; exact ⟨z, c, ⟨K.2.1 a c A.1 q, A.2⟩, r⟩
theorem AJ.other {Z : State} {h h' : Heap} {a b : Addr} {sl : Nat} {w : Value} {n : Nat} {f : Nat → Int64} (A : AJ Z h a n f) (W : Wr h h' b sl w) (q : a ≠ b) : AJ Z h' a n f := by obtain ⟨z, c, A, r⟩ := A; exact ⟨z, c, A.other W q, r⟩
theorem AJ.set {Z : State} {h h' : Heap} {a : Addr} {i : Nat} {x : Int64} {n : Nat} {f : Nat → Int64} (A : AJ Z h a n f) (W : Wr h h' a i (.long x)) : AJ Z h' a n (own_up f i x) := by
  obtain ⟨z, c, A, r1, r2⟩ := A
  refine ⟨z, _, A.same W, by rw [sz_set]; exact r1, fun j hj => ?_⟩
  by_cases q : j = i
  · subst q; simp [Cell.setSlot, own_up, r1, hj]
  · simp only [Cell.setSlot, own_up, if_neg q]; rw [Array.getElem?_setIfInBounds_ne (Ne.symm q)]; exact r2 j hj
theorem AJ.to {Z : State} {h : Heap} {a : Addr} {n : Nat} {f g : Nat → Int64} (A : AJ Z h a n f) (q : ∀ j, j < n → f j = g j) : AJ Z h a n g := by obtain ⟨z, c, A, r1, r2⟩ := A; exact ⟨z, c, A, r1, fun j hj => by rw [← q j hj]; exact r2 j hj⟩
theorem own_ix {j : Int32} {n k : Nat} (hk : k = n) (q : 0 ≤ j.toInt ∧ j.toInt < n) : ¬ (j < 0 ∨ k ≤ j.toNatClampNeg) := by
  simp only [Int32.lt_iff_toInt_lt, Int32.toNatClampNeg, Int32.reduceToInt]; omega
theorem own_ixn {j : Int32} {n : Nat} (q : 0 ≤ j.toInt ∧ j.toInt < n) : j.toNatClampNeg < n := by simp only [Int32.toNatClampNeg]; omega
section Walk
variable {Z : State} {a0 : Array Value} {own nm : String} {bytes : ByteArray} {ml : Nat} {ret : Option FieldType} {R : Room} {n0 : Nat} {p : Program} {l : Launch} {e : Env} {s : State} {m : MethodId} {args : Array Value} {below : List Frame} {meth : Method} {c : Code} {T : State} {cells slots : Nat} {h : Heap} {Q : Option Value → Heap → Prop}
theorem Met.intro {y : MethodName} {as : Array Value} {h0 : Heap} {ws : List Jvm.Cond} (hp : plainFor y = true) (hn : n0 ≤ h0.size)
    (body : ∀ p e s m below meth c T, Wk Z y.cls y.name bytes ml ret R n0 p l e s m as below meth c T 0 0 h0 → Goes p e below s R n0 Q (T.setTop (entryFrame m as ml))) : Met l Z y bytes ml ret R ws n0 as h0 Q := by
  refine MetFree.of_bodySF hp hisR ?_
  intro p e s m args below meth c s₁ Bd hml0 hP hK
  obtain ⟨rfl, hZ, hh⟩ := hP
  have e0 : s₁.heap = h0 := by rw [← hh, Bd.state]; rfl
  exact body p e s m below meth c s₁ ⟨[], Stand.of_body Bd, Fr.nil n0, e0, by rw [hh]; exact hn, Bd.exec, hZ, Bd.bytes, hml0, findClass_of_methodNamed Bd.named, (name_of_methodNamed Bd.named Bd.method).1, Bd.returns, Bd.notSynchronized⟩
theorem g_of {A B : State} (hs : ∀ t, Steps p.tables e below A t → Steps p.tables e below B t) (k : Goes p e below s R n0 Q A) : Goes p e below s R n0 Q B := by
  obtain ⟨s2, o, h1, h2⟩ := k
  exact ⟨s2, o, hs _ h1, h2⟩
theorem g_cast {g g' : JFrame} (q : g = g') (k : Goes p e below s R n0 Q (T.setTop g')) : Goes p e below s R n0 Q (T.setTop g) := q ▸ k
theorem g_eqI {pc : Nat} {Ls : Array Slot} {x y : Int32} {rest : List Value} (q : x = y) (k : Goes p e below s R n0 Q (T.setTop (mkF m pc Ls (.int y :: rest)))) : Goes p e below s R n0 Q (T.setTop (mkF m pc Ls (.int x :: rest))) := q ▸ k
theorem g_eqJ {pc : Nat} {Ls : Array Slot} {x y : Int64} {rest : List Value} (q : x = y) (k : Goes p e below s R n0 Q (T.setTop (mkF m pc Ls (.long y :: rest)))) : Goes p e below s R n0 Q (T.setTop (mkF m pc Ls (.long x :: rest))) := q ▸ k
theorem g_letJ {pc : Nat} {Ls : Array Slot} {x : Int64} {rest : List Value} (k : ∀ y, y = x → Goes p e below s R n0 Q (T.setTop (mkF m pc Ls (.long y :: rest)))) : Goes p e below s R n0 Q (T.setTop (mkF m pc Ls (.long x :: rest))) := k x rfl
theorem g_letI {pc : Nat} {Ls : Array Slot} {x : Int32} {rest : List Value} (k : ∀ y, y = x → Goes p e below s R n0 Q (T.setTop (mkF m pc Ls (.int y :: rest)))) : Goes p e below s R n0 Q (T.setTop (mkF m pc Ls (.int x :: rest))) := k x rfl
theorem Wk.size (X : Wk Z own nm bytes ml ret R n0 p l e s m args below meth c T cells slots h) : n0 ≤ h.size := by
  obtain ⟨locs, X, N, eh, hn, hx, hZ, hby, hml, hown, hnm, hret, hlk⟩ := X
  have q : s.heap.size ≤ T.heap.size := X.same.2.1
  rw [eh] at q
  exact Nat.le_trans hn q
theorem Wk.mono (X : Wk Z own nm bytes ml ret R n0 p l e s m args below meth c T cells slots h) {cells' slots' : Nat} (hc : cells ≤ cells') (hs : slots ≤ slots') : Wk Z own nm bytes ml ret R n0 p l e s m args below meth c T cells' slots' h := by
  obtain ⟨locs, X, N, eh, hn, hx, hZ, hby, hml, hown, hnm, hret, hlk⟩ := X
  exact ⟨locs, X.mono hc hs, N, eh, hn, hx, hZ, hby, hml, hown, hnm, hret, hlk⟩
theorem g_out (X : Wk Z own nm bytes ml ret R n0 p l e s m args below meth c T cells slots h) {g : JFrame} {v : Option Value} (hv : ret = none → v = none) (hc : cells ≤ R.cells) (hs : slots ≤ R.slots)
    (st : ∀ locs, Stand p l e R s m args below meth c T locs cells slots → p.tables.exec = Jvm.exec → meth.sig.returnType = ret → c.code = bytes → ∀ fs, (∀ (f : JFrame) (acts : List Action), f.method = m → f.locked = none → f.entered = [] → (doReturn e (T.setTop f) acts v).1 = T.setFrames fs) → Steps p.tables e below (T.setTop g) (T.setFrames fs))
    (hQ : Q v h) : Goes p e below s R n0 Q (T.setTop g) := by
  obtain ⟨locs, X, N, eh, hn, hx, hZ, hby, hml, hown, hnm, hret, hlk⟩ := X
  obtain ⟨fs, hr, hrun, hended, hW, hsame⟩ := X.leave (v := v) (fun q => hv (hret ▸ q)) hlk
  exact ⟨_, _, st _ X hx hret hby fs hr, hrun, hended, _, _, rfl, ⟨N, by rw [show (T.setFrames fs).heap = T.heap from rfl, eh]; exact hQ⟩, ⟨_, rfl⟩, hW, hsame.mono hc hs⟩
theorem g_retI (X : Wk Z own nm bytes ml (some .int) R n0 p l e s m args below meth c T cells slots h) {pc : Nat} {Ls : Array Slot} {z : Int32} {rest : List Value} (hd : decode bytes pc = .ok (.ireturn, 1)) (hc : cells ≤ R.cells) (hs : slots ≤ R.slots) (hQ : Q (some (.int z)) h) : Goes p e below s R n0 Q (T.setTop (mkF m pc Ls (.int z :: rest))) :=
  g_out X nofun hc hs (fun _ Y hx hr hb fs hl => retOut Y hx hr rfl (Or.inl ⟨rfl, Or.inl rfl, _, rfl⟩) (hb ▸ hd) hl) hQ
theorem g_retZ (X : Wk Z own nm bytes ml (some .boolean) R n0 p l e s m args below meth c T cells slots h) {pc : Nat} {Ls : Array Slot} {z : Int32} {rest : List Value} (hd : decode bytes pc = .ok (.ireturn, 1)) (hc : cells ≤ R.cells) (hs : slots ≤ R.slots) (hz : z = 0 ∨ z = 1) (hQ : Q (some (.int z)) h) : Goes p e below s R n0 Q (T.setTop (mkF m pc Ls (.int z :: rest))) :=
  g_out X nofun hc hs (fun _ Y hx hr hb fs hl => retOut Y hx hr (by rcases hz with rfl | rfl <;> rfl) (Or.inl ⟨rfl, Or.inr (Or.inl rfl), _, rfl⟩) (hb ▸ hd) hl) hQ
theorem g_retJ (X : Wk Z own nm bytes ml (some .long) R n0 p l e s m args below meth c T cells slots h) {pc : Nat} {Ls : Array Slot} {z : Int64} {rest : List Value} (hd : decode bytes pc = .ok (.lreturn, 1)) (hc : cells ≤ R.cells) (hs : slots ≤ R.slots) (hQ : Q (some (.long z)) h) : Goes p e below s R n0 Q (T.setTop (mkF m pc Ls (.long z :: rest))) :=
  g_out X nofun hc hs (fun _ Y hx hr hb fs hl => retOut Y hx hr rfl (Or.inr (Or.inl ⟨rfl, rfl, _, rfl⟩)) (hb ▸ hd) hl) hQ
theorem g_retA {t : FieldType} (X : Wk Z own nm bytes ml (some t) R n0 p l e s m args below meth c T cells slots h) (ht : t.isReference = true) {pc : Nat} {Ls : Array Slot} {w : Value} (hw : w.isRef = true) {rest : List Value} (hd : decode bytes pc = .ok (.areturn, 1)) (hc : cells ≤ R.cells) (hs : slots ≤ R.slots) (hQ : Q (some w) h) : Goes p e below s R n0 Q (T.setTop (mkF m pc Ls (w :: rest))) :=
  g_out X nofun hc hs (fun _ Y hx hr hb fs hl => retOut Y hx hr (by cases t <;> simp_all [narrow, FieldType.isReference]) (Or.inr (Or.inr (Or.inr (Or.inr ⟨rfl, ht, hw⟩)))) (hb ▸ hd) hl) hQ
theorem g_ret0 (X : Wk Z own nm bytes ml none R n0 p l e s m args below meth c T cells slots h) {pc : Nat} {Ls : Array Slot} (hd : decode bytes pc = .ok (.return_, 1)) (hc : cells ≤ R.cells) (hs : slots ≤ R.slots) (hQ : Q none h) : Goes p e below s R n0 Q (T.setTop (mkF m pc Ls [])) :=
  g_out X (fun _ => rfl) hc hs (fun _ Y hx hr hb fs hl => Y.returnOut hx hr (hb ▸ hd) hl) hQ
theorem g_lcmp (X : Wk Z own nm bytes ml ret R n0 p l e s m args below meth c T cells slots h) {pc q : Nat} {Ls : Array Slot} {rest : List Value} {x y : Int64} (hd : decode bytes pc = .ok (.lcmp, 1)) (hq : pc + 1 = q) (k : Goes p e below s R n0 Q (T.setTop (mkF m q Ls (.int (lcmpW x y) :: rest)))) : Goes p e below s R n0 Q (T.setTop (mkF m pc Ls (.long y :: .long x :: rest))) := by
  obtain ⟨locs, X, N, eh, hn, hx, hZ, hby, hml, hown, hnm, hret, hlk⟩ := X
  subst hby hq
  exact g_of (fun t r => XS.lcmp X.here hx rfl hd rfl r) k
theorem g_iadd (X : Wk Z own nm bytes ml ret R n0 p l e s m args below meth c T cells slots h) {pc q : Nat} {Ls : Array Slot} {rest : List Value} {x y : Int32} (hd : decode bytes pc = .ok (.iadd, 1)) (hq : pc + 1 = q) (k : Goes p e below s R n0 Q (T.setTop (mkF m q Ls (.int (x + y) :: rest)))) : Goes p e below s R n0 Q (T.setTop (mkF m pc Ls (.int y :: .int x :: rest))) := by
  obtain ⟨locs, X, N, eh, hn, hx, hZ, hby, hml, hown, hnm, hret, hlk⟩ := X
  subst hby hq
  exact g_of (fun t r => XS.iadd X.here hx rfl hd rfl r) k
theorem g_isub (X : Wk Z own nm bytes ml ret R n0 p l e s m args below meth c T cells slots h) {pc q : Nat} {Ls : Array Slot} {rest : List Value} {x y : Int32} (hd : decode bytes pc = .ok (.isub, 1)) (hq : pc + 1 = q) (k : Goes p e below s R n0 Q (T.setTop (mkF m q Ls (.int (x - y) :: rest)))) : Goes p e below s R n0 Q (T.setTop (mkF m pc Ls (.int y :: .int x :: rest))) := by
  obtain ⟨locs, X, N, eh, hn, hx, hZ, hby, hml, hown, hnm, hret, hlk⟩ := X
  subst hby hq
  exact g_of (fun t r => XS.isub X.here hx rfl hd rfl r) k
theorem g_imul (X : Wk Z own nm bytes ml ret R n0 p l e s m args below meth c T cells slots h) {pc q : Nat} {Ls : Array Slot} {rest : List Value} {x y : Int32} (hd : decode bytes pc = .ok (.imul, 1)) (hq : pc + 1 = q) (k : Goes p e below s R n0 Q (T.setTop (mkF m q Ls (.int (x * y) :: rest)))) : Goes p e below s R n0 Q (T.setTop (mkF m pc Ls (.int y :: .int x :: rest))) := by
  obtain ⟨locs, X, N, eh, hn, hx, hZ, hby, hml, hown, hnm, hret, hlk⟩ := X
  subst hby hq
  exact g_of (fun t r => XS.imul X.here hx rfl hd rfl r) k
theorem g_iand (X : Wk Z own nm bytes ml ret R n0 p l e s m args below meth c T cells slots h) {pc q : Nat} {Ls : Array Slot} {rest : List Value} {x y : Int32} (hd : decode bytes pc = .ok (.iand, 1)) (hq : pc + 1 = q) (k : Goes p e below s R n0 Q (T.setTop (mkF m q Ls (.int (x &&& y) :: rest)))) : Goes p e below s R n0 Q (T.setTop (mkF m pc Ls (.int y :: .int x :: rest))) := by
  obtain ⟨locs, X, N, eh, hn, hx, hZ, hby, hml, hown, hnm, hret, hlk⟩ := X
  subst hby hq
  exact g_of (fun t r => XS.iand X.here hx rfl hd rfl r) k
theorem g_ior (X : Wk Z own nm bytes ml ret R n0 p l e s m args below meth c T cells slots h) {pc q : Nat} {Ls : Array Slot} {rest : List Value} {x y : Int32} (hd : decode bytes pc = .ok (.ior, 1)) (hq : pc + 1 = q) (k : Goes p e below s R n0 Q (T.setTop (mkF m q Ls (.int (x ||| y) :: rest)))) : Goes p e below s R n0 Q (T.setTop (mkF m pc Ls (.int y :: .int x :: rest))) := by
  obtain ⟨locs, X, N, eh, hn, hx, hZ, hby, hml, hown, hnm, hret, hlk⟩ := X
  subst hby hq
  exact g_of (fun t r => XS.ior X.here hx rfl hd rfl r) k
theorem g_ixor (X : Wk Z own nm bytes ml ret R n0 p l e s m args below meth c T cells slots h) {pc q : Nat} {Ls : Array Slot} {rest : List Value} {x y : Int32} (hd : decode bytes pc = .ok (.ixor, 1)) (hq : pc + 1 = q) (k : Goes p e below s R n0 Q (T.setTop (mkF m q Ls (.int (x ^^^ y) :: rest)))) : Goes p e below s R n0 Q (T.setTop (mkF m pc Ls (.int y :: .int x :: rest))) := by
  obtain ⟨locs, X, N, eh, hn, hx, hZ, hby, hml, hown, hnm, hret, hlk⟩ := X
  subst hby hq
  exact g_of (fun t r => XS.ixor X.here hx rfl hd rfl r) k
theorem g_ladd (X : Wk Z own nm bytes ml ret R n0 p l e s m args below meth c T cells slots h) {pc q : Nat} {Ls : Array Slot} {rest : List Value} {x y : Int64} (hd : decode bytes pc = .ok (.ladd, 1)) (hq : pc + 1 = q) (k : Goes p e below s R n0 Q (T.setTop (mkF m q Ls (.long (x + y) :: rest)))) : Goes p e below s R n0 Q (T.setTop (mkF m pc Ls (.long y :: .long x :: rest))) := by
  obtain ⟨locs, X, N, eh, hn, hx, hZ, hby, hml, hown, hnm, hret, hlk⟩ := X
  subst hby hq
  exact g_of (fun t r => XS.ladd X.here hx rfl hd rfl r) k
theorem g_lsub (X : Wk Z own nm bytes ml ret R n0 p l e s m args below meth c T cells slots h) {pc q : Nat} {Ls : Array Slot} {rest : List Value} {x y : Int64} (hd : decode bytes pc = .ok (.lsub, 1)) (hq : pc + 1 = q) (k : Goes p e below s R n0 Q (T.setTop (mkF m q Ls (.long (x - y) :: rest)))) : Goes p e below s R n0 Q (T.setTop (mkF m pc Ls (.long y :: .long x :: rest))) := by
  obtain ⟨locs, X, N, eh, hn, hx, hZ, hby, hml, hown, hnm, hret, hlk⟩ := X
  subst hby hq
  exact g_of (fun t r => XS.lsub X.here hx rfl hd rfl r) k
theorem g_lmul (X : Wk Z own nm bytes ml ret R n0 p l e s m args below meth c T cells slots h) {pc q : Nat} {Ls : Array Slot} {rest : List Value} {x y : Int64} (hd : decode bytes pc = .ok (.lmul, 1)) (hq : pc + 1 = q) (k : Goes p e below s R n0 Q (T.setTop (mkF m q Ls (.long (x * y) :: rest)))) : Goes p e below s R n0 Q (T.setTop (mkF m pc Ls (.long y :: .long x :: rest))) := by
  obtain ⟨locs, X, N, eh, hn, hx, hZ, hby, hml, hown, hnm, hret, hlk⟩ := X
  subst hby hq
  exact g_of (fun t r => XS.lmul X.here hx rfl hd rfl r) k
theorem g_land (X : Wk Z own nm bytes ml ret R n0 p l e s m args below meth c T cells slots h) {pc q : Nat} {Ls : Array Slot} {rest : List Value} {x y : Int64} (hd : decode bytes pc = .ok (.land, 1)) (hq : pc + 1 = q) (k : Goes p e below s R n0 Q (T.setTop (mkF m q Ls (.long (x &&& y) :: rest)))) : Goes p e below s R n0 Q (T.setTop (mkF m pc Ls (.long y :: .long x :: rest))) := by
  obtain ⟨locs, X, N, eh, hn, hx, hZ, hby, hml, hown, hnm, hret, hlk⟩ := X
  subst hby hq
  exact g_of (fun t r => XS.land X.here hx rfl hd rfl r) k
theorem g_lor (X : Wk Z own nm bytes ml ret R n0 p l e s m args below meth c T cells slots h) {pc q : Nat} {Ls : Array Slot} {rest : List Value} {x y : Int64} (hd : decode bytes pc = .ok (.lor, 1)) (hq : pc + 1 = q) (k : Goes p e below s R n0 Q (T.setTop (mkF m q Ls (.long (x ||| y) :: rest)))) : Goes p e below s R n0 Q (T.setTop (mkF m pc Ls (.long y :: .long x :: rest))) := by
  obtain ⟨locs, X, N, eh, hn, hx, hZ, hby, hml, hown, hnm, hret, hlk⟩ := X
  subst hby hq
  exact g_of (fun t r => XS.lor X.here hx rfl hd rfl r) k
theorem g_lxor (X : Wk Z own nm bytes ml ret R n0 p l e s m args below meth c T cells slots h) {pc q : Nat} {Ls : Array Slot} {rest : List Value} {x y : Int64} (hd : decode bytes pc = .ok (.lxor, 1)) (hq : pc + 1 = q) (k : Goes p e below s R n0 Q (T.setTop (mkF m q Ls (.long (x ^^^ y) :: rest)))) : Goes p e below s R n0 Q (T.setTop (mkF m pc Ls (.long y :: .long x :: rest))) := by
  obtain ⟨locs, X, N, eh, hn, hx, hZ, hby, hml, hown, hnm, hret, hlk⟩ := X
  subst hby hq
  exact g_of (fun t r => XS.lxor X.here hx rfl hd rfl r) k
theorem g_idiv (X : Wk Z own nm bytes ml ret R n0 p l e s m args below meth c T cells slots h) {pc q : Nat} {Ls : Array Slot} {rest : List Value} {x y : Int32} (hd : decode bytes pc = .ok (.idiv, 1)) (hq : pc + 1 = q) (hy : y ≠ 0) (k : Goes p e below s R n0 Q (T.setTop (mkF m q Ls (.int (x / y) :: rest)))) : Goes p e below s R n0 Q (T.setTop (mkF m pc Ls (.int y :: .int x :: rest))) := by
  obtain ⟨locs, X, N, eh, hn, hx, hZ, hby, hml, hown, hnm, hret, hlk⟩ := X
  subst hby hq
  exact g_of (fun t r => XS.idiv X.here hx rfl hd rfl hy r) k
theorem g_irem (X : Wk Z own nm bytes ml ret R n0 p l e s m args below meth c T cells slots h) {pc q : Nat} {Ls : Array Slot} {rest : List Value} {x y : Int32} (hd : decode bytes pc = .ok (.irem, 1)) (hq : pc + 1 = q) (hy : y ≠ 0) (k : Goes p e below s R n0 Q (T.setTop (mkF m q Ls (.int (x % y) :: rest)))) : Goes p e below s R n0 Q (T.setTop (mkF m pc Ls (.int y :: .int x :: rest))) := by
  obtain ⟨locs, X, N, eh, hn, hx, hZ, hby, hml, hown, hnm, hret, hlk⟩ := X
  subst hby hq
  exact g_of (fun t r => XS.irem X.here hx rfl hd rfl hy (by rw [irem_eq_mod x y]; exact r)) k
theorem g_ldiv (X : Wk Z own nm bytes ml ret R n0 p l e s m args below meth c T cells slots h) {pc q : Nat} {Ls : Array Slot} {rest : List Value} {x y : Int64} (hd : decode bytes pc = .ok (.ldiv, 1)) (hq : pc + 1 = q) (hy : y ≠ 0) (k : Goes p e below s R n0 Q (T.setTop (mkF m q Ls (.long (x / y) :: rest)))) : Goes p e below s R n0 Q (T.setTop (mkF m pc Ls (.long y :: .long x :: rest))) := by
  obtain ⟨locs, X, N, eh, hn, hx, hZ, hby, hml, hown, hnm, hret, hlk⟩ := X
  subst hby hq
  exact g_of (fun t r => XS.ldiv X.here hx rfl hd rfl hy r) k
theorem g_lrem (X : Wk Z own nm bytes ml ret R n0 p l e s m args below meth c T cells slots h) {pc q : Nat} {Ls : Array Slot} {rest : List Value} {x y : Int64} (hd : decode bytes pc = .ok (.lrem, 1)) (hq : pc + 1 = q) (hy : y ≠ 0) (k : Goes p e below s R n0 Q (T.setTop (mkF m q Ls (.long (x % y) :: rest)))) : Goes p e below s R n0 Q (T.setTop (mkF m pc Ls (.long y :: .long x :: rest))) := by
  obtain ⟨locs, X, N, eh, hn, hx, hZ, hby, hml, hown, hnm, hret, hlk⟩ := X
  subst hby hq
  exact g_of (fun t r => XS.lrem X.here hx rfl hd rfl hy (by rw [lrem_mod x y]; exact r)) k
theorem g_ineg (X : Wk Z own nm bytes ml ret R n0 p l e s m args below meth c T cells slots h) {pc q : Nat} {Ls : Array Slot} {rest : List Value} {x : Int32} (hd : decode bytes pc = .ok (.ineg, 1)) (hq : pc + 1 = q) (k : Goes p e below s R n0 Q (T.setTop (mkF m q Ls (.int (-x) :: rest)))) : Goes p e below s R n0 Q (T.setTop (mkF m pc Ls (.int x :: rest))) := by
  obtain ⟨locs, X, N, eh, hn, hx, hZ, hby, hml, hown, hnm, hret, hlk⟩ := X
  subst hby hq
  exact g_of (fun t r => XS.ineg X.here hx rfl hd rfl r) k
theorem g_lneg (X : Wk Z own nm bytes ml ret R n0 p l e s m args below meth c T cells slots h) {pc q : Nat} {Ls : Array Slot} {rest : List Value} {x : Int64} (hd : decode bytes pc = .ok (.lneg, 1)) (hq : pc + 1 = q) (k : Goes p e below s R n0 Q (T.setTop (mkF m q Ls (.long (-x) :: rest)))) : Goes p e below s R n0 Q (T.setTop (mkF m pc Ls (.long x :: rest))) := by
  obtain ⟨locs, X, N, eh, hn, hx, hZ, hby, hml, hown, hnm, hret, hlk⟩ := X
  subst hby hq
  exact g_of (fun t r => XS.lneg X.here hx rfl hd rfl r) k
theorem g_i2l (X : Wk Z own nm bytes ml ret R n0 p l e s m args below meth c T cells slots h) {pc q : Nat} {Ls : Array Slot} {rest : List Value} {x : Int32} (hd : decode bytes pc = .ok (.i2l, 1)) (hq : pc + 1 = q) (k : Goes p e below s R n0 Q (T.setTop (mkF m q Ls (.long x.toInt64 :: rest)))) : Goes p e below s R n0 Q (T.setTop (mkF m pc Ls (.int x :: rest))) := by
  obtain ⟨locs, X, N, eh, hn, hx, hZ, hby, hml, hown, hnm, hret, hlk⟩ := X
  subst hby hq
  exact g_of (fun t r => XS.i2l X.here hx rfl hd rfl r) k
theorem g_l2i (X : Wk Z own nm bytes ml ret R n0 p l e s m args below meth c T cells slots h) {pc q : Nat} {Ls : Array Slot} {rest : List Value} {x : Int64} (hd : decode bytes pc = .ok (.l2i, 1)) (hq : pc + 1 = q) (k : Goes p e below s R n0 Q (T.setTop (mkF m q Ls (.int x.toInt32 :: rest)))) : Goes p e below s R n0 Q (T.setTop (mkF m pc Ls (.long x :: rest))) := by
  obtain ⟨locs, X, N, eh, hn, hx, hZ, hby, hml, hown, hnm, hret, hlk⟩ := X
  subst hby hq
  exact g_of (fun t r => XS.l2i X.here hx rfl hd rfl r) k
theorem g_i2b (X : Wk Z own nm bytes ml ret R n0 p l e s m args below meth c T cells slots h) {pc q : Nat} {Ls : Array Slot} {rest : List Value} {x : Int32} (hd : decode bytes pc = .ok (.i2b, 1)) (hq : pc + 1 = q) (k : Goes p e below s R n0 Q (T.setTop (mkF m q Ls (.int x.toInt8.toInt32 :: rest)))) : Goes p e below s R n0 Q (T.setTop (mkF m pc Ls (.int x :: rest))) := by
  obtain ⟨locs, X, N, eh, hn, hx, hZ, hby, hml, hown, hnm, hret, hlk⟩ := X
  subst hby hq
  exact g_of (fun t r => XS.i2b X.here hx rfl hd rfl r) k
theorem g_ishl (X : Wk Z own nm bytes ml ret R n0 p l e s m args below meth c T cells slots h) {pc q : Nat} {Ls : Array Slot} {rest : List Value} {x y : Int32} (hd : decode bytes pc = .ok (.ishl, 1)) (hq : pc + 1 = q) (k : Goes p e below s R n0 Q (T.setTop (mkF m q Ls (.int (x <<< (y &&& 31)) :: rest)))) : Goes p e below s R n0 Q (T.setTop (mkF m pc Ls (.int y :: .int x :: rest))) := by
  obtain ⟨locs, X, N, eh, hn, hx, hZ, hby, hml, hown, hnm, hret, hlk⟩ := X
  subst hby hq
  exact g_of (fun t r => XS.ishl X.here hx rfl hd rfl r) k
theorem g_ishr (X : Wk Z own nm bytes ml ret R n0 p l e s m args below meth c T cells slots h) {pc q : Nat} {Ls : Array Slot} {rest : List Value} {x y : Int32} (hd : decode bytes pc = .ok (.ishr, 1)) (hq : pc + 1 = q) (k : Goes p e below s R n0 Q (T.setTop (mkF m q Ls (.int (x >>> (y &&& 31)) :: rest)))) : Goes p e below s R n0 Q (T.setTop (mkF m pc Ls (.int y :: .int x :: rest))) := by
  obtain ⟨locs, X, N, eh, hn, hx, hZ, hby, hml, hown, hnm, hret, hlk⟩ := X
  subst hby hq
  exact g_of (fun t r => XS.ishr X.here hx rfl hd rfl r) k
theorem g_iushr (X : Wk Z own nm bytes ml ret R n0 p l e s m args below meth c T cells slots h) {pc q : Nat} {Ls : Array Slot} {rest : List Value} {x y : Int32} (hd : decode bytes pc = .ok (.iushr, 1)) (hq : pc + 1 = q) (k : Goes p e below s R n0 Q (T.setTop (mkF m q Ls (.int ((x.toUInt32 >>> (y &&& 31).toUInt32).toInt32) :: rest)))) : Goes p e below s R n0 Q (T.setTop (mkF m pc Ls (.int y :: .int x :: rest))) := by
  obtain ⟨locs, X, N, eh, hn, hx, hZ, hby, hml, hown, hnm, hret, hlk⟩ := X
  subst hby hq
  exact g_of (fun t r => XS.iushr X.here hx rfl hd rfl r) k
theorem g_lshl (X : Wk Z own nm bytes ml ret R n0 p l e s m args below meth c T cells slots h) {pc q : Nat} {Ls : Array Slot} {rest : List Value} {x : Int64} {y : Int32} (hd : decode bytes pc = .ok (.lshl, 1)) (hq : pc + 1 = q) (k : Goes p e below s R n0 Q (T.setTop (mkF m q Ls (.long (x <<< (y &&& 0x3f).toInt64) :: rest)))) : Goes p e below s R n0 Q (T.setTop (mkF m pc Ls (.int y :: .long x :: rest))) := by
  obtain ⟨locs, X, N, eh, hn, hx, hZ, hby, hml, hown, hnm, hret, hlk⟩ := X
  subst hby hq
  exact g_of (fun t r => XS.lshl X.here hx rfl hd rfl r) k
theorem g_lshr (X : Wk Z own nm bytes ml ret R n0 p l e s m args below meth c T cells slots h) {pc q : Nat} {Ls : Array Slot} {rest : List Value} {x : Int64} {y : Int32} (hd : decode bytes pc = .ok (.lshr, 1)) (hq : pc + 1 = q) (k : Goes p e below s R n0 Q (T.setTop (mkF m q Ls (.long (x >>> (y &&& 0x3f).toInt64) :: rest)))) : Goes p e below s R n0 Q (T.setTop (mkF m pc Ls (.int y :: .long x :: rest))) := by
  obtain ⟨locs, X, N, eh, hn, hx, hZ, hby, hml, hown, hnm, hret, hlk⟩ := X
  subst hby hq
  exact g_of (fun t r => XS.lshr X.here hx rfl hd rfl r) k
theorem g_lushr (X : Wk Z own nm bytes ml ret R n0 p l e s m args below meth c T cells slots h) {pc q : Nat} {Ls : Array Slot} {rest : List Value} {x : Int64} {y : Int32} (hd : decode bytes pc = .ok (.lushr, 1)) (hq : pc + 1 = q) (k : Goes p e below s R n0 Q (T.setTop (mkF m q Ls (.long ((x.toUInt64 >>> (y &&& 0x3f).toInt64.toUInt64).toInt64) :: rest)))) : Goes p e below s R n0 Q (T.setTop (mkF m pc Ls (.int y :: .long x :: rest))) := by
  obtain ⟨locs, X, N, eh, hn, hx, hZ, hby, hml, hown, hnm, hret, hlk⟩ := X
  subst hby hq
  exact g_of (fun t r => XS.lushr X.here hx rfl hd rfl r) k
theorem g_iload (X : Wk Z own nm bytes ml ret R n0 p l e s m args below meth c T cells slots h) {pc q : Nat} {Ls : Array Slot} {st : List Value} {i : Nat} {v : Int32} (hd : decode bytes pc = .ok (.iload i, 2)) (hq : pc + 2 = q) (hl : Ls[i]? = some (.val (.int v))) (k : Goes p e below s R n0 Q (T.setTop (mkF m q Ls (.int v :: st)))) : Goes p e below s R n0 Q (T.setTop (mkF m pc Ls st)) := by
  obtain ⟨locs, X, N, eh, hn, hx, hZ, hby, hml, hown, hnm, hret, hlk⟩ := X
  subst hby hq
  exact g_of (fun t r => XS.iload X.here hx rfl hd hl r) k
theorem g_iloadN (X : Wk Z own nm bytes ml ret R n0 p l e s m args below meth c T cells slots h) {pc q : Nat} {Ls : Array Slot} {st : List Value} {i : Fin 4} {v : Int32} (hd : decode bytes pc = .ok (.iload_n i, 1)) (hq : pc + 1 = q) (hl : Ls[i.val]? = some (.val (.int v))) (k : Goes p e below s R n0 Q (T.setTop (mkF m q Ls (.int v :: st)))) : Goes p e below s R n0 Q (T.setTop (mkF m pc Ls st)) := by
  obtain ⟨locs, X, N, eh, hn, hx, hZ, hby, hml, hown, hnm, hret, hlk⟩ := X
  subst hby hq
  exact g_of (fun t r => XS.iloadN X.here hx rfl hd hl r) k
theorem g_lload (X : Wk Z own nm bytes ml ret R n0 p l e s m args below meth c T cells slots h) {pc q : Nat} {Ls : Array Slot} {st : List Value} {i : Nat} {v : Int64} (hd : decode bytes pc = .ok (.lload i, 2)) (hq : pc + 2 = q) (hl : Ls[i]? = some (.val (.long v))) (k : Goes p e below s R n0 Q (T.setTop (mkF m q Ls (.long v :: st)))) : Goes p e below s R n0 Q (T.setTop (mkF m pc Ls st)) := by
  obtain ⟨locs, X, N, eh, hn, hx, hZ, hby, hml, hown, hnm, hret, hlk⟩ := X
  subst hby hq
  exact g_of (fun t r => XS.lload X.here hx rfl hd hl r) k
theorem g_lloadN (X : Wk Z own nm bytes ml ret R n0 p l e s m args below meth c T cells slots h) {pc q : Nat} {Ls : Array Slot} {st : List Value} {i : Fin 4} {v : Int64} (hd : decode bytes pc = .ok (.lload_n i, 1)) (hq : pc + 1 = q) (hl : Ls[i.val]? = some (.val (.long v))) (k : Goes p e below s R n0 Q (T.setTop (mkF m q Ls (.long v :: st)))) : Goes p e below s R n0 Q (T.setTop (mkF m pc Ls st)) := by
  obtain ⟨locs, X, N, eh, hn, hx, hZ, hby, hml, hown, hnm, hret, hlk⟩ := X
  subst hby hq
  exact g_of (fun t r => XS.lloadN X.here hx rfl hd hl r) k
theorem g_aload (X : Wk Z own nm bytes ml ret R n0 p l e s m args below meth c T cells slots h) {pc q : Nat} {Ls : Array Slot} {st : List Value} {i : Nat} {v : Value} (hd : decode bytes pc = .ok (.aload i, 2)) (hq : pc + 2 = q) (hl : Ls[i]? = some (.val v)) (hv : v.isRef = true) (k : Goes p e below s R n0 Q (T.setTop (mkF m q Ls (v :: st)))) : Goes p e below s R n0 Q (T.setTop (mkF m pc Ls st)) := by
  obtain ⟨locs, X, N, eh, hn, hx, hZ, hby, hml, hown, hnm, hret, hlk⟩ := X
  subst hby hq
  exact g_of (fun t r => XS.aload X.here hx rfl hd hl hv r) k
theorem g_aloadN (X : Wk Z own nm bytes ml ret R n0 p l e s m args below meth c T cells slots h) {pc q : Nat} {Ls : Array Slot} {st : List Value} {i : Fin 4} {v : Value} (hd : decode bytes pc = .ok (.aload_n i, 1)) (hq : pc + 1 = q) (hl : Ls[i.val]? = some (.val v)) (hv : v.isRef = true) (k : Goes p e below s R n0 Q (T.setTop (mkF m q Ls (v :: st)))) : Goes p e below s R n0 Q (T.setTop (mkF m pc Ls st)) := by
  obtain ⟨locs, X, N, eh, hn, hx, hZ, hby, hml, hown, hnm, hret, hlk⟩ := X
  subst hby hq
  exact g_of (fun t r => XS.aloadN X.here hx rfl hd hl hv r) k
theorem g_istore (X : Wk Z own nm bytes ml ret R n0 p l e s m args below meth c T cells slots h) {pc q : Nat} {Ls : Array Slot} {rest : List Value} {i : Nat} {v : Int32} {L' : Array Slot} (hd : decode bytes pc = .ok (.istore i, 2)) (hq : pc + 2 = q) (hl : storeLocals Ls i (.int v) = some L') (k : Goes p e below s R n0 Q (T.setTop (mkF m q L' rest))) : Goes p e below s R n0 Q (T.setTop (mkF m pc Ls (.int v :: rest))) := by
  obtain ⟨locs, X, N, eh, hn, hx, hZ, hby, hml, hown, hnm, hret, hlk⟩ := X
  subst hby hq
  exact g_of (fun t r => XS.istore X.here hx rfl hd rfl hl r) k
theorem g_istoreN (X : Wk Z own nm bytes ml ret R n0 p l e s m args below meth c T cells slots h) {pc q : Nat} {Ls : Array Slot} {rest : List Value} {i : Fin 4} {v : Int32} {L' : Array Slot} (hd : decode bytes pc = .ok (.istore_n i, 1)) (hq : pc + 1 = q) (hl : storeLocals Ls i.val (.int v) = some L') (k : Goes p e below s R n0 Q (T.setTop (mkF m q L' rest))) : Goes p e below s R n0 Q (T.setTop (mkF m pc Ls (.int v :: rest))) := by
  obtain ⟨locs, X, N, eh, hn, hx, hZ, hby, hml, hown, hnm, hret, hlk⟩ := X
  subst hby hq
  exact g_of (fun t r => XS.istoreN X.here hx rfl hd rfl hl r) k
theorem g_lstore (X : Wk Z own nm bytes ml ret R n0 p l e s m args below meth c T cells slots h) {pc q : Nat} {Ls : Array Slot} {rest : List Value} {i : Nat} {v : Int64} {L' : Array Slot} (hd : decode bytes pc = .ok (.lstore i, 2)) (hq : pc + 2 = q) (hl : storeLocals Ls i (.long v) = some L') (k : Goes p e below s R n0 Q (T.setTop (mkF m q L' rest))) : Goes p e below s R n0 Q (T.setTop (mkF m pc Ls (.long v :: rest))) := by
  obtain ⟨locs, X, N, eh, hn, hx, hZ, hby, hml, hown, hnm, hret, hlk⟩ := X
  subst hby hq
  exact g_of (fun t r => XS.lstore X.here hx rfl hd rfl hl r) k
theorem g_lstoreN (X : Wk Z own nm bytes ml ret R n0 p l e s m args below meth c T cells slots h) {pc q : Nat} {Ls : Array Slot} {rest : List Value} {i : Fin 4} {v : Int64} {L' : Array Slot} (hd : decode bytes pc = .ok (.lstore_n i, 1)) (hq : pc + 1 = q) (hl : storeLocals Ls i.val (.long v) = some L') (k : Goes p e below s R n0 Q (T.setTop (mkF m q L' rest))) : Goes p e below s R n0 Q (T.setTop (mkF m pc Ls (.long v :: rest))) := by
  obtain ⟨locs, X, N, eh, hn, hx, hZ, hby, hml, hown, hnm, hret, hlk⟩ := X
  subst hby hq
  exact g_of (fun t r => XS.lstoreN X.here hx rfl hd rfl hl r) k
theorem g_astore (X : Wk Z own nm bytes ml ret R n0 p l e s m args below meth c T cells slots h) {pc q : Nat} {Ls : Array Slot} {rest : List Value} {i : Nat} {v : Value} {L' : Array Slot} (hd : decode bytes pc = .ok (.astore i, 2)) (hq : pc + 2 = q) (hv : v.isRef = true) (hl : storeLocals Ls i v = some L') (k : Goes p e below s R n0 Q (T.setTop (mkF m q L' rest))) : Goes p e below s R n0 Q (T.setTop (mkF m pc Ls (v :: rest))) := by
  obtain ⟨locs, X, N, eh, hn, hx, hZ, hby, hml, hown, hnm, hret, hlk⟩ := X
  subst hby hq
  exact g_of (fun t r => XS.astore X.here hx rfl hd rfl hv hl r) k
theorem g_astoreN (X : Wk Z own nm bytes ml ret R n0 p l e s m args below meth c T cells slots h) {pc q : Nat} {Ls : Array Slot} {rest : List Value} {i : Fin 4} {v : Value} {L' : Array Slot} (hd : decode bytes pc = .ok (.astore_n i, 1)) (hq : pc + 1 = q) (hv : v.isRef = true) (hl : storeLocals Ls i.val v = some L') (k : Goes p e below s R n0 Q (T.setTop (mkF m q L' rest))) : Goes p e below s R n0 Q (T.setTop (mkF m pc Ls (v :: rest))) := by
  obtain ⟨locs, X, N, eh, hn, hx, hZ, hby, hml, hown, hnm, hret, hlk⟩ := X
  subst hby hq
  exact g_of (fun t r => XS.astoreN X.here hx rfl hd rfl hv hl r) k
theorem g_iconst (X : Wk Z own nm bytes ml ret R n0 p l e s m args below meth c T cells slots h) {pc q : Nat} {Ls : Array Slot} {st : List Value} {i : Int} {v : Int32} (hd : decode bytes pc = .ok (.iconst i, 1)) (hq : pc + 1 = q) (hv : Int32.ofInt i = v) (k : Goes p e below s R n0 Q (T.setTop (mkF m q Ls (.int v :: st)))) : Goes p e below s R n0 Q (T.setTop (mkF m pc Ls st)) := by
  obtain ⟨locs, X, N, eh, hn, hx, hZ, hby, hml, hown, hnm, hret, hlk⟩ := X
  subst hby hq
  exact g_of (fun t r => XS.iconst X.here hx rfl hd (by rw [hv]; exact r)) k
theorem g_bipush (X : Wk Z own nm bytes ml ret R n0 p l e s m args below meth c T cells slots h) {pc q : Nat} {Ls : Array Slot} {st : List Value} {i : Int} {v : Int32} (hd : decode bytes pc = .ok (.bipush i, 2)) (hq : pc + 2 = q) (hv : (Int8.ofInt i).toInt32 = v) (k : Goes p e below s R n0 Q (T.setTop (mkF m q Ls (.int v :: st)))) : Goes p e below s R n0 Q (T.setTop (mkF m pc Ls st)) := by
  obtain ⟨locs, X, N, eh, hn, hx, hZ, hby, hml, hown, hnm, hret, hlk⟩ := X
  subst hby hq
  exact g_of (fun t r => XS.bipush X.here hx rfl hd (by rw [hv]; exact r)) k
theorem g_sipush (X : Wk Z own nm bytes ml ret R n0 p l e s m args below meth c T cells slots h) {pc q : Nat} {Ls : Array Slot} {st : List Value} {i : Int} {v : Int32} (hd : decode bytes pc = .ok (.sipush i, 3)) (hq : pc + 3 = q) (hv : (Int16.ofInt i).toInt32 = v) (k : Goes p e below s R n0 Q (T.setTop (mkF m q Ls (.int v :: st)))) : Goes p e below s R n0 Q (T.setTop (mkF m pc Ls st)) := by
  obtain ⟨locs, X, N, eh, hn, hx, hZ, hby, hml, hown, hnm, hret, hlk⟩ := X
  subst hby hq
  exact g_of (fun t r => XS.sipush X.here hx rfl hd (by rw [hv]; exact r)) k
theorem g_lconst (X : Wk Z own nm bytes ml ret R n0 p l e s m args below meth c T cells slots h) {pc q : Nat} {Ls : Array Slot} {st : List Value} {i : Fin 2} {v : Int64} (hd : decode bytes pc = .ok (.lconst i, 1)) (hq : pc + 1 = q) (hv : Int64.ofNat i = v) (k : Goes p e below s R n0 Q (T.setTop (mkF m q Ls (.long v :: st)))) : Goes p e below s R n0 Q (T.setTop (mkF m pc Ls st)) := by
  obtain ⟨locs, X, N, eh, hn, hx, hZ, hby, hml, hown, hnm, hret, hlk⟩ := X
  subst hby hq
  exact g_of (fun t r => XS.lconst X.here hx rfl hd (by rw [hv]; exact r)) k
theorem g_aconst_null (X : Wk Z own nm bytes ml ret R n0 p l e s m args below meth c T cells slots h) {pc q : Nat} {Ls : Array Slot} {st : List Value} (hd : decode bytes pc = .ok (.aconst_null, 1)) (hq : pc + 1 = q) (k : Goes p e below s R n0 Q (T.setTop (mkF m q Ls (.null :: st)))) : Goes p e below s R n0 Q (T.setTop (mkF m pc Ls st)) := by
  obtain ⟨locs, X, N, eh, hn, hx, hZ, hby, hml, hown, hnm, hret, hlk⟩ := X
  subst hby hq
  exact g_of (fun t r => XS.aconstNull X.here hx rfl hd r) k
theorem g_dup (X : Wk Z own nm bytes ml ret R n0 p l e s m args below meth c T cells slots h) {pc q : Nat} {Ls : Array Slot} {rest : List Value} {v : Value} (hd : decode bytes pc = .ok (.dup, 1)) (hq : pc + 1 = q) (hv : v.category = 1) (k : Goes p e below s R n0 Q (T.setTop (mkF m q Ls (v :: v :: rest)))) : Goes p e below s R n0 Q (T.setTop (mkF m pc Ls (v :: rest))) := by
  obtain ⟨locs, X, N, eh, hn, hx, hZ, hby, hml, hown, hnm, hret, hlk⟩ := X
  subst hby hq
  exact g_of (fun t r => XS.dup X.here hx rfl hd rfl hv r) k
theorem g_dup_x1 (X : Wk Z own nm bytes ml ret R n0 p l e s m args below meth c T cells slots h) {pc q : Nat} {Ls : Array Slot} {rest : List Value} {v w : Value} (hd : decode bytes pc = .ok (.dup_x1, 1)) (hq : pc + 1 = q) (hv : v.category = 1) (hw : w.category = 1) (k : Goes p e below s R n0 Q (T.setTop (mkF m q Ls (v :: w :: v :: rest)))) : Goes p e below s R n0 Q (T.setTop (mkF m pc Ls (v :: w :: rest))) := by
  obtain ⟨locs, X, N, eh, hn, hx, hZ, hby, hml, hown, hnm, hret, hlk⟩ := X
  subst hby hq
  exact g_of (fun t r => XS.dupX1 X.here hx rfl hd rfl hv hw r) k
theorem g_dup2 (X : Wk Z own nm bytes ml ret R n0 p l e s m args below meth c T cells slots h) {pc q : Nat} {Ls : Array Slot} {rest : List Value} {v w : Value} (hd : decode bytes pc = .ok (.dup2, 1)) (hq : pc + 1 = q) (hv : v.category = 1) (hw : w.category = 1) (k : Goes p e below s R n0 Q (T.setTop (mkF m q Ls (v :: w :: v :: w :: rest)))) : Goes p e below s R n0 Q (T.setTop (mkF m pc Ls (v :: w :: rest))) := by
  obtain ⟨locs, X, N, eh, hn, hx, hZ, hby, hml, hown, hnm, hret, hlk⟩ := X
  subst hby hq
  exact g_of (fun t r => Jvm.Free.XT.dup2 X.here hx rfl hd rfl hv hw r) k
theorem g_dup2L (X : Wk Z own nm bytes ml ret R n0 p l e s m args below meth c T cells slots h) {pc q : Nat} {Ls : Array Slot} {rest : List Value} {x : Int64} (hd : decode bytes pc = .ok (.dup2, 1)) (hq : pc + 1 = q) (k : Goes p e below s R n0 Q (T.setTop (mkF m q Ls (.long x :: .long x :: rest)))) : Goes p e below s R n0 Q (T.setTop (mkF m pc Ls (.long x :: rest))) := by
  obtain ⟨locs, X, N, eh, hn, hx, hZ, hby, hml, hown, hnm, hret, hlk⟩ := X
  subst hby hq
  exact g_of (fun t r => Jvm.Free.XT.dup2L X.here hx rfl hd rfl r) k
theorem g_pop (X : Wk Z own nm bytes ml ret R n0 p l e s m args below meth c T cells slots h) {pc q : Nat} {Ls : Array Slot} {rest : List Value} {v : Value} (hd : decode bytes pc = .ok (.pop, 1)) (hq : pc + 1 = q) (hv : v.category = 1) (k : Goes p e below s R n0 Q (T.setTop (mkF m q Ls rest))) : Goes p e below s R n0 Q (T.setTop (mkF m pc Ls (v :: rest))) := by
  obtain ⟨locs, X, N, eh, hn, hx, hZ, hby, hml, hown, hnm, hret, hlk⟩ := X
  subst hby hq
  exact g_of (fun t r => XS.pop X.here hx rfl hd rfl hv r) k
theorem g_iinc (X : Wk Z own nm bytes ml ret R n0 p l e s m args below meth c T cells slots h) {pc q : Nat} {Ls L' : Array Slot} {st : List Value} {i : Nat} {cst : Int} {x d : Int32} (hd : decode bytes pc = .ok (.iinc i cst, 3)) (hq : pc + 3 = q) (hl : Ls[i]? = some (.val (.int x))) (hc : Int32.ofInt cst = d) (hl' : storeLocals Ls i (.int (x + d)) = some L') (k : Goes p e below s R n0 Q (T.setTop (mkF m q L' st))) : Goes p e below s R n0 Q (T.setTop (mkF m pc Ls st)) := by
  obtain ⟨locs, X, N, eh, hn, hx, hZ, hby, hml, hown, hnm, hret, hlk⟩ := X
  subst hby hq hc
  exact g_of (fun t r => XS.iinc X.here hx rfl hd hl hl' r) k
theorem g_goto (X : Wk Z own nm bytes ml ret R n0 p l e s m args below meth c T cells slots h) {pc q : Nat} {Ls : Array Slot} {st : List Value} {o : Int} (hd : decode bytes pc = .ok (.goto o, 3)) (ho : 0 ≤ (pc : Int) + o) (hq : ((pc : Int) + o).toNat = q) (k : Goes p e below s R n0 Q (T.setTop (mkF m q Ls st))) : Goes p e below s R n0 Q (T.setTop (mkF m pc Ls st)) := by
  obtain ⟨locs, X, N, eh, hn, hx, hZ, hby, hml, hown, hnm, hret, hlk⟩ := X
  subst hby
  exact g_of (fun t r => XS.goto X.here hx rfl (pc0 := pc) rfl hd ho hq r) k
theorem g_bor (X : Wk Z own nm bytes ml ret R n0 p l e s m args below meth c T cells slots h) {pc q : Nat} {Ls : Array Slot} {rest : List Value} {A B : Prop} [Decidable A] [Decidable B] (hd : decode bytes pc = .ok (.ior, 1)) (hq : pc + 1 = q) (k : Goes p e below s R n0 Q (T.setTop (mkF m q Ls (.int (bI (A ∨ B)) :: rest)))) : Goes p e below s R n0 Q (T.setTop (mkF m pc Ls (.int (bI B) :: .int (bI A) :: rest))) :=
  g_ior X hd hq (by rw [show bI A ||| bI B = bI (A ∨ B) from own_bor A B]; exact k)
theorem g_band (X : Wk Z own nm bytes ml ret R n0 p l e s m args below meth c T cells slots h) {pc q : Nat} {Ls : Array Slot} {rest : List Value} {A B : Prop} [Decidable A] [Decidable B] (hd : decode bytes pc = .ok (.iand, 1)) (hq : pc + 1 = q) (k : Goes p e below s R n0 Q (T.setTop (mkF m q Ls (.int (bI (A ∧ B)) :: rest)))) : Goes p e below s R n0 Q (T.setTop (mkF m pc Ls (.int (bI B) :: .int (bI A) :: rest))) :=
  g_iand X hd hq (by rw [show bI A &&& bI B = bI (A ∧ B) from own_band A B]; exact k)
theorem hI {cd : ClassFile.Cond} {x y : Int32} (hcd : cd = .lt ∨ cd = .gt ∨ cd = .eq) : (pcI cd x y → if_icmp.holds cd x y = true) ∧ (¬ pcI cd x y → if_icmp.holds cd x y = false) := by
  rcases hcd with rfl | rfl | rfl
  · exact ⟨fun q => (tlt q).1, fun q => (flt q).1⟩
  · exact ⟨fun q => (tlt q).2.2.1, fun q => (flt q).2.2.1⟩
  · exact ⟨fun q => (teq q).1, fun q => (feq q).1⟩
theorem hN {cd : ClassFile.Cond} {x y : Int32} (hcd : cd = .ge ∨ cd = .le ∨ cd = .ne) : (pcI cd x y → if_icmp.holds cd x y = false) ∧ (¬ pcI cd x y → if_icmp.holds cd x y = true) := by
  rcases hcd with rfl | rfl | rfl
  · exact ⟨fun q => (tlt q).2.1, fun q => (flt q).2.1⟩
  · exact ⟨fun q => (tlt q).2.2.2, fun q => (flt q).2.2.2⟩
  · exact ⟨fun q => (teq q).2, fun q => (feq q).2⟩
theorem pcL {cd : ClassFile.Cond} {x y : Int64} : pcI cd (lcmpW x y) 0 ↔ pcJ cd x y := by
  cases cd
  · exact lw_eq x y
  · exact lw_eq x y
  · exact lw_lt x y
  · exact lw_lt x y
  · exact lw_gt x y
  · exact lw_gt x y
instance pcI_dec (cd : ClassFile.Cond) (x y : Int32) : Decidable (pcI cd x y) := by cases cd <;> (unfold pcI; infer_instance)
theorem g_icmpA (X : Wk Z own nm bytes ml ret R n0 p l e s m args below meth c T cells slots h) {pc q t : Nat} {Ls : Array Slot} {rest : List Value} {o : Int} {cd : ClassFile.Cond} {x y : Int32} (hd : decode bytes pc = .ok (.if_icmp cd o, 3)) (hcd : cd = .lt ∨ cd = .gt ∨ cd = .eq) (hq : pc + 3 = q) (ho : 0 ≤ (pc : Int) + o) (ht : ((pc : Int) + o).toNat = t) (kP : pcI cd x y → Goes p e below s R n0 Q (T.setTop (mkF m t Ls rest))) (kN : ¬ pcI cd x y → Goes p e below s R n0 Q (T.setTop (mkF m q Ls rest))) : Goes p e below s R n0 Q (T.setTop (mkF m pc Ls (.int y :: .int x :: rest))) := by
  obtain ⟨locs, X, N, eh, hn, hx, hZ, hby, hml, hown, hnm, hret, hlk⟩ := X
  subst hby hq
  by_cases hP : pcI cd x y
  · exact g_of (fun _ r => XS.icmpYes X.here hx rfl (pc0 := pc) rfl hd rfl ((hI hcd).1 hP) ho ht r) (kP hP)
  · exact g_of (fun _ r => XS.icmpNo X.here hx rfl hd rfl ((hI hcd).2 hP) r) (kN hP)
theorem g_ifA (X : Wk Z own nm bytes ml ret R n0 p l e s m args below meth c T cells slots h) {pc q t : Nat} {Ls : Array Slot} {rest : List Value} {o : Int} {cd : ClassFile.Cond} {x : Int32} (hd : decode bytes pc = .ok (.ifCond cd o, 3)) (hcd : cd = .lt ∨ cd = .gt ∨ cd = .eq) (hq : pc + 3 = q) (ho : 0 ≤ (pc : Int) + o) (ht : ((pc : Int) + o).toNat = t) (kP : pcI cd x 0 → Goes p e below s R n0 Q (T.setTop (mkF m t Ls rest))) (kN : ¬ pcI cd x 0 → Goes p e below s R n0 Q (T.setTop (mkF m q Ls rest))) : Goes p e below s R n0 Q (T.setTop (mkF m pc Ls (.int x :: rest))) := by
  obtain ⟨locs, X, N, eh, hn, hx, hZ, hby, hml, hown, hnm, hret, hlk⟩ := X
  subst hby hq
  by_cases hP : pcI cd x 0
  · exact g_of (fun _ r => XS.ifYes X.here hx rfl (pc0 := pc) rfl hd rfl ((if0 _ _).trans ((hI hcd).1 hP)) ho ht r) (kP hP)
  · exact g_of (fun _ r => XS.ifNo X.here hx rfl hd rfl ((if0 _ _).trans ((hI hcd).2 hP)) r) (kN hP)
theorem g_lcmpA (X : Wk Z own nm bytes ml ret R n0 p l e s m args below meth c T cells slots h) {pc q t : Nat} {Ls : Array Slot} {rest : List Value} {o : Int} {cd : ClassFile.Cond} {x y : Int64} {q1 : Nat} (hd0 : decode bytes pc = .ok (.lcmp, 1)) (hq1 : pc + 1 = q1) (hd : decode bytes q1 = .ok (.ifCond cd o, 3)) (hcd : cd = .lt ∨ cd = .gt ∨ cd = .eq) (hq : q1 + 3 = q) (ho : 0 ≤ (q1 : Int) + o) (ht : ((q1 : Int) + o).toNat = t) (kP : pcJ cd x y → Goes p e below s R n0 Q (T.setTop (mkF m t Ls rest))) (kN : ¬ pcJ cd x y → Goes p e below s R n0 Q (T.setTop (mkF m q Ls rest))) : Goes p e below s R n0 Q (T.setTop (mkF m pc Ls (.long y :: .long x :: rest))) := by
  refine g_lcmp X hd0 hq1 (g_ifA X hd hcd hq ho ht (fun z => kP (pcL.mp z)) (fun z => kN (fun w => z (pcL.mpr w))))
theorem g_icmpB (X : Wk Z own nm bytes ml ret R n0 p l e s m args below meth c T cells slots h) {pc q t : Nat} {Ls : Array Slot} {rest : List Value} {o : Int} {cd : ClassFile.Cond} {x y : Int32} (hd : decode bytes pc = .ok (.if_icmp cd o, 3)) (hcd : cd = .ge ∨ cd = .le ∨ cd = .ne) (hq : pc + 3 = q) (ho : 0 ≤ (pc : Int) + o) (ht : ((pc : Int) + o).toNat = t) (kP : pcI cd x y → Goes p e below s R n0 Q (T.setTop (mkF m q Ls rest))) (kN : ¬ pcI cd x y → Goes p e below s R n0 Q (T.setTop (mkF m t Ls rest))) : Goes p e below s R n0 Q (T.setTop (mkF m pc Ls (.int y :: .int x :: rest))) := by
  obtain ⟨locs, X, N, eh, hn, hx, hZ, hby, hml, hown, hnm, hret, hlk⟩ := X
  subst hby hq
  by_cases hP : pcI cd x y
  · exact g_of (fun _ r => XS.icmpNo X.here hx rfl hd rfl ((hN hcd).1 hP) r) (kP hP)
  · exact g_of (fun _ r => XS.icmpYes X.here hx rfl (pc0 := pc) rfl hd rfl ((hN hcd).2 hP) ho ht r) (kN hP)
theorem g_ifB (X : Wk Z own nm bytes ml ret R n0 p l e s m args below meth c T cells slots h) {pc q t : Nat} {Ls : Array Slot} {rest : List Value} {o : Int} {cd : ClassFile.Cond} {x : Int32} (hd : decode bytes pc = .ok (.ifCond cd o, 3)) (hcd : cd = .ge ∨ cd = .le ∨ cd = .ne) (hq : pc + 3 = q) (ho : 0 ≤ (pc : Int) + o) (ht : ((pc : Int) + o).toNat = t) (kP : pcI cd x 0 → Goes p e below s R n0 Q (T.setTop (mkF m q Ls rest))) (kN : ¬ pcI cd x 0 → Goes p e below s R n0 Q (T.setTop (mkF m t Ls rest))) : Goes p e below s R n0 Q (T.setTop (mkF m pc Ls (.int x :: rest))) := by
  obtain ⟨locs, X, N, eh, hn, hx, hZ, hby, hml, hown, hnm, hret, hlk⟩ := X
  subst hby hq
  by_cases hP : pcI cd x 0
  · exact g_of (fun _ r => XS.ifNo X.here hx rfl hd rfl ((if0 _ _).trans ((hN hcd).1 hP)) r) (kP hP)
  · exact g_of (fun _ r => XS.ifYes X.here hx rfl (pc0 := pc) rfl hd rfl ((if0 _ _).trans ((hN hcd).2 hP)) ho ht r) (kN hP)
theorem g_lcmpB (X : Wk Z own nm bytes ml ret R n0 p l e s m args below meth c T cells slots h) {pc q t : Nat} {Ls : Array Slot} {rest : List Value} {o : Int} {cd : ClassFile.Cond} {x y : Int64} {q1 : Nat} (hd0 : decode bytes pc = .ok (.lcmp, 1)) (hq1 : pc + 1 = q1) (hd : decode bytes q1 = .ok (.ifCond cd o, 3)) (hcd : cd = .ge ∨ cd = .le ∨ cd = .ne) (hq : q1 + 3 = q) (ho : 0 ≤ (q1 : Int) + o) (ht : ((q1 : Int) + o).toNat = t) (kP : pcJ cd x y → Goes p e below s R n0 Q (T.setTop (mkF m q Ls rest))) (kN : ¬ pcJ cd x y → Goes p e below s R n0 Q (T.setTop (mkF m t Ls rest))) : Goes p e below s R n0 Q (T.setTop (mkF m pc Ls (.long y :: .long x :: rest))) := by
  refine g_lcmp X hd0 hq1 (g_ifB X hd hcd hq ho ht (fun z => kP (pcL.mp z)) (fun z => kN (fun w => z (pcL.mpr w))))
theorem g_bne (X : Wk Z own nm bytes ml ret R n0 p l e s m args below meth c T cells slots h) {pc q t : Nat} {Ls : Array Slot} {rest : List Value} {o : Int} {c' : Prop} [Decidable c'] (hd : decode bytes pc = .ok (.ifCond .ne o, 3)) (hq : pc + 3 = q) (ho : 0 ≤ (pc : Int) + o) (ht : ((pc : Int) + o).toNat = t) (kP : c' → Goes p e below s R n0 Q (T.setTop (mkF m t Ls rest))) (kN : ¬ c' → Goes p e below s R n0 Q (T.setTop (mkF m q Ls rest))) : Goes p e below s R n0 Q (T.setTop (mkF m pc Ls (.int (bI c') :: rest))) :=
  g_ifB X hd (Or.inr (Or.inr rfl)) hq ho ht (fun z => kN ((bI_eq0 c').mp z)) (fun z => kP (Decidable.of_not_not fun w => z ((bI_eq0 c').mpr w)))
theorem g_beq (X : Wk Z own nm bytes ml ret R n0 p l e s m args below meth c T cells slots h) {pc q t : Nat} {Ls : Array Slot} {rest : List Value} {o : Int} {c' : Prop} [Decidable c'] (hd : decode bytes pc = .ok (.ifCond .eq o, 3)) (hq : pc + 3 = q) (ho : 0 ≤ (pc : Int) + o) (ht : ((pc : Int) + o).toNat = t) (kP : c' → Goes p e below s R n0 Q (T.setTop (mkF m q Ls rest))) (kN : ¬ c' → Goes p e below s R n0 Q (T.setTop (mkF m t Ls rest))) : Goes p e below s R n0 Q (T.setTop (mkF m pc Ls (.int (bI c') :: rest))) :=
  g_ifA X hd (Or.inr (Or.inr rfl)) hq ho ht (fun z => kN ((bI_eq0 c').mp z)) (fun z => kP (Decidable.of_not_not fun w => z ((bI_eq0 c').mpr w)))
theorem g_ifnullY (X : Wk Z own nm bytes ml ret R n0 p l e s m args below meth c T cells slots h) {pc q : Nat} {Ls : Array Slot} {rest : List Value} {o : Int} (hd : decode bytes pc = .ok (.ifnull o, 3)) (ho : 0 ≤ (pc : Int) + o) (hq : ((pc : Int) + o).toNat = q) (k : Goes p e below s R n0 Q (T.setTop (mkF m q Ls rest))) : Goes p e below s R n0 Q (T.setTop (mkF m pc Ls (.null :: rest))) := by
  obtain ⟨locs, X, N, eh, hn, hx, hZ, hby, hml, hown, hnm, hret, hlk⟩ := X
  subst hby
  exact g_of (fun t r => XS.ifnullYes X.here hx rfl (pc0 := pc) rfl hd rfl ho hq r) k
theorem g_ifnullN (X : Wk Z own nm bytes ml ret R n0 p l e s m args below meth c T cells slots h) {pc q : Nat} {Ls : Array Slot} {rest : List Value} {o : Int} {b : Addr} (hd : decode bytes pc = .ok (.ifnull o, 3)) (hq : pc + 3 = q) (k : Goes p e below s R n0 Q (T.setTop (mkF m q Ls rest))) : Goes p e below s R n0 Q (T.setTop (mkF m pc Ls (.ref b :: rest))) := by
  obtain ⟨locs, X, N, eh, hn, hx, hZ, hby, hml, hown, hnm, hret, hlk⟩ := X
  subst hby hq
  exact g_of (fun t r => XS.ifnullNo X.here hx rfl hd rfl r) k
theorem g_ifnonnullY (X : Wk Z own nm bytes ml ret R n0 p l e s m args below meth c T cells slots h) {pc q : Nat} {Ls : Array Slot} {rest : List Value} {o : Int} {b : Addr} (hd : decode bytes pc = .ok (.ifnonnull o, 3)) (ho : 0 ≤ (pc : Int) + o) (hq : ((pc : Int) + o).toNat = q) (k : Goes p e below s R n0 Q (T.setTop (mkF m q Ls rest))) : Goes p e below s R n0 Q (T.setTop (mkF m pc Ls (.ref b :: rest))) := by
  obtain ⟨locs, X, N, eh, hn, hx, hZ, hby, hml, hown, hnm, hret, hlk⟩ := X
  subst hby
  exact g_of (fun t r => XS.ifnonnullYes X.here hx rfl (pc0 := pc) rfl hd rfl ho hq r) k
theorem g_ifnonnullN (X : Wk Z own nm bytes ml ret R n0 p l e s m args below meth c T cells slots h) {pc q : Nat} {Ls : Array Slot} {rest : List Value} {o : Int} (hd : decode bytes pc = .ok (.ifnonnull o, 3)) (hq : pc + 3 = q) (k : Goes p e below s R n0 Q (T.setTop (mkF m q Ls rest))) : Goes p e below s R n0 Q (T.setTop (mkF m pc Ls (.null :: rest))) := by
  obtain ⟨locs, X, N, eh, hn, hx, hZ, hby, hml, hown, hnm, hret, hlk⟩ := X
  subst hby hq
  exact g_of (fun t r => XS.ifnonnullNo X.here hx rfl hd rfl r) k
theorem g_acmp (X : Wk Z own nm bytes ml ret R n0 p l e s m args below meth c T cells slots h) {pc q : Nat} {Ls : Array Slot} {rest : List Value} {o : Int} {cd : ACond} {x y : Value} {same : Bool} (hd : decode bytes pc = .ok (.if_acmp cd o, 3)) (h1 : x.isRef = true) (h2 : y.isRef = true) (hs : decide (x = y) = same) (ho : 0 ≤ (pc : Int) + o) (hq : q = if acV cd same = true then ((pc : Int) + o).toNat else pc + 3) (k : Goes p e below s R n0 Q (T.setTop (mkF m q Ls rest))) : Goes p e below s R n0 Q (T.setTop (mkF m pc Ls (y :: x :: rest))) := by
  obtain ⟨locs, X, N, eh, hn, hx, hZ, hby, hml, hown, hnm, hret, hlk⟩ := X
  subst hby
  exact g_of (fun t r => Jvm.RoadKit.acmp (g := mkF m pc Ls (y :: x :: rest)) X hx rfl h1 h2 (pc0 := pc) rfl hd rfl hs ho hq r) k

theorem g_ldc2 (X : Wk Z own nm bytes ml ret R n0 p l e s m args below meth c T cells slots h) {index : Nat} {v : Int64} (w : (Jvm.Cond.constantLong own index v).before a0 Z = true) {pc q : Nat} {Ls : Array Slot} {st : List Value} (hd : decode bytes pc = .ok (.ldc2_w index, 3)) (hq : pc + 3 = q) (k : Goes p e below s R n0 Q (T.setTop (mkF m q Ls (.long v :: st)))) : Goes p e below s R n0 Q (T.setTop (mkF m pc Ls st)) := by
  obtain ⟨locs, X, N, eh, hn, hx, hZ, hby, hml, hown, hnm, hret, hlk⟩ := X
  subst hby hq
  exact g_of (fun t r => X.ldc2Long hx hown (mvT hZ w) (g := mkF m pc Ls st) rfl hd t r) k
theorem g_ldc (X : Wk Z own nm bytes ml ret R n0 p l e s m args below meth c T cells slots h) {index : Nat} {v : Int32} (w : (Jvm.Cond.constant own index v).before a0 Z = true) {pc q : Nat} {Ls : Array Slot} {st : List Value} (hd : decode bytes pc = .ok (.ldc index, 2)) (hq : pc + 2 = q) (k : Goes p e below s R n0 Q (T.setTop (mkF m q Ls (.int v :: st)))) : Goes p e below s R n0 Q (T.setTop (mkF m pc Ls st)) := by
  obtain ⟨locs, X, N, eh, hn, hx, hZ, hby, hml, hown, hnm, hret, hlk⟩ := X
  subst hby hq
  exact g_of (fun t r => X.ldcInt hx hown (mvT hZ w) (g := mkF m pc Ls st) rfl hd t r) k
theorem g_getF (X : Wk Z own nm bytes ml ret R n0 p l e s m args below meth c T cells slots h) {index : Nat} {R0 O n d : String} (w : (Jvm.Cond.fieldLink own index R0 n d).before a0 Z = true) (via : Via Z R0 O n d) {a : Addr} {v : Value} (F : Fld Z h a O n d v) {pc q : Nat} {Ls : Array Slot} {rest : List Value} (hd : decode bytes pc = .ok (.getfield index, 3)) (hq : pc + 3 = q)
    (k : ∀ T', Wk Z own nm bytes ml ret R n0 p l e s m args below meth c T' cells slots h → Goes p e below s R n0 Q (T'.setTop (mkF m q Ls (v :: rest)))) : Goes p e below s R n0 Q (T.setTop (mkF m pc Ls (.ref a :: rest))) := by
  obtain ⟨locs, X, N, eh, hn, hx, hZ, hby, hml, hown, hnm, hret, hlk⟩ := X
  subst hby hq
  obtain ⟨T', X', e', st⟩ := getF X hx hZ hown (host := "") (Or.inl w) via eh F (g := mkF m pc Ls (.ref a :: rest)) rfl rfl hd
  exact g_of st (k T' ⟨locs, X', N, e', hn, hx, hZ, rfl, hml, hown, hnm, hret, hlk⟩)
theorem g_putF (X : Wk Z own nm bytes ml ret R n0 p l e s m args below meth c T cells slots h) {index kk : Nat} {R0 O n d C : String} {ty : FieldType} (w : (Jvm.Cond.fieldLink own index R0 n d).before a0 Z = true) (via : Via Z R0 O n d) {a : Addr} {v old : Value} (F : Fld Z h a O n d old) (E : Exa Z h a C) (L : (Jvm.Cond.lays C O n d).before a0 Z = true ∨ ((Jvm.Cond.laysFinal C O n d).before a0 Z = true ∧ own = O ∧ nm = "<init>")) (wi : (Jvm.Cond.instantiable C kk).before a0 Z = true) (hty : parseFieldDescriptor d = some ty) (hnr : narrow ty v = v) (hf : fits ty v = true) (ga : n0 ≤ a) {pc q : Nat} {Ls : Array Slot} {rest : List Value} (hd : decode bytes pc = .ok (.putfield index, 3)) (hq : pc + 3 = q)
    (k : ∀ T' h', Wk Z own nm bytes ml ret R n0 p l e s m args below meth c T' cells slots h' → Wr h h' a (Jvm.RoadKit.slotOf Z O n d) v → Goes p e below s R n0 Q (T'.setTop (mkF m q Ls rest))) : Goes p e below s R n0 Q (T.setTop (mkF m pc Ls (v :: .ref a :: rest))) := by
  obtain ⟨locs, X, N, eh, hn, hx, hZ, hby, hml, hown, hnm, hret, hlk⟩ := X
  subst hby hq
  obtain ⟨T', h', X', e', W', st⟩ := putF X hx hZ hown (host := "") (Or.inl w) via eh F E (L.imp id fun z => ⟨z.1, z.2.1, hnm.trans z.2.2⟩) wi hty hnr hf (g := mkF m pc Ls (v :: .ref a :: rest)) rfl rfl hd
  exact g_of st (k T' h' ⟨_, X', Fr.snoc X' N ga, e', hn, hx, hZ, rfl, hml, hown, hnm, hret, hlk⟩ W')
theorem g_new (X : Wk Z own nm bytes ml ret R n0 p l e s m args below meth c T cells slots h) {index n : Nat} {C : String} (w : (Jvm.Cond.classLink own index C).before a0 Z = true) (wi : (Jvm.Cond.instantiable C n).before a0 Z = true) (wz : (Jvm.Cond.initialized C).before a0 Z = true) {pc q c2 s2 : Nat} {Ls : Array Slot} {st : List Value} (hd : decode bytes pc = .ok (.new index, 3)) (hq : pc + 3 = q) (hc : cells + 1 = c2) (hs : slots + n = s2) (hcR : c2 ≤ R.cells) (hsR : s2 ≤ R.slots)
    (k : ∀ T' h' b, Wk Z own nm bytes ml ret R n0 p l e s m args below meth c T' c2 s2 h' → b = h.size → n0 ≤ b → Ext h h' → Exa Z h' b C → (∀ {O nm d : String} {ty : FieldType}, Laid Z a0 C O nm d → parseFieldDescriptor d = some ty → Fld Z h' b O nm d (defaultValue ty)) → Goes p e below s R n0 Q (T'.setTop (mkF m q Ls (.ref b :: st)))) : Goes p e below s R n0 Q (T.setTop (mkF m pc Ls st)) := by
  obtain ⟨locs, X, N, eh, hn, hx, hZ, hby, hml, hown, hnm, hret, hlk⟩ := X
  subst hby hq hc hs
  obtain ⟨T', h', X', e', E', A', D', -, stp⟩ := newO X hx hZ hown w wi wz eh (g := mkF m pc Ls st) rfl hd hcR hsR
  exact g_of stp (k T' h' _ ⟨locs, X', N, e', hn, hx, hZ, rfl, hml, hown, hnm, hret, hlk⟩ rfl (Wk.size ⟨locs, X, N, eh, hn, hx, hZ, rfl, hml, hown, hnm, hret, hlk⟩) E' A' D')
theorem g_initO (X : Wk Z own nm bytes ml ret R n0 p l e s m args below meth c T cells slots h) {index : Nat} (w1 : (Jvm.Cond.methodLink own index Lib.objectInit).before a0 Z = true) (w2 : (Jvm.Cond.instanceMethod Lib.objectInit).before a0 Z = true) (w3 : (Jvm.Cond.code Lib.objectInit ⟨#[0xb1]⟩ 1 none).before a0 Z = true) {a : Addr} {pc q W : Nat} {Ls : Array Slot} {rest : List Value} (hd : decode bytes pc = .ok (.invokespecial index, 3)) (hq : pc + 3 = q) (hLs : Ls.size = ml) (hf : 1 ≤ R.frames) (hW : (rest.map fun v => v.category).sum = W) (hl : W + 12 ≤ R.locals)
    (k : ∀ T', Wk Z own nm bytes ml ret R n0 p l e s m args below meth c T' cells slots h → Goes p e below s R n0 Q (T'.setTop (mkF m q Ls rest))) : Goes p e below s R n0 Q (T.setTop (mkF m pc Ls (.ref a :: rest))) := by
  obtain ⟨locs, X, N, eh, hn, hx, hZ, hby, hml, hown, hnm, hret, hlk⟩ := X
  subst hby hq
  obtain ⟨T', X', e', st⟩ := initO X hx hZ hown w1 w2 w3 eh (g := mkF m pc Ls (.ref a :: rest)) rfl (hLs.trans hml.symm) rfl hd hf (W := W) (by show 2 * 0 + _ ≤ _; omega) hl
  exact g_of st (k T' ⟨locs, X', N, e', hn, hx, hZ, rfl, hml, hown, hnm, hret, hlk⟩)
theorem own_back {index W : Nat} {y : MethodName} {yb : ByteArray} {yml : Nat} {yret : Option FieldType} {Ry : Room} {as' : Array Value} {len : Nat} {Qy : Option Value → Heap → Prop} (hZ : Z.Warmed39 s.vm) (w3 : (Jvm.Cond.initialized y.cls).before a0 Z = true) (w4 : (Jvm.Cond.code y yb yml yret).before a0 Z = true) (hM : Met l Z y yb yml yret Ry [] n0 as' h Qy) (hf : Ry.frames + 1 ≤ R.frames) (hlc : W + (yml + 11) + Ry.locals ≤ R.locals) :
    Back l R p e below s args y len W (fun A a => a = as' ∧ A.U.heap = h ∧ A.cells + Ry.cells ≤ R.cells ∧ A.slots + Ry.slots ≤ R.slots)
      (fun A _ v B => ∃ L, (Fr n0 L ∧ Qy v B.U.heap) ∧ B.locs = A.locs ++ L ∧ B.cells = A.cells + Ry.cells ∧ B.slots = A.slots + Ry.slots) :=
  backOf (Q := fun v h L => Fr n0 L ∧ Qy v h) hM hZ w4 w3 hf hlc
theorem g_callS (X : Wk Z own nm bytes ml ret R n0 p l e s m args below meth c T cells slots h) {index : Nat} {y : MethodName} {yb : ByteArray} {yml : Nat} {yret : Option FieldType} {Ry : Room} {Qy : Option Value → Heap → Prop} {ps : List FieldType} {r : Option FieldType} (as rest : List Value) (w1 : (Jvm.Cond.methodLink own index y).before a0 Z = true) (w2 : (Jvm.Cond.static y).before a0 Z = true) (w3 : (Jvm.Cond.initialized y.cls).before a0 Z = true) (w4 : (Jvm.Cond.code y yb yml yret).before a0 Z = true) (hy : y.cls ≠ "java/lang/invoke/MethodHandle" ∧ y.cls ≠ "java/lang/invoke/VarHandle") (hM : Met l Z y yb yml yret Ry [] n0 as.toArray h Qy) (hp : parseMethodDescriptor y.desc = some ⟨ps, r⟩) (hl : as.length = ps.length)
    {pc q c2 s2 W : Nat} {Ls : Array Slot} {st : List Value} (hst : st = as.reverse ++ rest) (hLs : Ls.size = ml) (hd : decode bytes pc = .ok (.invokestatic index, 3)) (hq : pc + 3 = q) (hW : (rest.map fun v => v.category).sum = W) (hf : Ry.frames + 1 ≤ R.frames) (hlc : W + (yml + 11) + Ry.locals ≤ R.locals) (hc : cells + Ry.cells = c2) (hs : slots + Ry.slots = s2) (hcR : c2 ≤ R.cells) (hsR : s2 ≤ R.slots)
    (k : ∀ v T' h', Wk Z own nm bytes ml ret R n0 p l e s m args below meth c T' c2 s2 h' → Qy v h' → Goes p e below s R n0 Q (T'.setTop (mkF m q Ls (v.toList ++ rest)))) : Goes p e below s R n0 Q (T.setTop (mkF m pc Ls st)) := by
  obtain ⟨locs, X, N, eh, hn, hx, hZ, hby, hml, hown, hnm, hret, hlk⟩ := X
  subst hby hq hc hs hst
  obtain ⟨v, _, ⟨T', L', k', n'⟩, -, X', ⟨Lc, ⟨hF, hQy⟩, l', y', z'⟩, stp⟩ := Jvm.LawKit.callS X hx (y := y) hown (mvT hZ w1) (mvT hZ w2) (mvT hZ w3) (mvT hZ w4) hy (own_back (index := index) (W := W) hZ w3 w4 hM hf hlc) (g := mkF m pc Ls (as.reverse ++ rest)) rfl (hLs.trans hml.symm) (argsL := as) (rest := rest) (lenOf hp hl) rfl (by show 2 * 0 + _ ≤ _; omega) hd (fun _ _ => ⟨rfl, eh, hcR, hsR⟩)
  dsimp only [Pt.U, Pt.locs, Pt.cells, Pt.slots] at X' l' y' z' stp hQy
  subst l' y' z'
  exact g_of stp (k v T' _ ⟨_, X', Fr.app N hF, rfl, hn, hx, hZ, rfl, hml, hown, hnm, hret, hlk⟩ hQy)
theorem g_callI (X : Wk Z own nm bytes ml ret R n0 p l e s m args below meth c T cells slots h) {index : Nat} {y : MethodName} {yb : ByteArray} {yml : Nat} {Ry : Room} {Qy : Option Value → Heap → Prop} {ps : List FieldType} {r : Option FieldType} {a : Addr} (as rest : List Value) (hy1 : y.name = "<init>") (w1 : (Jvm.Cond.methodLink own index y).before a0 Z = true) (w2 : (Jvm.Cond.instanceMethod y).before a0 Z = true) (w3 : (Jvm.Cond.initialized y.cls).before a0 Z = true) (w4 : (Jvm.Cond.code y yb yml none).before a0 Z = true) (hy : y.cls ≠ "java/lang/invoke/MethodHandle" ∧ y.cls ≠ "java/lang/invoke/VarHandle") (hM : Met l Z y yb yml none Ry [] n0 (.ref a :: as).toArray h Qy) (hp : parseMethodDescriptor y.desc = some ⟨ps, r⟩) (hl : as.length = ps.length)
    {pc q c2 s2 W : Nat} {Ls : Array Slot} {st : List Value} (hst : st = as.reverse ++ .ref a :: rest) (hLs : Ls.size = ml) (hd : decode bytes pc = .ok (.invokespecial index, 3)) (hq : pc + 3 = q) (hW : (rest.map fun v => v.category).sum = W) (hf : Ry.frames + 1 ≤ R.frames) (hlc : W + (yml + 11) + Ry.locals ≤ R.locals) (hc : cells + Ry.cells = c2) (hs : slots + Ry.slots = s2) (hcR : c2 ≤ R.cells) (hsR : s2 ≤ R.slots)
    (k : ∀ v T' h', Wk Z own nm bytes ml ret R n0 p l e s m args below meth c T' c2 s2 h' → Qy v h' → Goes p e below s R n0 Q (T'.setTop (mkF m q Ls (v.toList ++ rest)))) : Goes p e below s R n0 Q (T.setTop (mkF m pc Ls st)) := by
  obtain ⟨locs, X, N, eh, hn, hx, hZ, hby, hml, hown, hnm, hret, hlk⟩ := X
  subst hby hq hc hs hst
  obtain ⟨v, _, ⟨T', L', k', n'⟩, -, X', ⟨Lc, ⟨hF, hQy⟩, l', y', z'⟩, stp⟩ := X.specialBack hx (y := y) hy1 hown (mvT hZ w1) (mvT hZ w2) (mvT hZ w4) hy (own_back (index := index) (W := W) hZ w3 w4 hM hf hlc) (g := mkF m pc Ls (as.reverse ++ .ref a :: rest)) rfl (hLs.trans hml.symm) (Steps.refl _) (a := a) (argsL := as) (rest := rest) (lenOf hp hl) rfl (by show 2 * 0 + _ ≤ _; omega) hd (fun _ _ => ⟨rfl, eh, hcR, hsR⟩)
  dsimp only [Pt.U, Pt.locs, Pt.cells, Pt.slots] at X' l' y' z' stp hQy
  subst l' y' z'
  exact g_of (fun _ r => stp.trans r) (k v T' _ ⟨_, X', Fr.app N hF, rfl, hn, hx, hZ, rfl, hml, hown, hnm, hret, hlk⟩ hQy)
theorem g_callV (X : Wk Z own nm bytes ml ret R n0 p l e s m args below meth c T cells slots h) {index : Nat} {y : MethodName} {yb : ByteArray} {yml : Nat} {yret : Option FieldType} {Ry : Room} {Qy : Option Value → Heap → Prop} {ps : List FieldType} {r : Option FieldType} {a : Addr} {C : String} (E : Exa Z h a C) (as rest : List Value) (w1 : (Jvm.Cond.methodLink own index y).before a0 Z = true) (w2 : (Jvm.Cond.declares y).before a0 Z = true) (w5 : (Jvm.Cond.selects C y y).before a0 Z = true) (w6 : (Jvm.Cond.instanceMethod y).before a0 Z = true) (w3 : (Jvm.Cond.initialized y.cls).before a0 Z = true) (w4 : (Jvm.Cond.code y yb yml yret).before a0 Z = true) (hy : y.cls ≠ "java/lang/invoke/MethodHandle" ∧ y.cls ≠ "java/lang/invoke/VarHandle") (hM : Met l Z y yb yml yret Ry [] n0 (.ref a :: as).toArray h Qy) (hp : parseMethodDescriptor y.desc = some ⟨ps, r⟩) (hl : as.length = ps.length)
    {pc q c2 s2 W : Nat} {Ls : Array Slot} {st : List Value} (hst : st = as.reverse ++ .ref a :: rest) (hLs : Ls.size = ml) (hd : decode bytes pc = .ok (.invokevirtual index, 3)) (hq : pc + 3 = q) (hW : (rest.map fun v => v.category).sum = W) (hf : Ry.frames + 1 ≤ R.frames) (hlc : W + (yml + 11) + Ry.locals ≤ R.locals) (hc : cells + Ry.cells = c2) (hs : slots + Ry.slots = s2) (hcR : c2 ≤ R.cells) (hsR : s2 ≤ R.slots)
    (k : ∀ v T' h', Wk Z own nm bytes ml ret R n0 p l e s m args below meth c T' c2 s2 h' → Qy v h' → Goes p e below s R n0 Q (T'.setTop (mkF m q Ls (v.toList ++ rest)))) : Goes p e below s R n0 Q (T.setTop (mkF m pc Ls st)) := by
  obtain ⟨locs, X, N, eh, hn, hx, hZ, hby, hml, hown, hnm, hret, hlk⟩ := X
  subst hby hq hc hs hst
  obtain ⟨cq, kq, qa, qb, qc⟩ := isOf hZ eh E
  obtain ⟨v, _, ⟨T', L', k', n'⟩, -, X', ⟨Lc, ⟨hF, hQy⟩, l', y', z'⟩, stp⟩ := X.virtualBack hx (y := y) (z := y) hown (mvT hZ w1) (mvT hZ w2) (notFace_of_selects (args := #[]) (mvT hZ w5)) (mvT hZ w5) (mvT hZ w6) hy (own_back (index := index) (W := W) hZ w3 w4 hM hf hlc) qa qc (g := mkF m pc Ls (as.reverse ++ .ref a :: rest)) rfl (hLs.trans hml.symm) (Steps.refl _) (argsL := as) (rest := rest) (lenOf hp hl) rfl (by show 2 * 0 + _ ≤ _; omega) hd (fun _ _ => ⟨rfl, eh, hcR, hsR⟩)
  dsimp only [Pt.U, Pt.locs, Pt.cells, Pt.slots] at X' l' y' z' stp hQy
  subst l' y' z'
  exact g_of (fun _ r => stp.trans r) (k v T' _ ⟨_, X', Fr.app N hF, rfl, hn, hx, hZ, rfl, hml, hown, hnm, hret, hlk⟩ hQy)
theorem g_callP (X : Wk Z own nm bytes ml ret R n0 p l e s m args below meth c T cells slots h) {index : Nat} {y : MethodName} {yb : ByteArray} {yml : Nat} {yret : Option FieldType} {Ry : Room} {Qy : Option Value → Heap → Prop} {ps : List FieldType} {r : Option FieldType} {a : Addr} {C : String} (E : Exa Z h a C) (as rest : List Value) (w1 : (Jvm.Cond.methodLink own index y).before a0 Z = true) (w5 : (Jvm.Cond.selects y.cls y y).before a0 Z = true) (w6 : (Jvm.Cond.instanceMethod y).before a0 Z = true) (w7 : (Jvm.Cond.privateMethod y).before a0 Z = true) (w3 : (Jvm.Cond.initialized y.cls).before a0 Z = true) (w4 : (Jvm.Cond.code y yb yml yret).before a0 Z = true) (hy : y.cls ≠ "java/lang/invoke/MethodHandle" ∧ y.cls ≠ "java/lang/invoke/VarHandle") (hM : Met l Z y yb yml yret Ry [] n0 (.ref a :: as).toArray h Qy) (hp : parseMethodDescriptor y.desc = some ⟨ps, r⟩) (hl : as.length = ps.length)
    {pc q c2 s2 W : Nat} {Ls : Array Slot} {st : List Value} (hst : st = as.reverse ++ .ref a :: rest) (hLs : Ls.size = ml) (hd : decode bytes pc = .ok (.invokevirtual index, 3)) (hq : pc + 3 = q) (hW : (rest.map fun v => v.category).sum = W) (hf : Ry.frames + 1 ≤ R.frames) (hlc : W + (yml + 11) + Ry.locals ≤ R.locals) (hc : cells + Ry.cells = c2) (hs : slots + Ry.slots = s2) (hcR : c2 ≤ R.cells) (hsR : s2 ≤ R.slots)
    (k : ∀ v T' h', Wk Z own nm bytes ml ret R n0 p l e s m args below meth c T' c2 s2 h' → Qy v h' → Goes p e below s R n0 Q (T'.setTop (mkF m q Ls (v.toList ++ rest)))) : Goes p e below s R n0 Q (T.setTop (mkF m pc Ls st)) := by
  obtain ⟨locs, X, N, eh, hn, hx, hZ, hby, hml, hown, hnm, hret, hlk⟩ := X
  subst hby hq hc hs hst
  obtain ⟨cq, q1, q2⟩ := E.cell
  obtain ⟨v, _, ⟨T', L', k', n'⟩, -, X', ⟨Lc, ⟨hF, hQy⟩, l', y', z'⟩, stp⟩ := X.privateBack hx (y := y) hown (mvT hZ w1) (mvT hZ w6) (mvT hZ w5) (Cond.privateMethod_at (mvP hZ w7 (args := #[]))) (mvT hZ w4) hy (own_back (index := index) (W := W) hZ w3 w4 hM hf hlc) (g := mkF m pc Ls (as.reverse ++ .ref a :: rest)) rfl (hLs.trans hml.symm) (Steps.refl _) (a := a) (by rw [eh]; exact q1) q2 (argsL := as) (rest := rest) (lenOf hp hl) rfl (by show 2 * 0 + _ ≤ _; omega) hd (fun _ _ => ⟨rfl, eh, hcR, hsR⟩)
  dsimp only [Pt.U, Pt.locs, Pt.cells, Pt.slots] at X' l' y' z' stp hQy
  subst l' y' z'
  exact g_of (fun _ r => stp.trans r) (k v T' _ ⟨_, X', Fr.app N hF, rfl, hn, hx, hZ, rfl, hml, hown, hnm, hret, hlk⟩ hQy)

theorem g_alenI (X : Wk Z own nm bytes ml ret R n0 p l e s m args below meth c T cells slots h) {a : Addr} {ty : FieldType} {n : Nat} {f : Nat → Int32} (A : AI Z h a ty n f) {pc q : Nat} {Ls : Array Slot} {rest : List Value} (hd : decode bytes pc = .ok (.arraylength, 1)) (hq : pc + 1 = q) (k : Goes p e below s R n0 Q (T.setTop (mkF m q Ls (.int n.toInt32 :: rest)))) : Goes p e below s R n0 Q (T.setTop (mkF m pc Ls (.ref a :: rest))) := by
  obtain ⟨locs, X, N, eh, hn, hx, hZ, hby, hml, hown, hnm, hret, hlk⟩ := X
  obtain ⟨z, cl, A, r1, r2⟩ := A
  subst hby hq r1
  exact g_of (fun t r => X.arraylength hx (by rw [eh]; exact A.1) (State.isArrayOf_alike hZ.alike A.2.1) (g := mkF m pc Ls (.ref a :: rest)) rfl rfl hd t r) k
theorem g_alenJ (X : Wk Z own nm bytes ml ret R n0 p l e s m args below meth c T cells slots h) {a : Addr} {n : Nat} {f : Nat → Int64} (A : AJ Z h a n f) {pc q : Nat} {Ls : Array Slot} {rest : List Value} (hd : decode bytes pc = .ok (.arraylength, 1)) (hq : pc + 1 = q) (k : Goes p e below s R n0 Q (T.setTop (mkF m q Ls (.int n.toInt32 :: rest)))) : Goes p e below s R n0 Q (T.setTop (mkF m pc Ls (.ref a :: rest))) := by
  obtain ⟨locs, X, N, eh, hn, hx, hZ, hby, hml, hown, hnm, hret, hlk⟩ := X
  obtain ⟨z, cl, A, r1, r2⟩ := A
  subst hby hq r1
  exact g_of (fun t r => X.arraylength hx (by rw [eh]; exact A.1) (State.isArrayOf_alike hZ.alike A.2.1) (g := mkF m pc Ls (.ref a :: rest)) rfl rfl hd t r) k
theorem g_iaload (X : Wk Z own nm bytes ml ret R n0 p l e s m args below meth c T cells slots h) {a : Addr} {n : Nat} {f : Nat → Int32} (A : AI Z h a .int n f) {j : Int32} (hj : 0 ≤ j.toInt ∧ j.toInt < n) {pc q : Nat} {Ls : Array Slot} {rest : List Value} (hd : decode bytes pc = .ok (.iaload, 1)) (hq : pc + 1 = q) (k : Goes p e below s R n0 Q (T.setTop (mkF m q Ls (.int (f j.toNatClampNeg) :: rest)))) : Goes p e below s R n0 Q (T.setTop (mkF m pc Ls (.int j :: .ref a :: rest))) := by
  obtain ⟨locs, X, N, eh, hn, hx, hZ, hby, hml, hown, hnm, hret, hlk⟩ := X
  obtain ⟨z, cl, A, r1, r2⟩ := A
  subst hby hq
  exact g_of (fun t r => X.iaload hx (j := j) (by rw [eh]; exact A.1) (State.isArrayOf_alike hZ.alike A.2.1) A.2.2 (own_ix r1 hj) (r2 _ (own_ixn hj)) (g := mkF m pc Ls (.int j :: .ref a :: rest)) rfl rfl hd t r) k
theorem g_laload (X : Wk Z own nm bytes ml ret R n0 p l e s m args below meth c T cells slots h) {a : Addr} {n : Nat} {f : Nat → Int64} (A : AJ Z h a n f) {j : Int32} (hj : 0 ≤ j.toInt ∧ j.toInt < n) {pc q : Nat} {Ls : Array Slot} {rest : List Value} (hd : decode bytes pc = .ok (.laload, 1)) (hq : pc + 1 = q) (k : Goes p e below s R n0 Q (T.setTop (mkF m q Ls (.long (f j.toNatClampNeg) :: rest)))) : Goes p e below s R n0 Q (T.setTop (mkF m pc Ls (.int j :: .ref a :: rest))) := by
  obtain ⟨locs, X, N, eh, hn, hx, hZ, hby, hml, hown, hnm, hret, hlk⟩ := X
  obtain ⟨z, cl, A, r1, r2⟩ := A
  subst hby hq
  exact g_of (fun t r => X.laload hx (j := j) (by rw [eh]; exact A.1) (State.isArrayOf_alike hZ.alike A.2.1) A.2.2 (own_ix r1 hj) (r2 _ (own_ixn hj)) (g := mkF m pc Ls (.int j :: .ref a :: rest)) rfl rfl hd t r) k
theorem g_baload (X : Wk Z own nm bytes ml ret R n0 p l e s m args below meth c T cells slots h) {a : Addr} {n : Nat} {f : Nat → Int32} (A : AI Z h a .byte n f) {j : Int32} (hj : 0 ≤ j.toInt ∧ j.toInt < n) {pc q : Nat} {Ls : Array Slot} {rest : List Value} (hd : decode bytes pc = .ok (.baload, 1)) (hq : pc + 1 = q) (k : Goes p e below s R n0 Q (T.setTop (mkF m q Ls (.int (f j.toNatClampNeg) :: rest)))) : Goes p e below s R n0 Q (T.setTop (mkF m pc Ls (.int j :: .ref a :: rest))) := by
  obtain ⟨locs, X, N, eh, hn, hx, hZ, hby, hml, hown, hnm, hret, hlk⟩ := X
  obtain ⟨z, cl, A, r1, r2⟩ := A
  subst hby hq
  exact g_of (fun t r => X.baloadBytes hx (j := j) (by rw [eh]; exact A.1) (State.isArrayOf_alike hZ.alike A.2.1) A.2.2 (own_ix r1 hj) (r2 _ (own_ixn hj)) (g := mkF m pc Ls (.int j :: .ref a :: rest)) rfl rfl hd t r) k
theorem g_zaload (X : Wk Z own nm bytes ml ret R n0 p l e s m args below meth c T cells slots h) {a : Addr} {n : Nat} {f : Nat → Int32} (A : AI Z h a .boolean n f) {j : Int32} (hj : 0 ≤ j.toInt ∧ j.toInt < n) {pc q : Nat} {Ls : Array Slot} {rest : List Value} (hd : decode bytes pc = .ok (.baload, 1)) (hq : pc + 1 = q) (k : Goes p e below s R n0 Q (T.setTop (mkF m q Ls (.int (f j.toNatClampNeg) :: rest)))) : Goes p e below s R n0 Q (T.setTop (mkF m pc Ls (.int j :: .ref a :: rest))) := by
  obtain ⟨locs, X, N, eh, hn, hx, hZ, hby, hml, hown, hnm, hret, hlk⟩ := X
  obtain ⟨z, cl, A, r1, r2⟩ := A
  subst hby hq
  exact g_of (fun t r => X.baloadBooleans hx (j := j) (by rw [eh]; exact A.1) (State.isArrayOf_alike hZ.alike A.2.1) A.2.2 (own_ix r1 hj) (r2 _ (own_ixn hj)) (g := mkF m pc Ls (.int j :: .ref a :: rest)) rfl rfl hd t r) k
theorem g_iastore (X : Wk Z own nm bytes ml ret R n0 p l e s m args below meth c T cells slots h) {a : Addr} {n : Nat} {f : Nat → Int32} (A : AI Z h a .int n f) {j : Int32} {x : Int32} (hj : 0 ≤ j.toInt ∧ j.toInt < n) (ga : n0 ≤ a) {pc q : Nat} {Ls : Array Slot} {rest : List Value} (hd : decode bytes pc = .ok (.iastore, 1)) (hq : pc + 1 = q) (k : ∀ T' h', Wk Z own nm bytes ml ret R n0 p l e s m args below meth c T' cells slots h' → Wr h h' a j.toNatClampNeg (.int x) → Goes p e below s R n0 Q (T'.setTop (mkF m q Ls rest))) : Goes p e below s R n0 Q (T.setTop (mkF m pc Ls (.int x :: .int j :: .ref a :: rest))) := by
  obtain ⟨locs, X, N, eh, hn, hx, hZ, hby, hml, hown, hnm, hret, hlk⟩ := X
  obtain ⟨z, cl, A, r1, r2⟩ := A
  subst hby hq
  obtain ⟨T', h', X', e', W', st⟩ := stI X hx hZ eh A (j := j) (own_ix r1 hj) (g := mkF m pc Ls (.int x :: .int j :: .ref a :: rest)) rfl rfl hd
  exact g_of st (k T' h' ⟨_, X', Fr.snoc X' N ga, e', hn, hx, hZ, rfl, hml, hown, hnm, hret, hlk⟩ W')
theorem g_lastore (X : Wk Z own nm bytes ml ret R n0 p l e s m args below meth c T cells slots h) {a : Addr} {n : Nat} {f : Nat → Int64} (A : AJ Z h a n f) {j : Int32} {x : Int64} (hj : 0 ≤ j.toInt ∧ j.toInt < n) (ga : n0 ≤ a) {pc q : Nat} {Ls : Array Slot} {rest : List Value} (hd : decode bytes pc = .ok (.lastore, 1)) (hq : pc + 1 = q) (k : ∀ T' h', Wk Z own nm bytes ml ret R n0 p l e s m args below meth c T' cells slots h' → Wr h h' a j.toNatClampNeg (.long x) → Goes p e below s R n0 Q (T'.setTop (mkF m q Ls rest))) : Goes p e below s R n0 Q (T.setTop (mkF m pc Ls (.long x :: .int j :: .ref a :: rest))) := by
  obtain ⟨locs, X, N, eh, hn, hx, hZ, hby, hml, hown, hnm, hret, hlk⟩ := X
  obtain ⟨z, cl, A, r1, r2⟩ := A
  subst hby hq
  obtain ⟨T', h', X', e', W', st⟩ := stJ X hx hZ eh A (j := j) (own_ix r1 hj) (g := mkF m pc Ls (.long x :: .int j :: .ref a :: rest)) rfl rfl hd
  exact g_of st (k T' h' ⟨_, X', Fr.snoc X' N ga, e', hn, hx, hZ, rfl, hml, hown, hnm, hret, hlk⟩ W')
theorem g_bastore (X : Wk Z own nm bytes ml ret R n0 p l e s m args below meth c T cells slots h) {a : Addr} {n : Nat} {f : Nat → Int32} (A : AI Z h a .byte n f) {j : Int32} {x : Int32} (hj : 0 ≤ j.toInt ∧ j.toInt < n) (ga : n0 ≤ a) {pc q : Nat} {Ls : Array Slot} {rest : List Value} (hd : decode bytes pc = .ok (.bastore, 1)) (hq : pc + 1 = q) (k : ∀ T' h', Wk Z own nm bytes ml ret R n0 p l e s m args below meth c T' cells slots h' → Wr h h' a j.toNatClampNeg (.int (nar .byte x)) → Goes p e below s R n0 Q (T'.setTop (mkF m q Ls rest))) : Goes p e below s R n0 Q (T.setTop (mkF m pc Ls (.int x :: .int j :: .ref a :: rest))) := by
  obtain ⟨locs, X, N, eh, hn, hx, hZ, hby, hml, hown, hnm, hret, hlk⟩ := X
  obtain ⟨z, cl, A, r1, r2⟩ := A
  subst hby hq
  obtain ⟨T', h', X', e', W', st⟩ := stB X hx hZ eh A (j := j) (own_ix r1 hj) (g := mkF m pc Ls (.int x :: .int j :: .ref a :: rest)) rfl rfl hd
  exact g_of st (k T' h' ⟨_, X', Fr.snoc X' N ga, e', hn, hx, hZ, rfl, hml, hown, hnm, hret, hlk⟩ W')
theorem g_zastore (X : Wk Z own nm bytes ml ret R n0 p l e s m args below meth c T cells slots h) {a : Addr} {n : Nat} {f : Nat → Int32} (A : AI Z h a .boolean n f) {j : Int32} {x : Int32} (hj : 0 ≤ j.toInt ∧ j.toInt < n) (ga : n0 ≤ a) {pc q : Nat} {Ls : Array Slot} {rest : List Value} (hd : decode bytes pc = .ok (.bastore, 1)) (hq : pc + 1 = q) (hz : x = 0 ∨ x = 1) (k : ∀ T' h', Wk Z own nm bytes ml ret R n0 p l e s m args below meth c T' cells slots h' → Wr h h' a j.toNatClampNeg (.int x) → Goes p e below s R n0 Q (T'.setTop (mkF m q Ls rest))) : Goes p e below s R n0 Q (T.setTop (mkF m pc Ls (.int x :: .int j :: .ref a :: rest))) := by
  obtain ⟨locs, X, N, eh, hn, hx, hZ, hby, hml, hown, hnm, hret, hlk⟩ := X
  obtain ⟨z, cl, A, r1, r2⟩ := A
  subst hby hq
  obtain ⟨T', h', X', e', W', st⟩ := stZ X hx hZ eh A (j := j) (own_ix r1 hj) (g := mkF m pc Ls (.int x :: .int j :: .ref a :: rest)) rfl rfl hd
  rw [own_narZ' hz] at W'
  exact g_of st (k T' h' ⟨_, X', Fr.snoc X' N ga, e', hn, hx, hZ, rfl, hml, hown, hnm, hret, hlk⟩ W')
theorem g_newarrI (X : Wk Z own nm bytes ml ret R n0 p l e s m args below meth c T cells slots h) {aty : ArrayType} (ht : defaultValue (newarray.typeOf aty) = .int 0) (w : (Jvm.Cond.arrayClass (newarray.typeOf aty)).before a0 Z = true) {n : Int32} {pc q c2 s2 cap : Nat} {Ls : Array Slot} {rest : List Value} (hd : decode bytes pc = .ok (.newarray aty, 2)) (hq : pc + 2 = q) (h0n : ¬ n < 0) (hcap : n.toNatClampNeg ≤ cap) (hbig : cap * 8 ≤ 536870912) (hc : cells + 1 = c2) (hs : slots + cap = s2) (hcR : c2 ≤ R.cells) (hsR : s2 ≤ R.slots)
    (k : ∀ T' h' b, Wk Z own nm bytes ml ret R n0 p l e s m args below meth c T' c2 s2 h' → b = h.size → n0 ≤ b → Ext h h' → AI Z h' b (newarray.typeOf aty) n.toNatClampNeg (fun _ => 0) → Goes p e below s R n0 Q (T'.setTop (mkF m q Ls (.ref b :: rest)))) : Goes p e below s R n0 Q (T.setTop (mkF m pc Ls (.int n :: rest))) := by
  obtain ⟨locs, X, N, eh, hn, hx, hZ, hby, hml, hown, hnm, hret, hlk⟩ := X
  subst hby hq hc hs
  obtain ⟨T', h', cA, X', e', E', A', stp⟩ := newP X hx hZ (aty := aty) w eh (g := mkF m pc Ls (.int n :: rest)) rfl hd rfl h0n hcap hbig hcR hsR
  refine g_of stp (k T' h' _ ⟨locs, X', N, e', hn, hx, hZ, rfl, hml, hown, hnm, hret, hlk⟩ rfl (Wk.size ⟨locs, X, N, eh, hn, hx, hZ, rfl, hml, hown, hnm, hret, hlk⟩) E' ⟨(back32 h0n).2, _, A', sz_new _ _ _, fun j hj => ?_⟩)
  simp only [newA, Array.getElem?_replicate, hj, if_true]
  rw [ht]
theorem g_newarrJ (X : Wk Z own nm bytes ml ret R n0 p l e s m args below meth c T cells slots h)  (w : (Jvm.Cond.arrayClass .long).before a0 Z = true) {n : Int32} {pc q c2 s2 cap : Nat} {Ls : Array Slot} {rest : List Value} (hd : decode bytes pc = .ok (.newarray .long, 2)) (hq : pc + 2 = q) (h0n : ¬ n < 0) (hcap : n.toNatClampNeg ≤ cap) (hbig : cap * 8 ≤ 536870912) (hc : cells + 1 = c2) (hs : slots + cap = s2) (hcR : c2 ≤ R.cells) (hsR : s2 ≤ R.slots)
    (k : ∀ T' h' b, Wk Z own nm bytes ml ret R n0 p l e s m args below meth c T' c2 s2 h' → b = h.size → n0 ≤ b → Ext h h' → AJ Z h' b n.toNatClampNeg (fun _ => 0) → Goes p e below s R n0 Q (T'.setTop (mkF m q Ls (.ref b :: rest)))) : Goes p e below s R n0 Q (T.setTop (mkF m pc Ls (.int n :: rest))) := by
  obtain ⟨locs, X, N, eh, hn, hx, hZ, hby, hml, hown, hnm, hret, hlk⟩ := X
  subst hby hq hc hs
  obtain ⟨T', h', cA, X', e', E', A', stp⟩ := newP X hx hZ (aty := .long) w eh (g := mkF m pc Ls (.int n :: rest)) rfl hd rfl h0n hcap hbig hcR hsR
  refine g_of stp (k T' h' _ ⟨locs, X', N, e', hn, hx, hZ, rfl, hml, hown, hnm, hret, hlk⟩ rfl (Wk.size ⟨locs, X, N, eh, hn, hx, hZ, rfl, hml, hown, hnm, hret, hlk⟩) E' ⟨(back32 h0n).2, _, A', sz_new _ _ _, fun j hj => ?_⟩)
  simp only [newA, Array.getElem?_replicate, hj, if_true]
  rfl
theorem g_jT0 (X : Wk Z own nm bytes ml ret R n0 p l e s m args below meth c T cells slots h) {J : Nat} {g : JFrame} (L : Array Slot) (S : List Value) (rest : ∀ T', Wk Z own nm bytes ml ret R n0 p l e s m args below meth c T' cells slots h → Goes p e below s R n0 Q (T'.setTop (mkF m J (L) (S)))) (here : (∀ T', Wk Z own nm bytes ml ret R n0 p l e s m args below meth c T' cells slots h → Goes p e below s R n0 Q (T'.setTop (mkF m J (L) (S)))) → Goes p e below s R n0 Q (T.setTop g)) : Goes p e below s R n0 Q (T.setTop g) := here rest
theorem g_jT1 {α : Type} (X : Wk Z own nm bytes ml ret R n0 p l e s m args below meth c T cells slots h) {J : Nat} {g : JFrame} (P : α → Prop) (L : α → Array Slot) (S : α → List Value) (rest : ∀ T', Wk Z own nm bytes ml ret R n0 p l e s m args below meth c T' cells slots h → ∀ a, P a → Goes p e below s R n0 Q (T'.setTop (mkF m J (L a) (S a)))) (here : (∀ T', Wk Z own nm bytes ml ret R n0 p l e s m args below meth c T' cells slots h → ∀ a, P a → Goes p e below s R n0 Q (T'.setTop (mkF m J (L a) (S a)))) → Goes p e below s R n0 Q (T.setTop g)) : Goes p e below s R n0 Q (T.setTop g) := here rest
theorem g_jT2 {α β : Type} (X : Wk Z own nm bytes ml ret R n0 p l e s m args below meth c T cells slots h) {J : Nat} {g : JFrame} (P : α → β → Prop) (L : α → β → Array Slot) (S : α → β → List Value) (rest : ∀ T', Wk Z own nm bytes ml ret R n0 p l e s m args below meth c T' cells slots h → ∀ a b, P a b → Goes p e below s R n0 Q (T'.setTop (mkF m J (L a b) (S a b)))) (here : (∀ T', Wk Z own nm bytes ml ret R n0 p l e s m args below meth c T' cells slots h → ∀ a b, P a b → Goes p e below s R n0 Q (T'.setTop (mkF m J (L a b) (S a b)))) → Goes p e below s R n0 Q (T.setTop g)) : Goes p e below s R n0 Q (T.setTop g) := here rest
theorem g_jT3 {α β γ : Type} (X : Wk Z own nm bytes ml ret R n0 p l e s m args below meth c T cells slots h) {J : Nat} {g : JFrame} (P : α → β → γ → Prop) (L : α → β → γ → Array Slot) (S : α → β → γ → List Value) (rest : ∀ T', Wk Z own nm bytes ml ret R n0 p l e s m args below meth c T' cells slots h → ∀ a b c', P a b c' → Goes p e below s R n0 Q (T'.setTop (mkF m J (L a b c') (S a b c')))) (here : (∀ T', Wk Z own nm bytes ml ret R n0 p l e s m args below meth c T' cells slots h → ∀ a b c', P a b c' → Goes p e below s R n0 Q (T'.setTop (mkF m J (L a b c') (S a b c')))) → Goes p e below s R n0 Q (T.setTop g)) : Goes p e below s R n0 Q (T.setTop g) := here rest
theorem g_jT4 {α β γ δ : Type} (X : Wk Z own nm bytes ml ret R n0 p l e s m args below meth c T cells slots h) {J : Nat} {g : JFrame} (P : α → β → γ → δ → Prop) (L : α → β → γ → δ → Array Slot) (S : α → β → γ → δ → List Value) (rest : ∀ T', Wk Z own nm bytes ml ret R n0 p l e s m args below meth c T' cells slots h → ∀ a b c' d, P a b c' d → Goes p e below s R n0 Q (T'.setTop (mkF m J (L a b c' d) (S a b c' d)))) (here : (∀ T', Wk Z own nm bytes ml ret R n0 p l e s m args below meth c T' cells slots h → ∀ a b c' d, P a b c' d → Goes p e below s R n0 Q (T'.setTop (mkF m J (L a b c' d) (S a b c' d)))) → Goes p e below s R n0 Q (T.setTop g)) : Goes p e below s R n0 Q (T.setTop g) := here rest
theorem g_loop1 {α : Type} (X : Wk Z own nm bytes ml ret R n0 p l e s m args below meth c T cells slots h) {H : Nat} (ms : α → Nat) (I : α → Heap → Prop) (L : α → Array Slot) (S : α → List Value) (a : α) (i0 : I a h) (turn : ∀ a T' h', Wk Z own nm bytes ml ret R n0 p l e s m args below meth c T' cells slots h' → I a h' → (∀ a' T'' h'', Wk Z own nm bytes ml ret R n0 p l e s m args below meth c T'' cells slots h'' → I a' h'' → ms a' < ms a → Goes p e below s R n0 Q (T''.setTop (mkF m H (L a') (S a')))) → Goes p e below s R n0 Q (T'.setTop (mkF m H (L a) (S a)))) : Goes p e below s R n0 Q (T.setTop (mkF m H (L a) (S a))) := by
  induction hk : ms a using Nat.strongRecOn generalizing a T h with
  | _ k ih => exact turn a T h X i0 (fun a' T2 h2 X2 i2 lt => ih _ (hk ▸ lt) X2 a' i2 rfl)
theorem g_loop2 {α β : Type} (X : Wk Z own nm bytes ml ret R n0 p l e s m args below meth c T cells slots h) {H : Nat} (ms : α → β → Nat) (I : α → β → Heap → Prop) (L : α → β → Array Slot) (S : α → β → List Value) (a : α) (b : β) (i0 : I a b h) (turn : ∀ a b T' h', Wk Z own nm bytes ml ret R n0 p l e s m args below meth c T' cells slots h' → I a b h' → (∀ a' b' T'' h'', Wk Z own nm bytes ml ret R n0 p l e s m args below meth c T'' cells slots h'' → I a' b' h'' → ms a' b' < ms a b → Goes p e below s R n0 Q (T''.setTop (mkF m H (L a' b') (S a' b')))) → Goes p e below s R n0 Q (T'.setTop (mkF m H (L a b) (S a b)))) : Goes p e below s R n0 Q (T.setTop (mkF m H (L a b) (S a b))) := by
  induction hk : ms a b using Nat.strongRecOn generalizing a b T h with
  | _ k ih => exact turn a b T h X i0 (fun a' b' T2 h2 X2 i2 lt => ih _ (hk ▸ lt) X2 a' b' i2 rfl)
theorem g_loop3 {α β γ : Type} (X : Wk Z own nm bytes ml ret R n0 p l e s m args below meth c T cells slots h) {H : Nat} (ms : α → β → γ → Nat) (I : α → β → γ → Heap → Prop) (L : α → β → γ → Array Slot) (S : α → β → γ → List Value) (a : α) (b : β) (u : γ) (i0 : I a b u h) (turn : ∀ a b u T' h', Wk Z own nm bytes ml ret R n0 p l e s m args below meth c T' cells slots h' → I a b u h' → (∀ a' b' u' T'' h'', Wk Z own nm bytes ml ret R n0 p l e s m args below meth c T'' cells slots h'' → I a' b' u' h'' → ms a' b' u' < ms a b u → Goes p e below s R n0 Q (T''.setTop (mkF m H (L a' b' u') (S a' b' u')))) → Goes p e below s R n0 Q (T'.setTop (mkF m H (L a b u) (S a b u)))) : Goes p e below s R n0 Q (T.setTop (mkF m H (L a b u) (S a b u))) := by
  induction hk : ms a b u using Nat.strongRecOn generalizing a b u T h with
  | _ k ih => exact turn a b u T h X i0 (fun a' b' u' T2 h2 X2 i2 lt => ih _ (hk ▸ lt) X2 a' b' u' i2 rfl)
theorem g_loop4 {α β γ δ : Type} (X : Wk Z own nm bytes ml ret R n0 p l e s m args below meth c T cells slots h) {H : Nat} (ms : α → β → γ → δ → Nat) (I : α → β → γ → δ → Heap → Prop) (L : α → β → γ → δ → Array Slot) (S : α → β → γ → δ → List Value) (a : α) (b : β) (u : γ) (w : δ) (i0 : I a b u w h) (turn : ∀ a b u w T' h', Wk Z own nm bytes ml ret R n0 p l e s m args below meth c T' cells slots h' → I a b u w h' → (∀ a' b' u' w' T'' h'', Wk Z own nm bytes ml ret R n0 p l e s m args below meth c T'' cells slots h'' → I a' b' u' w' h'' → ms a' b' u' w' < ms a b u w → Goes p e below s R n0 Q (T''.setTop (mkF m H (L a' b' u' w') (S a' b' u' w')))) → Goes p e below s R n0 Q (T'.setTop (mkF m H (L a b u w) (S a b u w)))) : Goes p e below s R n0 Q (T.setTop (mkF m H (L a b u w) (S a b u w))) := by
  induction hk : ms a b u w using Nat.strongRecOn generalizing a b u w T h with
  | _ k ih => exact turn a b u w T h X i0 (fun a' b' u' w' T2 h2 X2 i2 lt => ih _ (hk ▸ lt) X2 a' b' u' w' i2 rfl)
theorem g_loop5 {α β γ δ ε : Type} (X : Wk Z own nm bytes ml ret R n0 p l e s m args below meth c T cells slots h) {H : Nat} (ms : α → β → γ → δ → ε → Nat) (I : α → β → γ → δ → ε → Heap → Prop) (L : α → β → γ → δ → ε → Array Slot) (S : α → β → γ → δ → ε → List Value) (a : α) (b : β) (u : γ) (w : δ) (z : ε) (i0 : I a b u w z h) (turn : ∀ a b u w z T' h', Wk Z own nm bytes ml ret R n0 p l e s m args below meth c T' cells slots h' → I a b u w z h' → (∀ a' b' u' w' z' T'' h'', Wk Z own nm bytes ml ret R n0 p l e s m args below meth c T'' cells slots h'' → I a' b' u' w' z' h'' → ms a' b' u' w' z' < ms a b u w z → Goes p e below s R n0 Q (T''.setTop (mkF m H (L a' b' u' w' z') (S a' b' u' w' z')))) → Goes p e below s R n0 Q (T'.setTop (mkF m H (L a b u w z) (S a b u w z)))) : Goes p e below s R n0 Q (T.setTop (mkF m H (L a b u w z) (S a b u w z))) := by
  induction hk : ms a b u w z using Nat.strongRecOn generalizing a b u w z T h with
  | _ k ih => exact turn a b u w z T h X i0 (fun a' b' u' w' z' T2 h2 X2 i2 lt => ih _ (hk ▸ lt) X2 a' b' u' w' z' i2 rfl)
end Walk
end Jvm.Own
namespace Jvm.Pilot.@@N@@
open Jvm Jvm.ClassFile Sem Op Lib Jvm.Free Jvm.Stand Jvm.LawKit Jvm.RoadKit Bundle Jvm.Own Jvm.Pilot.@@N@@.Jvm.D

theorem tw0 {Z : State} {a0 : Array Value} (hw : ∀ d ∈ tables_1, d.before a0 Z = true) : ((Jvm.Cond.arrayClass Jvm.ClassFile.FieldType.int)).before a0 Z = true := hw _ (List.mem_of_getElem? (i := 0) rfl)
theorem tw1 {Z : State} {a0 : Array Value} (hw : ∀ d ∈ tables_1, d.before a0 Z = true) : ((Jvm.Cond.classLink "arborlight/ComponentsRootPinLaw" (7 : Nat) "arborlight/Components")).before a0 Z = true := hw _ (List.mem_of_getElem? (i := 1) rfl)
theorem tw2 {Z : State} {a0 : Array Value} (hw : ∀ d ∈ tables_1, d.before a0 Z = true) : ((Jvm.Cond.instantiable "arborlight/Components" (2 : Nat))).before a0 Z = true := hw _ (List.mem_of_getElem? (i := 2) rfl)
theorem tw3 {Z : State} {a0 : Array Value} (hw : ∀ d ∈ tables_1, d.before a0 Z = true) : ((Jvm.Cond.initialized "arborlight/Components")).before a0 Z = true := hw _ (List.mem_of_getElem? (i := 3) rfl)
theorem tw4 {Z : State} {a0 : Array Value} (hw : ∀ d ∈ tables_1, d.before a0 Z = true) : ((Jvm.Cond.methodLink "arborlight/ComponentsRootPinLaw" (9 : Nat) ({ cls := "arborlight/Components", name := "<init>", desc := "(I)V" } : Jvm.MethodName))).before a0 Z = true := hw _ (List.mem_of_getElem? (i := 4) rfl)
theorem tw5 {Z : State} {a0 : Array Value} (hw : ∀ d ∈ tables_1, d.before a0 Z = true) : ((Jvm.Cond.instanceMethod ({ cls := "arborlight/Components", name := "<init>", desc := "(I)V" } : Jvm.MethodName))).before a0 Z = true := hw _ (List.mem_of_getElem? (i := 5) rfl)
theorem tw6 {Z : State} {a0 : Array Value} (hw : ∀ d ∈ tables_1, d.before a0 Z = true) : ((Jvm.Cond.code ({ cls := "arborlight/Components", name := "<init>", desc := "(I)V" } : Jvm.MethodName) prog_8_method_1_code (3 : Nat) (Option.none : Option Jvm.ClassFile.FieldType))).before a0 Z = true := hw _ (List.mem_of_getElem? (i := 6) rfl)
theorem tw7 {Z : State} {a0 : Array Value} (hw : ∀ d ∈ tables_1, d.before a0 Z = true) : ((Jvm.Cond.methodLink "arborlight/Components" (1 : Nat) ({ cls := "java/lang/Object", name := "<init>", desc := "()V" } : Jvm.MethodName))).before a0 Z = true := hw _ (List.mem_of_getElem? (i := 7) rfl)
theorem tw8 {Z : State} {a0 : Array Value} (hw : ∀ d ∈ tables_1, d.before a0 Z = true) : ((Jvm.Cond.instanceMethod ({ cls := "java/lang/Object", name := "<init>", desc := "()V" } : Jvm.MethodName))).before a0 Z = true := hw _ (List.mem_of_getElem? (i := 8) rfl)
theorem tw9 {Z : State} {a0 : Array Value} (hw : ∀ d ∈ tables_1, d.before a0 Z = true) : ((Jvm.Cond.code ({ cls := "java/lang/Object", name := "<init>", desc := "()V" } : Jvm.MethodName) object_method_1_code (1 : Nat) (Option.none : Option Jvm.ClassFile.FieldType))).before a0 Z = true := hw _ (List.mem_of_getElem? (i := 9) rfl)
theorem tw10 {Z : State} {a0 : Array Value} (hw : ∀ d ∈ tables_1, d.before a0 Z = true) : ((Jvm.Cond.fieldLink "arborlight/Components" (7 : Nat) "arborlight/Components" "up" "[I")).before a0 Z = true := hw _ (List.mem_of_getElem? (i := 10) rfl)
theorem tw11 {Z : State} {a0 : Array Value} (hw : ∀ d ∈ tables_1, d.before a0 Z = true) : ((Jvm.Cond.laysFinal "arborlight/Components" "arborlight/Components" "up" "[I")).before a0 Z = true := hw _ (List.mem_of_getElem? (i := 11) rfl)
theorem tw12 {Z : State} {a0 : Array Value} (hw : ∀ d ∈ tables_1, d.before a0 Z = true) : ((Jvm.Cond.fieldLink "arborlight/Components" (13 : Nat) "arborlight/Components" "size" "[I")).before a0 Z = true := hw _ (List.mem_of_getElem? (i := 12) rfl)
theorem tw13 {Z : State} {a0 : Array Value} (hw : ∀ d ∈ tables_1, d.before a0 Z = true) : ((Jvm.Cond.laysFinal "arborlight/Components" "arborlight/Components" "size" "[I")).before a0 Z = true := hw _ (List.mem_of_getElem? (i := 13) rfl)
theorem tw14 {Z : State} {a0 : Array Value} (hw : ∀ d ∈ tables_1, d.before a0 Z = true) : ((Jvm.Cond.methodLink "arborlight/ComponentsRootPinLaw" (12 : Nat) ({ cls := "arborlight/ComponentsRootPinLaw", name := "step", desc := "(Larborlight/Components;[II)Z" } : Jvm.MethodName))).before a0 Z = true := hw _ (List.mem_of_getElem? (i := 14) rfl)
theorem tw15 {Z : State} {a0 : Array Value} (hw : ∀ d ∈ tables_1, d.before a0 Z = true) : ((Jvm.Cond.static ({ cls := "arborlight/ComponentsRootPinLaw", name := "step", desc := "(Larborlight/Components;[II)Z" } : Jvm.MethodName))).before a0 Z = true := hw _ (List.mem_of_getElem? (i := 15) rfl)
theorem tw16 {Z : State} {a0 : Array Value} (hw : ∀ d ∈ tables_1, d.before a0 Z = true) : ((Jvm.Cond.initialized "arborlight/ComponentsRootPinLaw")).before a0 Z = true := hw _ (List.mem_of_getElem? (i := 16) rfl)
theorem tw17 {Z : State} {a0 : Array Value} (hw : ∀ d ∈ tables_1, d.before a0 Z = true) : ((Jvm.Cond.code ({ cls := "arborlight/ComponentsRootPinLaw", name := "step", desc := "(Larborlight/Components;[II)Z" } : Jvm.MethodName) method_3_code (9 : Nat) (Option.some Jvm.ClassFile.FieldType.boolean))).before a0 Z = true := hw _ (List.mem_of_getElem? (i := 17) rfl)
theorem tw18 {Z : State} {a0 : Array Value} (hw : ∀ d ∈ tables_1, d.before a0 Z = true) : ((Jvm.Cond.methodLink "arborlight/ComponentsRootPinLaw" (22 : Nat) ({ cls := "arborlight/Components", name := "join", desc := "(II)Z" } : Jvm.MethodName))).before a0 Z = true := hw _ (List.mem_of_getElem? (i := 18) rfl)
theorem tw19 {Z : State} {a0 : Array Value} (hw : ∀ d ∈ tables_1, d.before a0 Z = true) : ((Jvm.Cond.declares ({ cls := "arborlight/Components", name := "join", desc := "(II)Z" } : Jvm.MethodName))).before a0 Z = true := hw _ (List.mem_of_getElem? (i := 19) rfl)
theorem tw20 {Z : State} {a0 : Array Value} (hw : ∀ d ∈ tables_1, d.before a0 Z = true) : ((Jvm.Cond.instanceMethod ({ cls := "arborlight/Components", name := "join", desc := "(II)Z" } : Jvm.MethodName))).before a0 Z = true := hw _ (List.mem_of_getElem? (i := 20) rfl)
theorem tw21 {Z : State} {a0 : Array Value} (hw : ∀ d ∈ tables_1, d.before a0 Z = true) : ((Jvm.Cond.selects "arborlight/Components" ({ cls := "arborlight/Components", name := "join", desc := "(II)Z" } : Jvm.MethodName) ({ cls := "arborlight/Components", name := "join", desc := "(II)Z" } : Jvm.MethodName))).before a0 Z = true := hw _ (List.mem_of_getElem? (i := 21) rfl)
theorem tw22 {Z : State} {a0 : Array Value} (hw : ∀ d ∈ tables_1, d.before a0 Z = true) : ((Jvm.Cond.code ({ cls := "arborlight/Components", name := "join", desc := "(II)Z" } : Jvm.MethodName) prog_8_method_3_code (6 : Nat) (Option.some Jvm.ClassFile.FieldType.boolean))).before a0 Z = true := hw _ (List.mem_of_getElem? (i := 22) rfl)
theorem tw23 {Z : State} {a0 : Array Value} (hw : ∀ d ∈ tables_1, d.before a0 Z = true) : ((Jvm.Cond.methodLink "arborlight/Components" (16 : Nat) ({ cls := "arborlight/Components", name := "root", desc := "(I)I" } : Jvm.MethodName))).before a0 Z = true := hw _ (List.mem_of_getElem? (i := 23) rfl)
theorem tw24 {Z : State} {a0 : Array Value} (hw : ∀ d ∈ tables_1, d.before a0 Z = true) : ((Jvm.Cond.declares ({ cls := "arborlight/Components", name := "root", desc := "(I)I" } : Jvm.MethodName))).before a0 Z = true := hw _ (List.mem_of_getElem? (i := 24) rfl)
theorem tw25 {Z : State} {a0 : Array Value} (hw : ∀ d ∈ tables_1, d.before a0 Z = true) : ((Jvm.Cond.instanceMethod ({ cls := "arborlight/Components", name := "root", desc := "(I)I" } : Jvm.MethodName))).before a0 Z = true := hw _ (List.mem_of_getElem? (i := 25) rfl)
theorem tw26 {Z : State} {a0 : Array Value} (hw : ∀ d ∈ tables_1, d.before a0 Z = true) : ((Jvm.Cond.selects "arborlight/Components" ({ cls := "arborlight/Components", name := "root", desc := "(I)I" } : Jvm.MethodName) ({ cls := "arborlight/Components", name := "root", desc := "(I)I" } : Jvm.MethodName))).before a0 Z = true := hw _ (List.mem_of_getElem? (i := 26) rfl)
theorem tw27 {Z : State} {a0 : Array Value} (hw : ∀ d ∈ tables_1, d.before a0 Z = true) : ((Jvm.Cond.code ({ cls := "arborlight/Components", name := "root", desc := "(I)I" } : Jvm.MethodName) prog_8_method_4_code (2 : Nat) (Option.some Jvm.ClassFile.FieldType.int))).before a0 Z = true := hw _ (List.mem_of_getElem? (i := 27) rfl)
theorem tw28 {Z : State} {a0 : Array Value} (hw : ∀ d ∈ tables_1, d.before a0 Z = true) : ((Jvm.Cond.methodLink "arborlight/ComponentsRootPinLaw" (18 : Nat) ({ cls := "arborlight/Components", name := "root", desc := "(I)I" } : Jvm.MethodName))).before a0 Z = true := hw _ (List.mem_of_getElem? (i := 28) rfl)
theorem pd0 : parseMethodDescriptor "(I)I" = some ⟨[.int], some .int⟩ := by decide +kernel
theorem pd1 : parseMethodDescriptor "(II)Z" = some ⟨[.int, .int], some .boolean⟩ := by decide +kernel
theorem pd2 : parseMethodDescriptor "(I)V" = some ⟨[.int], none⟩ := by decide +kernel
theorem pd3 : parseMethodDescriptor "(Larborlight/Components;[II)Z" = some ⟨[(.object "arborlight/Components"), (.array .int), .int], some .boolean⟩ := by decide +kernel
theorem d1_0 : decode prog_8_method_1_code 0 = .ok (.aload_n 0, 1) := by decide +kernel
theorem d1_1 : decode prog_8_method_1_code 1 = .ok (.invokespecial 1, 3) := by decide +kernel
theorem d1_4 : decode prog_8_method_1_code 4 = .ok (.aload_n 0, 1) := by decide +kernel
theorem d1_5 : decode prog_8_method_1_code 5 = .ok (.iload_n 1, 1) := by decide +kernel
theorem d1_6 : decode prog_8_method_1_code 6 = .ok (.newarray .int, 2) := by decide +kernel
theorem d1_8 : decode prog_8_method_1_code 8 = .ok (.putfield 7, 3) := by decide +kernel
theorem d1_11 : decode prog_8_method_1_code 11 = .ok (.aload_n 0, 1) := by decide +kernel
theorem d1_12 : decode prog_8_method_1_code 12 = .ok (.iload_n 1, 1) := by decide +kernel
theorem d1_13 : decode prog_8_method_1_code 13 = .ok (.newarray .int, 2) := by decide +kernel
theorem d1_15 : decode prog_8_method_1_code 15 = .ok (.putfield 13, 3) := by decide +kernel
theorem d1_18 : decode prog_8_method_1_code 18 = .ok (.iconst 0, 1) := by decide +kernel
theorem d1_19 : decode prog_8_method_1_code 19 = .ok (.istore_n 2, 1) := by decide +kernel
theorem d1_20 : decode prog_8_method_1_code 20 = .ok (.iload_n 2, 1) := by decide +kernel
theorem d1_21 : decode prog_8_method_1_code 21 = .ok (.iload_n 1, 1) := by decide +kernel
theorem d1_22 : decode prog_8_method_1_code 22 = .ok (.if_icmp .ge 23, 3) := by decide +kernel
theorem d1_25 : decode prog_8_method_1_code 25 = .ok (.aload_n 0, 1) := by decide +kernel
theorem d1_26 : decode prog_8_method_1_code 26 = .ok (.getfield 7, 3) := by decide +kernel
theorem d1_29 : decode prog_8_method_1_code 29 = .ok (.iload_n 2, 1) := by decide +kernel
theorem d1_30 : decode prog_8_method_1_code 30 = .ok (.iload_n 2, 1) := by decide +kernel
theorem d1_31 : decode prog_8_method_1_code 31 = .ok (.iastore, 1) := by decide +kernel
theorem d1_32 : decode prog_8_method_1_code 32 = .ok (.aload_n 0, 1) := by decide +kernel
theorem d1_33 : decode prog_8_method_1_code 33 = .ok (.getfield 13, 3) := by decide +kernel
theorem d1_36 : decode prog_8_method_1_code 36 = .ok (.iload_n 2, 1) := by decide +kernel
theorem d1_37 : decode prog_8_method_1_code 37 = .ok (.iconst 1, 1) := by decide +kernel
theorem d1_38 : decode prog_8_method_1_code 38 = .ok (.iastore, 1) := by decide +kernel
theorem d1_39 : decode prog_8_method_1_code 39 = .ok (.iinc 2 1, 3) := by decide +kernel
theorem d1_42 : decode prog_8_method_1_code 42 = .ok (.goto (-22), 3) := by decide +kernel
theorem d1_45 : decode prog_8_method_1_code 45 = .ok (.return_, 1) := by decide +kernel
theorem d3_0 : decode method_3_code 0 = .ok (.iload_n 2, 1) := by decide +kernel
theorem d3_1 : decode method_3_code 1 = .ok (.iconst 3, 1) := by decide +kernel
theorem d3_2 : decode method_3_code 2 = .ok (.iand, 1) := by decide +kernel
theorem d3_3 : decode method_3_code 3 = .ok (.istore_n 3, 1) := by decide +kernel
theorem d3_4 : decode method_3_code 4 = .ok (.iload_n 2, 1) := by decide +kernel
theorem d3_5 : decode method_3_code 5 = .ok (.iconst 2, 1) := by decide +kernel
theorem d3_6 : decode method_3_code 6 = .ok (.iushr, 1) := by decide +kernel
theorem d3_7 : decode method_3_code 7 = .ok (.iconst 3, 1) := by decide +kernel
theorem d3_8 : decode method_3_code 8 = .ok (.iand, 1) := by decide +kernel
theorem d3_9 : decode method_3_code 9 = .ok (.istore 4, 2) := by decide +kernel
theorem d3_11 : decode method_3_code 11 = .ok (.aload_n 1, 1) := by decide +kernel
theorem d3_12 : decode method_3_code 12 = .ok (.iload_n 3, 1) := by decide +kernel
theorem d3_13 : decode method_3_code 13 = .ok (.iaload, 1) := by decide +kernel
theorem d3_14 : decode method_3_code 14 = .ok (.aload_n 1, 1) := by decide +kernel
theorem d3_15 : decode method_3_code 15 = .ok (.iload 4, 2) := by decide +kernel
theorem d3_17 : decode method_3_code 17 = .ok (.iaload, 1) := by decide +kernel
theorem d3_18 : decode method_3_code 18 = .ok (.if_icmp .eq 7, 3) := by decide +kernel
theorem d3_21 : decode method_3_code 21 = .ok (.iconst 1, 1) := by decide +kernel
theorem d3_22 : decode method_3_code 22 = .ok (.goto 4, 3) := by decide +kernel
theorem d3_25 : decode method_3_code 25 = .ok (.iconst 0, 1) := by decide +kernel
theorem d3_26 : decode method_3_code 26 = .ok (.istore 5, 2) := by decide +kernel
theorem d3_28 : decode method_3_code 28 = .ok (.aload_n 0, 1) := by decide +kernel
theorem d3_29 : decode method_3_code 29 = .ok (.iload_n 3, 1) := by decide +kernel
theorem d3_30 : decode method_3_code 30 = .ok (.iload 4, 2) := by decide +kernel
theorem d3_32 : decode method_3_code 32 = .ok (.invokevirtual 22, 3) := by decide +kernel
theorem d3_35 : decode method_3_code 35 = .ok (.istore 6, 2) := by decide +kernel
theorem d3_37 : decode method_3_code 37 = .ok (.aload_n 1, 1) := by decide +kernel
theorem d3_38 : decode method_3_code 38 = .ok (.iload 4, 2) := by decide +kernel
theorem d3_40 : decode method_3_code 40 = .ok (.iaload, 1) := by decide +kernel
theorem d3_41 : decode method_3_code 41 = .ok (.istore 7, 2) := by decide +kernel
theorem d3_43 : decode method_3_code 43 = .ok (.aload_n 1, 1) := by decide +kernel
theorem d3_44 : decode method_3_code 44 = .ok (.iload_n 3, 1) := by decide +kernel
theorem d3_45 : decode method_3_code 45 = .ok (.iaload, 1) := by decide +kernel
theorem d3_46 : decode method_3_code 46 = .ok (.istore 8, 2) := by decide +kernel
theorem d3_48 : decode method_3_code 48 = .ok (.aload_n 1, 1) := by decide +kernel
theorem d3_49 : decode method_3_code 49 = .ok (.iconst 0, 1) := by decide +kernel
theorem d3_50 : decode method_3_code 50 = .ok (.iaload, 1) := by decide +kernel
theorem d3_51 : decode method_3_code 51 = .ok (.iload 7, 2) := by decide +kernel
theorem d3_53 : decode method_3_code 53 = .ok (.if_icmp .ne 8, 3) := by decide +kernel
theorem d3_56 : decode method_3_code 56 = .ok (.aload_n 1, 1) := by decide +kernel
theorem d3_57 : decode method_3_code 57 = .ok (.iconst 0, 1) := by decide +kernel
theorem d3_58 : decode method_3_code 58 = .ok (.iload 8, 2) := by decide +kernel
theorem d3_60 : decode method_3_code 60 = .ok (.iastore, 1) := by decide +kernel
theorem d3_61 : decode method_3_code 61 = .ok (.aload_n 1, 1) := by decide +kernel
theorem d3_62 : decode method_3_code 62 = .ok (.iconst 1, 1) := by decide +kernel
theorem d3_63 : decode method_3_code 63 = .ok (.iaload, 1) := by decide +kernel
theorem d3_64 : decode method_3_code 64 = .ok (.iload 7, 2) := by decide +kernel
theorem d3_66 : decode method_3_code 66 = .ok (.if_icmp .ne 8, 3) := by decide +kernel
theorem d3_69 : decode method_3_code 69 = .ok (.aload_n 1, 1) := by decide +kernel
theorem d3_70 : decode method_3_code 70 = .ok (.iconst 1, 1) := by decide +kernel
theorem d3_71 : decode method_3_code 71 = .ok (.iload 8, 2) := by decide +kernel
theorem d3_73 : decode method_3_code 73 = .ok (.iastore, 1) := by decide +kernel
theorem d3_74 : decode method_3_code 74 = .ok (.aload_n 1, 1) := by decide +kernel
theorem d3_75 : decode method_3_code 75 = .ok (.iconst 2, 1) := by decide +kernel
theorem d3_76 : decode method_3_code 76 = .ok (.iaload, 1) := by decide +kernel
theorem d3_77 : decode method_3_code 77 = .ok (.iload 7, 2) := by decide +kernel
theorem d3_79 : decode method_3_code 79 = .ok (.if_icmp .ne 8, 3) := by decide +kernel
theorem d3_82 : decode method_3_code 82 = .ok (.aload_n 1, 1) := by decide +kernel
theorem d3_83 : decode method_3_code 83 = .ok (.iconst 2, 1) := by decide +kernel
theorem d3_84 : decode method_3_code 84 = .ok (.iload 8, 2) := by decide +kernel
theorem d3_86 : decode method_3_code 86 = .ok (.iastore, 1) := by decide +kernel
theorem d3_87 : decode method_3_code 87 = .ok (.aload_n 1, 1) := by decide +kernel
theorem d3_88 : decode method_3_code 88 = .ok (.iconst 3, 1) := by decide +kernel
theorem d3_89 : decode method_3_code 89 = .ok (.iaload, 1) := by decide +kernel
theorem d3_90 : decode method_3_code 90 = .ok (.iload 7, 2) := by decide +kernel
theorem d3_92 : decode method_3_code 92 = .ok (.if_icmp .ne 8, 3) := by decide +kernel
theorem d3_95 : decode method_3_code 95 = .ok (.aload_n 1, 1) := by decide +kernel
theorem d3_96 : decode method_3_code 96 = .ok (.iconst 3, 1) := by decide +kernel
theorem d3_97 : decode method_3_code 97 = .ok (.iload 8, 2) := by decide +kernel
theorem d3_99 : decode method_3_code 99 = .ok (.iastore, 1) := by decide +kernel
theorem d3_100 : decode method_3_code 100 = .ok (.iload 6, 2) := by decide +kernel
theorem d3_102 : decode method_3_code 102 = .ok (.iload 5, 2) := by decide +kernel
theorem d3_104 : decode method_3_code 104 = .ok (.if_icmp .ne 7, 3) := by decide +kernel
theorem d3_107 : decode method_3_code 107 = .ok (.iconst 1, 1) := by decide +kernel
theorem d3_108 : decode method_3_code 108 = .ok (.goto 4, 3) := by decide +kernel
theorem d3_111 : decode method_3_code 111 = .ok (.iconst 0, 1) := by decide +kernel
theorem d3_112 : decode method_3_code 112 = .ok (.ireturn, 1) := by decide +kernel
theorem d4_0 : decode prog_8_method_3_code 0 = .ok (.aload_n 0, 1) := by decide +kernel
theorem d4_1 : decode prog_8_method_3_code 1 = .ok (.iload_n 1, 1) := by decide +kernel
theorem d4_2 : decode prog_8_method_3_code 2 = .ok (.invokevirtual 16, 3) := by decide +kernel
theorem d4_5 : decode prog_8_method_3_code 5 = .ok (.istore_n 3, 1) := by decide +kernel
theorem d4_6 : decode prog_8_method_3_code 6 = .ok (.aload_n 0, 1) := by decide +kernel
theorem d4_7 : decode prog_8_method_3_code 7 = .ok (.iload_n 2, 1) := by decide +kernel
theorem d4_8 : decode prog_8_method_3_code 8 = .ok (.invokevirtual 16, 3) := by decide +kernel
theorem d4_11 : decode prog_8_method_3_code 11 = .ok (.istore 4, 2) := by decide +kernel
theorem d4_13 : decode prog_8_method_3_code 13 = .ok (.iload_n 3, 1) := by decide +kernel
theorem d4_14 : decode prog_8_method_3_code 14 = .ok (.iload 4, 2) := by decide +kernel
theorem d4_16 : decode prog_8_method_3_code 16 = .ok (.if_icmp .ne 5, 3) := by decide +kernel
theorem d4_19 : decode prog_8_method_3_code 19 = .ok (.iconst 0, 1) := by decide +kernel
theorem d4_20 : decode prog_8_method_3_code 20 = .ok (.ireturn, 1) := by decide +kernel
theorem d4_21 : decode prog_8_method_3_code 21 = .ok (.aload_n 0, 1) := by decide +kernel
theorem d4_22 : decode prog_8_method_3_code 22 = .ok (.getfield 13, 3) := by decide +kernel
theorem d4_25 : decode prog_8_method_3_code 25 = .ok (.iload_n 3, 1) := by decide +kernel
theorem d4_26 : decode prog_8_method_3_code 26 = .ok (.iaload, 1) := by decide +kernel
theorem d4_27 : decode prog_8_method_3_code 27 = .ok (.aload_n 0, 1) := by decide +kernel
theorem d4_28 : decode prog_8_method_3_code 28 = .ok (.getfield 13, 3) := by decide +kernel
theorem d4_31 : decode prog_8_method_3_code 31 = .ok (.iload 4, 2) := by decide +kernel
theorem d4_33 : decode prog_8_method_3_code 33 = .ok (.iaload, 1) := by decide +kernel
theorem d4_34 : decode prog_8_method_3_code 34 = .ok (.if_icmp .ge 13, 3) := by decide +kernel
theorem d4_37 : decode prog_8_method_3_code 37 = .ok (.iload_n 3, 1) := by decide +kernel
theorem d4_38 : decode prog_8_method_3_code 38 = .ok (.istore 5, 2) := by decide +kernel
theorem d4_40 : decode prog_8_method_3_code 40 = .ok (.iload 4, 2) := by decide +kernel
theorem d4_42 : decode prog_8_method_3_code 42 = .ok (.istore_n 3, 1) := by decide +kernel
theorem d4_43 : decode prog_8_method_3_code 43 = .ok (.iload 5, 2) := by decide +kernel
theorem d4_45 : decode prog_8_method_3_code 45 = .ok (.istore 4, 2) := by decide +kernel
theorem d4_47 : decode prog_8_method_3_code 47 = .ok (.aload_n 0, 1) := by decide +kernel
theorem d4_48 : decode prog_8_method_3_code 48 = .ok (.getfield 7, 3) := by decide +kernel
theorem d4_51 : decode prog_8_method_3_code 51 = .ok (.iload 4, 2) := by decide +kernel
theorem d4_53 : decode prog_8_method_3_code 53 = .ok (.iload_n 3, 1) := by decide +kernel
theorem d4_54 : decode prog_8_method_3_code 54 = .ok (.iastore, 1) := by decide +kernel
theorem d4_55 : decode prog_8_method_3_code 55 = .ok (.aload_n 0, 1) := by decide +kernel
theorem d4_56 : decode prog_8_method_3_code 56 = .ok (.getfield 13, 3) := by decide +kernel
theorem d4_59 : decode prog_8_method_3_code 59 = .ok (.iload_n 3, 1) := by decide +kernel
theorem d4_60 : decode prog_8_method_3_code 60 = .ok (.dup2, 1) := by decide +kernel
theorem d4_61 : decode prog_8_method_3_code 61 = .ok (.iaload, 1) := by decide +kernel
theorem d4_62 : decode prog_8_method_3_code 62 = .ok (.aload_n 0, 1) := by decide +kernel
theorem d4_63 : decode prog_8_method_3_code 63 = .ok (.getfield 13, 3) := by decide +kernel
theorem d4_66 : decode prog_8_method_3_code 66 = .ok (.iload 4, 2) := by decide +kernel
theorem d4_68 : decode prog_8_method_3_code 68 = .ok (.iaload, 1) := by decide +kernel
theorem d4_69 : decode prog_8_method_3_code 69 = .ok (.iadd, 1) := by decide +kernel
theorem d4_70 : decode prog_8_method_3_code 70 = .ok (.iastore, 1) := by decide +kernel
theorem d4_71 : decode prog_8_method_3_code 71 = .ok (.iconst 1, 1) := by decide +kernel
theorem d4_72 : decode prog_8_method_3_code 72 = .ok (.ireturn, 1) := by decide +kernel
theorem d5_0 : decode prog_8_method_4_code 0 = .ok (.aload_n 0, 1) := by decide +kernel
theorem d5_1 : decode prog_8_method_4_code 1 = .ok (.getfield 7, 3) := by decide +kernel
theorem d5_4 : decode prog_8_method_4_code 4 = .ok (.iload_n 1, 1) := by decide +kernel
theorem d5_5 : decode prog_8_method_4_code 5 = .ok (.iaload, 1) := by decide +kernel
theorem d5_6 : decode prog_8_method_4_code 6 = .ok (.iload_n 1, 1) := by decide +kernel
theorem d5_7 : decode prog_8_method_4_code 7 = .ok (.if_icmp .eq 30, 3) := by decide +kernel
theorem d5_10 : decode prog_8_method_4_code 10 = .ok (.aload_n 0, 1) := by decide +kernel
theorem d5_11 : decode prog_8_method_4_code 11 = .ok (.getfield 7, 3) := by decide +kernel
theorem d5_14 : decode prog_8_method_4_code 14 = .ok (.iload_n 1, 1) := by decide +kernel
theorem d5_15 : decode prog_8_method_4_code 15 = .ok (.aload_n 0, 1) := by decide +kernel
theorem d5_16 : decode prog_8_method_4_code 16 = .ok (.getfield 7, 3) := by decide +kernel
theorem d5_19 : decode prog_8_method_4_code 19 = .ok (.aload_n 0, 1) := by decide +kernel
theorem d5_20 : decode prog_8_method_4_code 20 = .ok (.getfield 7, 3) := by decide +kernel
theorem d5_23 : decode prog_8_method_4_code 23 = .ok (.iload_n 1, 1) := by decide +kernel
theorem d5_24 : decode prog_8_method_4_code 24 = .ok (.iaload, 1) := by decide +kernel
theorem d5_25 : decode prog_8_method_4_code 25 = .ok (.iaload, 1) := by decide +kernel
theorem d5_26 : decode prog_8_method_4_code 26 = .ok (.iastore, 1) := by decide +kernel
theorem d5_27 : decode prog_8_method_4_code 27 = .ok (.aload_n 0, 1) := by decide +kernel
theorem d5_28 : decode prog_8_method_4_code 28 = .ok (.getfield 7, 3) := by decide +kernel
theorem d5_31 : decode prog_8_method_4_code 31 = .ok (.iload_n 1, 1) := by decide +kernel
theorem d5_32 : decode prog_8_method_4_code 32 = .ok (.iaload, 1) := by decide +kernel
theorem d5_33 : decode prog_8_method_4_code 33 = .ok (.istore_n 1, 1) := by decide +kernel
theorem d5_34 : decode prog_8_method_4_code 34 = .ok (.goto (-34), 3) := by decide +kernel
theorem d5_37 : decode prog_8_method_4_code 37 = .ok (.iload_n 1, 1) := by decide +kernel
theorem d5_38 : decode prog_8_method_4_code 38 = .ok (.ireturn, 1) := by decide +kernel
def O_Components (Z : State) (h : Heap) (a : Addr) (v0 v1 : Value) : Prop := Exa Z h a "arborlight/Components" ∧ Fld Z h a "arborlight/Components" "up" "[I" v0 ∧ Fld Z h a "arborlight/Components" "size" "[I" v1
theorem O_Components.ext {Z : State} {h h' : Heap} {a : Addr} {v0 v1 : Value} (O : O_Components Z h a v0 v1) (E : Ext h h') : O_Components Z h' a v0 v1 := ⟨O.1.ext E, O.2.1.ext E, O.2.2.ext E⟩
theorem O_Components.keep {Z : State} {h h' : Heap} {a : Addr} {ws : List Addr} {v0 v1 : Value} (O : O_Components Z h a v0 v1) (K : Keep h h' ws) (q : a ∉ ws) : O_Components Z h' a v0 v1 := ⟨O.1.keep K, O.2.1.keep K q, O.2.2.keep K q⟩
theorem O_Components.other {Z : State} {h h' : Heap} {a b : Addr} {sl : Nat} {w : Value} {v0 v1 : Value} (O : O_Components Z h a v0 v1) (W : Wr h h' b sl w) (q : a ≠ b) : O_Components Z h' a v0 v1 := ⟨O.1.wr W, O.2.1.other W (Or.inl q), O.2.2.other W (Or.inl q)⟩
theorem O_Components.set0 {Z : State} {a0 : Array Value} {h h' : Heap} {a : Addr} {v0 v1 : Value} {w : Value} (hw : ∀ d ∈ tables_1, d.before a0 Z = true) (W : Wr h h' a (Jvm.RoadKit.slotOf Z "arborlight/Components" "up" "[I") w) (O : O_Components Z h a v0 v1) : O_Components Z h' a w v1 := ⟨O.1.wr W, O.2.1.same W, O.2.2.other W (Or.inr (slot_ne (a0 := a0) (C := "arborlight/Components") (Or.inr (tw13 hw)) (Or.inr (tw11 hw)) (by decide) (t := (.array .int)) (t' := (.array .int)) (by decide) (by decide)))⟩
theorem O_Components.set1 {Z : State} {a0 : Array Value} {h h' : Heap} {a : Addr} {v0 v1 : Value} {w : Value} (hw : ∀ d ∈ tables_1, d.before a0 Z = true) (W : Wr h h' a (Jvm.RoadKit.slotOf Z "arborlight/Components" "size" "[I") w) (O : O_Components Z h a v0 v1) : O_Components Z h' a v0 w := ⟨O.1.wr W, O.2.1.other W (Or.inr (slot_ne (a0 := a0) (C := "arborlight/Components") (Or.inr (tw11 hw)) (Or.inr (tw13 hw)) (by decide) (t := (.array .int)) (t' := (.array .int)) (by decide) (by decide))), O.2.2.same W⟩
theorem own_of {n : Nat} (h : n < 2147483648) : (Int32.ofNat n).toInt = n := Int32.toInt_ofNat_small h
theorem own_cl {n : Nat} (h : n < 2147483648) : (Int32.ofNat n).toNatClampNeg = n := by
  have q := own_of h
  simp only [Int32.toNatClampNeg, q]; omega
theorem own_inj {a b : Nat} (ha : a < 2147483648) (hb : b < 2147483648) : Int32.ofNat a = Int32.ofNat b ↔ a = b := by
  constructor
  · intro q
    have e := congrArg Int32.toInt q
    rw [own_of ha, own_of hb] at e; omega
  · intro q; rw [q]
theorem own_ixN {w n : Nat} (h : w < n) (hn : n < 1000) : 0 ≤ (Int32.ofNat w).toInt ∧ (Int32.ofNat w).toInt < (n : Int) := by rw [own_of (by omega)]; omega
theorem own_at (f : Nat → Nat) {w : Nat} (h : w < 1000) : (fun j => Int32.ofNat (f j)) (Int32.ofNat w).toNatClampNeg = Int32.ofNat (f w) := by rw [own_cl (by omega)]
theorem own_stN {f : Nat → Nat} {w x n : Nat} (h : w < 1000) : ∀ j, j < n → own_up (fun j => Int32.ofNat (f j)) (Int32.ofNat w).toNatClampNeg (Int32.ofNat x) j = (fun j => Int32.ofNat (own_up f w x j)) j := by
  intro j _
  rw [own_cl (by omega)]
  simp only [own_up]; split <;> rfl
theorem own_inj32 {a b n : Nat} (ha : a < n) (hb : b < n) (hn : n < 1000) (q : Int32.ofNat a = Int32.ofNat b) : a = b := (own_inj (by omega) (by omega)).mp q
theorem own_atU (f : Nat → Nat) {w : Nat} (h : w < 1000) : (fun j => Int32.ofNat (own_up f w (f (f w)) j)) (Int32.ofNat w).toNatClampNeg = Int32.ofNat (f (f w)) := by rw [own_cl (by omega)]; simp [own_up]
def UF (n : Nat) (u R d : Nat → Nat) : Prop := ∀ v, v < n → u v < n ∧ R v < n ∧ R (u v) = R v ∧ (u v = v ↔ R v = v) ∧ (u v ≠ v → d (u v) < d v) ∧ R (R v) = R v
theorem UF.id (n : Nat) : UF n (fun j => j) (fun j => j) (fun _ => 0) := fun v hv => ⟨hv, hv, rfl, Iff.rfl, fun q => absurd rfl q, rfl⟩
theorem UF.half {n v : Nat} {u R d : Nat → Nat} (h : UF n u R d) (hv : v < n) (hne : u v ≠ v) : UF n (own_up u v (u (u v))) R d := by
  intro w hw
  have a := h w hw
  have b := h v hv
  have e := h (u v) b.1
  unfold own_up
  by_cases q : w = v
  · subst q
    simp only [if_true]
    have dd := b.2.2.2.2.1 hne
    have de : d (u (u w)) ≤ d (u w) := by
      by_cases z : u (u w) = u w
      · rw [z]; exact Nat.le_refl _
      · exact Nat.le_of_lt (e.2.2.2.2.1 z)
    have ne : u (u w) ≠ w := fun z => by rw [z] at de; omega
    exact ⟨e.1, b.2.1, by rw [e.2.2.1, b.2.2.1], ⟨fun z => absurd z ne, fun z => absurd (b.2.2.2.1.mpr z) hne⟩, fun _ => by omega, b.2.2.2.2.2⟩
  · simp only [if_neg q]; exact a
theorem UF.link {n x y : Nat} {u R d : Nat → Nat} (h : UF n u R d) (hx : x < n) (hy : y < n) (rx : R x = x) (ry : R y = y) (ne : x ≠ y) : UF n (own_up u y x) (fun v => if R v = y then x else R v) (fun v => if R v = y then d v + d x + 1 else d v) := by
  intro w hw
  have a := h w hw
  unfold own_up
  by_cases q : w = y
  · subst q
    simp only [if_true, ry, rx, if_neg ne]
    exact ⟨hx, hx, trivial, by simp [ne], fun _ => by omega, trivial⟩
  · simp only [if_neg q, a.2.2.1]
    by_cases z : R w = y
    · simp only [if_pos z, rx, if_neg ne]
      refine ⟨a.1, hx, trivial, ⟨fun k => ?_, fun k => ?_⟩, fun k => ?_, trivial⟩
      · have := a.2.2.2.1.mp k; omega
      · subst k; omega
      · have := a.2.2.2.2.1 k; omega
    · simp only [if_neg z, a.2.2.2.2.2]
      exact ⟨a.1, a.2.1, trivial, a.2.2.2.1, a.2.2.2.2.1, trivial⟩
theorem own_dec {n w : Nat} {u R d : Nat → Nat} (h : UF n u R d) (hw : w < n) (q : u w ≠ w) : d (u (u w)) < d w := by
  have a := (h w hw).2.2.2.2.1 q
  by_cases z : u (u w) = u w
  · rw [z]; exact a
  · have e := (h (u w) (h w hw).1).2.2.2.2.1 z; omega
theorem own_root {n w : Nat} {u R d : Nat → Nat} (h : UF n u R d) (hw : w < n) (hn : n < 1000) (q : Int32.ofNat (u w) = Int32.ofNat w) : R w = w := (h w hw).2.2.2.1.mp (own_inj32 (h w hw).1 hw hn q)
def JN (n : Nat) (R R' : Nat → Nat) (a b : Nat) : Prop := ∀ x y, x < n → y < n → (R' x = R' y ↔ R x = R y ∨ (R x = R a ∧ R y = R b) ∨ (R x = R b ∧ R y = R a))
theorem JN.link {n a b x y : Nat} {R : Nat → Nat} (q : (x = R a ∧ y = R b) ∨ (x = R b ∧ y = R a)) : JN n R (fun v => if R v = y then x else R v) a b := by
  intro v w _ _
  rcases q with ⟨rfl, rfl⟩ | ⟨rfl, rfl⟩
  · show (if R v = R b then R a else R v) = (if R w = R b then R a else R w) ↔ _
    split <;> split <;> omega
  · show (if R v = R a then R b else R v) = (if R w = R a then R b else R w) ↔ _
    split <;> split <;> omega
theorem JN.same {n a b : Nat} {R : Nat → Nat} (q : R a = R b) : JN n R R a b := by intro x y _ _; omega
def LB (n : Nat) (lb R : Nat → Nat) : Prop := ∀ x y, x < n → y < n → (lb x = lb y ↔ R x = R y)
theorem LB.merge {n a b : Nat} {lb R R' : Nat → Nat} (h : LB n lb R) (j : JN n R R' a b) (ha : a < n) (hb : b < n) : LB n (fun v => if lb v = lb b then lb a else lb v) R' := by
  intro x y hx hy
  have p1 := h x y hx hy; have p2 := h x a hx ha; have p3 := h x b hx hb; have p4 := h y a hy ha; have p5 := h y b hy hb; have p6 := h a b ha hb
  rw [j x y hx hy]
  show (if lb x = lb b then lb a else lb x) = (if lb y = lb b then lb a else lb y) ↔ _
  by_cases u : lb x = lb b <;> by_cases w : lb y = lb b
  · rw [if_pos u, if_pos w]
    have r1 := p3.mp u; have r2 := p5.mp w
    clear p1 p2 p3 p4 p5 p6 h j
    exact ⟨fun _ => by omega, fun _ => rfl⟩
  · rw [if_pos u, if_neg w, eq_comm, p4]
    have r1 := p3.mp u; have r2 : ¬ (R y = R b) := fun z => w (p5.mpr z)
    clear p1 p2 p3 p4 p5 p6 h j
    omega
  · rw [if_neg u, if_pos w, p2]
    have r1 : ¬ (R x = R b) := fun z => u (p3.mpr z); have r2 := p5.mp w
    clear p1 p2 p3 p4 p5 p6 h j
    omega
  · rw [if_neg u, if_neg w, p1]
    have r1 : ¬ (R x = R b) := fun z => u (p3.mpr z); have r2 : ¬ (R y = R b) := fun z => w (p5.mpr z)
    clear p1 p2 p3 p4 p5 p6 h j
    omega
theorem own_i1 {i : Int32} (h : i.toInt < 2147483647) : (i + 1).toInt = i.toInt + 1 := by
  have a := c_iadd i 1; have b := rng32 i; have d := rng32 (i + 1)
  simp only [Int32.reduceToInt] at a; omega
theorem own_suc {n : Nat} (h : n < 1000) : Int32.ofNat n + 1 = Int32.ofNat (n + 1) := by
  apply Int32.toInt_inj.mp
  rw [own_i1 (by rw [own_of (by omega)]; omega), own_of (by omega), own_of (by omega)]; omega

theorem own_ex {x : Int32} {n : Nat} (h : 0 ≤ x.toInt ∧ x.toInt < n) : ∃ A : Nat, A < n ∧ x = Int32.ofNat A := by
  have r := rng32 x
  exact ⟨x.toInt.toNat, by omega, Int32.toInt_inj.mp (by rw [own_of (by omega)]; omega)⟩
theorem own_m3 (x : Int32) : 0 ≤ (x &&& 3).toInt ∧ (x &&& 3).toInt < (4 : Nat) := by
  have a := c_mask x 3 2 (by decide) (by decide)
  omega
theorem own_rel {B : Nat → Nat} {a b n : Nat} (ha : a < n) (hb : b < n) (hn : n < 1000) (hB : ∀ v, v < n → B v < n) : ∀ j, j < n → (fun j => if (fun j => Int32.ofNat (B j)) j = Int32.ofNat (B b) then Int32.ofNat (B a) else (fun j => Int32.ofNat (B j)) j) j = (fun j => Int32.ofNat ((fun v => if B v = B b then B a else B v) j)) j := by
  intro j hj
  show (if Int32.ofNat (B j) = Int32.ofNat (B b) then Int32.ofNat (B a) else Int32.ofNat (B j)) = Int32.ofNat (if B j = B b then B a else B j)
  have q := own_inj (a := B j) (b := B b) (by have := hB j hj; omega) (by have := hB b hb; omega)
  by_cases z : B j = B b
  · rw [if_pos z, if_pos (q.mpr z)]
  · rw [if_neg z, if_neg (fun w => z (q.mp w))]
theorem own_relB {B : Nat → Nat} {a b n : Nat} (ha : a < n) (hB : ∀ v, v < n → B v < n) : ∀ v, v < n → (fun v => if B v = B b then B a else B v) v < n := by
  intro v hv
  show (if B v = B b then B a else B v) < n
  split
  · exact hB a ha
  · exact hB v hv
theorem own_rel0 {B : Nat → Nat} {a b n : Nat} (q : B a = B b) : ∀ j, j < n → (fun j => Int32.ofNat (B j)) j = (fun j => Int32.ofNat ((fun v => if B v = B b then B a else B v) j)) j := by
  intro j _
  show Int32.ofNat (B j) = Int32.ofNat (if B j = B b then B a else B j)
  split
  · rename_i z; rw [z, q]
  · rfl
theorem own_same {a b n x y : Nat} (ha : a < n) (hb : b < n) (hn : n < 1000) (q : a = b ↔ x = y) : (¬ (x = y)) ↔ ¬ (Int32.ofNat a = Int32.ofNat b) := by
  rw [own_inj (by omega) (by omega), q]
theorem own_same' {a b n x y : Nat} (ha : a < n) (hb : b < n) (hn : n < 1000) (q : a = b ↔ x = y) : (x = y) ↔ (Int32.ofNat a = Int32.ofNat b) := by
  rw [own_inj (by omega) (by omega), q]

theorem own_nl0 {n : Nat} (h : n < 4) : ¬ ((Int32.ofNat n) < (0 : Int32)) := by
  rw [Int32.lt_iff_toInt_lt, own_of (by omega)]; simp only [Int32.reduceToInt]; omega
theorem own_nl3 {n : Nat} (h : n < 4) : ¬ ((3 : Int32) < (Int32.ofNat n)) := by
  rw [Int32.lt_iff_toInt_lt, own_of (by omega)]; simp only [Int32.reduceToInt]; omega
theorem pn1 : plainName "arborlight/Components" = true := by first | (simp [plainName, overriddenIn]; done) | decide +kernel
theorem ef1 (m : MethodId) (x0 : Addr) (x1 : Int32) : entryFrame m #[(.ref x0), (.int x1)] 3 = mkF m 0 #[.val (.ref x0), .val (.int x1), .unset] [] := by first | (simp [entryFrame, mkF, argsToLocals, Value.category]; done) | rfl
set_option maxRecDepth 65536 in
set_option maxHeartbeats 40000000 in
theorem rm1 (l : Launch) (Z : State) (a0 : Array Value) (hw : ∀ d ∈ tables_1, d.before a0 Z = true) (ws : List Jvm.Cond) (a1 : Addr) (p2 : Int32) (h0 : Heap) (n0 : Nat) (Z0 : n0 ≤ h0.size) (O_a1 : O_Components Z h0 a1 .null .null) (g_a1 : n0 ≤ a1) (hp : p2 = (4 : Int32)) :
    Met l Z (⟨"arborlight/Components", "<init>", "(I)V"⟩ : MethodName) prog_8_method_1_code 3 none ({ frames := 1, cells := 2, slots := 8, locals := 12 } : Room) ws n0 #[(.ref a1), (.int p2)] h0 (fun v h' => ∃ u : Addr, ∃ z : Addr, v = none ∧ Keep h0 h' [a1] ∧ O_Components Z h' a1 (.ref u) (.ref z) ∧ AI Z h' u .int 4 (fun j => Int32.ofNat ((fun k => k) j)) ∧ AI Z h' z .int 4 (fun _ => 1) ∧ n0 ≤ u ∧ n0 ≤ z ∧ h0.size ≤ u ∧ h0.size ≤ z ∧ Apart u z ∧ Apart z u) := by
  refine Met.intro (plainFor_of_name pn1) Z0 ?_
  intro p e s m below meth c T X
  refine g_cast (ef1 m a1 p2) ?_
  subst hp
  have K : Keep h0 h0 [a1] := Keep.refl h0 _
  refine g_aloadN X d1_0 rfl (q := 1) rfl rfl ?_
  refine g_initO X (tw7 hw) (tw8 hw) (tw9 hw) d1_1 (q := 4) rfl rfl (by decide) (W := 0) rfl (by decide) (fun T X => ?_)
  refine g_aloadN X d1_4 rfl (q := 5) rfl rfl ?_
  refine g_iloadN X d1_5 rfl (q := 6) rfl ?_
  refine g_newarrI X (aty := .int) rfl (tw0 hw) d1_6 (q := 8) rfl (by decide) (cap := 4) (by decide) (by decide) (c2 := 1) (s2 := 4) rfl rfl (by decide) (by decide) (fun T h' b1 X gz_b1 g_b1 E A_new => ?_)
  have ne_a1_b1 := own_new gz_b1 O_a1.1.lt
  have ne_b1_a1 := own_apS ne_a1_b1
  have sz_b1 := own_sz gz_b1 K
  have K := K.ext E
  have O_a1 := O_a1.ext E
  have A_b1 : AI Z h' b1 .int 4 (fun _ => 0) := A_new
  refine g_putF X (tw10 hw) Via.refl O_a1.2.1 O_a1.1 (Or.inr ⟨(tw11 hw), rfl, rfl⟩) (tw2 hw) (ty := (.array .int)) (by decide) rfl rfl g_a1 d1_8 (q := 11) rfl (fun T h X W => ?_)
  have A_b1 := A_b1.other W ne_b1_a1
  have O_a1 := O_Components.set0 hw W O_a1
  have K := K.wr W (Or.inl (List.mem_of_getElem? (i := 0) rfl))
  refine g_aloadN X d1_11 rfl (q := 12) rfl rfl ?_
  refine g_iloadN X d1_12 rfl (q := 13) rfl ?_
  refine g_newarrI X (aty := .int) rfl (tw0 hw) d1_13 (q := 15) rfl (by decide) (cap := 4) (by decide) (by decide) (c2 := 2) (s2 := 8) rfl rfl (by decide) (by decide) (fun T h' b2 X gz_b2 g_b2 E A_new => ?_)
  have ne_a1_b2 := own_new gz_b2 O_a1.1.lt
  have ne_b2_a1 := own_apS ne_a1_b2
  have ne_b1_b2 := own_new gz_b2 A_b1.lt
  have ne_b2_b1 := own_apS ne_b1_b2
  have sz_b2 := own_sz gz_b2 K
  have K := K.ext E
  have O_a1 := O_a1.ext E
  have A_b1 := A_b1.ext E
  have A_b2 : AI Z h' b2 .int 4 (fun _ => 0) := A_new
  refine g_putF X (tw12 hw) Via.refl O_a1.2.2 O_a1.1 (Or.inr ⟨(tw13 hw), rfl, rfl⟩) (tw2 hw) (ty := (.array .int)) (by decide) rfl rfl g_a1 d1_15 (q := 18) rfl (fun T h X W => ?_)
  have A_b1 := A_b1.other W ne_b1_a1
  have A_b2 := A_b2.other W ne_b2_a1
  have O_a1 := O_Components.set1 hw W O_a1
  have K := K.wr W (Or.inl (List.mem_of_getElem? (i := 0) rfl))
  refine g_iconst X d1_18 rfl (q := 19) (v := 0) rfl ?_
  refine g_istoreN X d1_19 rfl (q := 20) (L' := #[.val (.ref a1), .val (.int (4 : Int32)), .val (.int (0 : Int32))]) rfl ?_
  refine g_iloadN X d1_20 rfl (q := 21) rfl ?_
  refine g_iloadN X d1_21 rfl (q := 22) rfl ?_
  refine g_icmpB X d1_22 (Or.inl rfl) (q := 25) rfl (by decide) (t := 45) rfl (fun (c1 : (0 : Int32) < (4 : Int32)) => ?_) (fun (c1 : ¬ ((0 : Int32) < (4 : Int32))) => ?_)
  · skip
    refine g_aloadN X d1_25 rfl (q := 26) rfl rfl ?_
    refine g_getF X (tw10 hw) Via.refl O_a1.2.1 d1_26 (q := 29) rfl (fun T X => ?_)
    refine g_iloadN X d1_29 rfl (q := 30) rfl ?_
    refine g_iloadN X d1_30 rfl (q := 31) rfl ?_
    refine g_iastore X A_b1 ⟨by decide, by decide⟩ g_b1 d1_31 (q := 32) rfl (fun T h X W => ?_)
    have O_a1 := O_a1.other W ne_a1_b1
    have A_b2 := A_b2.other W ne_b2_b1
    have A_b1 : AI Z h b1 .int 4 (own_up (fun _ => 0) 0 (0 : Int32)) := A_b1.set W
    have K := K.wr W (Or.inr sz_b1)
    refine g_aloadN X d1_32 rfl (q := 33) rfl rfl ?_
    refine g_getF X (tw12 hw) Via.refl O_a1.2.2 d1_33 (q := 36) rfl (fun T X => ?_)
    refine g_iloadN X d1_36 rfl (q := 37) rfl ?_
    refine g_iconst X d1_37 rfl (q := 38) (v := 1) rfl ?_
    refine g_iastore X A_b2 ⟨by decide, by decide⟩ g_b2 d1_38 (q := 39) rfl (fun T h X W => ?_)
    have O_a1 := O_a1.other W ne_a1_b2
    have A_b1 := A_b1.other W ne_b1_b2
    have A_b2 : AI Z h b2 .int 4 (own_up (fun _ => 0) 0 (1 : Int32)) := A_b2.set W
    have K := K.wr W (Or.inr sz_b2)
    refine g_iinc X d1_39 (q := 42) rfl rfl (d := 1) rfl (L' := #[.val (.ref a1), .val (.int (4 : Int32)), .val (.int (1 : Int32))]) rfl ?_
    refine g_goto X d1_42 (by decide) (q := 20) rfl ?_
    refine g_iloadN X d1_20 rfl (q := 21) rfl ?_
    refine g_iloadN X d1_21 rfl (q := 22) rfl ?_
    refine g_icmpB X d1_22 (Or.inl rfl) (q := 25) rfl (by decide) (t := 45) rfl (fun (c2 : (1 : Int32) < (4 : Int32)) => ?_) (fun (c2 : ¬ ((1 : Int32) < (4 : Int32))) => ?_)
    · skip
      refine g_aloadN X d1_25 rfl (q := 26) rfl rfl ?_
      refine g_getF X (tw10 hw) Via.refl O_a1.2.1 d1_26 (q := 29) rfl (fun T X => ?_)
      refine g_iloadN X d1_29 rfl (q := 30) rfl ?_
      refine g_iloadN X d1_30 rfl (q := 31) rfl ?_
      refine g_iastore X A_b1 ⟨by decide, by decide⟩ g_b1 d1_31 (q := 32) rfl (fun T h X W => ?_)
      have O_a1 := O_a1.other W ne_a1_b1
      have A_b2 := A_b2.other W ne_b2_b1
      have A_b1 : AI Z h b1 .int 4 (own_up (own_up (fun _ => 0) 0 (0 : Int32)) 1 (1 : Int32)) := A_b1.set W
      have K := K.wr W (Or.inr sz_b1)
      refine g_aloadN X d1_32 rfl (q := 33) rfl rfl ?_
      refine g_getF X (tw12 hw) Via.refl O_a1.2.2 d1_33 (q := 36) rfl (fun T X => ?_)
      refine g_iloadN X d1_36 rfl (q := 37) rfl ?_
      refine g_iconst X d1_37 rfl (q := 38) (v := 1) rfl ?_
      refine g_iastore X A_b2 ⟨by decide, by decide⟩ g_b2 d1_38 (q := 39) rfl (fun T h X W => ?_)
      have O_a1 := O_a1.other W ne_a1_b2
      have A_b1 := A_b1.other W ne_b1_b2
      have A_b2 : AI Z h b2 .int 4 (own_up (own_up (fun _ => 0) 0 (1 : Int32)) 1 (1 : Int32)) := A_b2.set W
      have K := K.wr W (Or.inr sz_b2)
      refine g_iinc X d1_39 (q := 42) rfl rfl (d := 1) rfl (L' := #[.val (.ref a1), .val (.int (4 : Int32)), .val (.int (2 : Int32))]) rfl ?_
      refine g_goto X d1_42 (by decide) (q := 20) rfl ?_
      refine g_iloadN X d1_20 rfl (q := 21) rfl ?_
      refine g_iloadN X d1_21 rfl (q := 22) rfl ?_
      refine g_icmpB X d1_22 (Or.inl rfl) (q := 25) rfl (by decide) (t := 45) rfl (fun (c3 : (2 : Int32) < (4 : Int32)) => ?_) (fun (c3 : ¬ ((2 : Int32) < (4 : Int32))) => ?_)
      · skip
        refine g_aloadN X d1_25 rfl (q := 26) rfl rfl ?_
        refine g_getF X (tw10 hw) Via.refl O_a1.2.1 d1_26 (q := 29) rfl (fun T X => ?_)
        refine g_iloadN X d1_29 rfl (q := 30) rfl ?_
        refine g_iloadN X d1_30 rfl (q := 31) rfl ?_
        refine g_iastore X A_b1 ⟨by decide, by decide⟩ g_b1 d1_31 (q := 32) rfl (fun T h X W => ?_)
        have O_a1 := O_a1.other W ne_a1_b1
        have A_b2 := A_b2.other W ne_b2_b1
        have A_b1 : AI Z h b1 .int 4 (own_up (own_up (own_up (fun _ => 0) 0 (0 : Int32)) 1 (1 : Int32)) 2 (2 : Int32)) := A_b1.set W
        have K := K.wr W (Or.inr sz_b1)
        refine g_aloadN X d1_32 rfl (q := 33) rfl rfl ?_
        refine g_getF X (tw12 hw) Via.refl O_a1.2.2 d1_33 (q := 36) rfl (fun T X => ?_)
        refine g_iloadN X d1_36 rfl (q := 37) rfl ?_
        refine g_iconst X d1_37 rfl (q := 38) (v := 1) rfl ?_
        refine g_iastore X A_b2 ⟨by decide, by decide⟩ g_b2 d1_38 (q := 39) rfl (fun T h X W => ?_)
        have O_a1 := O_a1.other W ne_a1_b2
        have A_b1 := A_b1.other W ne_b1_b2
        have A_b2 : AI Z h b2 .int 4 (own_up (own_up (own_up (fun _ => 0) 0 (1 : Int32)) 1 (1 : Int32)) 2 (1 : Int32)) := A_b2.set W
        have K := K.wr W (Or.inr sz_b2)
        refine g_iinc X d1_39 (q := 42) rfl rfl (d := 1) rfl (L' := #[.val (.ref a1), .val (.int (4 : Int32)), .val (.int (3 : Int32))]) rfl ?_
        refine g_goto X d1_42 (by decide) (q := 20) rfl ?_
        refine g_iloadN X d1_20 rfl (q := 21) rfl ?_
        refine g_iloadN X d1_21 rfl (q := 22) rfl ?_
        refine g_icmpB X d1_22 (Or.inl rfl) (q := 25) rfl (by decide) (t := 45) rfl (fun (c4 : (3 : Int32) < (4 : Int32)) => ?_) (fun (c4 : ¬ ((3 : Int32) < (4 : Int32))) => ?_)
        · skip
          refine g_aloadN X d1_25 rfl (q := 26) rfl rfl ?_
          refine g_getF X (tw10 hw) Via.refl O_a1.2.1 d1_26 (q := 29) rfl (fun T X => ?_)
          refine g_iloadN X d1_29 rfl (q := 30) rfl ?_
          refine g_iloadN X d1_30 rfl (q := 31) rfl ?_
          refine g_iastore X A_b1 ⟨by decide, by decide⟩ g_b1 d1_31 (q := 32) rfl (fun T h X W => ?_)
          have O_a1 := O_a1.other W ne_a1_b1
          have A_b2 := A_b2.other W ne_b2_b1
          have A_b1 : AI Z h b1 .int 4 (own_up (own_up (own_up (own_up (fun _ => 0) 0 (0 : Int32)) 1 (1 : Int32)) 2 (2 : Int32)) 3 (3 : Int32)) := A_b1.set W
          have K := K.wr W (Or.inr sz_b1)
          refine g_aloadN X d1_32 rfl (q := 33) rfl rfl ?_
          refine g_getF X (tw12 hw) Via.refl O_a1.2.2 d1_33 (q := 36) rfl (fun T X => ?_)
          refine g_iloadN X d1_36 rfl (q := 37) rfl ?_
          refine g_iconst X d1_37 rfl (q := 38) (v := 1) rfl ?_
          refine g_iastore X A_b2 ⟨by decide, by decide⟩ g_b2 d1_38 (q := 39) rfl (fun T h X W => ?_)
          have O_a1 := O_a1.other W ne_a1_b2
          have A_b1 := A_b1.other W ne_b1_b2
          have A_b2 : AI Z h b2 .int 4 (own_up (own_up (own_up (own_up (fun _ => 0) 0 (1 : Int32)) 1 (1 : Int32)) 2 (1 : Int32)) 3 (1 : Int32)) := A_b2.set W
          have K := K.wr W (Or.inr sz_b2)
          refine g_iinc X d1_39 (q := 42) rfl rfl (d := 1) rfl (L' := #[.val (.ref a1), .val (.int (4 : Int32)), .val (.int (4 : Int32))]) rfl ?_
          refine g_goto X d1_42 (by decide) (q := 20) rfl ?_
          refine g_iloadN X d1_20 rfl (q := 21) rfl ?_
          refine g_iloadN X d1_21 rfl (q := 22) rfl ?_
          refine g_jT0 X (J := 45) (L := #[.val (.ref a1), .val (.int (4 : Int32)), .val (.int (4 : Int32))]) (S := []) ?_ ?_
          · intro T X
            exact g_ret0 X d1_45 (by decide) (by decide) ⟨b1, b2, rfl, K, O_a1, A_b1.to (by decide), A_b2.to (by decide), g_b1, g_b2, sz_b1, sz_b2, ne_b1_b2, ne_b2_b1⟩
          · intro J45_4
            refine g_icmpB X d1_22 (Or.inl rfl) (q := 25) rfl (by decide) (t := 45) rfl (fun (c5 : (4 : Int32) < (4 : Int32)) => ?_) (fun (c5 : ¬ ((4 : Int32) < (4 : Int32))) => ?_)
            · skip
              exact absurd c5 (by decide)
            · skip
              exact J45_4 T X
        · skip
          exact absurd c4 (by decide)
      · skip
        exact absurd c3 (by decide)
    · skip
      exact absurd c2 (by decide)
  · skip
    exact absurd c1 (by decide)
theorem pn5 : plainName "arborlight/Components" = true := by first | (simp [plainName, overriddenIn]; done) | decide +kernel
theorem ef5 (m : MethodId) (x0 : Addr) (x1 : Int32) : entryFrame m #[(.ref x0), (.int x1)] 2 = mkF m 0 #[.val (.ref x0), .val (.int x1)] [] := by first | (simp [entryFrame, mkF, argsToLocals, Value.category]; done) | rfl
set_option maxRecDepth 65536 in
set_option maxHeartbeats 40000000 in
theorem rm5 (l : Launch) (Z : State) (a0 : Array Value) (hw : ∀ d ∈ tables_1, d.before a0 Z = true) (ws : List Jvm.Cond) (a1 : Addr) (p2 : Int32) (u : Addr) (z : Addr) (U : Nat → Nat) (R : Nat → Nat) (D : Nat → Nat) (n2 : Nat) (h0 : Heap) (n0 : Nat) (Z0 : n0 ≤ h0.size) (O_a1 : O_Components Z h0 a1 (.ref u) (.ref z)) (A_u : AI Z h0 u .int 4 (fun j => Int32.ofNat (U j))) (g_u : n0 ≤ u) (ne_a1_u : Apart a1 u) (ne_u_a1 : Apart u a1) (hp : p2 = Int32.ofNat n2) (hn : n2 < 4) (hU : UF 4 U R D) :
    Met l Z (⟨"arborlight/Components", "root", "(I)I"⟩ : MethodName) prog_8_method_4_code 2 (some .int) ({ frames := 0, cells := 0, slots := 0, locals := 0 } : Room) ws n0 #[(.ref a1), (.int p2)] h0 (fun v h' => ∃ U1 : Nat → Nat, v = some (.int (Int32.ofNat (R n2))) ∧ Keep h0 h' [u] ∧ AI Z h' u .int 4 (fun j => Int32.ofNat (U1 j)) ∧ UF 4 U1 R D) := by
  refine Met.intro (plainFor_of_name pn5) Z0 ?_
  intro p e s m below meth c T X
  refine g_cast (ef5 m a1 p2) ?_
  subst hp
  have K : Keep h0 h0 [u] := Keep.refl h0 _
  refine g_loop2 X (H := 0) (fun (w : Nat) (V1 : Nat → Nat) => D w) (fun w V1 h => O_Components Z h a1 (.ref u) (.ref z) ∧ AI Z h u .int 4 (fun j => Int32.ofNat (V1 j)) ∧ Keep h0 h [u] ∧ w < 4 ∧ R w = R n2 ∧ UF 4 V1 R D) (fun w V1 => #[.val (.ref a1), .val (.int (Int32.ofNat w))]) (fun w V1 => []) n2 U ⟨O_a1, A_u, K, hn, rfl, hU⟩ (fun w V1 T h X hI ih => ?_)
  have hI2 : O_Components Z h a1 (.ref u) (.ref z) ∧ AI Z h u .int 4 (fun j => Int32.ofNat (V1 j)) ∧ Keep h0 h [u] ∧ w < 4 ∧ R w = R n2 ∧ UF 4 V1 R D := hI
  obtain ⟨O_a1, A_u, K, hw1, hR, hV⟩ := hI2
  show Goes p e below s _ n0 _ (T.setTop (mkF m 0 #[.val (.ref a1), .val (.int (Int32.ofNat w))] []))
  refine g_aloadN X d5_0 rfl (q := 1) rfl rfl ?_
  refine g_getF X (tw10 hw) Via.refl O_a1.2.1 d5_1 (q := 4) rfl (fun T X => ?_)
  refine g_iloadN X d5_4 rfl (q := 5) rfl ?_
  refine g_iaload X A_u (own_ixN (n := 4) hw1 (by omega)) d5_5 (q := 6) rfl ?_
  refine g_eqI (y := (Int32.ofNat (V1 w))) (own_at V1 (by omega)) ?_
  refine g_iloadN X d5_6 rfl (q := 7) rfl ?_
  refine g_icmpA X d5_7 (Or.inr (Or.inr rfl)) (q := 10) rfl (by decide) (t := 37) rfl (fun (c1 : (Int32.ofNat (V1 w)) = (Int32.ofNat w)) => ?_) (fun (c1 : ¬ ((Int32.ofNat (V1 w)) = (Int32.ofNat w))) => ?_)
  · skip
    refine g_iloadN X d5_37 rfl (q := 38) rfl ?_
    exact g_retI X d5_38 (by decide) (by decide) ⟨V1, by rw [(own_root hV hw1 (by omega) c1).symm, hR], K, A_u, hV⟩
  · skip
    refine g_aloadN X d5_10 rfl (q := 11) rfl rfl ?_
    refine g_getF X (tw10 hw) Via.refl O_a1.2.1 d5_11 (q := 14) rfl (fun T X => ?_)
    refine g_iloadN X d5_14 rfl (q := 15) rfl ?_
    refine g_aloadN X d5_15 rfl (q := 16) rfl rfl ?_
    refine g_getF X (tw10 hw) Via.refl O_a1.2.1 d5_16 (q := 19) rfl (fun T X => ?_)
    refine g_aloadN X d5_19 rfl (q := 20) rfl rfl ?_
    refine g_getF X (tw10 hw) Via.refl O_a1.2.1 d5_20 (q := 23) rfl (fun T X => ?_)
    refine g_iloadN X d5_23 rfl (q := 24) rfl ?_
    refine g_iaload X A_u (own_ixN (n := 4) hw1 (by omega)) d5_24 (q := 25) rfl ?_
    refine g_eqI (y := (Int32.ofNat (V1 w))) (own_at V1 (by omega)) ?_
    refine g_iaload X A_u (own_ixN (n := 4) (hV w hw1).1 (by omega)) d5_25 (q := 26) rfl ?_
    refine g_eqI (y := (Int32.ofNat (V1 (V1 w)))) (own_at V1 (Nat.lt_of_lt_of_le (hV w hw1).1 (by omega))) ?_
    refine g_iastore X A_u (own_ixN (n := 4) hw1 (by omega)) g_u d5_26 (q := 27) rfl (fun T h X W => ?_)
    have O_a1 := O_a1.other W ne_a1_u
    have A_u : AI Z h u .int 4 (own_up (fun j => Int32.ofNat (V1 j)) (Int32.ofNat w).toNatClampNeg (Int32.ofNat (V1 (V1 w)))) := A_u.set W
    have K := K.wr W (Or.inl (List.mem_of_getElem? (i := 0) rfl))
    have A_u : AI Z h u .int 4 (fun j => Int32.ofNat (own_up V1 w (V1 (V1 w)) j)) := A_u.to (own_stN (by omega))
    refine g_aloadN X d5_27 rfl (q := 28) rfl rfl ?_
    refine g_getF X (tw10 hw) Via.refl O_a1.2.1 d5_28 (q := 31) rfl (fun T X => ?_)
    refine g_iloadN X d5_31 rfl (q := 32) rfl ?_
    refine g_iaload X A_u (own_ixN (n := 4) hw1 (by omega)) d5_32 (q := 33) rfl ?_
    refine g_eqI (y := (Int32.ofNat (V1 (V1 w)))) (own_atU V1 (by omega)) ?_
    refine g_istoreN X d5_33 rfl (q := 34) (L' := #[.val (.ref a1), .val (.int (Int32.ofNat (V1 (V1 w))))]) rfl ?_
    refine g_goto X d5_34 (by decide) (q := 0) rfl ?_
    have q1 := hV w hw1
    have q3 : V1 w ≠ w := fun z => c1 (by rw [z])
    exact ih (V1 (V1 w)) (own_up V1 w (V1 (V1 w))) T _ X ⟨O_a1, A_u, K, (hV (V1 w) q1.1).1, (by rw [(hV (V1 w) q1.1).2.2.1, q1.2.2.1]; exact hR), (hV.half hw1 q3)⟩ (own_dec hV hw1 q3)
theorem pn4 : plainName "arborlight/Components" = true := by first | (simp [plainName, overriddenIn]; done) | decide +kernel
theorem ef4 (m : MethodId) (x0 : Addr) (x1 : Int32) (x2 : Int32) : entryFrame m #[(.ref x0), (.int x1), (.int x2)] 6 = mkF m 0 #[.val (.ref x0), .val (.int x1), .val (.int x2), .unset, .unset, .unset] [] := by first | (simp [entryFrame, mkF, argsToLocals, Value.category]; done) | rfl
set_option maxRecDepth 65536 in
set_option maxHeartbeats 40000000 in
theorem rm4 (l : Launch) (Z : State) (a0 : Array Value) (hw : ∀ d ∈ tables_1, d.before a0 Z = true) (ws : List Jvm.Cond) (a1 : Addr) (p2 : Int32) (p3 : Int32) (u : Addr) (z : Addr) (U : Nat → Nat) (G : Nat → Int32) (R : Nat → Nat) (D : Nat → Nat) (n2 : Nat) (n3 : Nat) (h0 : Heap) (n0 : Nat) (Z0 : n0 ≤ h0.size) (O_a1 : O_Components Z h0 a1 (.ref u) (.ref z)) (A_u : AI Z h0 u .int 4 (fun j => Int32.ofNat (U j))) (A_z : AI Z h0 z .int 4 G) (g_u : n0 ≤ u) (g_z : n0 ≤ z) (ne_a1_u : Apart a1 u) (ne_u_a1 : Apart u a1) (ne_a1_z : Apart a1 z) (ne_z_a1 : Apart z a1) (ne_u_z : Apart u z) (ne_z_u : Apart z u) (hp : p2 = Int32.ofNat n2) (hq : p3 = Int32.ofNat n3) (hn : n2 < 4) (hm : n3 < 4) (hU : UF 4 U R D) :
    Met l Z (⟨"arborlight/Components", "join", "(II)Z"⟩ : MethodName) prog_8_method_3_code 6 (some .boolean) ({ frames := 1, cells := 0, slots := 0, locals := 13 } : Room) ws n0 #[(.ref a1), (.int p2), (.int p3)] h0 (fun v h' => ∃ U1 : Nat → Nat, ∃ G1 : Nat → Int32, ∃ R1 : Nat → Nat, ∃ D1 : Nat → Nat, v = some (.int (bI (¬ (R n2 = R n3)))) ∧ Keep h0 h' [u, z] ∧ AI Z h' u .int 4 (fun j => Int32.ofNat (U1 j)) ∧ AI Z h' z .int 4 G1 ∧ UF 4 U1 R1 D1 ∧ JN 4 R R1 n2 n3) := by
  refine Met.intro (plainFor_of_name pn4) Z0 ?_
  intro p e s m below meth c T X
  refine g_cast (ef4 m a1 p2 p3) ?_
  subst hp hq
  have K : Keep h0 h0 [u, z] := Keep.refl h0 _
  refine g_aloadN X d4_0 rfl (q := 1) rfl rfl ?_
  refine g_iloadN X d4_1 rfl (q := 2) rfl ?_
  refine g_callV X O_a1.1 [(.int (Int32.ofNat n2))] [] (tw23 hw) (tw24 hw) (tw26 hw) (tw25 hw) (tw3 hw) (tw27 hw) (by decide) (rm5 l Z a0 hw [] a1 (Int32.ofNat n2) u z U R D n2 _ n0 X.size O_a1 A_u g_u ne_a1_u ne_u_a1 rfl hn hU) pd0 rfl rfl rfl d4_2 (q := 5) rfl (W := 0) rfl (by decide) (by decide) (c2 := 0) (s2 := 0) rfl rfl (by decide) (by decide) (fun v T h' X hQ => ?_)
  obtain ⟨U1_2, rfl, Kc, A_u', hU1_2⟩ := hQ
  have O_a1 := O_a1.keep Kc (ninS ne_a1_u nin0)
  have A_z := A_z.keep Kc (ninS ne_z_u nin0)
  have A_u := A_u'
  have K := K.trans Kc (allS (Or.inl (List.mem_of_getElem? (i := 0) rfl)) all0)
  show Goes p e below s _ n0 _ (T.setTop (mkF m 5 #[.val (.ref a1), .val (.int (Int32.ofNat n2)), .val (.int (Int32.ofNat n3)), .unset, .unset, .unset] [(.int (Int32.ofNat (R n2)))]))
  refine g_istoreN X d4_5 rfl (q := 6) (L' := #[.val (.ref a1), .val (.int (Int32.ofNat n2)), .val (.int (Int32.ofNat n3)), .val (.int (Int32.ofNat (R n2))), .unset, .unset]) rfl ?_
  refine g_aloadN X d4_6 rfl (q := 7) rfl rfl ?_
  refine g_iloadN X d4_7 rfl (q := 8) rfl ?_
  refine g_callV X O_a1.1 [(.int (Int32.ofNat n3))] [] (tw23 hw) (tw24 hw) (tw26 hw) (tw25 hw) (tw3 hw) (tw27 hw) (by decide) (rm5 l Z a0 hw [] a1 (Int32.ofNat n3) u z U1_2 R D n3 _ n0 X.size O_a1 A_u g_u ne_a1_u ne_u_a1 rfl hm hU1_2) pd0 rfl rfl rfl d4_8 (q := 11) rfl (W := 0) rfl (by decide) (by decide) (c2 := 0) (s2 := 0) rfl rfl (by decide) (by decide) (fun v T h' X hQ => ?_)
  obtain ⟨U1_8, rfl, Kc, A_u', hU1_8⟩ := hQ
  have O_a1 := O_a1.keep Kc (ninS ne_a1_u nin0)
  have A_z := A_z.keep Kc (ninS ne_z_u nin0)
  have A_u := A_u'
  have K := K.trans Kc (allS (Or.inl (List.mem_of_getElem? (i := 0) rfl)) all0)
  show Goes p e below s _ n0 _ (T.setTop (mkF m 11 #[.val (.ref a1), .val (.int (Int32.ofNat n2)), .val (.int (Int32.ofNat n3)), .val (.int (Int32.ofNat (R n2))), .unset, .unset] [(.int (Int32.ofNat (R n3)))]))
  refine g_istore X d4_11 rfl (q := 13) (L' := #[.val (.ref a1), .val (.int (Int32.ofNat n2)), .val (.int (Int32.ofNat n3)), .val (.int (Int32.ofNat (R n2))), .val (.int (Int32.ofNat (R n3))), .unset]) rfl ?_
  refine g_iloadN X d4_13 rfl (q := 14) rfl ?_
  refine g_iload X d4_14 rfl (q := 16) rfl ?_
  refine g_icmpB X d4_16 (Or.inr (Or.inr rfl)) (q := 19) rfl (by decide) (t := 21) rfl (fun (c1 : (Int32.ofNat (R n2)) = (Int32.ofNat (R n3))) => ?_) (fun (c1 : ¬ ((Int32.ofNat (R n2)) = (Int32.ofNat (R n3)))) => ?_)
  · skip
    refine g_iconst X d4_19 rfl (q := 20) (v := 0) rfl ?_
    exact g_retZ X d4_20 (by decide) (by decide) (by decide) ⟨U1_8, G, R, D, congrArg (fun z => some (Value.int z)) (bI_f (fun z => z (own_inj32 (hU n2 hn).2.1 (hU n3 hm).2.1 (by omega) c1))), K, A_u, A_z, hU1_8, JN.same (own_inj32 (hU n2 hn).2.1 (hU n3 hm).2.1 (by omega) c1)⟩
  · skip
    refine g_aloadN X d4_21 rfl (q := 22) rfl rfl ?_
    refine g_getF X (tw12 hw) Via.refl O_a1.2.2 d4_22 (q := 25) rfl (fun T X => ?_)
    refine g_iloadN X d4_25 rfl (q := 26) rfl ?_
    refine g_iaload X A_z (own_ixN (n := 4) (hU n2 hn).2.1 (by omega)) d4_26 (q := 27) rfl ?_
    refine g_eqI (y := (G (R n2))) (by rw [own_cl (Nat.lt_of_lt_of_le (hU n2 hn).2.1 (by omega))]) ?_
    refine g_aloadN X d4_27 rfl (q := 28) rfl rfl ?_
    refine g_getF X (tw12 hw) Via.refl O_a1.2.2 d4_28 (q := 31) rfl (fun T X => ?_)
    refine g_iload X d4_31 rfl (q := 33) rfl ?_
    refine g_iaload X A_z (own_ixN (n := 4) (hU n3 hm).2.1 (by omega)) d4_33 (q := 34) rfl ?_
    refine g_eqI (y := (G (R n3))) (by rw [own_cl (Nat.lt_of_lt_of_le (hU n3 hm).2.1 (by omega))]) ?_
    refine g_icmpB X d4_34 (Or.inl rfl) (q := 37) rfl (by decide) (t := 47) rfl (fun (c2 : (G (R n2)) < (G (R n3))) => ?_) (fun (c2 : ¬ ((G (R n2)) < (G (R n3)))) => ?_)
    · skip
      refine g_iloadN X d4_37 rfl (q := 38) rfl ?_
      refine g_istore X d4_38 rfl (q := 40) (L' := #[.val (.ref a1), .val (.int (Int32.ofNat n2)), .val (.int (Int32.ofNat n3)), .val (.int (Int32.ofNat (R n2))), .val (.int (Int32.ofNat (R n3))), .val (.int (Int32.ofNat (R n2)))]) rfl ?_
      refine g_iload X d4_40 rfl (q := 42) rfl ?_
      refine g_istoreN X d4_42 rfl (q := 43) (L' := #[.val (.ref a1), .val (.int (Int32.ofNat n2)), .val (.int (Int32.ofNat n3)), .val (.int (Int32.ofNat (R n3))), .val (.int (Int32.ofNat (R n3))), .val (.int (Int32.ofNat (R n2)))]) rfl ?_
      refine g_iload X d4_43 rfl (q := 45) rfl ?_
      refine g_istore X d4_45 rfl (q := 47) (L' := #[.val (.ref a1), .val (.int (Int32.ofNat n2)), .val (.int (Int32.ofNat n3)), .val (.int (Int32.ofNat (R n3))), .val (.int (Int32.ofNat (R n2))), .val (.int (Int32.ofNat (R n2)))]) rfl ?_
      refine g_aloadN X d4_47 rfl (q := 48) rfl rfl ?_
      refine g_getF X (tw10 hw) Via.refl O_a1.2.1 d4_48 (q := 51) rfl (fun T X => ?_)
      refine g_iload X d4_51 rfl (q := 53) rfl ?_
      refine g_iloadN X d4_53 rfl (q := 54) rfl ?_
      refine g_iastore X A_u (own_ixN (n := 4) (hU n2 hn).2.1 (by omega)) g_u d4_54 (q := 55) rfl (fun T h X W => ?_)
      have O_a1 := O_a1.other W ne_a1_u
      have A_z := A_z.other W ne_z_u
      have A_u : AI Z h u .int 4 (own_up (fun j => Int32.ofNat (U1_8 j)) (Int32.ofNat (R n2)).toNatClampNeg (Int32.ofNat (R n3))) := A_u.set W
      have K := K.wr W (Or.inl (List.mem_of_getElem? (i := 0) rfl))
      have A_u : AI Z h u .int 4 (fun j => Int32.ofNat (own_up U1_8 (R n2) (R n3) j)) := A_u.to (own_stN (Nat.lt_of_lt_of_le (hU n2 hn).2.1 (by omega)))
      refine g_aloadN X d4_55 rfl (q := 56) rfl rfl ?_
      refine g_getF X (tw12 hw) Via.refl O_a1.2.2 d4_56 (q := 59) rfl (fun T X => ?_)
      refine g_iloadN X d4_59 rfl (q := 60) rfl ?_
      refine g_dup2 X d4_60 rfl (q := 61) rfl rfl ?_
      refine g_iaload X A_z (own_ixN (n := 4) (hU n3 hm).2.1 (by omega)) d4_61 (q := 62) rfl ?_
      refine g_eqI (y := (G (R n3))) (by rw [own_cl (Nat.lt_of_lt_of_le (hU n3 hm).2.1 (by omega))]) ?_
      refine g_aloadN X d4_62 rfl (q := 63) rfl rfl ?_
      refine g_getF X (tw12 hw) Via.refl O_a1.2.2 d4_63 (q := 66) rfl (fun T X => ?_)
      refine g_iload X d4_66 rfl (q := 68) rfl ?_
      refine g_iaload X A_z (own_ixN (n := 4) (hU n2 hn).2.1 (by omega)) d4_68 (q := 69) rfl ?_
      refine g_eqI (y := (G (R n2))) (by rw [own_cl (Nat.lt_of_lt_of_le (hU n2 hn).2.1 (by omega))]) ?_
      refine g_iadd X d4_69 rfl (q := 70) ?_
      refine g_iastore X A_z (own_ixN (n := 4) (hU n3 hm).2.1 (by omega)) g_z d4_70 (q := 71) rfl (fun T h X W => ?_)
      have O_a1 := O_a1.other W ne_a1_z
      have A_u := A_u.other W ne_u_z
      have A_z : AI Z h z .int 4 (own_up G (Int32.ofNat (R n3)).toNatClampNeg ((G (R n3)) + (G (R n2)))) := A_z.set W
      have K := K.wr W (Or.inl (List.mem_of_getElem? (i := 1) rfl))
      refine g_iconst X d4_71 rfl (q := 72) (v := 1) rfl ?_
      exact g_retZ X d4_72 (by decide) (by decide) (by decide) ⟨_, _, _, _, congrArg (fun z => some (Value.int z)) (bI_t (fun z => c1 (by rw [z]))), K, A_u, A_z, (hU1_8.link (hU n3 hm).2.1 (hU n2 hn).2.1 (hU n3 hm).2.2.2.2.2 (hU n2 hn).2.2.2.2.2 (fun z => c1 (by rw [z]))), JN.link (Or.inr ⟨rfl, rfl⟩)⟩
    · skip
      refine g_aloadN X d4_47 rfl (q := 48) rfl rfl ?_
      refine g_getF X (tw10 hw) Via.refl O_a1.2.1 d4_48 (q := 51) rfl (fun T X => ?_)
      refine g_iload X d4_51 rfl (q := 53) rfl ?_
      refine g_iloadN X d4_53 rfl (q := 54) rfl ?_
      refine g_iastore X A_u (own_ixN (n := 4) (hU n3 hm).2.1 (by omega)) g_u d4_54 (q := 55) rfl (fun T h X W => ?_)
      have O_a1 := O_a1.other W ne_a1_u
      have A_z := A_z.other W ne_z_u
      have A_u : AI Z h u .int 4 (own_up (fun j => Int32.ofNat (U1_8 j)) (Int32.ofNat (R n3)).toNatClampNeg (Int32.ofNat (R n2))) := A_u.set W
      have K := K.wr W (Or.inl (List.mem_of_getElem? (i := 0) rfl))
      have A_u : AI Z h u .int 4 (fun j => Int32.ofNat (own_up U1_8 (R n3) (R n2) j)) := A_u.to (own_stN (Nat.lt_of_lt_of_le (hU n3 hm).2.1 (by omega)))
      refine g_aloadN X d4_55 rfl (q := 56) rfl rfl ?_
      refine g_getF X (tw12 hw) Via.refl O_a1.2.2 d4_56 (q := 59) rfl (fun T X => ?_)
      refine g_iloadN X d4_59 rfl (q := 60) rfl ?_
      refine g_dup2 X d4_60 rfl (q := 61) rfl rfl ?_
      refine g_iaload X A_z (own_ixN (n := 4) (hU n2 hn).2.1 (by omega)) d4_61 (q := 62) rfl ?_
      refine g_eqI (y := (G (R n2))) (by rw [own_cl (Nat.lt_of_lt_of_le (hU n2 hn).2.1 (by omega))]) ?_
      refine g_aloadN X d4_62 rfl (q := 63) rfl rfl ?_
      refine g_getF X (tw12 hw) Via.refl O_a1.2.2 d4_63 (q := 66) rfl (fun T X => ?_)
      refine g_iload X d4_66 rfl (q := 68) rfl ?_
      refine g_iaload X A_z (own_ixN (n := 4) (hU n3 hm).2.1 (by omega)) d4_68 (q := 69) rfl ?_
      refine g_eqI (y := (G (R n3))) (by rw [own_cl (Nat.lt_of_lt_of_le (hU n3 hm).2.1 (by omega))]) ?_
      refine g_iadd X d4_69 rfl (q := 70) ?_
      refine g_iastore X A_z (own_ixN (n := 4) (hU n2 hn).2.1 (by omega)) g_z d4_70 (q := 71) rfl (fun T h X W => ?_)
      have O_a1 := O_a1.other W ne_a1_z
      have A_u := A_u.other W ne_u_z
      have A_z : AI Z h z .int 4 (own_up G (Int32.ofNat (R n2)).toNatClampNeg ((G (R n2)) + (G (R n3)))) := A_z.set W
      have K := K.wr W (Or.inl (List.mem_of_getElem? (i := 1) rfl))
      refine g_iconst X d4_71 rfl (q := 72) (v := 1) rfl ?_
      exact g_retZ X d4_72 (by decide) (by decide) (by decide) ⟨_, _, _, _, congrArg (fun z => some (Value.int z)) (bI_t (fun z => c1 (by rw [z]))), K, A_u, A_z, (hU1_8.link (hU n2 hn).2.1 (hU n3 hm).2.1 (hU n2 hn).2.2.2.2.2 (hU n3 hm).2.2.2.2.2 (fun z => c1 (by rw [z]))), JN.link (Or.inl ⟨rfl, rfl⟩)⟩
theorem pn3 : plainName "arborlight/ComponentsRootPinLaw" = true := by first | (simp [plainName, overriddenIn]; done) | decide +kernel
theorem ef3 (m : MethodId) (x0 : Addr) (x1 : Addr) (x2 : Int32) : entryFrame m #[(.ref x0), (.ref x1), (.int x2)] 9 = mkF m 0 #[.val (.ref x0), .val (.ref x1), .val (.int x2), .unset, .unset, .unset, .unset, .unset, .unset] [] := by first | (simp [entryFrame, mkF, argsToLocals, Value.category]; done) | rfl
set_option maxRecDepth 65536 in
set_option maxHeartbeats 40000000 in
theorem rm3 (l : Launch) (Z : State) (a0 : Array Value) (hw : ∀ d ∈ tables_1, d.before a0 Z = true) (ws : List Jvm.Cond) (a1 : Addr) (a2 : Addr) (p3 : Int32) (u : Addr) (z : Addr) (U : Nat → Nat) (G : Nat → Int32) (R : Nat → Nat) (D : Nat → Nat) (B : Nat → Nat) (h0 : Heap) (n0 : Nat) (Z0 : n0 ≤ h0.size) (O_a1 : O_Components Z h0 a1 (.ref u) (.ref z)) (A_u : AI Z h0 u .int 4 (fun j => Int32.ofNat (U j))) (A_z : AI Z h0 z .int 4 G) (A_a2 : AI Z h0 a2 .int 4 (fun j => Int32.ofNat (B j))) (g_u : n0 ≤ u) (g_z : n0 ≤ z) (g_a2 : n0 ≤ a2) (ne_a1_u : Apart a1 u) (ne_a1_z : Apart a1 z) (ne_a1_a2 : Apart a1 a2) (ne_u_a1 : Apart u a1) (ne_u_z : Apart u z) (ne_u_a2 : Apart u a2) (ne_z_a1 : Apart z a1) (ne_z_u : Apart z u) (ne_z_a2 : Apart z a2) (ne_a2_a1 : Apart a2 a1) (ne_a2_u : Apart a2 u) (ne_a2_z : Apart a2 z) (hU : UF 4 U R D) (hL : LB 4 B R) (hB : ∀ v, v < 4 → B v < 4) :
    Met l Z (⟨"arborlight/ComponentsRootPinLaw", "step", "(Larborlight/Components;[II)Z"⟩ : MethodName) method_3_code 9 (some .boolean) ({ frames := 2, cells := 0, slots := 0, locals := 30 } : Room) ws n0 #[(.ref a1), (.ref a2), (.int p3)] h0 (fun v h' => ∃ U1 : Nat → Nat, ∃ G1 : Nat → Int32, ∃ R1 : Nat → Nat, ∃ D1 : Nat → Nat, ∃ B1 : Nat → Nat, v = some (.int (1 : Int32)) ∧ Keep h0 h' [u, z, a2] ∧ AI Z h' u .int 4 (fun j => Int32.ofNat (U1 j)) ∧ AI Z h' z .int 4 G1 ∧ AI Z h' a2 .int 4 (fun j => Int32.ofNat (B1 j)) ∧ UF 4 U1 R1 D1 ∧ LB 4 B1 R1 ∧ ∀ v, v < 4 → B1 v < 4) := by
  refine Met.intro (plainFor_of_name pn3) Z0 ?_
  intro p e s m below meth c T X
  refine g_cast (ef3 m a1 a2 p3) ?_
  have K : Keep h0 h0 [u, z, a2] := Keep.refl h0 _
  refine g_iloadN X d3_0 rfl (q := 1) rfl ?_
  refine g_iconst X d3_1 rfl (q := 2) (v := 3) rfl ?_
  refine g_iand X d3_2 rfl (q := 3) ?_
  refine g_letI (fun x0 hx0 => ?_)
  obtain ⟨A3, hA3, rfl⟩ : ∃ A : Nat, A < 4 ∧ x0 = Int32.ofNat A := own_ex (by rw [hx0]; exact own_m3 _)
  refine g_istoreN X d3_3 rfl (q := 4) (L' := #[.val (.ref a1), .val (.ref a2), .val (.int p3), .val (.int (Int32.ofNat A3)), .unset, .unset, .unset, .unset, .unset]) rfl ?_
  refine g_iloadN X d3_4 rfl (q := 5) rfl ?_
  refine g_iconst X d3_5 rfl (q := 6) (v := 2) rfl ?_
  refine g_iushr X d3_6 rfl (q := 7) ?_
  refine g_iconst X d3_7 rfl (q := 8) (v := 3) rfl ?_
  refine g_iand X d3_8 rfl (q := 9) ?_
  refine g_letI (fun x0 hx0 => ?_)
  obtain ⟨A4, hA4, rfl⟩ : ∃ A : Nat, A < 4 ∧ x0 = Int32.ofNat A := own_ex (by rw [hx0]; exact own_m3 _)
  refine g_istore X d3_9 rfl (q := 11) (L' := #[.val (.ref a1), .val (.ref a2), .val (.int p3), .val (.int (Int32.ofNat A3)), .val (.int (Int32.ofNat A4)), .unset, .unset, .unset, .unset]) rfl ?_
  refine g_aloadN X d3_11 rfl (q := 12) rfl rfl ?_
  refine g_iloadN X d3_12 rfl (q := 13) rfl ?_
  refine g_iaload X A_a2 (own_ixN (n := 4) hA3 (by omega)) d3_13 (q := 14) rfl ?_
  refine g_eqI (y := (Int32.ofNat (B A3))) (own_at B (by omega)) ?_
  refine g_aloadN X d3_14 rfl (q := 15) rfl rfl ?_
  refine g_iload X d3_15 rfl (q := 17) rfl ?_
  refine g_iaload X A_a2 (own_ixN (n := 4) hA4 (by omega)) d3_17 (q := 18) rfl ?_
  refine g_eqI (y := (Int32.ofNat (B A4))) (own_at B (by omega)) ?_
  refine g_jT1 X (J := 26) (P := fun (s0_26 : Int32) => s0_26 = (bI (¬ ((Int32.ofNat (B A3)) = (Int32.ofNat (B A4)))))) (L := fun s0_26 => #[.val (.ref a1), .val (.ref a2), .val (.int p3), .val (.int (Int32.ofNat A3)), .val (.int (Int32.ofNat A4)), .unset, .unset, .unset, .unset]) (S := fun s0_26 => [(.int s0_26)]) ?_ ?_
  · intro T X s0_26 hs0_26
    replace hs0_26 : s0_26 = (bI (¬ ((Int32.ofNat (B A3)) = (Int32.ofNat (B A4))))) := hs0_26
    subst hs0_26
    show Goes p e below s _ n0 _ (T.setTop (mkF m 26 #[.val (.ref a1), .val (.ref a2), .val (.int p3), .val (.int (Int32.ofNat A3)), .val (.int (Int32.ofNat A4)), .unset, .unset, .unset, .unset] [(.int (bI (¬ ((Int32.ofNat (B A3)) = (Int32.ofNat (B A4))))))]))
    refine g_istore X d3_26 rfl (q := 28) (L' := #[.val (.ref a1), .val (.ref a2), .val (.int p3), .val (.int (Int32.ofNat A3)), .val (.int (Int32.ofNat A4)), .val (.int (bI (¬ ((Int32.ofNat (B A3)) = (Int32.ofNat (B A4)))))), .unset, .unset, .unset]) rfl ?_
    refine g_aloadN X d3_28 rfl (q := 29) rfl rfl ?_
    refine g_iloadN X d3_29 rfl (q := 30) rfl ?_
    refine g_iload X d3_30 rfl (q := 32) rfl ?_
    refine g_callV X O_a1.1 [(.int (Int32.ofNat A3)), (.int (Int32.ofNat A4))] [] (tw18 hw) (tw19 hw) (tw21 hw) (tw20 hw) (tw3 hw) (tw22 hw) (by decide) (rm4 l Z a0 hw [] a1 (Int32.ofNat A3) (Int32.ofNat A4) u z U G R D A3 A4 _ n0 X.size O_a1 A_u A_z g_u g_z ne_a1_u ne_u_a1 ne_a1_z ne_z_a1 ne_u_z ne_z_u rfl rfl hA3 hA4 hU) pd1 rfl rfl rfl d3_32 (q := 35) rfl (W := 0) rfl (by decide) (by decide) (c2 := 0) (s2 := 0) rfl rfl (by decide) (by decide) (fun v T h' X hQ => ?_)
    obtain ⟨U1_32, G1_32, R1_32, D1_32, rfl, Kc, A_u', A_z', hU1_32, hJ_32⟩ := hQ
    have O_a1 := O_a1.keep Kc (ninS ne_a1_u (ninS ne_a1_z nin0))
    have A_a2 := A_a2.keep Kc (ninS ne_a2_u (ninS ne_a2_z nin0))
    have A_u := A_u'
    have A_z := A_z'
    have K := K.trans Kc (allS (Or.inl (List.mem_of_getElem? (i := 0) rfl)) (allS (Or.inl (List.mem_of_getElem? (i := 1) rfl)) all0))
    show Goes p e below s _ n0 _ (T.setTop (mkF m 35 #[.val (.ref a1), .val (.ref a2), .val (.int p3), .val (.int (Int32.ofNat A3)), .val (.int (Int32.ofNat A4)), .val (.int (bI (¬ ((Int32.ofNat (B A3)) = (Int32.ofNat (B A4)))))), .unset, .unset, .unset] [(.int (bI (¬ (R A3 = R A4))))]))
    refine g_istore X d3_35 rfl (q := 37) (L' := #[.val (.ref a1), .val (.ref a2), .val (.int p3), .val (.int (Int32.ofNat A3)), .val (.int (Int32.ofNat A4)), .val (.int (bI (¬ ((Int32.ofNat (B A3)) = (Int32.ofNat (B A4)))))), .val (.int (bI (¬ (R A3 = R A4)))), .unset, .unset]) rfl ?_
    refine g_aloadN X d3_37 rfl (q := 38) rfl rfl ?_
    refine g_iload X d3_38 rfl (q := 40) rfl ?_
    refine g_iaload X A_a2 (own_ixN (n := 4) hA4 (by omega)) d3_40 (q := 41) rfl ?_
    refine g_eqI (y := (Int32.ofNat (B A4))) (own_at B (by omega)) ?_
    refine g_istore X d3_41 rfl (q := 43) (L' := #[.val (.ref a1), .val (.ref a2), .val (.int p3), .val (.int (Int32.ofNat A3)), .val (.int (Int32.ofNat A4)), .val (.int (bI (¬ ((Int32.ofNat (B A3)) = (Int32.ofNat (B A4)))))), .val (.int (bI (¬ (R A3 = R A4)))), .val (.int (Int32.ofNat (B A4))), .unset]) rfl ?_
    refine g_aloadN X d3_43 rfl (q := 44) rfl rfl ?_
    refine g_iloadN X d3_44 rfl (q := 45) rfl ?_
    refine g_iaload X A_a2 (own_ixN (n := 4) hA3 (by omega)) d3_45 (q := 46) rfl ?_
    refine g_eqI (y := (Int32.ofNat (B A3))) (own_at B (by omega)) ?_
    refine g_istore X d3_46 rfl (q := 48) (L' := #[.val (.ref a1), .val (.ref a2), .val (.int p3), .val (.int (Int32.ofNat A3)), .val (.int (Int32.ofNat A4)), .val (.int (bI (¬ ((Int32.ofNat (B A3)) = (Int32.ofNat (B A4)))))), .val (.int (bI (¬ (R A3 = R A4)))), .val (.int (Int32.ofNat (B A4))), .val (.int (Int32.ofNat (B A3)))]) rfl ?_
    refine g_aloadN X d3_48 rfl (q := 49) rfl rfl ?_
    refine g_iconst X d3_49 rfl (q := 50) (v := 0) rfl ?_
    refine g_iaload X A_a2 ⟨by decide, by decide⟩ d3_50 (q := 51) rfl ?_
    refine g_eqI (y := (Int32.ofNat (B 0))) rfl ?_
    refine g_iload X d3_51 rfl (q := 53) rfl ?_
    refine g_icmpB X d3_53 (Or.inr (Or.inr rfl)) (q := 56) rfl (by decide) (t := 61) rfl (fun (c1 : (Int32.ofNat (B 0)) = (Int32.ofNat (B A4))) => ?_) (fun (c1 : ¬ ((Int32.ofNat (B 0)) = (Int32.ofNat (B A4)))) => ?_)
    · skip
      refine g_aloadN X d3_56 rfl (q := 57) rfl rfl ?_
      refine g_iconst X d3_57 rfl (q := 58) (v := 0) rfl ?_
      refine g_iload X d3_58 rfl (q := 60) rfl ?_
      refine g_iastore X A_a2 ⟨by decide, by decide⟩ g_a2 d3_60 (q := 61) rfl (fun T h X W => ?_)
      have O_a1 := O_a1.other W ne_a1_a2
      have A_u := A_u.other W ne_u_a2
      have A_z := A_z.other W ne_z_a2
      have A_a2 : AI Z h a2 .int 4 (own_up (fun j => Int32.ofNat (B j)) 0 (Int32.ofNat (B A3))) := A_a2.set W
      have K := K.wr W (Or.inl (List.mem_of_getElem? (i := 2) rfl))
      refine g_aloadN X d3_61 rfl (q := 62) rfl rfl ?_
      refine g_iconst X d3_62 rfl (q := 63) (v := 1) rfl ?_
      refine g_iaload X A_a2 ⟨by decide, by decide⟩ d3_63 (q := 64) rfl ?_
      refine g_eqI (y := (Int32.ofNat (B 1))) rfl ?_
      refine g_iload X d3_64 rfl (q := 66) rfl ?_
      refine g_icmpB X d3_66 (Or.inr (Or.inr rfl)) (q := 69) rfl (by decide) (t := 74) rfl (fun (c2 : (Int32.ofNat (B 1)) = (Int32.ofNat (B A4))) => ?_) (fun (c2 : ¬ ((Int32.ofNat (B 1)) = (Int32.ofNat (B A4)))) => ?_)
      · skip
        refine g_aloadN X d3_69 rfl (q := 70) rfl rfl ?_
        refine g_iconst X d3_70 rfl (q := 71) (v := 1) rfl ?_
        refine g_iload X d3_71 rfl (q := 73) rfl ?_
        refine g_iastore X A_a2 ⟨by decide, by decide⟩ g_a2 d3_73 (q := 74) rfl (fun T h X W => ?_)
        have O_a1 := O_a1.other W ne_a1_a2
        have A_u := A_u.other W ne_u_a2
        have A_z := A_z.other W ne_z_a2
        have A_a2 : AI Z h a2 .int 4 (own_up (own_up (fun j => Int32.ofNat (B j)) 0 (Int32.ofNat (B A3))) 1 (Int32.ofNat (B A3))) := A_a2.set W
        have K := K.wr W (Or.inl (List.mem_of_getElem? (i := 2) rfl))
        refine g_aloadN X d3_74 rfl (q := 75) rfl rfl ?_
        refine g_iconst X d3_75 rfl (q := 76) (v := 2) rfl ?_
        refine g_iaload X A_a2 ⟨by decide, by decide⟩ d3_76 (q := 77) rfl ?_
        refine g_eqI (y := (Int32.ofNat (B 2))) rfl ?_
        refine g_iload X d3_77 rfl (q := 79) rfl ?_
        refine g_icmpB X d3_79 (Or.inr (Or.inr rfl)) (q := 82) rfl (by decide) (t := 87) rfl (fun (c3 : (Int32.ofNat (B 2)) = (Int32.ofNat (B A4))) => ?_) (fun (c3 : ¬ ((Int32.ofNat (B 2)) = (Int32.ofNat (B A4)))) => ?_)
        · skip
          refine g_aloadN X d3_82 rfl (q := 83) rfl rfl ?_
          refine g_iconst X d3_83 rfl (q := 84) (v := 2) rfl ?_
          refine g_iload X d3_84 rfl (q := 86) rfl ?_
          refine g_iastore X A_a2 ⟨by decide, by decide⟩ g_a2 d3_86 (q := 87) rfl (fun T h X W => ?_)
          have O_a1 := O_a1.other W ne_a1_a2
          have A_u := A_u.other W ne_u_a2
          have A_z := A_z.other W ne_z_a2
          have A_a2 : AI Z h a2 .int 4 (own_up (own_up (own_up (fun j => Int32.ofNat (B j)) 0 (Int32.ofNat (B A3))) 1 (Int32.ofNat (B A3))) 2 (Int32.ofNat (B A3))) := A_a2.set W
          have K := K.wr W (Or.inl (List.mem_of_getElem? (i := 2) rfl))
          refine g_aloadN X d3_87 rfl (q := 88) rfl rfl ?_
          refine g_iconst X d3_88 rfl (q := 89) (v := 3) rfl ?_
          refine g_iaload X A_a2 ⟨by decide, by decide⟩ d3_89 (q := 90) rfl ?_
          refine g_eqI (y := (Int32.ofNat (B 3))) rfl ?_
          refine g_iload X d3_90 rfl (q := 92) rfl ?_
          refine g_icmpB X d3_92 (Or.inr (Or.inr rfl)) (q := 95) rfl (by decide) (t := 100) rfl (fun (c4 : (Int32.ofNat (B 3)) = (Int32.ofNat (B A4))) => ?_) (fun (c4 : ¬ ((Int32.ofNat (B 3)) = (Int32.ofNat (B A4)))) => ?_)
          · skip
            refine g_aloadN X d3_95 rfl (q := 96) rfl rfl ?_
            refine g_iconst X d3_96 rfl (q := 97) (v := 3) rfl ?_
            refine g_iload X d3_97 rfl (q := 99) rfl ?_
            refine g_iastore X A_a2 ⟨by decide, by decide⟩ g_a2 d3_99 (q := 100) rfl (fun T h X W => ?_)
            have O_a1 := O_a1.other W ne_a1_a2
            have A_u := A_u.other W ne_u_a2
            have A_z := A_z.other W ne_z_a2
            have A_a2 : AI Z h a2 .int 4 (own_up (own_up (own_up (own_up (fun j => Int32.ofNat (B j)) 0 (Int32.ofNat (B A3))) 1 (Int32.ofNat (B A3))) 2 (Int32.ofNat (B A3))) 3 (Int32.ofNat (B A3))) := A_a2.set W
            have K := K.wr W (Or.inl (List.mem_of_getElem? (i := 2) rfl))
            refine g_iload X d3_100 rfl (q := 102) rfl ?_
            refine g_iload X d3_102 rfl (q := 104) rfl ?_
            refine g_jT1 X (J := 112) (P := fun (s0_112 : Int32) => s0_112 = (bI ((¬ (R A3 = R A4)) ↔ (¬ ((Int32.ofNat (B A3)) = (Int32.ofNat (B A4))))))) (L := fun s0_112 => #[.val (.ref a1), .val (.ref a2), .val (.int p3), .val (.int (Int32.ofNat A3)), .val (.int (Int32.ofNat A4)), .val (.int (bI (¬ ((Int32.ofNat (B A3)) = (Int32.ofNat (B A4)))))), .val (.int (bI (¬ (R A3 = R A4)))), .val (.int (Int32.ofNat (B A4))), .val (.int (Int32.ofNat (B A3)))]) (S := fun s0_112 => [(.int s0_112)]) ?_ ?_
            · intro T X s0_112 hs0_112
              replace hs0_112 : s0_112 = (bI ((¬ (R A3 = R A4)) ↔ (¬ ((Int32.ofNat (B A3)) = (Int32.ofNat (B A4)))))) := hs0_112
              subst hs0_112
              show Goes p e below s _ n0 _ (T.setTop (mkF m 112 #[.val (.ref a1), .val (.ref a2), .val (.int p3), .val (.int (Int32.ofNat A3)), .val (.int (Int32.ofNat A4)), .val (.int (bI (¬ ((Int32.ofNat (B A3)) = (Int32.ofNat (B A4)))))), .val (.int (bI (¬ (R A3 = R A4)))), .val (.int (Int32.ofNat (B A4))), .val (.int (Int32.ofNat (B A3)))] [(.int (bI ((¬ (R A3 = R A4)) ↔ (¬ ((Int32.ofNat (B A3)) = (Int32.ofNat (B A4)))))))]))
              exact g_retZ X d3_112 (by decide) (by decide) (bI_01 _) ⟨U1_32, G1_32, R1_32, D1_32, (fun v => if B v = B A4 then B A3 else B v), congrArg (fun z => some (Value.int z)) (bI_t (own_same (hB A3 hA3) (hB A4 hA4) (by omega) (hL A3 A4 hA3 hA4))).symm, K, A_u, A_z, (A_a2.to (g := (fun j => if (fun j => Int32.ofNat (B j)) j = Int32.ofNat (B A4) then Int32.ofNat (B A3) else (fun j => Int32.ofNat (B j)) j)) (by intro j hj; rcases (show j = 0 ∨ j = 1 ∨ j = 2 ∨ j = 3 by omega) with rfl | rfl | rfl | rfl <;> simp [own_up, c1, c2, c3, c4])).to (own_rel hA3 hA4 (by omega) hB), hU1_32, LB.merge (lb := B) (R := R) hL hJ_32 hA3 hA4, own_relB hA3 hB⟩
            · intro J112_4
              refine g_icmpB X d3_104 (Or.inr (Or.inr rfl)) (q := 107) rfl (by decide) (t := 111) rfl (fun c5 => ?_) (fun c5 => ?_)
              · replace c5 : (¬ (R A3 = R A4)) ↔ (¬ ((Int32.ofNat (B A3)) = (Int32.ofNat (B A4)))) := (bI_inj _ _).mp c5
                refine g_iconst X d3_107 rfl (q := 108) (v := 1) rfl ?_
                refine g_goto X d3_108 (by decide) (q := 112) rfl ?_
                exact J112_4 T X _ (bI_t c5)
              · replace c5 : ¬ ((¬ (R A3 = R A4)) ↔ (¬ ((Int32.ofNat (B A3)) = (Int32.ofNat (B A4))))) := fun z => c5 ((bI_inj _ _).mpr z)
                refine g_iconst X d3_111 rfl (q := 112) (v := 0) rfl ?_
                exact J112_4 T X _ (bI_f c5)
          · skip
            refine g_iload X d3_100 rfl (q := 102) rfl ?_
            refine g_iload X d3_102 rfl (q := 104) rfl ?_
            refine g_jT1 X (J := 112) (P := fun (s0_112 : Int32) => s0_112 = (bI ((¬ (R A3 = R A4)) ↔ (¬ ((Int32.ofNat (B A3)) = (Int32.ofNat (B A4))))))) (L := fun s0_112 => #[.val (.ref a1), .val (.ref a2), .val (.int p3), .val (.int (Int32.ofNat A3)), .val (.int (Int32.ofNat A4)), .val (.int (bI (¬ ((Int32.ofNat (B A3)) = (Int32.ofNat (B A4)))))), .val (.int (bI (¬ (R A3 = R A4)))), .val (.int (Int32.ofNat (B A4))), .val (.int (Int32.ofNat (B A3)))]) (S := fun s0_112 => [(.int s0_112)]) ?_ ?_
            · intro T X s0_112 hs0_112
              replace hs0_112 : s0_112 = (bI ((¬ (R A3 = R A4)) ↔ (¬ ((Int32.ofNat (B A3)) = (Int32.ofNat (B A4)))))) := hs0_112
              subst hs0_112
              show Goes p e below s _ n0 _ (T.setTop (mkF m 112 #[.val (.ref a1), .val (.ref a2), .val (.int p3), .val (.int (Int32.ofNat A3)), .val (.int (Int32.ofNat A4)), .val (.int (bI (¬ ((Int32.ofNat (B A3)) = (Int32.ofNat (B A4)))))), .val (.int (bI (¬ (R A3 = R A4)))), .val (.int (Int32.ofNat (B A4))), .val (.int (Int32.ofNat (B A3)))] [(.int (bI ((¬ (R A3 = R A4)) ↔ (¬ ((Int32.ofNat (B A3)) = (Int32.ofNat (B A4)))))))]))
              exact g_retZ X d3_112 (by decide) (by decide) (bI_01 _) ⟨U1_32, G1_32, R1_32, D1_32, (fun v => if B v = B A4 then B A3 else B v), congrArg (fun z => some (Value.int z)) (bI_t (own_same (hB A3 hA3) (hB A4 hA4) (by omega) (hL A3 A4 hA3 hA4))).symm, K, A_u, A_z, (A_a2.to (g := (fun j => if (fun j => Int32.ofNat (B j)) j = Int32.ofNat (B A4) then Int32.ofNat (B A3) else (fun j => Int32.ofNat (B j)) j)) (by intro j hj; rcases (show j = 0 ∨ j = 1 ∨ j = 2 ∨ j = 3 by omega) with rfl | rfl | rfl | rfl <;> simp [own_up, c1, c2, c3, c4])).to (own_rel hA3 hA4 (by omega) hB), hU1_32, LB.merge (lb := B) (R := R) hL hJ_32 hA3 hA4, own_relB hA3 hB⟩
            · intro J112_5
              refine g_icmpB X d3_104 (Or.inr (Or.inr rfl)) (q := 107) rfl (by decide) (t := 111) rfl (fun c6 => ?_) (fun c6 => ?_)
              · replace c6 : (¬ (R A3 = R A4)) ↔ (¬ ((Int32.ofNat (B A3)) = (Int32.ofNat (B A4)))) := (bI_inj _ _).mp c6
                refine g_iconst X d3_107 rfl (q := 108) (v := 1) rfl ?_
                refine g_goto X d3_108 (by decide) (q := 112) rfl ?_
                exact J112_5 T X _ (bI_t c6)
              · replace c6 : ¬ ((¬ (R A3 = R A4)) ↔ (¬ ((Int32.ofNat (B A3)) = (Int32.ofNat (B A4))))) := fun z => c6 ((bI_inj _ _).mpr z)
                refine g_iconst X d3_111 rfl (q := 112) (v := 0) rfl ?_
                exact J112_5 T X _ (bI_f c6)
        · skip
          refine g_aloadN X d3_87 rfl (q := 88) rfl rfl ?_
          refine g_iconst X d3_88 rfl (q := 89) (v := 3) rfl ?_
          refine g_iaload X A_a2 ⟨by decide, by decide⟩ d3_89 (q := 90) rfl ?_
          refine g_eqI (y := (Int32.ofNat (B 3))) rfl ?_
          refine g_iload X d3_90 rfl (q := 92) rfl ?_
          refine g_icmpB X d3_92 (Or.inr (Or.inr rfl)) (q := 95) rfl (by decide) (t := 100) rfl (fun (c7 : (Int32.ofNat (B 3)) = (Int32.ofNat (B A4))) => ?_) (fun (c7 : ¬ ((Int32.ofNat (B 3)) = (Int32.ofNat (B A4)))) => ?_)
          · skip
            refine g_aloadN X d3_95 rfl (q := 96) rfl rfl ?_
            refine g_iconst X d3_96 rfl (q := 97) (v := 3) rfl ?_
            refine g_iload X d3_97 rfl (q := 99) rfl ?_
            refine g_iastore X A_a2 ⟨by decide, by decide⟩ g_a2 d3_99 (q := 100) rfl (fun T h X W => ?_)
            have O_a1 := O_a1.other W ne_a1_a2
            have A_u := A_u.other W ne_u_a2
            have A_z := A_z.other W ne_z_a2
            have A_a2 : AI Z h a2 .int 4 (own_up (own_up (own_up (fun j => Int32.ofNat (B j)) 0 (Int32.ofNat (B A3))) 1 (Int32.ofNat (B A3))) 3 (Int32.ofNat (B A3))) := A_a2.set W
            have K := K.wr W (Or.inl (List.mem_of_getElem? (i := 2) rfl))
            refine g_iload X d3_100 rfl (q := 102) rfl ?_
            refine g_iload X d3_102 rfl (q := 104) rfl ?_
            refine g_jT1 X (J := 112) (P := fun (s0_112 : Int32) => s0_112 = (bI ((¬ (R A3 = R A4)) ↔ (¬ ((Int32.ofNat (B A3)) = (Int32.ofNat (B A4))))))) (L := fun s0_112 => #[.val (.ref a1), .val (.ref a2), .val (.int p3), .val (.int (Int32.ofNat A3)), .val (.int (Int32.ofNat A4)), .val (.int (bI (¬ ((Int32.ofNat (B A3)) = (Int32.ofNat (B A4)))))), .val (.int (bI (¬ (R A3 = R A4)))), .val (.int (Int32.ofNat (B A4))), .val (.int (Int32.ofNat (B A3)))]) (S := fun s0_112 => [(.int s0_112)]) ?_ ?_
            · intro T X s0_112 hs0_112
              replace hs0_112 : s0_112 = (bI ((¬ (R A3 = R A4)) ↔ (¬ ((Int32.ofNat (B A3)) = (Int32.ofNat (B A4)))))) := hs0_112
              subst hs0_112
              show Goes p e below s _ n0 _ (T.setTop (mkF m 112 #[.val (.ref a1), .val (.ref a2), .val (.int p3), .val (.int (Int32.ofNat A3)), .val (.int (Int32.ofNat A4)), .val (.int (bI (¬ ((Int32.ofNat (B A3)) = (Int32.ofNat (B A4)))))), .val (.int (bI (¬ (R A3 = R A4)))), .val (.int (Int32.ofNat (B A4))), .val (.int (Int32.ofNat (B A3)))] [(.int (bI ((¬ (R A3 = R A4)) ↔ (¬ ((Int32.ofNat (B A3)) = (Int32.ofNat (B A4)))))))]))
              exact g_retZ X d3_112 (by decide) (by decide) (bI_01 _) ⟨U1_32, G1_32, R1_32, D1_32, (fun v => if B v = B A4 then B A3 else B v), congrArg (fun z => some (Value.int z)) (bI_t (own_same (hB A3 hA3) (hB A4 hA4) (by omega) (hL A3 A4 hA3 hA4))).symm, K, A_u, A_z, (A_a2.to (g := (fun j => if (fun j => Int32.ofNat (B j)) j = Int32.ofNat (B A4) then Int32.ofNat (B A3) else (fun j => Int32.ofNat (B j)) j)) (by intro j hj; rcases (show j = 0 ∨ j = 1 ∨ j = 2 ∨ j = 3 by omega) with rfl | rfl | rfl | rfl <;> simp [own_up, c1, c2, c3, c7])).to (own_rel hA3 hA4 (by omega) hB), hU1_32, LB.merge (lb := B) (R := R) hL hJ_32 hA3 hA4, own_relB hA3 hB⟩
            · intro J112_7
              refine g_icmpB X d3_104 (Or.inr (Or.inr rfl)) (q := 107) rfl (by decide) (t := 111) rfl (fun c8 => ?_) (fun c8 => ?_)
              · replace c8 : (¬ (R A3 = R A4)) ↔ (¬ ((Int32.ofNat (B A3)) = (Int32.ofNat (B A4)))) := (bI_inj _ _).mp c8
                refine g_iconst X d3_107 rfl (q := 108) (v := 1) rfl ?_
                refine g_goto X d3_108 (by decide) (q := 112) rfl ?_
                exact J112_7 T X _ (bI_t c8)
              · replace c8 : ¬ ((¬ (R A3 = R A4)) ↔ (¬ ((Int32.ofNat (B A3)) = (Int32.ofNat (B A4))))) := fun z => c8 ((bI_inj _ _).mpr z)
                refine g_iconst X d3_111 rfl (q := 112) (v := 0) rfl ?_
                exact J112_7 T X _ (bI_f c8)
          · skip
            refine g_iload X d3_100 rfl (q := 102) rfl ?_
            refine g_iload X d3_102 rfl (q := 104) rfl ?_
            refine g_jT1 X (J := 112) (P := fun (s0_112 : Int32) => s0_112 = (bI ((¬ (R A3 = R A4)) ↔ (¬ ((Int32.ofNat (B A3)) = (Int32.ofNat (B A4))))))) (L := fun s0_112 => #[.val (.ref a1), .val (.ref a2), .val (.int p3), .val (.int (Int32.ofNat A3)), .val (.int (Int32.ofNat A4)), .val (.int (bI (¬ ((Int32.ofNat (B A3)) = (Int32.ofNat (B A4)))))), .val (.int (bI (¬ (R A3 = R A4)))), .val (.int (Int32.ofNat (B A4))), .val (.int (Int32.ofNat (B A3)))]) (S := fun s0_112 => [(.int s0_112)]) ?_ ?_
            · intro T X s0_112 hs0_112
              replace hs0_112 : s0_112 = (bI ((¬ (R A3 = R A4)) ↔ (¬ ((Int32.ofNat (B A3)) = (Int32.ofNat (B A4)))))) := hs0_112
              subst hs0_112
              show Goes p e below s _ n0 _ (T.setTop (mkF m 112 #[.val (.ref a1), .val (.ref a2), .val (.int p3), .val (.int (Int32.ofNat A3)), .val (.int (Int32.ofNat A4)), .val (.int (bI (¬ ((Int32.ofNat (B A3)) = (Int32.ofNat (B A4)))))), .val (.int (bI (¬ (R A3 = R A4)))), .val (.int (Int32.ofNat (B A4))), .val (.int (Int32.ofNat (B A3)))] [(.int (bI ((¬ (R A3 = R A4)) ↔ (¬ ((Int32.ofNat (B A3)) = (Int32.ofNat (B A4)))))))]))
              exact g_retZ X d3_112 (by decide) (by decide) (bI_01 _) ⟨U1_32, G1_32, R1_32, D1_32, (fun v => if B v = B A4 then B A3 else B v), congrArg (fun z => some (Value.int z)) (bI_t (own_same (hB A3 hA3) (hB A4 hA4) (by omega) (hL A3 A4 hA3 hA4))).symm, K, A_u, A_z, (A_a2.to (g := (fun j => if (fun j => Int32.ofNat (B j)) j = Int32.ofNat (B A4) then Int32.ofNat (B A3) else (fun j => Int32.ofNat (B j)) j)) (by intro j hj; rcases (show j = 0 ∨ j = 1 ∨ j = 2 ∨ j = 3 by omega) with rfl | rfl | rfl | rfl <;> simp [own_up, c1, c2, c3, c7])).to (own_rel hA3 hA4 (by omega) hB), hU1_32, LB.merge (lb := B) (R := R) hL hJ_32 hA3 hA4, own_relB hA3 hB⟩
            · intro J112_8
              refine g_icmpB X d3_104 (Or.inr (Or.inr rfl)) (q := 107) rfl (by decide) (t := 111) rfl (fun c9 => ?_) (fun c9 => ?_)
              · replace c9 : (¬ (R A3 = R A4)) ↔ (¬ ((Int32.ofNat (B A3)) = (Int32.ofNat (B A4)))) := (bI_inj _ _).mp c9
                refine g_iconst X d3_107 rfl (q := 108) (v := 1) rfl ?_
                refine g_goto X d3_108 (by decide) (q := 112) rfl ?_
                exact J112_8 T X _ (bI_t c9)
              · replace c9 : ¬ ((¬ (R A3 = R A4)) ↔ (¬ ((Int32.ofNat (B A3)) = (Int32.ofNat (B A4))))) := fun z => c9 ((bI_inj _ _).mpr z)
                refine g_iconst X d3_111 rfl (q := 112) (v := 0) rfl ?_
                exact J112_8 T X _ (bI_f c9)
      · skip
        refine g_aloadN X d3_74 rfl (q := 75) rfl rfl ?_
        refine g_iconst X d3_75 rfl (q := 76) (v := 2) rfl ?_
        refine g_iaload X A_a2 ⟨by decide, by decide⟩ d3_76 (q := 77) rfl ?_
        refine g_eqI (y := (Int32.ofNat (B 2))) rfl ?_
        refine g_iload X d3_77 rfl (q := 79) rfl ?_
        refine g_icmpB X d3_79 (Or.inr (Or.inr rfl)) (q := 82) rfl (by decide) (t := 87) rfl (fun (c10 : (Int32.ofNat (B 2)) = (Int32.ofNat (B A4))) => ?_) (fun (c10 : ¬ ((Int32.ofNat (B 2)) = (Int32.ofNat (B A4)))) => ?_)
        · skip
          refine g_aloadN X d3_82 rfl (q := 83) rfl rfl ?_
          refine g_iconst X d3_83 rfl (q := 84) (v := 2) rfl ?_
          refine g_iload X d3_84 rfl (q := 86) rfl ?_
          refine g_iastore X A_a2 ⟨by decide, by decide⟩ g_a2 d3_86 (q := 87) rfl (fun T h X W => ?_)
          have O_a1 := O_a1.other W ne_a1_a2
          have A_u := A_u.other W ne_u_a2
          have A_z := A_z.other W ne_z_a2
          have A_a2 : AI Z h a2 .int 4 (own_up (own_up (fun j => Int32.ofNat (B j)) 0 (Int32.ofNat (B A3))) 2 (Int32.ofNat (B A3))) := A_a2.set W
          have K := K.wr W (Or.inl (List.mem_of_getElem? (i := 2) rfl))
          refine g_aloadN X d3_87 rfl (q := 88) rfl rfl ?_
          refine g_iconst X d3_88 rfl (q := 89) (v := 3) rfl ?_
          refine g_iaload X A_a2 ⟨by decide, by decide⟩ d3_89 (q := 90) rfl ?_
          refine g_eqI (y := (Int32.ofNat (B 3))) rfl ?_
          refine g_iload X d3_90 rfl (q := 92) rfl ?_
          refine g_icmpB X d3_92 (Or.inr (Or.inr rfl)) (q := 95) rfl (by decide) (t := 100) rfl (fun (c11 : (Int32.ofNat (B 3)) = (Int32.ofNat (B A4))) => ?_) (fun (c11 : ¬ ((Int32.ofNat (B 3)) = (Int32.ofNat (B A4)))) => ?_)
          · skip
            refine g_aloadN X d3_95 rfl (q := 96) rfl rfl ?_
            refine g_iconst X d3_96 rfl (q := 97) (v := 3) rfl ?_
            refine g_iload X d3_97 rfl (q := 99) rfl ?_
            refine g_iastore X A_a2 ⟨by decide, by decide⟩ g_a2 d3_99 (q := 100) rfl (fun T h X W => ?_)
            have O_a1 := O_a1.other W ne_a1_a2
            have A_u := A_u.other W ne_u_a2
            have A_z := A_z.other W ne_z_a2
            have A_a2 : AI Z h a2 .int 4 (own_up (own_up (own_up (fun j => Int32.ofNat (B j)) 0 (Int32.ofNat (B A3))) 2 (Int32.ofNat (B A3))) 3 (Int32.ofNat (B A3))) := A_a2.set W
            have K := K.wr W (Or.inl (List.mem_of_getElem? (i := 2) rfl))
            refine g_iload X d3_100 rfl (q := 102) rfl ?_
            refine g_iload X d3_102 rfl (q := 104) rfl ?_
            refine g_jT1 X (J := 112) (P := fun (s0_112 : Int32) => s0_112 = (bI ((¬ (R A3 = R A4)) ↔ (¬ ((Int32.ofNat (B A3)) = (Int32.ofNat (B A4))))))) (L := fun s0_112 => #[.val (.ref a1), .val (.ref a2), .val (.int p3), .val (.int (Int32.ofNat A3)), .val (.int (Int32.ofNat A4)), .val (.int (bI (¬ ((Int32.ofNat (B A3)) = (Int32.ofNat (B A4)))))), .val (.int (bI (¬ (R A3 = R A4)))), .val (.int (Int32.ofNat (B A4))), .val (.int (Int32.ofNat (B A3)))]) (S := fun s0_112 => [(.int s0_112)]) ?_ ?_
            · intro T X s0_112 hs0_112
              replace hs0_112 : s0_112 = (bI ((¬ (R A3 = R A4)) ↔ (¬ ((Int32.ofNat (B A3)) = (Int32.ofNat (B A4)))))) := hs0_112
              subst hs0_112
              show Goes p e below s _ n0 _ (T.setTop (mkF m 112 #[.val (.ref a1), .val (.ref a2), .val (.int p3), .val (.int (Int32.ofNat A3)), .val (.int (Int32.ofNat A4)), .val (.int (bI (¬ ((Int32.ofNat (B A3)) = (Int32.ofNat (B A4)))))), .val (.int (bI (¬ (R A3 = R A4)))), .val (.int (Int32.ofNat (B A4))), .val (.int (Int32.ofNat (B A3)))] [(.int (bI ((¬ (R A3 = R A4)) ↔ (¬ ((Int32.ofNat (B A3)) = (Int32.ofNat (B A4)))))))]))
              exact g_retZ X d3_112 (by decide) (by decide) (bI_01 _) ⟨U1_32, G1_32, R1_32, D1_32, (fun v => if B v = B A4 then B A3 else B v), congrArg (fun z => some (Value.int z)) (bI_t (own_same (hB A3 hA3) (hB A4 hA4) (by omega) (hL A3 A4 hA3 hA4))).symm, K, A_u, A_z, (A_a2.to (g := (fun j => if (fun j => Int32.ofNat (B j)) j = Int32.ofNat (B A4) then Int32.ofNat (B A3) else (fun j => Int32.ofNat (B j)) j)) (by intro j hj; rcases (show j = 0 ∨ j = 1 ∨ j = 2 ∨ j = 3 by omega) with rfl | rfl | rfl | rfl <;> simp [own_up, c1, c2, c10, c11])).to (own_rel hA3 hA4 (by omega) hB), hU1_32, LB.merge (lb := B) (R := R) hL hJ_32 hA3 hA4, own_relB hA3 hB⟩
            · intro J112_11
              refine g_icmpB X d3_104 (Or.inr (Or.inr rfl)) (q := 107) rfl (by decide) (t := 111) rfl (fun c12 => ?_) (fun c12 => ?_)
              · replace c12 : (¬ (R A3 = R A4)) ↔ (¬ ((Int32.ofNat (B A3)) = (Int32.ofNat (B A4)))) := (bI_inj _ _).mp c12
                refine g_iconst X d3_107 rfl (q := 108) (v := 1) rfl ?_
                refine g_goto X d3_108 (by decide) (q := 112) rfl ?_
                exact J112_11 T X _ (bI_t c12)
              · replace c12 : ¬ ((¬ (R A3 = R A4)) ↔ (¬ ((Int32.ofNat (B A3)) = (Int32.ofNat (B A4))))) := fun z => c12 ((bI_inj _ _).mpr z)
                refine g_iconst X d3_111 rfl (q := 112) (v := 0) rfl ?_
                exact J112_11 T X _ (bI_f c12)
          · skip
            refine g_iload X d3_100 rfl (q := 102) rfl ?_
            refine g_iload X d3_102 rfl (q := 104) rfl ?_
            refine g_jT1 X (J := 112) (P := fun (s0_112 : Int32) => s0_112 = (bI ((¬ (R A3 = R A4)) ↔ (¬ ((Int32.ofNat (B A3)) = (Int32.ofNat (B A4))))))) (L := fun s0_112 => #[.val (.ref a1), .val (.ref a2), .val (.int p3), .val (.int (Int32.ofNat A3)), .val (.int (Int32.ofNat A4)), .val (.int (bI (¬ ((Int32.ofNat (B A3)) = (Int32.ofNat (B A4)))))), .val (.int (bI (¬ (R A3 = R A4)))), .val (.int (Int32.ofNat (B A4))), .val (.int (Int32.ofNat (B A3)))]) (S := fun s0_112 => [(.int s0_112)]) ?_ ?_
            · intro T X s0_112 hs0_112
              replace hs0_112 : s0_112 = (bI ((¬ (R A3 = R A4)) ↔ (¬ ((Int32.ofNat (B A3)) = (Int32.ofNat (B A4)))))) := hs0_112
              subst hs0_112
              show Goes p e below s _ n0 _ (T.setTop (mkF m 112 #[.val (.ref a1), .val (.ref a2), .val (.int p3), .val (.int (Int32.ofNat A3)), .val (.int (Int32.ofNat A4)), .val (.int (bI (¬ ((Int32.ofNat (B A3)) = (Int32.ofNat (B A4)))))), .val (.int (bI (¬ (R A3 = R A4)))), .val (.int (Int32.ofNat (B A4))), .val (.int (Int32.ofNat (B A3)))] [(.int (bI ((¬ (R A3 = R A4)) ↔ (¬ ((Int32.ofNat (B A3)) = (Int32.ofNat (B A4)))))))]))
              exact g_retZ X d3_112 (by decide) (by decide) (bI_01 _) ⟨U1_32, G1_32, R1_32, D1_32, (fun v => if B v = B A4 then B A3 else B v), congrArg (fun z => some (Value.int z)) (bI_t (own_same (hB A3 hA3) (hB A4 hA4) (by omega) (hL A3 A4 hA3 hA4))).symm, K, A_u, A_z, (A_a2.to (g := (fun j => if (fun j => Int32.ofNat (B j)) j = Int32.ofNat (B A4) then Int32.ofNat (B A3) else (fun j => Int32.ofNat (B j)) j)) (by intro j hj; rcases (show j = 0 ∨ j = 1 ∨ j = 2 ∨ j = 3 by omega) with rfl | rfl | rfl | rfl <;> simp [own_up, c1, c2, c10, c11])).to (own_rel hA3 hA4 (by omega) hB), hU1_32, LB.merge (lb := B) (R := R) hL hJ_32 hA3 hA4, own_relB hA3 hB⟩
            · intro J112_12
              refine g_icmpB X d3_104 (Or.inr (Or.inr rfl)) (q := 107) rfl (by decide) (t := 111) rfl (fun c13 => ?_) (fun c13 => ?_)
              · replace c13 : (¬ (R A3 = R A4)) ↔ (¬ ((Int32.ofNat (B A3)) = (Int32.ofNat (B A4)))) := (bI_inj _ _).mp c13
                refine g_iconst X d3_107 rfl (q := 108) (v := 1) rfl ?_
                refine g_goto X d3_108 (by decide) (q := 112) rfl ?_
                exact J112_12 T X _ (bI_t c13)
              · replace c13 : ¬ ((¬ (R A3 = R A4)) ↔ (¬ ((Int32.ofNat (B A3)) = (Int32.ofNat (B A4))))) := fun z => c13 ((bI_inj _ _).mpr z)
                refine g_iconst X d3_111 rfl (q := 112) (v := 0) rfl ?_
                exact J112_12 T X _ (bI_f c13)
        · skip
          refine g_aloadN X d3_87 rfl (q := 88) rfl rfl ?_
          refine g_iconst X d3_88 rfl (q := 89) (v := 3) rfl ?_
          refine g_iaload X A_a2 ⟨by decide, by decide⟩ d3_89 (q := 90) rfl ?_
          refine g_eqI (y := (Int32.ofNat (B 3))) rfl ?_
          refine g_iload X d3_90 rfl (q := 92) rfl ?_
          refine g_icmpB X d3_92 (Or.inr (Or.inr rfl)) (q := 95) rfl (by decide) (t := 100) rfl (fun (c14 : (Int32.ofNat (B 3)) = (Int32.ofNat (B A4))) => ?_) (fun (c14 : ¬ ((Int32.ofNat (B 3)) = (Int32.ofNat (B A4)))) => ?_)
          · skip
            refine g_aloadN X d3_95 rfl (q := 96) rfl rfl ?_
            refine g_iconst X d3_96 rfl (q := 97) (v := 3) rfl ?_
            refine g_iload X d3_97 rfl (q := 99) rfl ?_
            refine g_iastore X A_a2 ⟨by decide, by decide⟩ g_a2 d3_99 (q := 100) rfl (fun T h X W => ?_)
            have O_a1 := O_a1.other W ne_a1_a2
            have A_u := A_u.other W ne_u_a2
            have A_z := A_z.other W ne_z_a2
            have A_a2 : AI Z h a2 .int 4 (own_up (own_up (fun j => Int32.ofNat (B j)) 0 (Int32.ofNat (B A3))) 3 (Int32.ofNat (B A3))) := A_a2.set W
            have K := K.wr W (Or.inl (List.mem_of_getElem? (i := 2) rfl))
            refine g_iload X d3_100 rfl (q := 102) rfl ?_
            refine g_iload X d3_102 rfl (q := 104) rfl ?_
            refine g_jT1 X (J := 112) (P := fun (s0_112 : Int32) => s0_112 = (bI ((¬ (R A3 = R A4)) ↔ (¬ ((Int32.ofNat (B A3)) = (Int32.ofNat (B A4))))))) (L := fun s0_112 => #[.val (.ref a1), .val (.ref a2), .val (.int p3), .val (.int (Int32.ofNat A3)), .val (.int (Int32.ofNat A4)), .val (.int (bI (¬ ((Int32.ofNat (B A3)) = (Int32.ofNat (B A4)))))), .val (.int (bI (¬ (R A3 = R A4)))), .val (.int (Int32.ofNat (B A4))), .val (.int (Int32.ofNat (B A3)))]) (S := fun s0_112 => [(.int s0_112)]) ?_ ?_
            · intro T X s0_112 hs0_112
              replace hs0_112 : s0_112 = (bI ((¬ (R A3 = R A4)) ↔ (¬ ((Int32.ofNat (B A3)) = (Int32.ofNat (B A4)))))) := hs0_112
              subst hs0_112
              show Goes p e below s _ n0 _ (T.setTop (mkF m 112 #[.val (.ref a1), .val (.ref a2), .val (.int p3), .val (.int (Int32.ofNat A3)), .val (.int (Int32.ofNat A4)), .val (.int (bI (¬ ((Int32.ofNat (B A3)) = (Int32.ofNat (B A4)))))), .val (.int (bI (¬ (R A3 = R A4)))), .val (.int (Int32.ofNat (B A4))), .val (.int (Int32.ofNat (B A3)))] [(.int (bI ((¬ (R A3 = R A4)) ↔ (¬ ((Int32.ofNat (B A3)) = (Int32.ofNat (B A4)))))))]))
              exact g_retZ X d3_112 (by decide) (by decide) (bI_01 _) ⟨U1_32, G1_32, R1_32, D1_32, (fun v => if B v = B A4 then B A3 else B v), congrArg (fun z => some (Value.int z)) (bI_t (own_same (hB A3 hA3) (hB A4 hA4) (by omega) (hL A3 A4 hA3 hA4))).symm, K, A_u, A_z, (A_a2.to (g := (fun j => if (fun j => Int32.ofNat (B j)) j = Int32.ofNat (B A4) then Int32.ofNat (B A3) else (fun j => Int32.ofNat (B j)) j)) (by intro j hj; rcases (show j = 0 ∨ j = 1 ∨ j = 2 ∨ j = 3 by omega) with rfl | rfl | rfl | rfl <;> simp [own_up, c1, c2, c10, c14])).to (own_rel hA3 hA4 (by omega) hB), hU1_32, LB.merge (lb := B) (R := R) hL hJ_32 hA3 hA4, own_relB hA3 hB⟩
            · intro J112_14
              refine g_icmpB X d3_104 (Or.inr (Or.inr rfl)) (q := 107) rfl (by decide) (t := 111) rfl (fun c15 => ?_) (fun c15 => ?_)
              · replace c15 : (¬ (R A3 = R A4)) ↔ (¬ ((Int32.ofNat (B A3)) = (Int32.ofNat (B A4)))) := (bI_inj _ _).mp c15
                refine g_iconst X d3_107 rfl (q := 108) (v := 1) rfl ?_
                refine g_goto X d3_108 (by decide) (q := 112) rfl ?_
                exact J112_14 T X _ (bI_t c15)
              · replace c15 : ¬ ((¬ (R A3 = R A4)) ↔ (¬ ((Int32.ofNat (B A3)) = (Int32.ofNat (B A4))))) := fun z => c15 ((bI_inj _ _).mpr z)
                refine g_iconst X d3_111 rfl (q := 112) (v := 0) rfl ?_
                exact J112_14 T X _ (bI_f c15)
          · skip
            refine g_iload X d3_100 rfl (q := 102) rfl ?_
            refine g_iload X d3_102 rfl (q := 104) rfl ?_
            refine g_jT1 X (J := 112) (P := fun (s0_112 : Int32) => s0_112 = (bI ((¬ (R A3 = R A4)) ↔ (¬ ((Int32.ofNat (B A3)) = (Int32.ofNat (B A4))))))) (L := fun s0_112 => #[.val (.ref a1), .val (.ref a2), .val (.int p3), .val (.int (Int32.ofNat A3)), .val (.int (Int32.ofNat A4)), .val (.int (bI (¬ ((Int32.ofNat (B A3)) = (Int32.ofNat (B A4)))))), .val (.int (bI (¬ (R A3 = R A4)))), .val (.int (Int32.ofNat (B A4))), .val (.int (Int32.ofNat (B A3)))]) (S := fun s0_112 => [(.int s0_112)]) ?_ ?_
            · intro T X s0_112 hs0_112
              replace hs0_112 : s0_112 = (bI ((¬ (R A3 = R A4)) ↔ (¬ ((Int32.ofNat (B A3)) = (Int32.ofNat (B A4)))))) := hs0_112
              subst hs0_112
              show Goes p e below s _ n0 _ (T.setTop (mkF m 112 #[.val (.ref a1), .val (.ref a2), .val (.int p3), .val (.int (Int32.ofNat A3)), .val (.int (Int32.ofNat A4)), .val (.int (bI (¬ ((Int32.ofNat (B A3)) = (Int32.ofNat (B A4)))))), .val (.int (bI (¬ (R A3 = R A4)))), .val (.int (Int32.ofNat (B A4))), .val (.int (Int32.ofNat (B A3)))] [(.int (bI ((¬ (R A3 = R A4)) ↔ (¬ ((Int32.ofNat (B A3)) = (Int32.ofNat (B A4)))))))]))
              exact g_retZ X d3_112 (by decide) (by decide) (bI_01 _) ⟨U1_32, G1_32, R1_32, D1_32, (fun v => if B v = B A4 then B A3 else B v), congrArg (fun z => some (Value.int z)) (bI_t (own_same (hB A3 hA3) (hB A4 hA4) (by omega) (hL A3 A4 hA3 hA4))).symm, K, A_u, A_z, (A_a2.to (g := (fun j => if (fun j => Int32.ofNat (B j)) j = Int32.ofNat (B A4) then Int32.ofNat (B A3) else (fun j => Int32.ofNat (B j)) j)) (by intro j hj; rcases (show j = 0 ∨ j = 1 ∨ j = 2 ∨ j = 3 by omega) with rfl | rfl | rfl | rfl <;> simp [own_up, c1, c2, c10, c14])).to (own_rel hA3 hA4 (by omega) hB), hU1_32, LB.merge (lb := B) (R := R) hL hJ_32 hA3 hA4, own_relB hA3 hB⟩
            · intro J112_15
              refine g_icmpB X d3_104 (Or.inr (Or.inr rfl)) (q := 107) rfl (by decide) (t := 111) rfl (fun c16 => ?_) (fun c16 => ?_)
              · replace c16 : (¬ (R A3 = R A4)) ↔ (¬ ((Int32.ofNat (B A3)) = (Int32.ofNat (B A4)))) := (bI_inj _ _).mp c16
                refine g_iconst X d3_107 rfl (q := 108) (v := 1) rfl ?_
                refine g_goto X d3_108 (by decide) (q := 112) rfl ?_
                exact J112_15 T X _ (bI_t c16)
              · replace c16 : ¬ ((¬ (R A3 = R A4)) ↔ (¬ ((Int32.ofNat (B A3)) = (Int32.ofNat (B A4))))) := fun z => c16 ((bI_inj _ _).mpr z)
                refine g_iconst X d3_111 rfl (q := 112) (v := 0) rfl ?_
                exact J112_15 T X _ (bI_f c16)
    · skip
      refine g_aloadN X d3_61 rfl (q := 62) rfl rfl ?_
      refine g_iconst X d3_62 rfl (q := 63) (v := 1) rfl ?_
      refine g_iaload X A_a2 ⟨by decide, by decide⟩ d3_63 (q := 64) rfl ?_
      refine g_eqI (y := (Int32.ofNat (B 1))) rfl ?_
      refine g_iload X d3_64 rfl (q := 66) rfl ?_
      refine g_icmpB X d3_66 (Or.inr (Or.inr rfl)) (q := 69) rfl (by decide) (t := 74) rfl (fun (c17 : (Int32.ofNat (B 1)) = (Int32.ofNat (B A4))) => ?_) (fun (c17 : ¬ ((Int32.ofNat (B 1)) = (Int32.ofNat (B A4)))) => ?_)
      · skip
        refine g_aloadN X d3_69 rfl (q := 70) rfl rfl ?_
        refine g_iconst X d3_70 rfl (q := 71) (v := 1) rfl ?_
        refine g_iload X d3_71 rfl (q := 73) rfl ?_
        refine g_iastore X A_a2 ⟨by decide, by decide⟩ g_a2 d3_73 (q := 74) rfl (fun T h X W => ?_)
        have O_a1 := O_a1.other W ne_a1_a2
        have A_u := A_u.other W ne_u_a2
        have A_z := A_z.other W ne_z_a2
        have A_a2 : AI Z h a2 .int 4 (own_up (fun j => Int32.ofNat (B j)) 1 (Int32.ofNat (B A3))) := A_a2.set W
        have K := K.wr W (Or.inl (List.mem_of_getElem? (i := 2) rfl))
        refine g_aloadN X d3_74 rfl (q := 75) rfl rfl ?_
        refine g_iconst X d3_75 rfl (q := 76) (v := 2) rfl ?_
        refine g_iaload X A_a2 ⟨by decide, by decide⟩ d3_76 (q := 77) rfl ?_
        refine g_eqI (y := (Int32.ofNat (B 2))) rfl ?_
        refine g_iload X d3_77 rfl (q := 79) rfl ?_
        refine g_icmpB X d3_79 (Or.inr (Or.inr rfl)) (q := 82) rfl (by decide) (t := 87) rfl (fun (c18 : (Int32.ofNat (B 2)) = (Int32.ofNat (B A4))) => ?_) (fun (c18 : ¬ ((Int32.ofNat (B 2)) = (Int32.ofNat (B A4)))) => ?_)
        · skip
          refine g_aloadN X d3_82 rfl (q := 83) rfl rfl ?_
          refine g_iconst X d3_83 rfl (q := 84) (v := 2) rfl ?_
          refine g_iload X d3_84 rfl (q := 86) rfl ?_
          refine g_iastore X A_a2 ⟨by decide, by decide⟩ g_a2 d3_86 (q := 87) rfl (fun T h X W => ?_)
          have O_a1 := O_a1.other W ne_a1_a2
          have A_u := A_u.other W ne_u_a2
          have A_z := A_z.other W ne_z_a2
          have A_a2 : AI Z h a2 .int 4 (own_up (own_up (fun j => Int32.ofNat (B j)) 1 (Int32.ofNat (B A3))) 2 (Int32.ofNat (B A3))) := A_a2.set W
          have K := K.wr W (Or.inl (List.mem_of_getElem? (i := 2) rfl))
          refine g_aloadN X d3_87 rfl (q := 88) rfl rfl ?_
          refine g_iconst X d3_88 rfl (q := 89) (v := 3) rfl ?_
          refine g_iaload X A_a2 ⟨by decide, by decide⟩ d3_89 (q := 90) rfl ?_
          refine g_eqI (y := (Int32.ofNat (B 3))) rfl ?_
          refine g_iload X d3_90 rfl (q := 92) rfl ?_
          refine g_icmpB X d3_92 (Or.inr (Or.inr rfl)) (q := 95) rfl (by decide) (t := 100) rfl (fun (c19 : (Int32.ofNat (B 3)) = (Int32.ofNat (B A4))) => ?_) (fun (c19 : ¬ ((Int32.ofNat (B 3)) = (Int32.ofNat (B A4)))) => ?_)
          · skip
            refine g_aloadN X d3_95 rfl (q := 96) rfl rfl ?_
            refine g_iconst X d3_96 rfl (q := 97) (v := 3) rfl ?_
            refine g_iload X d3_97 rfl (q := 99) rfl ?_
            refine g_iastore X A_a2 ⟨by decide, by decide⟩ g_a2 d3_99 (q := 100) rfl (fun T h X W => ?_)
            have O_a1 := O_a1.other W ne_a1_a2
            have A_u := A_u.other W ne_u_a2
            have A_z := A_z.other W ne_z_a2
            have A_a2 : AI Z h a2 .int 4 (own_up (own_up (own_up (fun j => Int32.ofNat (B j)) 1 (Int32.ofNat (B A3))) 2 (Int32.ofNat (B A3))) 3 (Int32.ofNat (B A3))) := A_a2.set W
            have K := K.wr W (Or.inl (List.mem_of_getElem? (i := 2) rfl))
            refine g_iload X d3_100 rfl (q := 102) rfl ?_
            refine g_iload X d3_102 rfl (q := 104) rfl ?_
            refine g_jT1 X (J := 112) (P := fun (s0_112 : Int32) => s0_112 = (bI ((¬ (R A3 = R A4)) ↔ (¬ ((Int32.ofNat (B A3)) = (Int32.ofNat (B A4))))))) (L := fun s0_112 => #[.val (.ref a1), .val (.ref a2), .val (.int p3), .val (.int (Int32.ofNat A3)), .val (.int (Int32.ofNat A4)), .val (.int (bI (¬ ((Int32.ofNat (B A3)) = (Int32.ofNat (B A4)))))), .val (.int (bI (¬ (R A3 = R A4)))), .val (.int (Int32.ofNat (B A4))), .val (.int (Int32.ofNat (B A3)))]) (S := fun s0_112 => [(.int s0_112)]) ?_ ?_
            · intro T X s0_112 hs0_112
              replace hs0_112 : s0_112 = (bI ((¬ (R A3 = R A4)) ↔ (¬ ((Int32.ofNat (B A3)) = (Int32.ofNat (B A4)))))) := hs0_112
              subst hs0_112
              show Goes p e below s _ n0 _ (T.setTop (mkF m 112 #[.val (.ref a1), .val (.ref a2), .val (.int p3), .val (.int (Int32.ofNat A3)), .val (.int (Int32.ofNat A4)), .val (.int (bI (¬ ((Int32.ofNat (B A3)) = (Int32.ofNat (B A4)))))), .val (.int (bI (¬ (R A3 = R A4)))), .val (.int (Int32.ofNat (B A4))), .val (.int (Int32.ofNat (B A3)))] [(.int (bI ((¬ (R A3 = R A4)) ↔ (¬ ((Int32.ofNat (B A3)) = (Int32.ofNat (B A4)))))))]))
              exact g_retZ X d3_112 (by decide) (by decide) (bI_01 _) ⟨U1_32, G1_32, R1_32, D1_32, (fun v => if B v = B A4 then B A3 else B v), congrArg (fun z => some (Value.int z)) (bI_t (own_same (hB A3 hA3) (hB A4 hA4) (by omega) (hL A3 A4 hA3 hA4))).symm, K, A_u, A_z, (A_a2.to (g := (fun j => if (fun j => Int32.ofNat (B j)) j = Int32.ofNat (B A4) then Int32.ofNat (B A3) else (fun j => Int32.ofNat (B j)) j)) (by intro j hj; rcases (show j = 0 ∨ j = 1 ∨ j = 2 ∨ j = 3 by omega) with rfl | rfl | rfl | rfl <;> simp [own_up, c1, c17, c18, c19])).to (own_rel hA3 hA4 (by omega) hB), hU1_32, LB.merge (lb := B) (R := R) hL hJ_32 hA3 hA4, own_relB hA3 hB⟩
            · intro J112_19
              refine g_icmpB X d3_104 (Or.inr (Or.inr rfl)) (q := 107) rfl (by decide) (t := 111) rfl (fun c20 => ?_) (fun c20 => ?_)
              · replace c20 : (¬ (R A3 = R A4)) ↔ (¬ ((Int32.ofNat (B A3)) = (Int32.ofNat (B A4)))) := (bI_inj _ _).mp c20
                refine g_iconst X d3_107 rfl (q := 108) (v := 1) rfl ?_
                refine g_goto X d3_108 (by decide) (q := 112) rfl ?_
                exact J112_19 T X _ (bI_t c20)
              · replace c20 : ¬ ((¬ (R A3 = R A4)) ↔ (¬ ((Int32.ofNat (B A3)) = (Int32.ofNat (B A4))))) := fun z => c20 ((bI_inj _ _).mpr z)
                refine g_iconst X d3_111 rfl (q := 112) (v := 0) rfl ?_
                exact J112_19 T X _ (bI_f c20)
          · skip
            refine g_iload X d3_100 rfl (q := 102) rfl ?_
            refine g_iload X d3_102 rfl (q := 104) rfl ?_
            refine g_jT1 X (J := 112) (P := fun (s0_112 : Int32) => s0_112 = (bI ((¬ (R A3 = R A4)) ↔ (¬ ((Int32.ofNat (B A3)) = (Int32.ofNat (B A4))))))) (L := fun s0_112 => #[.val (.ref a1), .val (.ref a2), .val (.int p3), .val (.int (Int32.ofNat A3)), .val (.int (Int32.ofNat A4)), .val (.int (bI (¬ ((Int32.ofNat (B A3)) = (Int32.ofNat (B A4)))))), .val (.int (bI (¬ (R A3 = R A4)))), .val (.int (Int32.ofNat (B A4))), .val (.int (Int32.ofNat (B A3)))]) (S := fun s0_112 => [(.int s0_112)]) ?_ ?_
            · intro T X s0_112 hs0_112
              replace hs0_112 : s0_112 = (bI ((¬ (R A3 = R A4)) ↔ (¬ ((Int32.ofNat (B A3)) = (Int32.ofNat (B A4)))))) := hs0_112
              subst hs0_112
              show Goes p e below s _ n0 _ (T.setTop (mkF m 112 #[.val (.ref a1), .val (.ref a2), .val (.int p3), .val (.int (Int32.ofNat A3)), .val (.int (Int32.ofNat A4)), .val (.int (bI (¬ ((Int32.ofNat (B A3)) = (Int32.ofNat (B A4)))))), .val (.int (bI (¬ (R A3 = R A4)))), .val (.int (Int32.ofNat (B A4))), .val (.int (Int32.ofNat (B A3)))] [(.int (bI ((¬ (R A3 = R A4)) ↔ (¬ ((Int32.ofNat (B A3)) = (Int32.ofNat (B A4)))))))]))
              exact g_retZ X d3_112 (by decide) (by decide) (bI_01 _) ⟨U1_32, G1_32, R1_32, D1_32, (fun v => if B v = B A4 then B A3 else B v), congrArg (fun z => some (Value.int z)) (bI_t (own_same (hB A3 hA3) (hB A4 hA4) (by omega) (hL A3 A4 hA3 hA4))).symm, K, A_u, A_z, (A_a2.to (g := (fun j => if (fun j => Int32.ofNat (B j)) j = Int32.ofNat (B A4) then Int32.ofNat (B A3) else (fun j => Int32.ofNat (B j)) j)) (by intro j hj; rcases (show j = 0 ∨ j = 1 ∨ j = 2 ∨ j = 3 by omega) with rfl | rfl | rfl | rfl <;> simp [own_up, c1, c17, c18, c19])).to (own_rel hA3 hA4 (by omega) hB), hU1_32, LB.merge (lb := B) (R := R) hL hJ_32 hA3 hA4, own_relB hA3 hB⟩
            · intro J112_20
              refine g_icmpB X d3_104 (Or.inr (Or.inr rfl)) (q := 107) rfl (by decide) (t := 111) rfl (fun c21 => ?_) (fun c21 => ?_)
              · replace c21 : (¬ (R A3 = R A4)) ↔ (¬ ((Int32.ofNat (B A3)) = (Int32.ofNat (B A4)))) := (bI_inj _ _).mp c21
                refine g_iconst X d3_107 rfl (q := 108) (v := 1) rfl ?_
                refine g_goto X d3_108 (by decide) (q := 112) rfl ?_
                exact J112_20 T X _ (bI_t c21)
              · replace c21 : ¬ ((¬ (R A3 = R A4)) ↔ (¬ ((Int32.ofNat (B A3)) = (Int32.ofNat (B A4))))) := fun z => c21 ((bI_inj _ _).mpr z)
                refine g_iconst X d3_111 rfl (q := 112) (v := 0) rfl ?_
                exact J112_20 T X _ (bI_f c21)
        · skip
          refine g_aloadN X d3_87 rfl (q := 88) rfl rfl ?_
          refine g_iconst X d3_88 rfl (q := 89) (v := 3) rfl ?_
          refine g_iaload X A_a2 ⟨by decide, by decide⟩ d3_89 (q := 90) rfl ?_
          refine g_eqI (y := (Int32.ofNat (B 3))) rfl ?_
          refine g_iload X d3_90 rfl (q := 92) rfl ?_
          refine g_icmpB X d3_92 (Or.inr (Or.inr rfl)) (q := 95) rfl (by decide) (t := 100) rfl (fun (c22 : (Int32.ofNat (B 3)) = (Int32.ofNat (B A4))) => ?_) (fun (c22 : ¬ ((Int32.ofNat (B 3)) = (Int32.ofNat (B A4)))) => ?_)
          · skip
            refine g_aloadN X d3_95 rfl (q := 96) rfl rfl ?_
            refine g_iconst X d3_96 rfl (q := 97) (v := 3) rfl ?_
            refine g_iload X d3_97 rfl (q := 99) rfl ?_
            refine g_iastore X A_a2 ⟨by decide, by decide⟩ g_a2 d3_99 (q := 100) rfl (fun T h X W => ?_)
            have O_a1 := O_a1.other W ne_a1_a2
            have A_u := A_u.other W ne_u_a2
            have A_z := A_z.other W ne_z_a2
            have A_a2 : AI Z h a2 .int 4 (own_up (own_up (fun j => Int32.ofNat (B j)) 1 (Int32.ofNat (B A3))) 3 (Int32.ofNat (B A3))) := A_a2.set W
            have K := K.wr W (Or.inl (List.mem_of_getElem? (i := 2) rfl))
            refine g_iload X d3_100 rfl (q := 102) rfl ?_
            refine g_iload X d3_102 rfl (q := 104) rfl ?_
            refine g_jT1 X (J := 112) (P := fun (s0_112 : Int32) => s0_112 = (bI ((¬ (R A3 = R A4)) ↔ (¬ ((Int32.ofNat (B A3)) = (Int32.ofNat (B A4))))))) (L := fun s0_112 => #[.val (.ref a1), .val (.ref a2), .val (.int p3), .val (.int (Int32.ofNat A3)), .val (.int (Int32.ofNat A4)), .val (.int (bI (¬ ((Int32.ofNat (B A3)) = (Int32.ofNat (B A4)))))), .val (.int (bI (¬ (R A3 = R A4)))), .val (.int (Int32.ofNat (B A4))), .val (.int (Int32.ofNat (B A3)))]) (S := fun s0_112 => [(.int s0_112)]) ?_ ?_
            · intro T X s0_112 hs0_112
              replace hs0_112 : s0_112 = (bI ((¬ (R A3 = R A4)) ↔ (¬ ((Int32.ofNat (B A3)) = (Int32.ofNat (B A4)))))) := hs0_112
              subst hs0_112
              show Goes p e below s _ n0 _ (T.setTop (mkF m 112 #[.val (.ref a1), .val (.ref a2), .val (.int p3), .val (.int (Int32.ofNat A3)), .val (.int (Int32.ofNat A4)), .val (.int (bI (¬ ((Int32.ofNat (B A3)) = (Int32.ofNat (B A4)))))), .val (.int (bI (¬ (R A3 = R A4)))), .val (.int (Int32.ofNat (B A4))), .val (.int (Int32.ofNat (B A3)))] [(.int (bI ((¬ (R A3 = R A4)) ↔ (¬ ((Int32.ofNat (B A3)) = (Int32.ofNat (B A4)))))))]))
              exact g_retZ X d3_112 (by decide) (by decide) (bI_01 _) ⟨U1_32, G1_32, R1_32, D1_32, (fun v => if B v = B A4 then B A3 else B v), congrArg (fun z => some (Value.int z)) (bI_t (own_same (hB A3 hA3) (hB A4 hA4) (by omega) (hL A3 A4 hA3 hA4))).symm, K, A_u, A_z, (A_a2.to (g := (fun j => if (fun j => Int32.ofNat (B j)) j = Int32.ofNat (B A4) then Int32.ofNat (B A3) else (fun j => Int32.ofNat (B j)) j)) (by intro j hj; rcases (show j = 0 ∨ j = 1 ∨ j = 2 ∨ j = 3 by omega) with rfl | rfl | rfl | rfl <;> simp [own_up, c1, c17, c18, c22])).to (own_rel hA3 hA4 (by omega) hB), hU1_32, LB.merge (lb := B) (R := R) hL hJ_32 hA3 hA4, own_relB hA3 hB⟩
            · intro J112_22
              refine g_icmpB X d3_104 (Or.inr (Or.inr rfl)) (q := 107) rfl (by decide) (t := 111) rfl (fun c23 => ?_) (fun c23 => ?_)
              · replace c23 : (¬ (R A3 = R A4)) ↔ (¬ ((Int32.ofNat (B A3)) = (Int32.ofNat (B A4)))) := (bI_inj _ _).mp c23
                refine g_iconst X d3_107 rfl (q := 108) (v := 1) rfl ?_
                refine g_goto X d3_108 (by decide) (q := 112) rfl ?_
                exact J112_22 T X _ (bI_t c23)
              · replace c23 : ¬ ((¬ (R A3 = R A4)) ↔ (¬ ((Int32.ofNat (B A3)) = (Int32.ofNat (B A4))))) := fun z => c23 ((bI_inj _ _).mpr z)
                refine g_iconst X d3_111 rfl (q := 112) (v := 0) rfl ?_
                exact J112_22 T X _ (bI_f c23)
          · skip
            refine g_iload X d3_100 rfl (q := 102) rfl ?_
            refine g_iload X d3_102 rfl (q := 104) rfl ?_
            refine g_jT1 X (J := 112) (P := fun (s0_112 : Int32) => s0_112 = (bI ((¬ (R A3 = R A4)) ↔ (¬ ((Int32.ofNat (B A3)) = (Int32.ofNat (B A4))))))) (L := fun s0_112 => #[.val (.ref a1), .val (.ref a2), .val (.int p3), .val (.int (Int32.ofNat A3)), .val (.int (Int32.ofNat A4)), .val (.int (bI (¬ ((Int32.ofNat (B A3)) = (Int32.ofNat (B A4)))))), .val (.int (bI (¬ (R A3 = R A4)))), .val (.int (Int32.ofNat (B A4))), .val (.int (Int32.ofNat (B A3)))]) (S := fun s0_112 => [(.int s0_112)]) ?_ ?_
            · intro T X s0_112 hs0_112
              replace hs0_112 : s0_112 = (bI ((¬ (R A3 = R A4)) ↔ (¬ ((Int32.ofNat (B A3)) = (Int32.ofNat (B A4)))))) := hs0_112
              subst hs0_112
              show Goes p e below s _ n0 _ (T.setTop (mkF m 112 #[.val (.ref a1), .val (.ref a2), .val (.int p3), .val (.int (Int32.ofNat A3)), .val (.int (Int32.ofNat A4)), .val (.int (bI (¬ ((Int32.ofNat (B A3)) = (Int32.ofNat (B A4)))))), .val (.int (bI (¬ (R A3 = R A4)))), .val (.int (Int32.ofNat (B A4))), .val (.int (Int32.ofNat (B A3)))] [(.int (bI ((¬ (R A3 = R A4)) ↔ (¬ ((Int32.ofNat (B A3)) = (Int32.ofNat (B A4)))))))]))
              exact g_retZ X d3_112 (by decide) (by decide) (bI_01 _) ⟨U1_32, G1_32, R1_32, D1_32, (fun v => if B v = B A4 then B A3 else B v), congrArg (fun z => some (Value.int z)) (bI_t (own_same (hB A3 hA3) (hB A4 hA4) (by omega) (hL A3 A4 hA3 hA4))).symm, K, A_u, A_z, (A_a2.to (g := (fun j => if (fun j => Int32.ofNat (B j)) j = Int32.ofNat (B A4) then Int32.ofNat (B A3) else (fun j => Int32.ofNat (B j)) j)) (by intro j hj; rcases (show j = 0 ∨ j = 1 ∨ j = 2 ∨ j = 3 by omega) with rfl | rfl | rfl | rfl <;> simp [own_up, c1, c17, c18, c22])).to (own_rel hA3 hA4 (by omega) hB), hU1_32, LB.merge (lb := B) (R := R) hL hJ_32 hA3 hA4, own_relB hA3 hB⟩
            · intro J112_23
              refine g_icmpB X d3_104 (Or.inr (Or.inr rfl)) (q := 107) rfl (by decide) (t := 111) rfl (fun c24 => ?_) (fun c24 => ?_)
              · replace c24 : (¬ (R A3 = R A4)) ↔ (¬ ((Int32.ofNat (B A3)) = (Int32.ofNat (B A4)))) := (bI_inj _ _).mp c24
                refine g_iconst X d3_107 rfl (q := 108) (v := 1) rfl ?_
                refine g_goto X d3_108 (by decide) (q := 112) rfl ?_
                exact J112_23 T X _ (bI_t c24)
              · replace c24 : ¬ ((¬ (R A3 = R A4)) ↔ (¬ ((Int32.ofNat (B A3)) = (Int32.ofNat (B A4))))) := fun z => c24 ((bI_inj _ _).mpr z)
                refine g_iconst X d3_111 rfl (q := 112) (v := 0) rfl ?_
                exact J112_23 T X _ (bI_f c24)
      · skip
        refine g_aloadN X d3_74 rfl (q := 75) rfl rfl ?_
        refine g_iconst X d3_75 rfl (q := 76) (v := 2) rfl ?_
        refine g_iaload X A_a2 ⟨by decide, by decide⟩ d3_76 (q := 77) rfl ?_
        refine g_eqI (y := (Int32.ofNat (B 2))) rfl ?_
        refine g_iload X d3_77 rfl (q := 79) rfl ?_
        refine g_icmpB X d3_79 (Or.inr (Or.inr rfl)) (q := 82) rfl (by decide) (t := 87) rfl (fun (c25 : (Int32.ofNat (B 2)) = (Int32.ofNat (B A4))) => ?_) (fun (c25 : ¬ ((Int32.ofNat (B 2)) = (Int32.ofNat (B A4)))) => ?_)
        · skip
          refine g_aloadN X d3_82 rfl (q := 83) rfl rfl ?_
          refine g_iconst X d3_83 rfl (q := 84) (v := 2) rfl ?_
          refine g_iload X d3_84 rfl (q := 86) rfl ?_
          refine g_iastore X A_a2 ⟨by decide, by decide⟩ g_a2 d3_86 (q := 87) rfl (fun T h X W => ?_)
          have O_a1 := O_a1.other W ne_a1_a2
          have A_u := A_u.other W ne_u_a2
          have A_z := A_z.other W ne_z_a2
          have A_a2 : AI Z h a2 .int 4 (own_up (fun j => Int32.ofNat (B j)) 2 (Int32.ofNat (B A3))) := A_a2.set W
          have K := K.wr W (Or.inl (List.mem_of_getElem? (i := 2) rfl))
          refine g_aloadN X d3_87 rfl (q := 88) rfl rfl ?_
          refine g_iconst X d3_88 rfl (q := 89) (v := 3) rfl ?_
          refine g_iaload X A_a2 ⟨by decide, by decide⟩ d3_89 (q := 90) rfl ?_
          refine g_eqI (y := (Int32.ofNat (B 3))) rfl ?_
          refine g_iload X d3_90 rfl (q := 92) rfl ?_
          refine g_icmpB X d3_92 (Or.inr (Or.inr rfl)) (q := 95) rfl (by decide) (t := 100) rfl (fun (c26 : (Int32.ofNat (B 3)) = (Int32.ofNat (B A4))) => ?_) (fun (c26 : ¬ ((Int32.ofNat (B 3)) = (Int32.ofNat (B A4)))) => ?_)
          · skip
            refine g_aloadN X d3_95 rfl (q := 96) rfl rfl ?_
            refine g_iconst X d3_96 rfl (q := 97) (v := 3) rfl ?_
            refine g_iload X d3_97 rfl (q := 99) rfl ?_
            refine g_iastore X A_a2 ⟨by decide, by decide⟩ g_a2 d3_99 (q := 100) rfl (fun T h X W => ?_)
            have O_a1 := O_a1.other W ne_a1_a2
            have A_u := A_u.other W ne_u_a2
            have A_z := A_z.other W ne_z_a2
            have A_a2 : AI Z h a2 .int 4 (own_up (own_up (fun j => Int32.ofNat (B j)) 2 (Int32.ofNat (B A3))) 3 (Int32.ofNat (B A3))) := A_a2.set W
            have K := K.wr W (Or.inl (List.mem_of_getElem? (i := 2) rfl))
            refine g_iload X d3_100 rfl (q := 102) rfl ?_
            refine g_iload X d3_102 rfl (q := 104) rfl ?_
            refine g_jT1 X (J := 112) (P := fun (s0_112 : Int32) => s0_112 = (bI ((¬ (R A3 = R A4)) ↔ (¬ ((Int32.ofNat (B A3)) = (Int32.ofNat (B A4))))))) (L := fun s0_112 => #[.val (.ref a1), .val (.ref a2), .val (.int p3), .val (.int (Int32.ofNat A3)), .val (.int (Int32.ofNat A4)), .val (.int (bI (¬ ((Int32.ofNat (B A3)) = (Int32.ofNat (B A4)))))), .val (.int (bI (¬ (R A3 = R A4)))), .val (.int (Int32.ofNat (B A4))), .val (.int (Int32.ofNat (B A3)))]) (S := fun s0_112 => [(.int s0_112)]) ?_ ?_
            · intro T X s0_112 hs0_112
              replace hs0_112 : s0_112 = (bI ((¬ (R A3 = R A4)) ↔ (¬ ((Int32.ofNat (B A3)) = (Int32.ofNat (B A4)))))) := hs0_112
              subst hs0_112
              show Goes p e below s _ n0 _ (T.setTop (mkF m 112 #[.val (.ref a1), .val (.ref a2), .val (.int p3), .val (.int (Int32.ofNat A3)), .val (.int (Int32.ofNat A4)), .val (.int (bI (¬ ((Int32.ofNat (B A3)) = (Int32.ofNat (B A4)))))), .val (.int (bI (¬ (R A3 = R A4)))), .val (.int (Int32.ofNat (B A4))), .val (.int (Int32.ofNat (B A3)))] [(.int (bI ((¬ (R A3 = R A4)) ↔ (¬ ((Int32.ofNat (B A3)) = (Int32.ofNat (B A4)))))))]))
              exact g_retZ X d3_112 (by decide) (by decide) (bI_01 _) ⟨U1_32, G1_32, R1_32, D1_32, (fun v => if B v = B A4 then B A3 else B v), congrArg (fun z => some (Value.int z)) (bI_t (own_same (hB A3 hA3) (hB A4 hA4) (by omega) (hL A3 A4 hA3 hA4))).symm, K, A_u, A_z, (A_a2.to (g := (fun j => if (fun j => Int32.ofNat (B j)) j = Int32.ofNat (B A4) then Int32.ofNat (B A3) else (fun j => Int32.ofNat (B j)) j)) (by intro j hj; rcases (show j = 0 ∨ j = 1 ∨ j = 2 ∨ j = 3 by omega) with rfl | rfl | rfl | rfl <;> simp [own_up, c1, c17, c25, c26])).to (own_rel hA3 hA4 (by omega) hB), hU1_32, LB.merge (lb := B) (R := R) hL hJ_32 hA3 hA4, own_relB hA3 hB⟩
            · intro J112_26
              refine g_icmpB X d3_104 (Or.inr (Or.inr rfl)) (q := 107) rfl (by decide) (t := 111) rfl (fun c27 => ?_) (fun c27 => ?_)
              · replace c27 : (¬ (R A3 = R A4)) ↔ (¬ ((Int32.ofNat (B A3)) = (Int32.ofNat (B A4)))) := (bI_inj _ _).mp c27
                refine g_iconst X d3_107 rfl (q := 108) (v := 1) rfl ?_
                refine g_goto X d3_108 (by decide) (q := 112) rfl ?_
                exact J112_26 T X _ (bI_t c27)
              · replace c27 : ¬ ((¬ (R A3 = R A4)) ↔ (¬ ((Int32.ofNat (B A3)) = (Int32.ofNat (B A4))))) := fun z => c27 ((bI_inj _ _).mpr z)
                refine g_iconst X d3_111 rfl (q := 112) (v := 0) rfl ?_
                exact J112_26 T X _ (bI_f c27)
          · skip
            refine g_iload X d3_100 rfl (q := 102) rfl ?_
            refine g_iload X d3_102 rfl (q := 104) rfl ?_
            refine g_jT1 X (J := 112) (P := fun (s0_112 : Int32) => s0_112 = (bI ((¬ (R A3 = R A4)) ↔ (¬ ((Int32.ofNat (B A3)) = (Int32.ofNat (B A4))))))) (L := fun s0_112 => #[.val (.ref a1), .val (.ref a2), .val (.int p3), .val (.int (Int32.ofNat A3)), .val (.int (Int32.ofNat A4)), .val (.int (bI (¬ ((Int32.ofNat (B A3)) = (Int32.ofNat (B A4)))))), .val (.int (bI (¬ (R A3 = R A4)))), .val (.int (Int32.ofNat (B A4))), .val (.int (Int32.ofNat (B A3)))]) (S := fun s0_112 => [(.int s0_112)]) ?_ ?_
            · intro T X s0_112 hs0_112
              replace hs0_112 : s0_112 = (bI ((¬ (R A3 = R A4)) ↔ (¬ ((Int32.ofNat (B A3)) = (Int32.ofNat (B A4)))))) := hs0_112
              subst hs0_112
              show Goes p e below s _ n0 _ (T.setTop (mkF m 112 #[.val (.ref a1), .val (.ref a2), .val (.int p3), .val (.int (Int32.ofNat A3)), .val (.int (Int32.ofNat A4)), .val (.int (bI (¬ ((Int32.ofNat (B A3)) = (Int32.ofNat (B A4)))))), .val (.int (bI (¬ (R A3 = R A4)))), .val (.int (Int32.ofNat (B A4))), .val (.int (Int32.ofNat (B A3)))] [(.int (bI ((¬ (R A3 = R A4)) ↔ (¬ ((Int32.ofNat (B A3)) = (Int32.ofNat (B A4)))))))]))
              exact g_retZ X d3_112 (by decide) (by decide) (bI_01 _) ⟨U1_32, G1_32, R1_32, D1_32, (fun v => if B v = B A4 then B A3 else B v), congrArg (fun z => some (Value.int z)) (bI_t (own_same (hB A3 hA3) (hB A4 hA4) (by omega) (hL A3 A4 hA3 hA4))).symm, K, A_u, A_z, (A_a2.to (g := (fun j => if (fun j => Int32.ofNat (B j)) j = Int32.ofNat (B A4) then Int32.ofNat (B A3) else (fun j => Int32.ofNat (B j)) j)) (by intro j hj; rcases (show j = 0 ∨ j = 1 ∨ j = 2 ∨ j = 3 by omega) with rfl | rfl | rfl | rfl <;> simp [own_up, c1, c17, c25, c26])).to (own_rel hA3 hA4 (by omega) hB), hU1_32, LB.merge (lb := B) (R := R) hL hJ_32 hA3 hA4, own_relB hA3 hB⟩
            · intro J112_27
              refine g_icmpB X d3_104 (Or.inr (Or.inr rfl)) (q := 107) rfl (by decide) (t := 111) rfl (fun c28 => ?_) (fun c28 => ?_)
              · replace c28 : (¬ (R A3 = R A4)) ↔ (¬ ((Int32.ofNat (B A3)) = (Int32.ofNat (B A4)))) := (bI_inj _ _).mp c28
                refine g_iconst X d3_107 rfl (q := 108) (v := 1) rfl ?_
                refine g_goto X d3_108 (by decide) (q := 112) rfl ?_
                exact J112_27 T X _ (bI_t c28)
              · replace c28 : ¬ ((¬ (R A3 = R A4)) ↔ (¬ ((Int32.ofNat (B A3)) = (Int32.ofNat (B A4))))) := fun z => c28 ((bI_inj _ _).mpr z)
                refine g_iconst X d3_111 rfl (q := 112) (v := 0) rfl ?_
                exact J112_27 T X _ (bI_f c28)
        · skip
          refine g_aloadN X d3_87 rfl (q := 88) rfl rfl ?_
          refine g_iconst X d3_88 rfl (q := 89) (v := 3) rfl ?_
          refine g_iaload X A_a2 ⟨by decide, by decide⟩ d3_89 (q := 90) rfl ?_
          refine g_eqI (y := (Int32.ofNat (B 3))) rfl ?_
          refine g_iload X d3_90 rfl (q := 92) rfl ?_
          refine g_icmpB X d3_92 (Or.inr (Or.inr rfl)) (q := 95) rfl (by decide) (t := 100) rfl (fun (c29 : (Int32.ofNat (B 3)) = (Int32.ofNat (B A4))) => ?_) (fun (c29 : ¬ ((Int32.ofNat (B 3)) = (Int32.ofNat (B A4)))) => ?_)
          · skip
            refine g_aloadN X d3_95 rfl (q := 96) rfl rfl ?_
            refine g_iconst X d3_96 rfl (q := 97) (v := 3) rfl ?_
            refine g_iload X d3_97 rfl (q := 99) rfl ?_
            refine g_iastore X A_a2 ⟨by decide, by decide⟩ g_a2 d3_99 (q := 100) rfl (fun T h X W => ?_)
            have O_a1 := O_a1.other W ne_a1_a2
            have A_u := A_u.other W ne_u_a2
            have A_z := A_z.other W ne_z_a2
            have A_a2 : AI Z h a2 .int 4 (own_up (fun j => Int32.ofNat (B j)) 3 (Int32.ofNat (B A3))) := A_a2.set W
            have K := K.wr W (Or.inl (List.mem_of_getElem? (i := 2) rfl))
            refine g_iload X d3_100 rfl (q := 102) rfl ?_
            refine g_iload X d3_102 rfl (q := 104) rfl ?_
            refine g_jT1 X (J := 112) (P := fun (s0_112 : Int32) => s0_112 = (bI ((¬ (R A3 = R A4)) ↔ (¬ ((Int32.ofNat (B A3)) = (Int32.ofNat (B A4))))))) (L := fun s0_112 => #[.val (.ref a1), .val (.ref a2), .val (.int p3), .val (.int (Int32.ofNat A3)), .val (.int (Int32.ofNat A4)), .val (.int (bI (¬ ((Int32.ofNat (B A3)) = (Int32.ofNat (B A4)))))), .val (.int (bI (¬ (R A3 = R A4)))), .val (.int (Int32.ofNat (B A4))), .val (.int (Int32.ofNat (B A3)))]) (S := fun s0_112 => [(.int s0_112)]) ?_ ?_
            · intro T X s0_112 hs0_112
              replace hs0_112 : s0_112 = (bI ((¬ (R A3 = R A4)) ↔ (¬ ((Int32.ofNat (B A3)) = (Int32.ofNat (B A4)))))) := hs0_112
              subst hs0_112
              show Goes p e below s _ n0 _ (T.setTop (mkF m 112 #[.val (.ref a1), .val (.ref a2), .val (.int p3), .val (.int (Int32.ofNat A3)), .val (.int (Int32.ofNat A4)), .val (.int (bI (¬ ((Int32.ofNat (B A3)) = (Int32.ofNat (B A4)))))), .val (.int (bI (¬ (R A3 = R A4)))), .val (.int (Int32.ofNat (B A4))), .val (.int (Int32.ofNat (B A3)))] [(.int (bI ((¬ (R A3 = R A4)) ↔ (¬ ((Int32.ofNat (B A3)) = (Int32.ofNat (B A4)))))))]))
              exact g_retZ X d3_112 (by decide) (by decide) (bI_01 _) ⟨U1_32, G1_32, R1_32, D1_32, (fun v => if B v = B A4 then B A3 else B v), congrArg (fun z => some (Value.int z)) (bI_t (own_same (hB A3 hA3) (hB A4 hA4) (by omega) (hL A3 A4 hA3 hA4))).symm, K, A_u, A_z, (A_a2.to (g := (fun j => if (fun j => Int32.ofNat (B j)) j = Int32.ofNat (B A4) then Int32.ofNat (B A3) else (fun j => Int32.ofNat (B j)) j)) (by intro j hj; rcases (show j = 0 ∨ j = 1 ∨ j = 2 ∨ j = 3 by omega) with rfl | rfl | rfl | rfl <;> simp [own_up, c1, c17, c25, c29])).to (own_rel hA3 hA4 (by omega) hB), hU1_32, LB.merge (lb := B) (R := R) hL hJ_32 hA3 hA4, own_relB hA3 hB⟩
            · intro J112_29
              refine g_icmpB X d3_104 (Or.inr (Or.inr rfl)) (q := 107) rfl (by decide) (t := 111) rfl (fun c30 => ?_) (fun c30 => ?_)
              · replace c30 : (¬ (R A3 = R A4)) ↔ (¬ ((Int32.ofNat (B A3)) = (Int32.ofNat (B A4)))) := (bI_inj _ _).mp c30
                refine g_iconst X d3_107 rfl (q := 108) (v := 1) rfl ?_
                refine g_goto X d3_108 (by decide) (q := 112) rfl ?_
                exact J112_29 T X _ (bI_t c30)
              · replace c30 : ¬ ((¬ (R A3 = R A4)) ↔ (¬ ((Int32.ofNat (B A3)) = (Int32.ofNat (B A4))))) := fun z => c30 ((bI_inj _ _).mpr z)
                refine g_iconst X d3_111 rfl (q := 112) (v := 0) rfl ?_
                exact J112_29 T X _ (bI_f c30)
          · skip
            refine g_iload X d3_100 rfl (q := 102) rfl ?_
            refine g_iload X d3_102 rfl (q := 104) rfl ?_
            refine g_jT1 X (J := 112) (P := fun (s0_112 : Int32) => s0_112 = (bI ((¬ (R A3 = R A4)) ↔ (¬ ((Int32.ofNat (B A3)) = (Int32.ofNat (B A4))))))) (L := fun s0_112 => #[.val (.ref a1), .val (.ref a2), .val (.int p3), .val (.int (Int32.ofNat A3)), .val (.int (Int32.ofNat A4)), .val (.int (bI (¬ ((Int32.ofNat (B A3)) = (Int32.ofNat (B A4)))))), .val (.int (bI (¬ (R A3 = R A4)))), .val (.int (Int32.ofNat (B A4))), .val (.int (Int32.ofNat (B A3)))]) (S := fun s0_112 => [(.int s0_112)]) ?_ ?_
            · intro T X s0_112 hs0_112
              replace hs0_112 : s0_112 = (bI ((¬ (R A3 = R A4)) ↔ (¬ ((Int32.ofNat (B A3)) = (Int32.ofNat (B A4)))))) := hs0_112
              subst hs0_112
              show Goes p e below s _ n0 _ (T.setTop (mkF m 112 #[.val (.ref a1), .val (.ref a2), .val (.int p3), .val (.int (Int32.ofNat A3)), .val (.int (Int32.ofNat A4)), .val (.int (bI (¬ ((Int32.ofNat (B A3)) = (Int32.ofNat (B A4)))))), .val (.int (bI (¬ (R A3 = R A4)))), .val (.int (Int32.ofNat (B A4))), .val (.int (Int32.ofNat (B A3)))] [(.int (bI ((¬ (R A3 = R A4)) ↔ (¬ ((Int32.ofNat (B A3)) = (Int32.ofNat (B A4)))))))]))
              exact g_retZ X d3_112 (by decide) (by decide) (bI_01 _) ⟨U1_32, G1_32, R1_32, D1_32, (fun v => if B v = B A4 then B A3 else B v), congrArg (fun z => some (Value.int z)) (bI_t (own_same (hB A3 hA3) (hB A4 hA4) (by omega) (hL A3 A4 hA3 hA4))).symm, K, A_u, A_z, (A_a2.to (g := (fun j => if (fun j => Int32.ofNat (B j)) j = Int32.ofNat (B A4) then Int32.ofNat (B A3) else (fun j => Int32.ofNat (B j)) j)) (by intro j hj; rcases (show j = 0 ∨ j = 1 ∨ j = 2 ∨ j = 3 by omega) with rfl | rfl | rfl | rfl <;> simp [own_up, c1, c17, c25, c29])).to (own_rel hA3 hA4 (by omega) hB), hU1_32, LB.merge (lb := B) (R := R) hL hJ_32 hA3 hA4, own_relB hA3 hB⟩
            · intro J112_30
              refine g_icmpB X d3_104 (Or.inr (Or.inr rfl)) (q := 107) rfl (by decide) (t := 111) rfl (fun c31 => ?_) (fun c31 => ?_)
              · replace c31 : (¬ (R A3 = R A4)) ↔ (¬ ((Int32.ofNat (B A3)) = (Int32.ofNat (B A4)))) := (bI_inj _ _).mp c31
                refine g_iconst X d3_107 rfl (q := 108) (v := 1) rfl ?_
                refine g_goto X d3_108 (by decide) (q := 112) rfl ?_
                exact J112_30 T X _ (bI_t c31)
              · replace c31 : ¬ ((¬ (R A3 = R A4)) ↔ (¬ ((Int32.ofNat (B A3)) = (Int32.ofNat (B A4))))) := fun z => c31 ((bI_inj _ _).mpr z)
                refine g_iconst X d3_111 rfl (q := 112) (v := 0) rfl ?_
                exact J112_30 T X _ (bI_f c31)
  · intro J26_31
    refine g_icmpA X d3_18 (Or.inr (Or.inr rfl)) (q := 21) rfl (by decide) (t := 25) rfl (fun (c32 : (Int32.ofNat (B A3)) = (Int32.ofNat (B A4))) => ?_) (fun (c32 : ¬ ((Int32.ofNat (B A3)) = (Int32.ofNat (B A4)))) => ?_)
    · skip
      refine g_iconst X d3_25 rfl (q := 26) (v := 0) rfl ?_
      exact J26_31 T X _ (bI_f (fun z => z c32))
    · skip
      refine g_iconst X d3_21 rfl (q := 22) (v := 1) rfl ?_
      refine g_goto X d3_22 (by decide) (q := 26) rfl ?_
      exact J26_31 T X _ (bI_t c32)
theorem pn0 : plainName "arborlight/ComponentsRootPinLaw" = true := by first | (simp [plainName, overriddenIn]; done) | decide +kernel
theorem ef0 (m : MethodId) (x0 : Int32) (x1 : Int32) (x2 : Int32) (x3 : Int32) : entryFrame m #[(.int x0), (.int x1), (.int x2), (.int x3)] maxLocals = mkF m 0 #[.val (.int x0), .val (.int x1), .val (.int x2), .val (.int x3), .unset, .unset, .unset, .unset, .unset, .unset] [] := by first | (simp [entryFrame, mkF, argsToLocals, Value.category, maxLocals]; done) | rfl
set_option maxRecDepth 65536 in
set_option maxHeartbeats 40000000 in
theorem rm0 (l : Launch) (Z : State) (a0 : Array Value) (hw : ∀ d ∈ tables_1, d.before a0 Z = true) (ws : List Jvm.Cond) (p1 : Int32) (p2 : Int32) (p3 : Int32) (p4 : Int32) (h0 : Heap) (n0 : Nat) (Z0 : n0 ≤ h0.size) :
    Met l Z x code maxLocals ret room_1 ws n0 #[(.int p1), (.int p2), (.int p3), (.int p4)] h0 (fun v h' => v = some (.int 1)) := by
  refine Met.intro (plainFor_of_name pn0) Z0 ?_
  intro p e s m below meth c T X
  refine g_cast (ef0 m p1 p2 p3 p4) ?_
  refine g_iconst X at_0 rfl (q := 1) (v := 4) rfl ?_
  refine g_newarrI X (aty := .int) rfl (tw0 hw) at_1 (q := 3) rfl (by decide) (cap := 4) (by decide) (by decide) (c2 := 1) (s2 := 4) rfl rfl (by decide) (by decide) (fun T h' b3 X gz_b3 g_b3 E A_new => ?_)
  have A_b3 : AI Z h' b3 .int 4 (fun _ => 0) := A_new
  refine g_dup X at_3 rfl (q := 4) rfl ?_
  refine g_iconst X at_4 rfl (q := 5) (v := 0) rfl ?_
  refine g_iconst X at_5 rfl (q := 6) (v := 0) rfl ?_
  refine g_iastore X A_b3 ⟨by decide, by decide⟩ g_b3 at_6 (q := 7) rfl (fun T h X W => ?_)
  have A_b3 : AI Z h b3 .int 4 (own_up (fun _ => 0) 0 (0 : Int32)) := A_b3.set W
  refine g_dup X at_7 rfl (q := 8) rfl ?_
  refine g_iconst X at_8 rfl (q := 9) (v := 1) rfl ?_
  refine g_iconst X at_9 rfl (q := 10) (v := 1) rfl ?_
  refine g_iastore X A_b3 ⟨by decide, by decide⟩ g_b3 at_10 (q := 11) rfl (fun T h X W => ?_)
  have A_b3 : AI Z h b3 .int 4 (own_up (own_up (fun _ => 0) 0 (0 : Int32)) 1 (1 : Int32)) := A_b3.set W
  refine g_dup X at_11 rfl (q := 12) rfl ?_
  refine g_iconst X at_12 rfl (q := 13) (v := 2) rfl ?_
  refine g_iconst X at_13 rfl (q := 14) (v := 2) rfl ?_
  refine g_iastore X A_b3 ⟨by decide, by decide⟩ g_b3 at_14 (q := 15) rfl (fun T h X W => ?_)
  have A_b3 : AI Z h b3 .int 4 (own_up (own_up (own_up (fun _ => 0) 0 (0 : Int32)) 1 (1 : Int32)) 2 (2 : Int32)) := A_b3.set W
  refine g_dup X at_15 rfl (q := 16) rfl ?_
  refine g_iconst X at_16 rfl (q := 17) (v := 3) rfl ?_
  refine g_iconst X at_17 rfl (q := 18) (v := 3) rfl ?_
  refine g_iastore X A_b3 ⟨by decide, by decide⟩ g_b3 at_18 (q := 19) rfl (fun T h X W => ?_)
  have A_b3 : AI Z h b3 .int 4 (own_up (own_up (own_up (own_up (fun _ => 0) 0 (0 : Int32)) 1 (1 : Int32)) 2 (2 : Int32)) 3 (3 : Int32)) := A_b3.set W
  have A_b3 : AI Z h b3 .int 4 (fun j => Int32.ofNat ((fun k => k) j)) := A_b3.to (by decide)
  refine g_astore X at_19 rfl (q := 21) (L' := #[.val (.int p1), .val (.int p2), .val (.int p3), .val (.int p4), .val (.ref b3), .unset, .unset, .unset, .unset, .unset]) rfl rfl ?_
  refine g_new X (tw1 hw) (tw2 hw) (tw3 hw) at_21 (q := 24) rfl (c2 := 2) (s2 := 6) rfl rfl (by decide) (by decide) (fun T h' b4 X gz_b4 g_b4 E Ex D => ?_)
  have ne_b3_b4 := own_new gz_b4 A_b3.lt
  have ne_b4_b3 := own_apS ne_b3_b4
  have A_b3 := A_b3.ext E
  have O_b4 : O_Components Z h' b4 .null .null := ⟨Ex, D (Or.inr (tw11 hw)) (ty := (.array .int)) (by decide), D (Or.inr (tw13 hw)) (ty := (.array .int)) (by decide)⟩
  refine g_dup X at_24 rfl (q := 25) rfl ?_
  refine g_iconst X at_25 rfl (q := 26) (v := 4) rfl ?_
  refine g_callI X [(.int (4 : Int32))] [(.ref b4)] rfl (tw4 hw) (tw5 hw) (tw3 hw) (tw6 hw) (by decide) (rm1 l Z a0 hw [] b4 (4 : Int32) _ n0 X.size O_b4 g_b4 rfl) pd2 rfl rfl rfl at_26 (q := 29) rfl (W := 1) rfl (by decide) (by decide) (c2 := 4) (s2 := 14) rfl rfl (by decide) (by decide) (fun v T h' X hQ => ?_)
  obtain ⟨u_26, z_26, rfl, Kc, O_b4', A_u_26', A_z_26', g_u_26, g_z_26, sq_u_26, sq_z_26, ne_u_26_z_26, ne_z_26_u_26⟩ := hQ
  have ne_b3_u_26 := own_far A_b3.lt sq_u_26
  have ne_u_26_b3 := own_apS ne_b3_u_26
  have ne_b4_u_26 := own_far O_b4.1.lt sq_u_26
  have ne_u_26_b4 := own_apS ne_b4_u_26
  have ne_b3_z_26 := own_far A_b3.lt sq_z_26
  have ne_z_26_b3 := own_apS ne_b3_z_26
  have ne_b4_z_26 := own_far O_b4.1.lt sq_z_26
  have ne_z_26_b4 := own_apS ne_b4_z_26
  have A_b3 := A_b3.keep Kc (ninS ne_b3_b4 nin0)
  have O_b4 := O_b4'
  have A_u_26 := A_u_26'
  have A_z_26 := A_z_26'
  show Goes p e below s _ n0 _ (T.setTop (mkF m 29 #[.val (.int p1), .val (.int p2), .val (.int p3), .val (.int p4), .val (.ref b3), .unset, .unset, .unset, .unset, .unset] [(.ref b4)]))
  refine g_astore X at_29 rfl (q := 31) (L' := #[.val (.int p1), .val (.int p2), .val (.int p3), .val (.int p4), .val (.ref b3), .val (.ref b4), .unset, .unset, .unset, .unset]) rfl rfl ?_
  refine g_aload X at_31 rfl (q := 33) rfl rfl ?_
  refine g_aload X at_33 rfl (q := 35) rfl rfl ?_
  refine g_iloadN X at_35 rfl (q := 36) rfl ?_
  refine g_callS X [(.ref b4), (.ref b3), (.int p1)] [] (tw14 hw) (tw15 hw) (tw16 hw) (tw17 hw) (by decide) (rm3 l Z a0 hw [] b4 b3 p1 u_26 z_26 (fun k => k) (fun _ => 1) (fun k => k) (fun _ => 0) (fun k => k) _ n0 X.size O_b4 A_u_26 A_z_26 A_b3 g_u_26 g_z_26 g_b3 ne_b4_u_26 ne_b4_z_26 ne_b4_b3 ne_u_26_b4 ne_u_26_z_26 ne_u_26_b3 ne_z_26_b4 ne_z_26_u_26 ne_z_26_b3 ne_b3_b4 ne_b3_u_26 ne_b3_z_26 (UF.id 4) (fun _ _ _ _ => Iff.rfl) (fun _ h => h)) pd3 rfl rfl rfl at_36 (q := 39) rfl (W := 0) rfl (by decide) (by decide) (c2 := 4) (s2 := 14) rfl rfl (by decide) (by decide) (fun v T h' X hQ => ?_)
  obtain ⟨U1_36, G1_36, R1_36, D1_36, B1_36, rfl, Kc, A_u_26', A_z_26', A_b3', hU1_36, hL1_36, hB1_36⟩ := hQ
  have O_b4 := O_b4.keep Kc (ninS ne_b4_u_26 (ninS ne_b4_z_26 (ninS ne_b4_b3 nin0)))
  have A_u_26 := A_u_26'
  have A_z_26 := A_z_26'
  have A_b3 := A_b3'
  show Goes p e below s _ n0 _ (T.setTop (mkF m 39 #[.val (.int p1), .val (.int p2), .val (.int p3), .val (.int p4), .val (.ref b3), .val (.ref b4), .unset, .unset, .unset, .unset] [(.int (1 : Int32))]))
  refine g_ifB X at_39 (Or.inr (Or.inr rfl)) (q := 42) rfl (by decide) (t := 44) rfl (fun (c1 : (1 : Int32) = (0 : Int32)) => ?_) (fun (c1 : ¬ ((1 : Int32) = (0 : Int32))) => ?_)
  · skip
    exact absurd c1 (by decide)
  · skip
    refine g_aload X at_44 rfl (q := 46) rfl rfl ?_
    refine g_aload X at_46 rfl (q := 48) rfl rfl ?_
    refine g_iloadN X at_48 rfl (q := 49) rfl ?_
    refine g_callS X [(.ref b4), (.ref b3), (.int p2)] [] (tw14 hw) (tw15 hw) (tw16 hw) (tw17 hw) (by decide) (rm3 l Z a0 hw [] b4 b3 p2 u_26 z_26 U1_36 G1_36 R1_36 D1_36 B1_36 _ n0 X.size O_b4 A_u_26 A_z_26 A_b3 g_u_26 g_z_26 g_b3 ne_b4_u_26 ne_b4_z_26 ne_b4_b3 ne_u_26_b4 ne_u_26_z_26 ne_u_26_b3 ne_z_26_b4 ne_z_26_u_26 ne_z_26_b3 ne_b3_b4 ne_b3_u_26 ne_b3_z_26 hU1_36 hL1_36 hB1_36) pd3 rfl rfl rfl at_49 (q := 52) rfl (W := 0) rfl (by decide) (by decide) (c2 := 4) (s2 := 14) rfl rfl (by decide) (by decide) (fun v T h' X hQ => ?_)
    obtain ⟨U1_49, G1_49, R1_49, D1_49, B1_49, rfl, Kc, A_u_26', A_z_26', A_b3', hU1_49, hL1_49, hB1_49⟩ := hQ
    have O_b4 := O_b4.keep Kc (ninS ne_b4_u_26 (ninS ne_b4_z_26 (ninS ne_b4_b3 nin0)))
    have A_u_26 := A_u_26'
    have A_z_26 := A_z_26'
    have A_b3 := A_b3'
    show Goes p e below s _ n0 _ (T.setTop (mkF m 52 #[.val (.int p1), .val (.int p2), .val (.int p3), .val (.int p4), .val (.ref b3), .val (.ref b4), .unset, .unset, .unset, .unset] [(.int (1 : Int32))]))
    refine g_ifB X at_52 (Or.inr (Or.inr rfl)) (q := 55) rfl (by decide) (t := 57) rfl (fun (c2 : (1 : Int32) = (0 : Int32)) => ?_) (fun (c2 : ¬ ((1 : Int32) = (0 : Int32))) => ?_)
    · skip
      exact absurd c2 (by decide)
    · skip
      refine g_aload X at_57 rfl (q := 59) rfl rfl ?_
      refine g_aload X at_59 rfl (q := 61) rfl rfl ?_
      refine g_iloadN X at_61 rfl (q := 62) rfl ?_
      refine g_callS X [(.ref b4), (.ref b3), (.int p3)] [] (tw14 hw) (tw15 hw) (tw16 hw) (tw17 hw) (by decide) (rm3 l Z a0 hw [] b4 b3 p3 u_26 z_26 U1_49 G1_49 R1_49 D1_49 B1_49 _ n0 X.size O_b4 A_u_26 A_z_26 A_b3 g_u_26 g_z_26 g_b3 ne_b4_u_26 ne_b4_z_26 ne_b4_b3 ne_u_26_b4 ne_u_26_z_26 ne_u_26_b3 ne_z_26_b4 ne_z_26_u_26 ne_z_26_b3 ne_b3_b4 ne_b3_u_26 ne_b3_z_26 hU1_49 hL1_49 hB1_49) pd3 rfl rfl rfl at_62 (q := 65) rfl (W := 0) rfl (by decide) (by decide) (c2 := 4) (s2 := 14) rfl rfl (by decide) (by decide) (fun v T h' X hQ => ?_)
      obtain ⟨U1_62, G1_62, R1_62, D1_62, B1_62, rfl, Kc, A_u_26', A_z_26', A_b3', hU1_62, hL1_62, hB1_62⟩ := hQ
      have O_b4 := O_b4.keep Kc (ninS ne_b4_u_26 (ninS ne_b4_z_26 (ninS ne_b4_b3 nin0)))
      have A_u_26 := A_u_26'
      have A_z_26 := A_z_26'
      have A_b3 := A_b3'
      show Goes p e below s _ n0 _ (T.setTop (mkF m 65 #[.val (.int p1), .val (.int p2), .val (.int p3), .val (.int p4), .val (.ref b3), .val (.ref b4), .unset, .unset, .unset, .unset] [(.int (1 : Int32))]))
      refine g_ifB X at_65 (Or.inr (Or.inr rfl)) (q := 68) rfl (by decide) (t := 70) rfl (fun (c3 : (1 : Int32) = (0 : Int32)) => ?_) (fun (c3 : ¬ ((1 : Int32) = (0 : Int32))) => ?_)
      · skip
        exact absurd c3 (by decide)
      · skip
        refine g_iloadN X at_70 rfl (q := 71) rfl ?_
        refine g_iconst X at_71 rfl (q := 72) (v := 3) rfl ?_
        refine g_iand X at_72 rfl (q := 73) ?_
        refine g_letI (fun x0 hx0 => ?_)
        obtain ⟨A6, hA6, rfl⟩ : ∃ A : Nat, A < 4 ∧ x0 = Int32.ofNat A := own_ex (by rw [hx0]; exact own_m3 _)
        refine g_istore X at_73 rfl (q := 75) (L' := #[.val (.int p1), .val (.int p2), .val (.int p3), .val (.int p4), .val (.ref b3), .val (.ref b4), .val (.int (Int32.ofNat A6)), .unset, .unset, .unset]) rfl ?_
        refine g_iloadN X at_75 rfl (q := 76) rfl ?_
        refine g_iconst X at_76 rfl (q := 77) (v := 2) rfl ?_
        refine g_iushr X at_77 rfl (q := 78) ?_
        refine g_iconst X at_78 rfl (q := 79) (v := 3) rfl ?_
        refine g_iand X at_79 rfl (q := 80) ?_
        refine g_letI (fun x0 hx0 => ?_)
        obtain ⟨A7, hA7, rfl⟩ : ∃ A : Nat, A < 4 ∧ x0 = Int32.ofNat A := own_ex (by rw [hx0]; exact own_m3 _)
        refine g_istore X at_80 rfl (q := 82) (L' := #[.val (.int p1), .val (.int p2), .val (.int p3), .val (.int p4), .val (.ref b3), .val (.ref b4), .val (.int (Int32.ofNat A6)), .val (.int (Int32.ofNat A7)), .unset, .unset]) rfl ?_
        refine g_aload X at_82 rfl (q := 84) rfl rfl ?_
        refine g_iload X at_84 rfl (q := 86) rfl ?_
        refine g_callV X O_b4.1 [(.int (Int32.ofNat A6))] [] (tw28 hw) (tw24 hw) (tw26 hw) (tw25 hw) (tw3 hw) (tw27 hw) (by decide) (rm5 l Z a0 hw [] b4 (Int32.ofNat A6) u_26 z_26 U1_62 R1_62 D1_62 A6 _ n0 X.size O_b4 A_u_26 g_u_26 ne_b4_u_26 ne_u_26_b4 rfl hA6 hU1_62) pd0 rfl rfl rfl at_86 (q := 89) rfl (W := 0) rfl (by decide) (by decide) (c2 := 4) (s2 := 14) rfl rfl (by decide) (by decide) (fun v T h' X hQ => ?_)
        obtain ⟨U1_86, rfl, Kc, A_u_26', hU1_86⟩ := hQ
        have A_b3 := A_b3.keep Kc (ninS ne_b3_u_26 nin0)
        have O_b4 := O_b4.keep Kc (ninS ne_b4_u_26 nin0)
        have A_z_26 := A_z_26.keep Kc (ninS ne_z_26_u_26 nin0)
        have A_u_26 := A_u_26'
        show Goes p e below s _ n0 _ (T.setTop (mkF m 89 #[.val (.int p1), .val (.int p2), .val (.int p3), .val (.int p4), .val (.ref b3), .val (.ref b4), .val (.int (Int32.ofNat A6)), .val (.int (Int32.ofNat A7)), .unset, .unset] [(.int (Int32.ofNat (R1_62 A6)))]))
        refine g_istore X at_89 rfl (q := 91) (L' := #[.val (.int p1), .val (.int p2), .val (.int p3), .val (.int p4), .val (.ref b3), .val (.ref b4), .val (.int (Int32.ofNat A6)), .val (.int (Int32.ofNat A7)), .val (.int (Int32.ofNat (R1_62 A6))), .unset]) rfl ?_
        refine g_iload X at_91 rfl (q := 93) rfl ?_
        refine g_ifA X at_93 (Or.inl rfl) (q := 96) rfl (by decide) (t := 102) rfl (fun (c4 : (Int32.ofNat (R1_62 A6)) < (0 : Int32)) => ?_) (fun (c4 : ¬ ((Int32.ofNat (R1_62 A6)) < (0 : Int32))) => ?_)
        · skip
          exact absurd c4 (own_nl0 (hU1_62 A6 hA6).2.1)
        · skip
          refine g_iload X at_96 rfl (q := 98) rfl ?_
          refine g_iconst X at_98 rfl (q := 99) (v := 3) rfl ?_
          refine g_icmpB X at_99 (Or.inr (Or.inl rfl)) (q := 102) rfl (by decide) (t := 104) rfl (fun (c5 : (3 : Int32) < (Int32.ofNat (R1_62 A6))) => ?_) (fun (c5 : ¬ ((3 : Int32) < (Int32.ofNat (R1_62 A6)))) => ?_)
          · skip
            exact absurd c5 (own_nl3 (hU1_62 A6 hA6).2.1)
          · skip
            refine g_aload X at_104 rfl (q := 106) rfl rfl ?_
            refine g_iload X at_106 rfl (q := 108) rfl ?_
            refine g_iaload X A_b3 (own_ixN (n := 4) (hU1_62 A6 hA6).2.1 (by omega)) at_108 (q := 109) rfl ?_
            refine g_eqI (y := (Int32.ofNat (B1_62 (R1_62 A6)))) (own_at B1_62 (Nat.lt_of_lt_of_le (hU1_62 A6 hA6).2.1 (by omega))) ?_
            refine g_aload X at_109 rfl (q := 111) rfl rfl ?_
            refine g_iload X at_111 rfl (q := 113) rfl ?_
            refine g_iaload X A_b3 (own_ixN (n := 4) hA6 (by omega)) at_113 (q := 114) rfl ?_
            refine g_eqI (y := (Int32.ofNat (B1_62 A6))) (own_at B1_62 (Nat.lt_of_lt_of_le hA6 (by omega))) ?_
            refine g_icmpA X at_114 (Or.inr (Or.inr rfl)) (q := 117) rfl (by decide) (t := 119) rfl (fun (c6 : (Int32.ofNat (B1_62 (R1_62 A6))) = (Int32.ofNat (B1_62 A6))) => ?_) (fun (c6 : ¬ ((Int32.ofNat (B1_62 (R1_62 A6))) = (Int32.ofNat (B1_62 A6)))) => ?_)
            · skip
              refine g_aload X at_119 rfl (q := 121) rfl rfl ?_
              refine g_iload X at_121 rfl (q := 123) rfl ?_
              refine g_callV X O_b4.1 [(.int (Int32.ofNat (R1_62 A6)))] [] (tw28 hw) (tw24 hw) (tw26 hw) (tw25 hw) (tw3 hw) (tw27 hw) (by decide) (rm5 l Z a0 hw [] b4 (Int32.ofNat (R1_62 A6)) u_26 z_26 U1_86 R1_62 D1_62 (R1_62 A6) _ n0 X.size O_b4 A_u_26 g_u_26 ne_b4_u_26 ne_u_26_b4 rfl (hU1_62 A6 hA6).2.1 hU1_86) pd0 rfl rfl rfl at_123 (q := 126) rfl (W := 0) rfl (by decide) (by decide) (c2 := 4) (s2 := 14) rfl rfl (by decide) (by decide) (fun v T h' X hQ => ?_)
              obtain ⟨U1_123, rfl, Kc, A_u_26', hU1_123⟩ := hQ
              have A_b3 := A_b3.keep Kc (ninS ne_b3_u_26 nin0)
              have O_b4 := O_b4.keep Kc (ninS ne_b4_u_26 nin0)
              have A_z_26 := A_z_26.keep Kc (ninS ne_z_26_u_26 nin0)
              have A_u_26 := A_u_26'
              show Goes p e below s _ n0 _ (T.setTop (mkF m 126 #[.val (.int p1), .val (.int p2), .val (.int p3), .val (.int p4), .val (.ref b3), .val (.ref b4), .val (.int (Int32.ofNat A6)), .val (.int (Int32.ofNat A7)), .val (.int (Int32.ofNat (R1_62 A6))), .unset] [(.int (Int32.ofNat (R1_62 (R1_62 A6))))]))
              refine g_iload X at_126 rfl (q := 128) rfl ?_
              refine g_icmpA X at_128 (Or.inr (Or.inr rfl)) (q := 131) rfl (by decide) (t := 133) rfl (fun (c7 : (Int32.ofNat (R1_62 (R1_62 A6))) = (Int32.ofNat (R1_62 A6))) => ?_) (fun (c7 : ¬ ((Int32.ofNat (R1_62 (R1_62 A6))) = (Int32.ofNat (R1_62 A6)))) => ?_)
              · skip
                refine g_aload X at_133 rfl (q := 135) rfl rfl ?_
                refine g_iload X at_135 rfl (q := 137) rfl ?_
                refine g_callV X O_b4.1 [(.int (Int32.ofNat A6))] [] (tw28 hw) (tw24 hw) (tw26 hw) (tw25 hw) (tw3 hw) (tw27 hw) (by decide) (rm5 l Z a0 hw [] b4 (Int32.ofNat A6) u_26 z_26 U1_123 R1_62 D1_62 A6 _ n0 X.size O_b4 A_u_26 g_u_26 ne_b4_u_26 ne_u_26_b4 rfl hA6 hU1_123) pd0 rfl rfl rfl at_137 (q := 140) rfl (W := 0) rfl (by decide) (by decide) (c2 := 4) (s2 := 14) rfl rfl (by decide) (by decide) (fun v T h' X hQ => ?_)
                obtain ⟨U1_137, rfl, Kc, A_u_26', hU1_137⟩ := hQ
                have A_b3 := A_b3.keep Kc (ninS ne_b3_u_26 nin0)
                have O_b4 := O_b4.keep Kc (ninS ne_b4_u_26 nin0)
                have A_z_26 := A_z_26.keep Kc (ninS ne_z_26_u_26 nin0)
                have A_u_26 := A_u_26'
                show Goes p e below s _ n0 _ (T.setTop (mkF m 140 #[.val (.int p1), .val (.int p2), .val (.int p3), .val (.int p4), .val (.ref b3), .val (.ref b4), .val (.int (Int32.ofNat A6)), .val (.int (Int32.ofNat A7)), .val (.int (Int32.ofNat (R1_62 A6))), .unset] [(.int (Int32.ofNat (R1_62 A6)))]))
                refine g_iload X at_140 rfl (q := 142) rfl ?_
                refine g_icmpA X at_142 (Or.inr (Or.inr rfl)) (q := 145) rfl (by decide) (t := 147) rfl (fun (c8 : (Int32.ofNat (R1_62 A6)) = (Int32.ofNat (R1_62 A6))) => ?_) (fun (c8 : ¬ ((Int32.ofNat (R1_62 A6)) = (Int32.ofNat (R1_62 A6)))) => ?_)
                · skip
                  refine g_aload X at_147 rfl (q := 149) rfl rfl ?_
                  refine g_iload X at_149 rfl (q := 151) rfl ?_
                  refine g_callV X O_b4.1 [(.int (Int32.ofNat A7))] [] (tw28 hw) (tw24 hw) (tw26 hw) (tw25 hw) (tw3 hw) (tw27 hw) (by decide) (rm5 l Z a0 hw [] b4 (Int32.ofNat A7) u_26 z_26 U1_137 R1_62 D1_62 A7 _ n0 X.size O_b4 A_u_26 g_u_26 ne_b4_u_26 ne_u_26_b4 rfl hA7 hU1_137) pd0 rfl rfl rfl at_151 (q := 154) rfl (W := 0) rfl (by decide) (by decide) (c2 := 4) (s2 := 14) rfl rfl (by decide) (by decide) (fun v T h' X hQ => ?_)
                  obtain ⟨U1_151, rfl, Kc, A_u_26', hU1_151⟩ := hQ
                  have A_b3 := A_b3.keep Kc (ninS ne_b3_u_26 nin0)
                  have O_b4 := O_b4.keep Kc (ninS ne_b4_u_26 nin0)
                  have A_z_26 := A_z_26.keep Kc (ninS ne_z_26_u_26 nin0)
                  have A_u_26 := A_u_26'
                  show Goes p e below s _ n0 _ (T.setTop (mkF m 154 #[.val (.int p1), .val (.int p2), .val (.int p3), .val (.int p4), .val (.ref b3), .val (.ref b4), .val (.int (Int32.ofNat A6)), .val (.int (Int32.ofNat A7)), .val (.int (Int32.ofNat (R1_62 A6))), .unset] [(.int (Int32.ofNat (R1_62 A7)))]))
                  refine g_istore X at_154 rfl (q := 156) (L' := #[.val (.int p1), .val (.int p2), .val (.int p3), .val (.int p4), .val (.ref b3), .val (.ref b4), .val (.int (Int32.ofNat A6)), .val (.int (Int32.ofNat A7)), .val (.int (Int32.ofNat (R1_62 A6))), .val (.int (Int32.ofNat (R1_62 A7)))]) rfl ?_
                  refine g_iload X at_156 rfl (q := 158) rfl ?_
                  refine g_ifA X at_158 (Or.inl rfl) (q := 161) rfl (by decide) (t := 167) rfl (fun (c9 : (Int32.ofNat (R1_62 A7)) < (0 : Int32)) => ?_) (fun (c9 : ¬ ((Int32.ofNat (R1_62 A7)) < (0 : Int32))) => ?_)
                  · skip
                    exact absurd c9 (own_nl0 (hU1_62 A7 hA7).2.1)
                  · skip
                    refine g_iload X at_161 rfl (q := 163) rfl ?_
                    refine g_iconst X at_163 rfl (q := 164) (v := 3) rfl ?_
                    refine g_icmpB X at_164 (Or.inr (Or.inl rfl)) (q := 167) rfl (by decide) (t := 169) rfl (fun (c10 : (3 : Int32) < (Int32.ofNat (R1_62 A7))) => ?_) (fun (c10 : ¬ ((3 : Int32) < (Int32.ofNat (R1_62 A7)))) => ?_)
                    · skip
                      exact absurd c10 (own_nl3 (hU1_62 A7 hA7).2.1)
                    · skip
                      refine g_aload X at_169 rfl (q := 171) rfl rfl ?_
                      refine g_iload X at_171 rfl (q := 173) rfl ?_
                      refine g_iaload X A_b3 (own_ixN (n := 4) (hU1_62 A7 hA7).2.1 (by omega)) at_173 (q := 174) rfl ?_
                      refine g_eqI (y := (Int32.ofNat (B1_62 (R1_62 A7)))) (own_at B1_62 (Nat.lt_of_lt_of_le (hU1_62 A7 hA7).2.1 (by omega))) ?_
                      refine g_aload X at_174 rfl (q := 176) rfl rfl ?_
                      refine g_iload X at_176 rfl (q := 178) rfl ?_
                      refine g_iaload X A_b3 (own_ixN (n := 4) hA7 (by omega)) at_178 (q := 179) rfl ?_
                      refine g_eqI (y := (Int32.ofNat (B1_62 A7))) (own_at B1_62 (Nat.lt_of_lt_of_le hA7 (by omega))) ?_
                      refine g_icmpA X at_179 (Or.inr (Or.inr rfl)) (q := 182) rfl (by decide) (t := 184) rfl (fun (c11 : (Int32.ofNat (B1_62 (R1_62 A7))) = (Int32.ofNat (B1_62 A7))) => ?_) (fun (c11 : ¬ ((Int32.ofNat (B1_62 (R1_62 A7))) = (Int32.ofNat (B1_62 A7)))) => ?_)
                      · skip
                        refine g_iload X at_184 rfl (q := 186) rfl ?_
                        refine g_iload X at_186 rfl (q := 188) rfl ?_
                        refine g_jT1 X (J := 196) (P := fun (s0_196 : Int32) => s0_196 = (bI ((Int32.ofNat (R1_62 A7)) = (Int32.ofNat (R1_62 A6))))) (L := fun s0_196 => #[.val (.int p1), .val (.int p2), .val (.int p3), .val (.int p4), .val (.ref b3), .val (.ref b4), .val (.int (Int32.ofNat A6)), .val (.int (Int32.ofNat A7)), .val (.int (Int32.ofNat (R1_62 A6))), .val (.int (Int32.ofNat (R1_62 A7)))]) (S := fun s0_196 => [(.int s0_196)]) ?_ ?_
                        · intro T X s0_196 hs0_196
                          replace hs0_196 : s0_196 = (bI ((Int32.ofNat (R1_62 A7)) = (Int32.ofNat (R1_62 A6)))) := hs0_196
                          subst hs0_196
                          show Goes p e below s _ n0 _ (T.setTop (mkF m 196 #[.val (.int p1), .val (.int p2), .val (.int p3), .val (.int p4), .val (.ref b3), .val (.ref b4), .val (.int (Int32.ofNat A6)), .val (.int (Int32.ofNat A7)), .val (.int (Int32.ofNat (R1_62 A6))), .val (.int (Int32.ofNat (R1_62 A7)))] [(.int (bI ((Int32.ofNat (R1_62 A7)) = (Int32.ofNat (R1_62 A6)))))]))
                          refine g_aload X at_196 rfl (q := 198) rfl rfl ?_
                          refine g_iload X at_198 rfl (q := 200) rfl ?_
                          refine g_iaload X A_b3 (own_ixN (n := 4) hA7 (by omega)) at_200 (q := 201) rfl ?_
                          refine g_eqI (y := (Int32.ofNat (B1_62 A7))) (own_at B1_62 (Nat.lt_of_lt_of_le hA7 (by omega))) ?_
                          refine g_aload X at_201 rfl (q := 203) rfl rfl ?_
                          refine g_iload X at_203 rfl (q := 205) rfl ?_
                          refine g_iaload X A_b3 (own_ixN (n := 4) hA6 (by omega)) at_205 (q := 206) rfl ?_
                          refine g_eqI (y := (Int32.ofNat (B1_62 A6))) (own_at B1_62 (Nat.lt_of_lt_of_le hA6 (by omega))) ?_
                          refine g_jT1 X (J := 214) (P := fun (s0_214 : Int32) => s0_214 = (bI ((Int32.ofNat (B1_62 A7)) = (Int32.ofNat (B1_62 A6))))) (L := fun s0_214 => #[.val (.int p1), .val (.int p2), .val (.int p3), .val (.int p4), .val (.ref b3), .val (.ref b4), .val (.int (Int32.ofNat A6)), .val (.int (Int32.ofNat A7)), .val (.int (Int32.ofNat (R1_62 A6))), .val (.int (Int32.ofNat (R1_62 A7)))]) (S := fun s0_214 => [(.int s0_214), (.int (bI ((Int32.ofNat (R1_62 A7)) = (Int32.ofNat (R1_62 A6)))))]) ?_ ?_
                          · intro T X s0_214 hs0_214
                            replace hs0_214 : s0_214 = (bI ((Int32.ofNat (B1_62 A7)) = (Int32.ofNat (B1_62 A6)))) := hs0_214
                            subst hs0_214
                            show Goes p e below s _ n0 _ (T.setTop (mkF m 214 #[.val (.int p1), .val (.int p2), .val (.int p3), .val (.int p4), .val (.ref b3), .val (.ref b4), .val (.int (Int32.ofNat A6)), .val (.int (Int32.ofNat A7)), .val (.int (Int32.ofNat (R1_62 A6))), .val (.int (Int32.ofNat (R1_62 A7)))] [(.int (bI ((Int32.ofNat (B1_62 A7)) = (Int32.ofNat (B1_62 A6))))), (.int (bI ((Int32.ofNat (R1_62 A7)) = (Int32.ofNat (R1_62 A6)))))]))
                            refine g_jT1 X (J := 222) (P := fun (s0_222 : Int32) => s0_222 = (bI (((Int32.ofNat (R1_62 A7)) = (Int32.ofNat (R1_62 A6))) ↔ ((Int32.ofNat (B1_62 A7)) = (Int32.ofNat (B1_62 A6)))))) (L := fun s0_222 => #[.val (.int p1), .val (.int p2), .val (.int p3), .val (.int p4), .val (.ref b3), .val (.ref b4), .val (.int (Int32.ofNat A6)), .val (.int (Int32.ofNat A7)), .val (.int (Int32.ofNat (R1_62 A6))), .val (.int (Int32.ofNat (R1_62 A7)))]) (S := fun s0_222 => [(.int s0_222)]) ?_ ?_
                            · intro T X s0_222 hs0_222
                              replace hs0_222 : s0_222 = (bI (((Int32.ofNat (R1_62 A7)) = (Int32.ofNat (R1_62 A6))) ↔ ((Int32.ofNat (B1_62 A7)) = (Int32.ofNat (B1_62 A6))))) := hs0_222
                              subst hs0_222
                              show Goes p e below s _ n0 _ (T.setTop (mkF m 222 #[.val (.int p1), .val (.int p2), .val (.int p3), .val (.int p4), .val (.ref b3), .val (.ref b4), .val (.int (Int32.ofNat A6)), .val (.int (Int32.ofNat A7)), .val (.int (Int32.ofNat (R1_62 A6))), .val (.int (Int32.ofNat (R1_62 A7)))] [(.int (bI (((Int32.ofNat (R1_62 A7)) = (Int32.ofNat (R1_62 A6))) ↔ ((Int32.ofNat (B1_62 A7)) = (Int32.ofNat (B1_62 A6))))))]))
                              refine g_retZ X at_222 (by decide) (by decide) (bI_01 _) (own_fin ?_)
                              show ((Int32.ofNat (R1_62 A7)) = (Int32.ofNat (R1_62 A6))) ↔ ((Int32.ofNat (B1_62 A7)) = (Int32.ofNat (B1_62 A6)))
                              rw [own_inj (by have := (hU1_62 A7 hA7).2.1; omega) (by have := (hU1_62 A6 hA6).2.1; omega)]
                              exact own_same' (hB1_62 A7 hA7) (hB1_62 A6 hA6) (by omega) (hL1_62 A7 A6 hA7 hA6)
                            · intro J222_11
                              refine g_icmpB X at_214 (Or.inr (Or.inr rfl)) (q := 217) rfl (by decide) (t := 221) rfl (fun c12 => ?_) (fun c12 => ?_)
                              · replace c12 : ((Int32.ofNat (R1_62 A7)) = (Int32.ofNat (R1_62 A6))) ↔ ((Int32.ofNat (B1_62 A7)) = (Int32.ofNat (B1_62 A6))) := (bI_inj _ _).mp c12
                                refine g_iconst X at_217 rfl (q := 218) (v := 1) rfl ?_
                                refine g_goto X at_218 (by decide) (q := 222) rfl ?_
                                exact J222_11 T X _ (bI_t c12)
                              · replace c12 : ¬ (((Int32.ofNat (R1_62 A7)) = (Int32.ofNat (R1_62 A6))) ↔ ((Int32.ofNat (B1_62 A7)) = (Int32.ofNat (B1_62 A6)))) := fun z => c12 ((bI_inj _ _).mpr z)
                                refine g_iconst X at_221 rfl (q := 222) (v := 0) rfl ?_
                                exact J222_11 T X _ (bI_f c12)
                          · intro J214_12
                            refine g_icmpB X at_206 (Or.inr (Or.inr rfl)) (q := 209) rfl (by decide) (t := 213) rfl (fun (c13 : (Int32.ofNat (B1_62 A7)) = (Int32.ofNat (B1_62 A6))) => ?_) (fun (c13 : ¬ ((Int32.ofNat (B1_62 A7)) = (Int32.ofNat (B1_62 A6)))) => ?_)
                            · skip
                              refine g_iconst X at_209 rfl (q := 210) (v := 1) rfl ?_
                              refine g_goto X at_210 (by decide) (q := 214) rfl ?_
                              exact J214_12 T X _ (bI_t c13)
                            · skip
                              refine g_iconst X at_213 rfl (q := 214) (v := 0) rfl ?_
                              exact J214_12 T X _ (bI_f c13)
                        · intro J196_13
                          refine g_icmpB X at_188 (Or.inr (Or.inr rfl)) (q := 191) rfl (by decide) (t := 195) rfl (fun (c14 : (Int32.ofNat (R1_62 A7)) = (Int32.ofNat (R1_62 A6))) => ?_) (fun (c14 : ¬ ((Int32.ofNat (R1_62 A7)) = (Int32.ofNat (R1_62 A6)))) => ?_)
                          · skip
                            refine g_iconst X at_191 rfl (q := 192) (v := 1) rfl ?_
                            refine g_goto X at_192 (by decide) (q := 196) rfl ?_
                            exact J196_13 T X _ (bI_t c14)
                          · skip
                            refine g_iconst X at_195 rfl (q := 196) (v := 0) rfl ?_
                            exact J196_13 T X _ (bI_f c14)
                      · skip
                        exact absurd (congrArg Int32.ofNat ((hL1_62 (R1_62 A7) A7 (hU1_62 A7 hA7).2.1 hA7).mpr (hU1_62 A7 hA7).2.2.2.2.2)) c11
                · skip
                  exact absurd rfl c8
              · skip
                exact absurd (congrArg Int32.ofNat (hU1_62 A6 hA6).2.2.2.2.2) c7
            · skip
              exact absurd (congrArg Int32.ofNat ((hL1_62 (R1_62 A6) A6 (hU1_62 A6 hA6).2.1 hA6).mpr (hU1_62 A6 hA6).2.2.2.2.2)) c6
set_option maxRecDepth 65536 in
set_option maxHeartbeats 40000000 in
theorem comes_1 {Post : Tables → Env → Array Value → State → Outcome → State → Prop} (hpost : ∀ tb e args s v u, (limb_1_1.after args s (.returned v) u = true ∧ limb_1_2.after args s (.returned v) u = true ∧ True) → FrameEnd s (.returned v) u (Jvm.fieldLocs frame_1_writes args s ++ Jvm.arrayLocs frame_1_arrays args s ++ Jvm.staticLocs frame_1_statics s) 16 128 → Post tb e args s (.returned v) u) :
    ArmFor flags0 classFile x code maxLocals ret World_1 tables_1 room_1 Calls_1 rest_1 Pre_1 Post := by
  intro l hfl _ _ p e ha hc hk s m args below hf hA hF happ hP
  obtain ⟨hcalls, hrest, hpre⟩ := hP
  obtain ⟨-, -, -, hnamed, -, -, -, hat⟩ := (Spec.applies_iff hf).mp happ
  obtain ⟨hg, hn⟩ := and_e (Cond.before_iff.mp (show (Jvm.Cond.and given_1 narrow_1).before args s = true from hpre))
  obtain ⟨u1, w1⟩ := and_e hg
  obtain ⟨u2, w2⟩ := and_e w1
  obtain ⟨u3, w3⟩ := and_e w2
  obtain ⟨u4, w4⟩ := and_e w3
  obtain ⟨z0, z1, z2, z3, rfl⟩ : ∃ z0 z1 z2 z3 : Value, args = #[z0, z1, z2, z3] := by
    have hs : args.size = 4 := by simpa [Cond.value, given_1] using u1
    obtain ⟨L⟩ := args
    match L, hs with
    | [z0, z1, z2, z3], _ => exact ⟨z0, z1, z2, z3, rfl⟩
  have hw := fun d (hd : d ∈ tables_1) => atoms_spec (ws := Jvm.Cond.code x code maxLocals ret :: tables_1) hat d (List.mem_cons_of_mem _ hd)
  obtain ⟨i0, ei0⟩ := is_v u2
  obtain rfl : z0 = (.int i0) := Option.some.inj ei0
  obtain ⟨i1, ei1⟩ := is_v u3
  obtain rfl : z1 = (.int i1) := Option.some.inj ei1
  obtain ⟨i2, ei2⟩ := is_v u4
  obtain rfl : z2 = (.int i2) := Option.some.inj ei2
  obtain ⟨i3, ei3⟩ := is_v w4
  obtain rfl : z3 = (.int i3) := Option.some.inj ei3
  obtain ⟨n, o, h1, h2, h3, _, L, rfl, ⟨N, rfl⟩, hq⟩ := rm0 l s _ hw tables_1 i0 i1 i2 i3 s.heap s.heap.size (Nat.le_refl _) p e ha hc hk s m _ below hf ((Spec.applies_iff_loose hf).mp happ).1 ⟨rfl, State.Warmed39.refl s, rfl⟩ trivial
  refine ⟨n, _, h1, h2, h3, hpost _ _ _ _ _ _ ⟨Cond.after_iff.mpr rfl, Cond.after_iff.mpr (eq_i res_at (Term.int_eval (1)) rfl), trivial⟩ ⟨hq.1, hq.2.1, (hq.2.2.sift fun y hy => Or.inr (N y hy)).mono (by decide) (by decide)⟩⟩
theorem main_1_1 : Claimed_1_1 := comes_1 fun _ _ _ _ _ _ h hF => ⟨h.1, hF⟩
theorem main_1_2 : Claimed_1_2 := comes_1 fun _ _ _ _ _ _ h hF => ⟨h.2.1, hF⟩
end Jvm.Pilot.@@N@@
namespace Jvm.Pilot.@@N@@
open Jvm Jvm.ClassFile Sem Op Lib Jvm.Free Jvm.Stand Jvm.Pilot.@@N@@.Jvm.D
/-! MADE BY PROGRAM (witnessworld.py) out of the Statement's table words and the real class files: 9 classes; the members and pool entries that the words name. The judged class is class 1, her method 1. -/
namespace start1
open Jvm.ClassFile
def u (s : String) : CpInfo := .utf8 (stringToUtf16 s)
/-- a pool by its gaps: so many unusable entries, then the entry; so many at the end -/
def gap : Nat → List CpInfo → List CpInfo
  | 0, r => r
  | n + 1, r => .unusable :: gap n r
def poolList (es : List (Nat × CpInfo)) (last : Nat) : List CpInfo := es.foldr (fun e r => gap e.1 (e.2 :: r)) (gap last [])
def pool (es : List (Nat × CpInfo)) (last : Nat) : Array CpInfo := ⟨poolList es last⟩
def fileOf (pool : Array CpInfo) (this : Nat) (attrs : Array Attribute := #[]) (ms : Array MethodInfo := #[]) (fl : Nat := 33) (sup : Nat := 0) (ifs : Array Nat := #[]) (fds : Array FieldInfo := #[]) : ClassFile where
  minorVersion := 0
  majorVersion := 65
  constantPool := pool
  accessFlags := fl
  thisClass := this
  superClass := sup
  interfaces := ifs
  fields := fds
  methods := ms
  attributes := attrs
def plain (name : String) (sup : Option ClassId) : Class where
  name := name
  kind := .ordinary
  loader := none
  accessFlags := 33
  super := sup
  interfaces := #[]
  cf := none
  fields := #[]
  methods := #[]
  instanceTypes := #[]
  staticTypes := #[]
  resolved := #[]
  callSites := []
  init := .initialized
  statics := none
  mirror := none

def pool0 : Array CpInfo := pool [(5, u "<init>"), (0, u "()V"), (1, .class_ 10), (1, u "java/lang/Object")] 113

def k0c0 : Code := { maxStack := 0, maxLocals := 1, code := object_method_1_code, exceptionTable := #[], attributes := #[] }
def k0m0 : Method := { name := "<init>", desc := "()V", sig := { parameters := [], returnType := none }, accessFlags := 1, code := some k0c0 }
/-- java/lang/Object -/
def k0 : Class := { plain "java/lang/Object" none with
  accessFlags := 33
  interfaces := #[]
  cf := some (fileOf pool0 8 #[] #[{ accessFlags := 1, nameIndex := 5, descriptorIndex := 6, attributes := #[] }] 33 0 #[] #[])
  fields := #[]
  methods := #[k0m0]
  instanceTypes := #[]
  staticTypes := #[]
  resolved := Array.replicate 124 none
  statics := none }

def pool1 : Array CpInfo := pool [(2, .class_ 4), (1, u "java/lang/Object"), (0, u "<init>"), (0, u "()V"), (0, .class_ 8), (0, u "arborlight/Components"), (0, .methodref 7 10), (0, .nameAndType 5 11), (0, u "(I)V"), (0, .methodref 13 14), (0, .class_ 15), (0, .nameAndType 16 17), (0, u "arborlight/ComponentsRootPinLaw"), (0, u "step"), (0, u "(Larborlight/Components;[II)Z"), (0, .methodref 7 19), (0, .nameAndType 20 21), (0, u "root"), (0, u "(I)I"), (0, .methodref 7 23), (0, .nameAndType 24 25), (0, u "join"), (0, u "(II)Z"), (2, u "law"), (0, u "(IIII)Z")] 5

def k1m0 : Method := { name := "<init>", desc := "()V", sig := { parameters := [], returnType := none }, accessFlags := 1, code := none }
def k1c1 : Code := { maxStack := 4, maxLocals := 10, code := code, exceptionTable := #[], attributes := #[] }
def k1m1 : Method := { name := "law", desc := "(IIII)Z", sig := { parameters := [.int, .int, .int, .int], returnType := some .boolean }, accessFlags := 9, code := some k1c1 }
def k1c2 : Code := { maxStack := 3, maxLocals := 9, code := method_3_code, exceptionTable := #[], attributes := #[] }
def k1m2 : Method := { name := "step", desc := "(Larborlight/Components;[II)Z", sig := { parameters := [(.object "arborlight/Components"), (.array .int), .int], returnType := some .boolean }, accessFlags := 10, code := some k1c2 }
/-- arborlight/ComponentsRootPinLaw -/
def k1 : Class := { plain "arborlight/ComponentsRootPinLaw" (some 0) with
  accessFlags := 49
  interfaces := #[]
  cf := some (fileOf pool1 13 #[] #[{ accessFlags := 1, nameIndex := 5, descriptorIndex := 6, attributes := #[] }, { accessFlags := 9, nameIndex := 28, descriptorIndex := 29, attributes := #[] }, { accessFlags := 10, nameIndex := 16, descriptorIndex := 17, attributes := #[] }] 49 2 #[] #[])
  fields := #[]
  methods := #[k1m0, k1m1, k1m2]
  instanceTypes := #[]
  staticTypes := #[]
  resolved := Array.replicate 35 none
  statics := none }

def pool2 : Array CpInfo := pool [(1, .methodref 2 3), (0, .class_ 4), (0, .nameAndType 5 6), (0, u "java/lang/Object"), (0, u "<init>"), (0, u "()V"), (0, .fieldref 8 9), (0, .class_ 10), (0, .nameAndType 11 12), (0, u "arborlight/Components"), (0, u "up"), (0, u "[I"), (0, .fieldref 8 14), (0, .nameAndType 15 12), (0, u "size"), (0, .methodref 8 17), (0, .nameAndType 18 19), (0, u "root"), (0, u "(I)I"), (0, u "(I)V"), (4, u "(II)Z"), (0, u "join")] 2

def k2c0 : Code := { maxStack := 3, maxLocals := 3, code := prog_8_method_1_code, exceptionTable := #[], attributes := #[] }
def k2m0 : Method := { name := "<init>", desc := "(I)V", sig := { parameters := [.int], returnType := none }, accessFlags := 0, code := some k2c0 }
def k2c1 : Code := { maxStack := 5, maxLocals := 6, code := prog_8_method_3_code, exceptionTable := #[], attributes := #[] }
def k2m1 : Method := { name := "join", desc := "(II)Z", sig := { parameters := [.int, .int], returnType := some .boolean }, accessFlags := 0, code := some k2c1 }
def k2c2 : Code := { maxStack := 5, maxLocals := 2, code := prog_8_method_4_code, exceptionTable := #[], attributes := #[] }
def k2m2 : Method := { name := "root", desc := "(I)I", sig := { parameters := [.int], returnType := some .int }, accessFlags := 0, code := some k2c2 }
/-- arborlight/Components -/
def k2 : Class := { plain "arborlight/Components" (some 0) with
  accessFlags := 48
  interfaces := #[]
  cf := some (fileOf pool2 8 #[] #[{ accessFlags := 0, nameIndex := 5, descriptorIndex := 20, attributes := #[] }, { accessFlags := 0, nameIndex := 26, descriptorIndex := 25, attributes := #[] }, { accessFlags := 0, nameIndex := 18, descriptorIndex := 19, attributes := #[] }] 48 2 #[] #[{ accessFlags := 18, nameIndex := 11, descriptorIndex := 12, attributes := #[] }, { accessFlags := 18, nameIndex := 15, descriptorIndex := 12, attributes := #[] }])
  fields := #[{ name := "up", type := (.array .int), accessFlags := 18, slot := 0, constantValue := 0 }, { name := "size", type := (.array .int), accessFlags := 18, slot := 1, constantValue := 0 }]
  methods := #[k2m0, k2m1, k2m2]
  instanceTypes := #[(.array .int), (.array .int)]
  staticTypes := #[]
  resolved := Array.replicate 29 none
  statics := none }

def pool3 : Array CpInfo := pool [(1, u "java/lang/Cloneable"), (0, .class_ 1), (0, u "java/lang/Object"), (0, .class_ 3)] 3

/-- java/lang/Cloneable -/
def k3 : Class := { plain "java/lang/Cloneable" (some 0) with
  accessFlags := 1537
  interfaces := #[]
  cf := some (fileOf pool3 2 #[] #[] 1537 4 #[] #[])
  fields := #[]
  methods := #[]
  instanceTypes := #[]
  staticTypes := #[]
  resolved := Array.replicate 8 none
  statics := none }

def pool4 : Array CpInfo := pool [(1, u "java/io/Serializable"), (0, .class_ 1), (0, u "java/lang/Object"), (0, .class_ 3)] 3

/-- java/io/Serializable -/
def k4 : Class := { plain "java/io/Serializable" (some 0) with
  accessFlags := 1537
  interfaces := #[]
  cf := some (fileOf pool4 2 #[] #[] 1537 4 #[] #[])
  fields := #[]
  methods := #[]
  instanceTypes := #[]
  staticTypes := #[]
  resolved := Array.replicate 8 none
  statics := none }

/-- the primitive byte -/
def k5 : Class := { plain "byte" none with kind := .primitive 'B', accessFlags := 0x411 }
/-- [B -/
def k6 : Class := { plain "[B" (some 0) with kind := .array 5 .byte, interfaces := #[3, 4], accessFlags := 1041 }

/-- the primitive int -/
def k7 : Class := { plain "int" none with kind := .primitive 'I', accessFlags := 0x411 }
/-- [I -/
def k8 : Class := { plain "[I" (some 0) with kind := .array 7 .int, interfaces := #[3, 4], accessFlags := 1041 }

def heap : Heap := #[]
def classes : Array Class := #[k0, k1, k2, k3, k4, k5, k6, k7, k8]
def interned : List (Array UInt16 × Addr) := []
def slotsUsed : Nat := 0
def theMethod : MethodId := ⟨1, 1⟩
def args0 : Array Value := #[.int 5, .int 7, .int 9, .int 1]
def aboutOver (below : List Frame) : State where
  vm := { classes := classes, interned := interned.toArray }
  heap := heap
  slotsUsed := slotsUsed
  threads := #[{ frames := .invoking theMethod args0 :: below }]
def below0 : List Frame := [.native { method := ⟨0, 0⟩, args := #[] }]
def about1 : State := aboutOver below0
def p0 : Program := .bare "" "" ""
def e0 : Env := launch0.env 0 0 0
theorem w_frames : about1.frames = Frame.invoking theMethod args0 :: below0 := rfl
set_option maxRecDepth 65536 in
theorem w_args : argsFit about1.vm theMethod args0 = true := by decide +kernel
set_option maxRecDepth 65536 in
theorem w_heap : heapFits about1 = true := by decide +kernel
set_option maxRecDepth 65536 in
theorem w_runnable : about1.curStatus? = some .runnable := by decide +kernel
set_option maxRecDepth 65536 in
theorem w_alone : about1.alone = true := by decide +kernel
set_option maxRecDepth 65536 in
theorem w_named : about1.methodNamed? x = some theMethod := by decide +kernel
set_option maxRecDepth 65536 in
theorem w_hears : about1.hears theMethod below0 = true := by decide +kernel
set_option maxRecDepth 65536 in
theorem w_ripe : about1.ripe theMethod args0 below0 = true := by decide +kernel
theorem w_running : about1.status = .running := rfl
set_option maxRecDepth 65536 in
theorem w_room : about1.hasRoom e0.platform room_1 = true :=
  launch0.hasRoom_least _ room_1 (by decide +kernel) (by decide +kernel) (by decide +kernel) (by decide +kernel) (by decide +kernel) (by decide +kernel)
theorem allAtoms_all (ts : List Jvm.Cond) (a : Array Jvm.Value) (st : Jvm.State) : (allAtoms ts).before a st = ts.all (fun c => c.before a st) := by
  induction ts with
  | nil => rfl
  | cons c t ih =>
    show (Jvm.Cond.and c (allAtoms t)).before a st = _
    rw [Jvm.Cond.before_and, ih, List.all_cons]
def words1 : List Jvm.Cond := Jvm.Cond.code x code maxLocals ret :: tables_1
/-- a 'code' word, met by the world's own term for the bytes: nothing is compared byte by byte -/
theorem code_word {y : MethodName} {bytes : ByteArray} {mx : Nat} {rt : Option FieldType} {a : Array Value} {s : State} {m : MethodId} {meth : Method} {c : Code} (h1 : s.methodNamed? y = some m) (h2 : s.vm.method? m = some meth) (h3 : meth.code = some c) (h4 : c.code = bytes)
    (h5 : (c.maxLocals == mx && c.exceptionTable.isEmpty && decide (c.maxStack ≤ mostOperands) && decide (meth.sig.returnType = rt) && !meth.locks && decide (parseMethodDescriptor y.desc = some meth.sig)) = true) : (Jvm.Cond.code y bytes mx rt).before a s = true := by
  simp only [Bool.and_eq_true, beq_iff_eq, Bool.not_eq_true', decide_eq_true_eq] at h5
  obtain ⟨⟨⟨⟨⟨g1, g2⟩, g3⟩, g4⟩, g5⟩, g6⟩ := h5
  simp [Cond.before, Cond.holds, Cond.value, h1, h2, h3, h4, g1, g2, g3, g4, g5, g6]
def isCode : Jvm.Cond → Bool
  | .code _ _ _ _ => true
  | _ => false
theorem all_split {L : List Jvm.Cond} {P : Jvm.Cond → Bool} (h1 : L.all (fun c => isCode c || P c) = true) (h2 : ∀ c ∈ L.filter isCode, P c = true) : L.all P = true := by
  refine List.all_eq_true.mpr fun c hc => ?_
  have h := List.all_eq_true.mp h1 c hc
  rcases Bool.eq_false_or_eq_true (isCode c) with hi | hi
  · exact h2 c (List.mem_filter.mpr ⟨hc, hi⟩)
  · simpa [hi] using h
set_option maxRecDepth 65536 in
theorem w_c0 : (Jvm.Cond.code x code maxLocals ret).before args0 about1 = true := code_word (m := ⟨1, 1⟩) (meth := k1m1) (c := k1c1) (by decide +kernel) rfl rfl rfl (by decide +kernel)
set_option maxRecDepth 65536 in
theorem w_c1 : (Jvm.Cond.code ({ cls := "arborlight/Components", name := "<init>", desc := "(I)V" } : Jvm.MethodName) prog_8_method_1_code (3 : Nat) (Option.none : Option Jvm.ClassFile.FieldType)).before args0 about1 = true := code_word (m := ⟨2, 0⟩) (meth := k2m0) (c := k2c0) (by decide +kernel) rfl rfl rfl (by decide +kernel)
set_option maxRecDepth 65536 in
theorem w_c2 : (Jvm.Cond.code ({ cls := "java/lang/Object", name := "<init>", desc := "()V" } : Jvm.MethodName) object_method_1_code (1 : Nat) (Option.none : Option Jvm.ClassFile.FieldType)).before args0 about1 = true := code_word (m := ⟨0, 0⟩) (meth := k0m0) (c := k0c0) (by decide +kernel) rfl rfl rfl (by decide +kernel)
set_option maxRecDepth 65536 in
theorem w_c3 : (Jvm.Cond.code ({ cls := "arborlight/ComponentsRootPinLaw", name := "step", desc := "(Larborlight/Components;[II)Z" } : Jvm.MethodName) method_3_code (9 : Nat) (Option.some Jvm.ClassFile.FieldType.boolean)).before args0 about1 = true := code_word (m := ⟨1, 2⟩) (meth := k1m2) (c := k1c2) (by decide +kernel) rfl rfl rfl (by decide +kernel)
set_option maxRecDepth 65536 in
theorem w_c4 : (Jvm.Cond.code ({ cls := "arborlight/Components", name := "join", desc := "(II)Z" } : Jvm.MethodName) prog_8_method_3_code (6 : Nat) (Option.some Jvm.ClassFile.FieldType.boolean)).before args0 about1 = true := code_word (m := ⟨2, 1⟩) (meth := k2m1) (c := k2c1) (by decide +kernel) rfl rfl rfl (by decide +kernel)
set_option maxRecDepth 65536 in
theorem w_c5 : (Jvm.Cond.code ({ cls := "arborlight/Components", name := "root", desc := "(I)I" } : Jvm.MethodName) prog_8_method_4_code (2 : Nat) (Option.some Jvm.ClassFile.FieldType.int)).before args0 about1 = true := code_word (m := ⟨2, 2⟩) (meth := k2m2) (c := k2c2) (by decide +kernel) rfl rfl rfl (by decide +kernel)
def codes1 : List Jvm.Cond := [Jvm.Cond.code x code maxLocals ret, Jvm.Cond.code ({ cls := "arborlight/Components", name := "<init>", desc := "(I)V" } : Jvm.MethodName) prog_8_method_1_code (3 : Nat) (Option.none : Option Jvm.ClassFile.FieldType), Jvm.Cond.code ({ cls := "java/lang/Object", name := "<init>", desc := "()V" } : Jvm.MethodName) object_method_1_code (1 : Nat) (Option.none : Option Jvm.ClassFile.FieldType), Jvm.Cond.code ({ cls := "arborlight/ComponentsRootPinLaw", name := "step", desc := "(Larborlight/Components;[II)Z" } : Jvm.MethodName) method_3_code (9 : Nat) (Option.some Jvm.ClassFile.FieldType.boolean), Jvm.Cond.code ({ cls := "arborlight/Components", name := "join", desc := "(II)Z" } : Jvm.MethodName) prog_8_method_3_code (6 : Nat) (Option.some Jvm.ClassFile.FieldType.boolean), Jvm.Cond.code ({ cls := "arborlight/Components", name := "root", desc := "(I)I" } : Jvm.MethodName) prog_8_method_4_code (2 : Nat) (Option.some Jvm.ClassFile.FieldType.int)]
set_option maxRecDepth 65536 in
theorem codes_eq : words1.filter isCode = codes1 := rfl
theorem w_codes : ∀ c ∈ words1.filter isCode, c.before args0 about1 = true := by
  rw [codes_eq]
  intro c hc
  simp only [codes1, List.mem_cons, List.not_mem_nil, or_false] at hc
  rcases hc with rfl | rfl | rfl | rfl | rfl | rfl
  · exact w_c0
  · exact w_c1
  · exact w_c2
  · exact w_c3
  · exact w_c4
  · exact w_c5
set_option maxRecDepth 65536 in
theorem w_t1 : (words1.take 24).all (fun c => isCode c || c.before args0 about1) = true := by decide +kernel
set_option maxRecDepth 65536 in
theorem w_t2 : (words1.drop 24).all (fun c => isCode c || c.before args0 about1) = true := by decide +kernel
theorem w_tables : (allAtoms (Jvm.Cond.code x code maxLocals ret :: tables_1)).before args0 about1 = true := by
  rw [allAtoms_all]
  show words1.all (fun c => c.before args0 about1) = true
  refine all_split ?_ w_codes
  rw [← List.take_append_drop 24 words1, List.all_append, w_t1, w_t2]
  rfl
set_option maxRecDepth 65536 in
theorem w_case : (Jvm.Cond.and given_1 narrow_1).before args0 about1 = true := by decide +kernel
theorem w_applies : (headSpec (Jvm.Cond.code x code maxLocals ret :: tables_1) room_1).applies x e0.platform about1 = true :=
  (Spec.applies_iff w_frames).mpr ⟨w_running, w_runnable, w_alone, w_named, w_hears, w_ripe, w_room, w_tables⟩
theorem atStart : AtStart classFile x code maxLocals ret World_1 tables_1 room_1 Calls_1 rest_1 Pre_1 launch0 p0 e0 about1 theMethod args0 below0 :=
  ⟨lists_1, trivial, launch0.admits_env _ _ _, launch0.least_env, fairChoices_fair.cas, fairChoices_fair.clock, w_frames, w_args, w_heap, w_applies, trivial, trivial, w_case⟩
end start1
theorem witness_1 : WitnessClaimed_1 := ⟨start1.p0, start1.e0, start1.about1, start1.theMethod, start1.args0, start1.below0, start1.atStart⟩
end Jvm.Pilot.@@N@@
